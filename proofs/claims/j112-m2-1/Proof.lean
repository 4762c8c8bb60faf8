import JvmDerived
import JvmDerived.Pilot.@@N@@Statement
import JvmDerived.Pilot.@@N@@Code
set_option linter.unusedVariables false
set_option linter.unusedSimpArgs false
@@BLOCK:NumsL.lean.txt@@
namespace Jvm.RoadKit
open Sem ClassFile Op Lib Jvm.Stand Jvm.Free Jvm.LawKit
/-- from the frame f over T the run ends as R says -/
def Go (p : Program) (e : Env) (below : List Frame) (R : State → Outcome → Prop) (T : State) (f : JFrame) : Prop := ∃ s₂ o, Steps p.tables e below (T.setTop f) s₂ ∧ s₂.status = .running ∧ Ended s₂ below o ∧ R s₂ o
section New
variable {p : Program} {l : Launch} {e : Env} {R : Room} {s : State} {m : MethodId} {args : Array Value} {below : List Frame} {meth : Method} {c : Code} {T T' : State} {locs : List Loc} {cells slots : Nat} {K : State → Outcome → Prop} {f f' : JFrame}
theorem Go.start (q : f = f') (k : Go p e below K T f') : ∃ s₂ o, Steps p.tables e below (T.setTop f) s₂ ∧ s₂.status = .running ∧ Ended s₂ below o ∧ K s₂ o := q ▸ k
theorem Go.step (h : ∀ t, Steps p.tables e below (T'.setTop f') t → Steps p.tables e below (T.setTop f) t) (k : Go p e below K T' f') : Go p e below K T f := by
  obtain ⟨s₂, o, h1, h2⟩ := k
  exact ⟨s₂, o, h _ h1, h2⟩
theorem Go.fin {S2 : State} {o : Outcome} (hs : Steps p.tables e below (T.setTop f) S2) (h1 : S2.status = .running) (h2 : Ended S2 below o) (h3 : K S2 o) : Go p e below K T f := ⟨_, _, hs, h1, h2, h3⟩
theorem retI (X : Stand p l e R s m args below meth c T locs cells slots) (hx : p.tables.exec = Jvm.exec) {pc : Nat} {Ls : Array Slot} {z : Int32} {rest : List Value} (hret : meth.sig.returnType = some .int) (hd : decode c.code pc = .ok (.ireturn, 1)) {fs : List Frame}
    (hl : ∀ (f : JFrame) (acts : List Action), f.method = m → f.locked = none → f.entered = [] → (doReturn e (T.setTop f) acts (some (.int z))).1 = T.setFrames fs) : Steps p.tables e below (T.setTop (mkF m pc Ls (.int z :: rest))) (T.setFrames fs) := by
  have hm' : T.vm.method? m = some meth := X.method'
  have hn : narrow .int (.int z) = .int z := rfl
  show Steps p.tables e below (T.setTop { method := m, pc := pc, locals := Ls, stack := _ :: rest, locked := none }) _
  jvm_step X.here [X.here.top, hx, hd, hm', hret, hn]
  first | (intro acts; rw [hl _ acts rfl rfl rfl]) | rw [hl _ _ rfl rfl rfl]
  exact Steps.refl _
end New
end Jvm.RoadKit
namespace Jvm.Pilot.@@N@@
open Jvm Jvm.ClassFile Sem Op Lib Jvm.Free Jvm.Stand Jvm.LawKit Jvm.RoadKit Bundle Jvm.Pilot.@@N@@.Jvm.D
theorem own_cmpi (a b : Int32) : ((0 : Int32) < (cmpValue (FP.dcmp (FP.i2d a) (FP.i2d b)) .l) ↔ b < a) := by
  rw [cmpV_l, show FP.dcmp (FP.i2d a) (FP.i2d b) = _ from Jvm.FP.Core.dcmp_int (Jvm.FP.Core.i2d_int a) (Jvm.FP.Core.i2d_int b), Int32.lt_iff_toInt_lt (x := b)]
  rw [Jvm.FP.Core.compare_ite]
  by_cases h1 : a.toInt < b.toInt
  · rw [if_pos h1]; exact ⟨fun q => absurd q (by decide), fun q => by omega⟩
  · rw [if_neg h1]
    by_cases h2 : a.toInt = b.toInt
    · rw [if_pos h2]; exact ⟨fun q => absurd q (by decide), fun q => by omega⟩
    · rw [if_neg h2]; exact ⟨fun _ => by omega, fun _ => by decide⟩
def own_ab (n i e v : Int32) : Int32 := if i < n then (if v < e then 0 else 1) else 0
theorem own_n6 (x : Int32) : ((x &&& (2147483647 : Int32)) % (6 : Int32)) = 0 ∨ ((x &&& (2147483647 : Int32)) % (6 : Int32)) = 1 ∨ ((x &&& (2147483647 : Int32)) % (6 : Int32)) = 2 ∨ ((x &&& (2147483647 : Int32)) % (6 : Int32)) = 3 ∨ ((x &&& (2147483647 : Int32)) % (6 : Int32)) = 4 ∨ ((x &&& (2147483647 : Int32)) % (6 : Int32)) = 5 := by
  have e := Jvm.Kit.i32_mask x 2147483647 (k := 31) (by decide) (by decide)
  have e6 : (6 : Int32).toInt = 6 := by decide
  have f : ((x &&& (2147483647 : Int32)) % (6 : Int32)).toInt = (x &&& (2147483647 : Int32)).toInt % 6 := by rw [Jvm.Kit.i32_rem_nonneg (by omega), e6]
  have t0 : (0 : Int32).toInt = 0 := by decide
  have t1 : (1 : Int32).toInt = 1 := by decide
  have t2 : (2 : Int32).toInt = 2 := by decide
  have t3 : (3 : Int32).toInt = 3 := by decide
  have t4 : (4 : Int32).toInt = 4 := by decide
  have t5 : (5 : Int32).toInt = 5 := by decide
  simp only [← Int32.toInt_inj, t0, t1, t2, t3, t4, t5, f]; omega
theorem own_g3 (x : Int32) : 0 ≤ (x &&& (3 : Int32)).toInt ∧ (x &&& (3 : Int32)).toInt ≤ 3 := by
  rw [Jvm.Kit.i32_mask x 3 (k := 2) (by decide) (by decide)]; omega
theorem own_step {a g : Int32} {lo hi : Int} (h1 : lo ≤ a.toInt) (h2 : a.toInt ≤ hi) (hl : -1000 ≤ lo) (hh : hi ≤ 1000) : (a + ((2 : Int32) * (g &&& (3 : Int32)))).toInt = a.toInt + 2 * (g &&& (3 : Int32)).toInt := by
  have q := own_g3 g
  have t2 : (2 : Int32).toInt = 2 := by decide
  have m : ((2 : Int32) * (g &&& (3 : Int32))).toInt = 2 * (g &&& (3 : Int32)).toInt := by rw [Jvm.Kit.i32_mul (by rw [t2]; omega) (by rw [t2]; omega), t2]
  rw [Jvm.Kit.i32_add (by omega) (by omega), m]
theorem own_sorted {s0 g1 g2 g3 g4 a0 a1 a2 a3 a4 : Int32} (e0 : a0 = ((2 : Int32) * ((s0 &&& (63 : Int32)) - (32 : Int32)))) (e1 : a1 = (a0 + ((2 : Int32) * (g1 &&& (3 : Int32))))) (e2 : a2 = (a1 + ((2 : Int32) * (g2 &&& (3 : Int32))))) (e3 : a3 = (a2 + ((2 : Int32) * (g3 &&& (3 : Int32))))) (e4 : a4 = (a3 + ((2 : Int32) * (g4 &&& (3 : Int32))))) :
    a0.toInt ≤ a1.toInt ∧ a1.toInt ≤ a2.toInt ∧ a2.toInt ≤ a3.toInt ∧ a3.toInt ≤ a4.toInt := by
  have m := Jvm.Kit.i32_mask s0 63 (k := 6) (by decide) (by decide)
  have t2 : (2 : Int32).toInt = 2 := by decide
  have t32 : (32 : Int32).toInt = 32 := by decide
  have d : ((s0 &&& (63 : Int32)) - (32 : Int32)).toInt = (s0 &&& (63 : Int32)).toInt - 32 := by rw [Jvm.Kit.i32_sub (by omega) (by omega), t32]
  have f0 : a0.toInt = 2 * ((s0 &&& (63 : Int32)).toInt - 32) := by rw [e0, Jvm.Kit.i32_mul (by rw [t2, d]; omega) (by rw [t2, d]; omega), d, t2]
  have b1 := own_g3 g1
  have b2 := own_g3 g2
  have b3 := own_g3 g3
  have b4 := own_g3 g4
  have f1 : a1.toInt = a0.toInt + 2 * (g1 &&& (3 : Int32)).toInt := by rw [e1]; exact own_step (lo := -64) (hi := 62) (by omega) (by omega) (by omega) (by omega)
  have f2 : a2.toInt = a1.toInt + 2 * (g2 &&& (3 : Int32)).toInt := by rw [e2]; exact own_step (lo := -64) (hi := 68) (by omega) (by omega) (by omega) (by omega)
  have f3 : a3.toInt = a2.toInt + 2 * (g3 &&& (3 : Int32)).toInt := by rw [e3]; exact own_step (lo := -64) (hi := 74) (by omega) (by omega) (by omega) (by omega)
  have f4 : a4.toInt = a3.toInt + 2 * (g4 &&& (3 : Int32)).toInt := by rw [e4]; exact own_step (lo := -64) (hi := 80) (by omega) (by omega) (by omega) (by omega)
  omega
def own_c0 (v : Int32) : Int32 := (0 : Int32)
set_option maxHeartbeats 4000000 in
theorem own_s0 (u0 u1 u2 u3 u4 v : Int32)  : own_c0 v = (((((own_ab 0 0 u0 v) + (own_ab 0 1 u1 v)) + (own_ab 0 2 u2 v)) + (own_ab 0 3 u3 v)) + (own_ab 0 4 u4 v)) := by
  unfold own_c0 own_ab
  simp only [Int32.lt_iff_toInt_lt]
  have t0 : (0 : Int32).toInt = 0 := by decide
  have t1 : (1 : Int32).toInt = 1 := by decide
  have t2 : (2 : Int32).toInt = 2 := by decide
  have t3 : (3 : Int32).toInt = 3 := by decide
  have t4 : (4 : Int32).toInt = 4 := by decide
  have t5 : (5 : Int32).toInt = 5 := by decide
  simp only [t0, t1, t2, t3, t4, t5, Int.reduceLT, if_true, if_false]
  (repeat' split) <;> first | rfl | (exfalso; omega)
def own_c1 (u0 v : Int32) : Int32 := (if v < u0 then (0 : Int32) else (1 : Int32))
set_option maxHeartbeats 4000000 in
theorem own_s1 (u0 u1 u2 u3 u4 v : Int32)  : own_c1 u0 v = (((((own_ab 1 0 u0 v) + (own_ab 1 1 u1 v)) + (own_ab 1 2 u2 v)) + (own_ab 1 3 u3 v)) + (own_ab 1 4 u4 v)) := by
  unfold own_c1 own_ab
  simp only [Int32.lt_iff_toInt_lt]
  have t0 : (0 : Int32).toInt = 0 := by decide
  have t1 : (1 : Int32).toInt = 1 := by decide
  have t2 : (2 : Int32).toInt = 2 := by decide
  have t3 : (3 : Int32).toInt = 3 := by decide
  have t4 : (4 : Int32).toInt = 4 := by decide
  have t5 : (5 : Int32).toInt = 5 := by decide
  simp only [t0, t1, t2, t3, t4, t5, Int.reduceLT, if_true, if_false]
  (repeat' split) <;> first | rfl | (exfalso; omega)
def own_c2 (u0 u1 v : Int32) : Int32 := (if v < u1 then (if v < u0 then (0 : Int32) else (1 : Int32)) else (2 : Int32))
set_option maxHeartbeats 4000000 in
theorem own_s2 (u0 u1 u2 u3 u4 v : Int32) (h0 : u0.toInt ≤ u1.toInt) : own_c2 u0 u1 v = (((((own_ab 2 0 u0 v) + (own_ab 2 1 u1 v)) + (own_ab 2 2 u2 v)) + (own_ab 2 3 u3 v)) + (own_ab 2 4 u4 v)) := by
  unfold own_c2 own_ab
  simp only [Int32.lt_iff_toInt_lt]
  have t0 : (0 : Int32).toInt = 0 := by decide
  have t1 : (1 : Int32).toInt = 1 := by decide
  have t2 : (2 : Int32).toInt = 2 := by decide
  have t3 : (3 : Int32).toInt = 3 := by decide
  have t4 : (4 : Int32).toInt = 4 := by decide
  have t5 : (5 : Int32).toInt = 5 := by decide
  simp only [t0, t1, t2, t3, t4, t5, Int.reduceLT, if_true, if_false]
  (repeat' split) <;> first | rfl | (exfalso; omega)
def own_c3 (u0 u1 u2 v : Int32) : Int32 := (if v < u1 then (if v < u0 then (0 : Int32) else (1 : Int32)) else (if v < u2 then (2 : Int32) else (3 : Int32)))
set_option maxHeartbeats 4000000 in
theorem own_s3 (u0 u1 u2 u3 u4 v : Int32) (h0 : u0.toInt ≤ u1.toInt) (h1 : u1.toInt ≤ u2.toInt) : own_c3 u0 u1 u2 v = (((((own_ab 3 0 u0 v) + (own_ab 3 1 u1 v)) + (own_ab 3 2 u2 v)) + (own_ab 3 3 u3 v)) + (own_ab 3 4 u4 v)) := by
  unfold own_c3 own_ab
  simp only [Int32.lt_iff_toInt_lt]
  have t0 : (0 : Int32).toInt = 0 := by decide
  have t1 : (1 : Int32).toInt = 1 := by decide
  have t2 : (2 : Int32).toInt = 2 := by decide
  have t3 : (3 : Int32).toInt = 3 := by decide
  have t4 : (4 : Int32).toInt = 4 := by decide
  have t5 : (5 : Int32).toInt = 5 := by decide
  simp only [t0, t1, t2, t3, t4, t5, Int.reduceLT, if_true, if_false]
  (repeat' split) <;> first | rfl | (exfalso; omega)
def own_c4 (u0 u1 u2 u3 v : Int32) : Int32 := (if v < u2 then (if v < u1 then (if v < u0 then (0 : Int32) else (1 : Int32)) else (2 : Int32)) else (if v < u3 then (3 : Int32) else (4 : Int32)))
set_option maxHeartbeats 4000000 in
theorem own_s4 (u0 u1 u2 u3 u4 v : Int32) (h0 : u0.toInt ≤ u1.toInt) (h1 : u1.toInt ≤ u2.toInt) (h2 : u2.toInt ≤ u3.toInt) : own_c4 u0 u1 u2 u3 v = (((((own_ab 4 0 u0 v) + (own_ab 4 1 u1 v)) + (own_ab 4 2 u2 v)) + (own_ab 4 3 u3 v)) + (own_ab 4 4 u4 v)) := by
  unfold own_c4 own_ab
  simp only [Int32.lt_iff_toInt_lt]
  have t0 : (0 : Int32).toInt = 0 := by decide
  have t1 : (1 : Int32).toInt = 1 := by decide
  have t2 : (2 : Int32).toInt = 2 := by decide
  have t3 : (3 : Int32).toInt = 3 := by decide
  have t4 : (4 : Int32).toInt = 4 := by decide
  have t5 : (5 : Int32).toInt = 5 := by decide
  simp only [t0, t1, t2, t3, t4, t5, Int.reduceLT, if_true, if_false]
  (repeat' split) <;> first | rfl | (exfalso; omega)
def own_c5 (u0 u1 u2 u3 u4 v : Int32) : Int32 := (if v < u2 then (if v < u1 then (if v < u0 then (0 : Int32) else (1 : Int32)) else (2 : Int32)) else (if v < u4 then (if v < u3 then (3 : Int32) else (4 : Int32)) else (5 : Int32)))
set_option maxHeartbeats 4000000 in
theorem own_s5 (u0 u1 u2 u3 u4 v : Int32) (h0 : u0.toInt ≤ u1.toInt) (h1 : u1.toInt ≤ u2.toInt) (h2 : u2.toInt ≤ u3.toInt) (h3 : u3.toInt ≤ u4.toInt) : own_c5 u0 u1 u2 u3 u4 v = (((((own_ab 5 0 u0 v) + (own_ab 5 1 u1 v)) + (own_ab 5 2 u2 v)) + (own_ab 5 3 u3 v)) + (own_ab 5 4 u4 v)) := by
  unfold own_c5 own_ab
  simp only [Int32.lt_iff_toInt_lt]
  have t0 : (0 : Int32).toInt = 0 := by decide
  have t1 : (1 : Int32).toInt = 1 := by decide
  have t2 : (2 : Int32).toInt = 2 := by decide
  have t3 : (3 : Int32).toInt = 3 := by decide
  have t4 : (4 : Int32).toInt = 4 := by decide
  have t5 : (5 : Int32).toInt = 5 := by decide
  simp only [t0, t1, t2, t3, t4, t5, Int.reduceLT, if_true, if_false]
  (repeat' split) <;> first | rfl | (exfalso; omega)

theorem own_f0 : decode method_3_code 0 = .ok (.iload_n 1, 1) := by decide +kernel
theorem own_f1 : decode method_3_code 1 = .ok (.iload_n 0, 1) := by decide +kernel
theorem own_f2 : decode method_3_code 2 = .ok (.if_icmp .ge 12, 3) := by decide +kernel
theorem own_f3 : decode method_3_code 5 = .ok (.iload_n 2, 1) := by decide +kernel
theorem own_f4 : decode method_3_code 6 = .ok (.iload_n 3, 1) := by decide +kernel
theorem own_f5 : decode method_3_code 7 = .ok (.if_icmp .gt 7, 3) := by decide +kernel
theorem own_f6 : decode method_3_code 14 = .ok (.iconst 0, 1) := by decide +kernel
theorem own_f7 : decode method_3_code 15 = .ok (.ireturn, 1) := by decide +kernel
theorem own_f8 : decode method_3_code 10 = .ok (.iconst 1, 1) := by decide +kernel
theorem own_f9 : decode method_3_code 11 = .ok (.goto 4, 3) := by decide +kernel
theorem own_f10 : plainName "com/example/bidkeel/bidkeel/KnapsackCountUpToPinLaw" = true := by first | (simp [plainName, overriddenIn]; done) | decide +kernel
theorem own_ef_A (m : MethodId) (n : Int32) (i : Int32) (e1 : Int32) (v1 : Int32) : entryFrame m #[(.int n), (.int i), (.int e1), (.int v1)] 4 = mkF m 0 #[.val (.int n), .val (.int i), .val (.int e1), .val (.int v1)] [] := by first | (simp [entryFrame, mkF, argsToLocals, Value.category]; done) | rfl
def QA (Z : State) (n : Int32) (i : Int32) (e1 : Int32) (v1 : Int32) (h0 : Heap) (n0 : Nat) (v : Option Value) (h : Heap) (L : List Loc) : Prop := v = some (.int (own_ab n i e1 v1)) ∧ Fr n0 L ∧ h = h0
set_option maxRecDepth 65536 in
set_option maxHeartbeats 40000000 in
theorem rmA (l : Launch) (Z : State) (a0 : Array Value) (hw : ∀ d ∈ tables_1, d.before a0 Z = true) (ws : List Jvm.Cond) (n : Int32) (i : Int32) (e1 : Int32) (v1 : Int32) (h0 : Heap) (n0 : Nat) (Z0 : n0 ≤ h0.size)  :
    MetFree l (⟨"com/example/bidkeel/bidkeel/KnapsackCountUpToPinLaw", "atOrBelow", "(IIII)I"⟩ : MethodName) (head1 (Jvm.Cond.code (⟨"com/example/bidkeel/bidkeel/KnapsackCountUpToPinLaw", "atOrBelow", "(IIII)I"⟩ : MethodName) method_3_code 4 (some .int) :: ws) ({ frames := 0, cells := 0, slots := 0, locals := 0 } : Room)) (fun a U => a = #[(.int n), (.int i), (.int e1), (.int v1)] ∧ Z.Warmed39 U.vm ∧ U.heap = h0) (fun _ _ _ _ _ => True) (fun _ U o U' => ∃ v L, o = .returned v ∧ QA Z n i e1 v1 h0 n0 v U'.heap L ∧ FrameEnd U o U' L ({ frames := 0, cells := 0, slots := 0, locals := 0 } : Room).cells ({ frames := 0, cells := 0, slots := 0, locals := 0 } : Room).slots) := by
  refine MetFree.of_bodySF (plainFor_of_name own_f10) hisR ?_
  intro p e s m args below meth c s₁ Bd hml0 hP hK
  obtain ⟨rfl, hZ, hh⟩ := hP
  have hx := Bd.exec
  have hby := Bd.bytes
  have hml : c.maxLocals = 4 := hml0
  have hown : s.vm.findClass "com/example/bidkeel/bidkeel/KnapsackCountUpToPinLaw" = some m.cls := findClass_of_methodNamed Bd.named
  have hnm := (name_of_methodNamed Bd.named Bd.method).1
  have X0 : Stand p l e ({ frames := 0, cells := 0, slots := 0, locals := 0 } : Room) s m #[(.int n), (.int i), (.int e1), (.int v1)] below meth c s₁ [] 0 0 := Stand.of_body Bd
  have e0 : s₁.heap = h0 := by rw [← hh, Bd.state]; rfl
  have N0 := Fr.nil n0
  refine Go.start (own_ef_A m n i e1 v1) ?_
  show Go p e below _ s₁ (mkF m 0 #[.val (.int n), .val (.int i), .val (.int e1), .val (.int v1)] [])
  refine Go.step (fun _ k => XS.iloadN X0.here hx rfl (hb hby own_f0) rfl k) ?_
  show Go p e below _ s₁ (mkF m 1 #[.val (.int n), .val (.int i), .val (.int e1), .val (.int v1)] [(.int i)])
  refine Go.step (fun _ k => XS.iloadN X0.here hx rfl (hb hby own_f1) rfl k) ?_
  show Go p e below _ s₁ (mkF m 2 #[.val (.int n), .val (.int i), .val (.int e1), .val (.int v1)] [(.int n), (.int i)])
  by_cases hc2_1 : i < n
  · show Go p e below _ s₁ (mkF m 2 #[.val (.int n), .val (.int i), .val (.int e1), .val (.int v1)] [(.int n), (.int i)])
    refine Go.step (fun _ k => XS.icmpNo X0.here hx rfl (hb hby own_f2) rfl (tlt hc2_1).2.1 k) ?_
    show Go p e below _ s₁ (mkF m 5 #[.val (.int n), .val (.int i), .val (.int e1), .val (.int v1)] [])
    refine Go.step (fun _ k => XS.iloadN X0.here hx rfl (hb hby own_f3) rfl k) ?_
    show Go p e below _ s₁ (mkF m 6 #[.val (.int n), .val (.int i), .val (.int e1), .val (.int v1)] [(.int e1)])
    refine Go.step (fun _ k => XS.iloadN X0.here hx rfl (hb hby own_f4) rfl k) ?_
    show Go p e below _ s₁ (mkF m 7 #[.val (.int n), .val (.int i), .val (.int e1), .val (.int v1)] [(.int v1), (.int e1)])
    by_cases hc7_2 : v1 < e1
    · show Go p e below _ s₁ (mkF m 7 #[.val (.int n), .val (.int i), .val (.int e1), .val (.int v1)] [(.int v1), (.int e1)])
      refine Go.step (fun _ k => XS.icmpYes X0.here hx rfl (pc0 := 7) (pc' := 14) rfl (hb hby own_f5) rfl (tlt hc7_2).2.2.1 (by decide) (by decide) k) ?_
      show Go p e below _ s₁ (mkF m 14 #[.val (.int n), .val (.int i), .val (.int e1), .val (.int v1)] [])
      refine Go.step (fun _ k => XS.iconst X0.here hx rfl (hb hby own_f6) k) ?_
      show Go p e below _ s₁ (mkF m 15 #[.val (.int n), .val (.int i), .val (.int e1), .val (.int v1)] [(.int (0 : Int32))])
      have er : (own_ab n i e1 v1) = (0 : Int32) := by simp [own_ab, hc2_1, hc7_2]
      obtain ⟨fs, hr, hrun, hended, hW, hsame⟩ := X0.leave (v := some (.int (0 : Int32))) (fun h => by rw [Bd.returns] at h; cases h)
      refine Go.fin (retI X0 hx Bd.returns (hb hby own_f7) hr) hrun hended ?_
      refine ⟨_, _, rfl, ?_, ⟨_, rfl⟩, hW, hsame.mono (by decide) (by decide)⟩
      show QA Z n i e1 v1 h0 n0 _ s₁.heap _
      rw [e0]
      exact ⟨by rw [er], N0, rfl⟩
    · show Go p e below _ s₁ (mkF m 7 #[.val (.int n), .val (.int i), .val (.int e1), .val (.int v1)] [(.int v1), (.int e1)])
      refine Go.step (fun _ k => XS.icmpNo X0.here hx rfl (hb hby own_f5) rfl (flt hc7_2).2.2.1 k) ?_
      show Go p e below _ s₁ (mkF m 10 #[.val (.int n), .val (.int i), .val (.int e1), .val (.int v1)] [])
      refine Go.step (fun _ k => XS.iconst X0.here hx rfl (hb hby own_f8) k) ?_
      show Go p e below _ s₁ (mkF m 11 #[.val (.int n), .val (.int i), .val (.int e1), .val (.int v1)] [(.int (1 : Int32))])
      refine Go.step (fun _ k => XS.goto X0.here hx rfl (pc0 := 11) (pc' := 15) rfl (hb hby own_f9) (by decide) (by decide) k) ?_
      show Go p e below _ s₁ (mkF m 15 #[.val (.int n), .val (.int i), .val (.int e1), .val (.int v1)] [(.int (1 : Int32))])
      have er : (own_ab n i e1 v1) = (1 : Int32) := by simp [own_ab, hc2_1, hc7_2]
      obtain ⟨fs, hr, hrun, hended, hW, hsame⟩ := X0.leave (v := some (.int (1 : Int32))) (fun h => by rw [Bd.returns] at h; cases h)
      refine Go.fin (retI X0 hx Bd.returns (hb hby own_f7) hr) hrun hended ?_
      refine ⟨_, _, rfl, ?_, ⟨_, rfl⟩, hW, hsame.mono (by decide) (by decide)⟩
      show QA Z n i e1 v1 h0 n0 _ s₁.heap _
      rw [e0]
      exact ⟨by rw [er], N0, rfl⟩
  · show Go p e below _ s₁ (mkF m 2 #[.val (.int n), .val (.int i), .val (.int e1), .val (.int v1)] [(.int n), (.int i)])
    refine Go.step (fun _ k => XS.icmpYes X0.here hx rfl (pc0 := 2) (pc' := 14) rfl (hb hby own_f2) rfl (flt hc2_1).2.1 (by decide) (by decide) k) ?_
    show Go p e below _ s₁ (mkF m 14 #[.val (.int n), .val (.int i), .val (.int e1), .val (.int v1)] [])
    refine Go.step (fun _ k => XS.iconst X0.here hx rfl (hb hby own_f6) k) ?_
    show Go p e below _ s₁ (mkF m 15 #[.val (.int n), .val (.int i), .val (.int e1), .val (.int v1)] [(.int (0 : Int32))])
    have er : (own_ab n i e1 v1) = (0 : Int32) := by simp [own_ab, hc2_1]
    obtain ⟨fs, hr, hrun, hended, hW, hsame⟩ := X0.leave (v := some (.int (0 : Int32))) (fun h => by rw [Bd.returns] at h; cases h)
    refine Go.fin (retI X0 hx Bd.returns (hb hby own_f7) hr) hrun hended ?_
    refine ⟨_, _, rfl, ?_, ⟨_, rfl⟩, hW, hsame.mono (by decide) (by decide)⟩
    show QA Z n i e1 v1 h0 n0 _ s₁.heap _
    rw [e0]
    exact ⟨by rw [er], N0, rfl⟩
theorem own_f11 : decode prog_27_method_2_code 0 = .ok (.iconst 0, 1) := by decide +kernel
theorem own_f12 : decode prog_27_method_2_code 1 = .ok (.istore_n 3, 1) := by decide +kernel
theorem own_f13 : decode prog_27_method_2_code 2 = .ok (.aload_n 0, 1) := by decide +kernel
theorem own_f14 : decode prog_27_method_2_code 3 = .ok (.arraylength, 1) := by decide +kernel
theorem own_f15 : decode prog_27_method_2_code 4 = .ok (.istore 4, 2) := by decide +kernel
theorem own_f16 : decode prog_27_method_2_code 6 = .ok (.iload_n 3, 1) := by decide +kernel
theorem own_f17 : decode prog_27_method_2_code 7 = .ok (.iload 4, 2) := by decide +kernel
theorem own_f18 : decode prog_27_method_2_code 9 = .ok (.if_icmp .ge 35, 3) := by decide +kernel
theorem own_f19 : decode prog_27_method_2_code 44 = .ok (.iload_n 3, 1) := by decide +kernel
theorem own_f20 : decode prog_27_method_2_code 45 = .ok (.ireturn, 1) := by decide +kernel
theorem own_f21 : plainName "com/example/bidkeel/bidkeel/Knapsack" = true := by first | (simp [plainName, overriddenIn]; done) | decide +kernel
theorem own_ef_K0 (m : MethodId) (a1 : Addr) (d1 : UInt64) : entryFrame m #[(.ref a1), (.double d1)] 6 = mkF m 0 #[.val (.ref a1), .val (.double d1), .second, .unset, .unset, .unset] [] := by first | (simp [entryFrame, mkF, argsToLocals, Value.category]; done) | rfl
def QK0 (Z : State) (a1 : Addr) (d1 : UInt64) (kk : ClassId) (vv : Int32)  (h0 : Heap) (n0 : Nat) (v : Option Value) (h : Heap) (L : List Loc) : Prop := v = some (.int (own_c0 vv)) ∧ Fr n0 L ∧ h = h0
set_option maxRecDepth 65536 in
set_option maxHeartbeats 40000000 in
theorem rmK0 (l : Launch) (Z : State) (a0 : Array Value) (hw : ∀ d ∈ tables_1, d.before a0 Z = true) (ws : List Jvm.Cond) (a1 : Addr) (d1 : UInt64) (kk : ClassId) (vv : Int32)  (h0 : Heap) (n0 : Nat) (Z0 : n0 ≤ h0.size) (V_a1 : Arv Z h0 a1 kk .double (0 : Int32) [] (.double (FP.l2d 0))) (hd1 : d1 = FP.i2d vv) :
    MetFree l (⟨"com/example/bidkeel/bidkeel/Knapsack", "countUpTo", "([DD)I"⟩ : MethodName) (head1 (Jvm.Cond.code (⟨"com/example/bidkeel/bidkeel/Knapsack", "countUpTo", "([DD)I"⟩ : MethodName) prog_27_method_2_code 6 (some .int) :: ws) ({ frames := 0, cells := 0, slots := 0, locals := 0 } : Room)) (fun a U => a = #[(.ref a1), (.double d1)] ∧ Z.Warmed39 U.vm ∧ U.heap = h0) (fun _ _ _ _ _ => True) (fun _ U o U' => ∃ v L, o = .returned v ∧ QK0 Z a1 d1 kk vv h0 n0 v U'.heap L ∧ FrameEnd U o U' L ({ frames := 0, cells := 0, slots := 0, locals := 0 } : Room).cells ({ frames := 0, cells := 0, slots := 0, locals := 0 } : Room).slots) := by
  refine MetFree.of_bodySF (plainFor_of_name own_f21) hisR ?_
  intro p e s m args below meth c s₁ Bd hml0 hP hK
  obtain ⟨rfl, hZ, hh⟩ := hP
  have hx := Bd.exec
  have hby := Bd.bytes
  have hml : c.maxLocals = 6 := hml0
  have hown : s.vm.findClass "com/example/bidkeel/bidkeel/Knapsack" = some m.cls := findClass_of_methodNamed Bd.named
  have hnm := (name_of_methodNamed Bd.named Bd.method).1
  have X0 : Stand p l e ({ frames := 0, cells := 0, slots := 0, locals := 0 } : Room) s m #[(.ref a1), (.double d1)] below meth c s₁ [] 0 0 := Stand.of_body Bd
  have e0 : s₁.heap = h0 := by rw [← hh, Bd.state]; rfl
  have N0 := Fr.nil n0
  refine Go.start (own_ef_K0 m a1 d1) ?_
  show Go p e below _ s₁ (mkF m 0 #[.val (.ref a1), .val (.double d1), .second, .unset, .unset, .unset] [])
  subst hd1
  show Go p e below _ s₁ (mkF m 0 #[.val (.ref a1), .val (.double (FP.i2d vv)), .second, .unset, .unset, .unset] [])
  refine Go.step (fun _ k => XS.iconst X0.here hx rfl (hb hby own_f11) k) ?_
  show Go p e below _ s₁ (mkF m 1 #[.val (.ref a1), .val (.double (FP.i2d vv)), .second, .unset, .unset, .unset] [(.int (0 : Int32))])
  refine Go.step (fun _ k => XS.istoreN X0.here hx rfl (hb hby own_f12) rfl (l' := #[.val (.ref a1), .val (.double (FP.i2d vv)), .second, .val (.int (0 : Int32)), .unset, .unset]) rfl k) ?_
  show Go p e below _ s₁ (mkF m 2 #[.val (.ref a1), .val (.double (FP.i2d vv)), .second, .val (.int (0 : Int32)), .unset, .unset] [])
  refine Go.step (fun _ k => XS.aloadN X0.here hx rfl (hb hby own_f13) rfl rfl k) ?_
  show Go p e below _ s₁ (mkF m 3 #[.val (.ref a1), .val (.double (FP.i2d vv)), .second, .val (.int (0 : Int32)), .unset, .unset] [(.ref a1)])
  obtain ⟨cl3, Ar3, q3, S3, Nn3, H3, G3⟩ := V_a1
  have V_a1 : Arv Z h0 a1 kk .double (0 : Int32) [] (.double (FP.l2d 0)) := ⟨cl3, Ar3, q3, S3, Nn3, H3, G3⟩
  refine Go.step (X0.arraylength hx (by rw [e0]; exact Ar3.1) (State.isArrayOf_alike hZ.alike Ar3.2.1) (g := (mkF m 3 #[.val (.ref a1), .val (.double (FP.i2d vv)), .second, .val (.int (0 : Int32)), .unset, .unset] [(.ref a1)])) rfl rfl (hb hby own_f14)) ?_
  rw [len_of S3 Nn3]
  show Go p e below _ s₁ (mkF m 4 #[.val (.ref a1), .val (.double (FP.i2d vv)), .second, .val (.int (0 : Int32)), .unset, .unset] [(.int (0 : Int32))])
  refine Go.step (fun _ k => XS.istore X0.here hx rfl (hb hby own_f15) rfl (l' := #[.val (.ref a1), .val (.double (FP.i2d vv)), .second, .val (.int (0 : Int32)), .val (.int (0 : Int32)), .unset]) rfl k) ?_
  show Go p e below _ s₁ (mkF m 6 #[.val (.ref a1), .val (.double (FP.i2d vv)), .second, .val (.int (0 : Int32)), .val (.int (0 : Int32)), .unset] [])
  refine Go.step (fun _ k => XS.iloadN X0.here hx rfl (hb hby own_f16) rfl k) ?_
  show Go p e below _ s₁ (mkF m 7 #[.val (.ref a1), .val (.double (FP.i2d vv)), .second, .val (.int (0 : Int32)), .val (.int (0 : Int32)), .unset] [(.int (0 : Int32))])
  refine Go.step (fun _ k => XS.iload X0.here hx rfl (hb hby own_f17) rfl k) ?_
  show Go p e below _ s₁ (mkF m 9 #[.val (.ref a1), .val (.double (FP.i2d vv)), .second, .val (.int (0 : Int32)), .val (.int (0 : Int32)), .unset] [(.int (0 : Int32)), (.int (0 : Int32))])
  refine Go.step (fun _ k => XS.icmpYes X0.here hx rfl (pc0 := 9) (pc' := 44) rfl (hb hby own_f18) rfl (flt (by decide)).2.1 (by decide) (by decide) k) ?_
  show Go p e below _ s₁ (mkF m 44 #[.val (.ref a1), .val (.double (FP.i2d vv)), .second, .val (.int (0 : Int32)), .val (.int (0 : Int32)), .unset] [])
  refine Go.step (fun _ k => XS.iloadN X0.here hx rfl (hb hby own_f19) rfl k) ?_
  show Go p e below _ s₁ (mkF m 45 #[.val (.ref a1), .val (.double (FP.i2d vv)), .second, .val (.int (0 : Int32)), .val (.int (0 : Int32)), .unset] [(.int (0 : Int32))])
  have er : (own_c0 vv) = (0 : Int32) := by simp [own_c0]
  obtain ⟨fs, hr, hrun, hended, hW, hsame⟩ := X0.leave (v := some (.int (0 : Int32))) (fun h => by rw [Bd.returns] at h; cases h)
  refine Go.fin (retI X0 hx Bd.returns (hb hby own_f20) hr) hrun hended ?_
  refine ⟨_, _, rfl, ?_, ⟨_, rfl⟩, hW, hsame.mono (by decide) (by decide)⟩
  show QK0 Z a1 (FP.i2d vv) kk vv h0 n0 _ s₁.heap _
  rw [e0]
  exact ⟨by rw [er], N0, rfl⟩
theorem own_f22 : decode prog_27_method_2_code 12 = .ok (.iload_n 3, 1) := by decide +kernel
theorem own_f23 : decode prog_27_method_2_code 13 = .ok (.iload 4, 2) := by decide +kernel
theorem own_f24 : decode prog_27_method_2_code 15 = .ok (.iadd, 1) := by decide +kernel
theorem own_f25 : decode prog_27_method_2_code 16 = .ok (.iconst 1, 1) := by decide +kernel
theorem own_f26 : decode prog_27_method_2_code 17 = .ok (.iushr, 1) := by decide +kernel
theorem own_f27 : decode prog_27_method_2_code 18 = .ok (.istore 5, 2) := by decide +kernel
theorem own_f28 : decode prog_27_method_2_code 20 = .ok (.aload_n 0, 1) := by decide +kernel
theorem own_f29 : decode prog_27_method_2_code 21 = .ok (.iload 5, 2) := by decide +kernel
theorem own_f30 : decode prog_27_method_2_code 23 = .ok (.daload, 1) := by decide +kernel
theorem own_f31 : decode prog_27_method_2_code 24 = .ok (.dload_n 1, 1) := by decide +kernel
theorem own_f32 : decode prog_27_method_2_code 25 = .ok (.dcmp .l, 1) := by decide +kernel
theorem own_f33 : decode prog_27_method_2_code 26 = .ok (.ifCond .le 10, 3) := by decide +kernel
theorem own_f34 : decode prog_27_method_2_code 29 = .ok (.iload 5, 2) := by decide +kernel
theorem own_f35 : decode prog_27_method_2_code 31 = .ok (.istore 4, 2) := by decide +kernel
theorem own_f36 : decode prog_27_method_2_code 33 = .ok (.goto 8, 3) := by decide +kernel
theorem own_f37 : decode prog_27_method_2_code 41 = .ok (.goto (-35), 3) := by decide +kernel
theorem own_f38 : decode prog_27_method_2_code 36 = .ok (.iload 5, 2) := by decide +kernel
theorem own_f39 : decode prog_27_method_2_code 38 = .ok (.iconst 1, 1) := by decide +kernel
theorem own_f40 : decode prog_27_method_2_code 39 = .ok (.iadd, 1) := by decide +kernel
theorem own_f41 : decode prog_27_method_2_code 40 = .ok (.istore_n 3, 1) := by decide +kernel
theorem own_ef_K1 (m : MethodId) (a1 : Addr) (d1 : UInt64) : entryFrame m #[(.ref a1), (.double d1)] 6 = mkF m 0 #[.val (.ref a1), .val (.double d1), .second, .unset, .unset, .unset] [] := by first | (simp [entryFrame, mkF, argsToLocals, Value.category]; done) | rfl
def QK1 (Z : State) (a1 : Addr) (d1 : UInt64) (kk : ClassId) (vv : Int32) (u0 : Int32) (h0 : Heap) (n0 : Nat) (v : Option Value) (h : Heap) (L : List Loc) : Prop := v = some (.int (own_c1 u0 vv)) ∧ Fr n0 L ∧ h = h0
set_option maxRecDepth 65536 in
set_option maxHeartbeats 40000000 in
theorem rmK1 (l : Launch) (Z : State) (a0 : Array Value) (hw : ∀ d ∈ tables_1, d.before a0 Z = true) (ws : List Jvm.Cond) (a1 : Addr) (d1 : UInt64) (kk : ClassId) (vv : Int32) (u0 : Int32) (h0 : Heap) (n0 : Nat) (Z0 : n0 ≤ h0.size) (V_a1 : Arv Z h0 a1 kk .double (1 : Int32) [(.double (FP.i2d u0))] (.double (FP.l2d 0))) (hd1 : d1 = FP.i2d vv) :
    MetFree l (⟨"com/example/bidkeel/bidkeel/Knapsack", "countUpTo", "([DD)I"⟩ : MethodName) (head1 (Jvm.Cond.code (⟨"com/example/bidkeel/bidkeel/Knapsack", "countUpTo", "([DD)I"⟩ : MethodName) prog_27_method_2_code 6 (some .int) :: ws) ({ frames := 0, cells := 0, slots := 0, locals := 0 } : Room)) (fun a U => a = #[(.ref a1), (.double d1)] ∧ Z.Warmed39 U.vm ∧ U.heap = h0) (fun _ _ _ _ _ => True) (fun _ U o U' => ∃ v L, o = .returned v ∧ QK1 Z a1 d1 kk vv u0 h0 n0 v U'.heap L ∧ FrameEnd U o U' L ({ frames := 0, cells := 0, slots := 0, locals := 0 } : Room).cells ({ frames := 0, cells := 0, slots := 0, locals := 0 } : Room).slots) := by
  refine MetFree.of_bodySF (plainFor_of_name own_f21) hisR ?_
  intro p e s m args below meth c s₁ Bd hml0 hP hK
  obtain ⟨rfl, hZ, hh⟩ := hP
  have hx := Bd.exec
  have hby := Bd.bytes
  have hml : c.maxLocals = 6 := hml0
  have hown : s.vm.findClass "com/example/bidkeel/bidkeel/Knapsack" = some m.cls := findClass_of_methodNamed Bd.named
  have hnm := (name_of_methodNamed Bd.named Bd.method).1
  have X0 : Stand p l e ({ frames := 0, cells := 0, slots := 0, locals := 0 } : Room) s m #[(.ref a1), (.double d1)] below meth c s₁ [] 0 0 := Stand.of_body Bd
  have e0 : s₁.heap = h0 := by rw [← hh, Bd.state]; rfl
  have N0 := Fr.nil n0
  refine Go.start (own_ef_K1 m a1 d1) ?_
  show Go p e below _ s₁ (mkF m 0 #[.val (.ref a1), .val (.double d1), .second, .unset, .unset, .unset] [])
  subst hd1
  show Go p e below _ s₁ (mkF m 0 #[.val (.ref a1), .val (.double (FP.i2d vv)), .second, .unset, .unset, .unset] [])
  refine Go.step (fun _ k => XS.iconst X0.here hx rfl (hb hby own_f11) k) ?_
  show Go p e below _ s₁ (mkF m 1 #[.val (.ref a1), .val (.double (FP.i2d vv)), .second, .unset, .unset, .unset] [(.int (0 : Int32))])
  refine Go.step (fun _ k => XS.istoreN X0.here hx rfl (hb hby own_f12) rfl (l' := #[.val (.ref a1), .val (.double (FP.i2d vv)), .second, .val (.int (0 : Int32)), .unset, .unset]) rfl k) ?_
  show Go p e below _ s₁ (mkF m 2 #[.val (.ref a1), .val (.double (FP.i2d vv)), .second, .val (.int (0 : Int32)), .unset, .unset] [])
  refine Go.step (fun _ k => XS.aloadN X0.here hx rfl (hb hby own_f13) rfl rfl k) ?_
  show Go p e below _ s₁ (mkF m 3 #[.val (.ref a1), .val (.double (FP.i2d vv)), .second, .val (.int (0 : Int32)), .unset, .unset] [(.ref a1)])
  obtain ⟨cl4, Ar4, q4, S4, Nn4, H4, G4⟩ := V_a1
  have V_a1 : Arv Z h0 a1 kk .double (1 : Int32) [(.double (FP.i2d u0))] (.double (FP.l2d 0)) := ⟨cl4, Ar4, q4, S4, Nn4, H4, G4⟩
  refine Go.step (X0.arraylength hx (by rw [e0]; exact Ar4.1) (State.isArrayOf_alike hZ.alike Ar4.2.1) (g := (mkF m 3 #[.val (.ref a1), .val (.double (FP.i2d vv)), .second, .val (.int (0 : Int32)), .unset, .unset] [(.ref a1)])) rfl rfl (hb hby own_f14)) ?_
  rw [len_of S4 Nn4]
  show Go p e below _ s₁ (mkF m 4 #[.val (.ref a1), .val (.double (FP.i2d vv)), .second, .val (.int (0 : Int32)), .unset, .unset] [(.int (1 : Int32))])
  refine Go.step (fun _ k => XS.istore X0.here hx rfl (hb hby own_f15) rfl (l' := #[.val (.ref a1), .val (.double (FP.i2d vv)), .second, .val (.int (0 : Int32)), .val (.int (1 : Int32)), .unset]) rfl k) ?_
  show Go p e below _ s₁ (mkF m 6 #[.val (.ref a1), .val (.double (FP.i2d vv)), .second, .val (.int (0 : Int32)), .val (.int (1 : Int32)), .unset] [])
  refine Go.step (fun _ k => XS.iloadN X0.here hx rfl (hb hby own_f16) rfl k) ?_
  show Go p e below _ s₁ (mkF m 7 #[.val (.ref a1), .val (.double (FP.i2d vv)), .second, .val (.int (0 : Int32)), .val (.int (1 : Int32)), .unset] [(.int (0 : Int32))])
  refine Go.step (fun _ k => XS.iload X0.here hx rfl (hb hby own_f17) rfl k) ?_
  show Go p e below _ s₁ (mkF m 9 #[.val (.ref a1), .val (.double (FP.i2d vv)), .second, .val (.int (0 : Int32)), .val (.int (1 : Int32)), .unset] [(.int (1 : Int32)), (.int (0 : Int32))])
  refine Go.step (fun _ k => XS.icmpNo X0.here hx rfl (hb hby own_f18) rfl (tlt (by decide)).2.1 k) ?_
  show Go p e below _ s₁ (mkF m 12 #[.val (.ref a1), .val (.double (FP.i2d vv)), .second, .val (.int (0 : Int32)), .val (.int (1 : Int32)), .unset] [])
  refine Go.step (fun _ k => XS.iloadN X0.here hx rfl (hb hby own_f22) rfl k) ?_
  show Go p e below _ s₁ (mkF m 13 #[.val (.ref a1), .val (.double (FP.i2d vv)), .second, .val (.int (0 : Int32)), .val (.int (1 : Int32)), .unset] [(.int (0 : Int32))])
  refine Go.step (fun _ k => XS.iload X0.here hx rfl (hb hby own_f23) rfl k) ?_
  show Go p e below _ s₁ (mkF m 15 #[.val (.ref a1), .val (.double (FP.i2d vv)), .second, .val (.int (0 : Int32)), .val (.int (1 : Int32)), .unset] [(.int (1 : Int32)), (.int (0 : Int32))])
  refine Go.step (fun _ k => XS.iadd X0.here hx rfl (hb hby own_f24) rfl k) ?_
  show Go p e below _ s₁ (mkF m 16 #[.val (.ref a1), .val (.double (FP.i2d vv)), .second, .val (.int (0 : Int32)), .val (.int (1 : Int32)), .unset] [(.int ((0 : Int32) + (1 : Int32)))])
  refine Go.step (fun _ k => XS.iconst X0.here hx rfl (hb hby own_f25) k) ?_
  show Go p e below _ s₁ (mkF m 17 #[.val (.ref a1), .val (.double (FP.i2d vv)), .second, .val (.int (0 : Int32)), .val (.int (1 : Int32)), .unset] [(.int (1 : Int32)), (.int ((0 : Int32) + (1 : Int32)))])
  refine Go.step (fun _ k => XS.iushr X0.here hx rfl (hb hby own_f26) rfl k) ?_
  show Go p e below _ s₁ (mkF m 18 #[.val (.ref a1), .val (.double (FP.i2d vv)), .second, .val (.int (0 : Int32)), .val (.int (1 : Int32)), .unset] [(.int ((((0 : Int32) + (1 : Int32)).toUInt32 >>> ((1 : Int32) &&& 31).toUInt32).toInt32))])
  show Go p e below _ s₁ (mkF m 18 #[.val (.ref a1), .val (.double (FP.i2d vv)), .second, .val (.int (0 : Int32)), .val (.int (1 : Int32)), .unset] [(.int (0 : Int32))])
  refine Go.step (fun _ k => XS.istore X0.here hx rfl (hb hby own_f27) rfl (l' := #[.val (.ref a1), .val (.double (FP.i2d vv)), .second, .val (.int (0 : Int32)), .val (.int (1 : Int32)), .val (.int (0 : Int32))]) rfl k) ?_
  show Go p e below _ s₁ (mkF m 20 #[.val (.ref a1), .val (.double (FP.i2d vv)), .second, .val (.int (0 : Int32)), .val (.int (1 : Int32)), .val (.int (0 : Int32))] [])
  refine Go.step (fun _ k => XS.aloadN X0.here hx rfl (hb hby own_f28) rfl rfl k) ?_
  show Go p e below _ s₁ (mkF m 21 #[.val (.ref a1), .val (.double (FP.i2d vv)), .second, .val (.int (0 : Int32)), .val (.int (1 : Int32)), .val (.int (0 : Int32))] [(.ref a1)])
  refine Go.step (fun _ k => XS.iload X0.here hx rfl (hb hby own_f29) rfl k) ?_
  show Go p e below _ s₁ (mkF m 23 #[.val (.ref a1), .val (.double (FP.i2d vv)), .second, .val (.int (0 : Int32)), .val (.int (1 : Int32)), .val (.int (0 : Int32))] [(.int (0 : Int32)), (.ref a1)])
  obtain ⟨cl5, Ar5, q5, S5, Nn5, H5, G5⟩ := V_a1
  have V_a1 : Arv Z h0 a1 kk .double (1 : Int32) [(.double (FP.i2d u0))] (.double (FP.l2d 0)) := ⟨cl5, Ar5, q5, S5, Nn5, H5, G5⟩
  have hin5 : ¬ ((0 : Int32) < 0 ∨ cl5.slots.size ≤ ((0 : Int32)).toNatClampNeg) := inb_of S5 ⟨by decide, by decide⟩
  have hat5 : cl5.slots[((0 : Int32)).toNatClampNeg]? = some (.double (FP.i2d u0)) := Has.at H5 hin5 rfl
  refine Go.step (X0.daload hx (j := (0 : Int32)) (v := (.double (FP.i2d u0))) (by rw [e0]; exact Ar5.1) (State.isArrayOf_alike hZ.alike Ar5.2.1) Ar5.2.2 hin5 hat5 (g := (mkF m 23 #[.val (.ref a1), .val (.double (FP.i2d vv)), .second, .val (.int (0 : Int32)), .val (.int (1 : Int32)), .val (.int (0 : Int32))] [(.int (0 : Int32)), (.ref a1)])) rfl rfl (hb hby own_f30)) ?_
  show Go p e below _ s₁ (mkF m 24 #[.val (.ref a1), .val (.double (FP.i2d vv)), .second, .val (.int (0 : Int32)), .val (.int (1 : Int32)), .val (.int (0 : Int32))] [(.double (FP.i2d u0))])
  refine Go.step (fun _ k => XS.dloadN X0.here hx rfl (hb hby own_f31) rfl k) ?_
  show Go p e below _ s₁ (mkF m 25 #[.val (.ref a1), .val (.double (FP.i2d vv)), .second, .val (.int (0 : Int32)), .val (.int (1 : Int32)), .val (.int (0 : Int32))] [(.double (FP.i2d vv)), (.double (FP.i2d u0))])
  refine Go.step (fun _ k => XS.dcmpS X0.here hx rfl (hb hby own_f32) rfl rfl k) ?_
  show Go p e below _ s₁ (mkF m 26 #[.val (.ref a1), .val (.double (FP.i2d vv)), .second, .val (.int (0 : Int32)), .val (.int (1 : Int32)), .val (.int (0 : Int32))] [(.int (cmpValue (FP.dcmp (FP.i2d u0) (FP.i2d vv)) .l))])
  by_cases hv26_6 : vv < u0
  · show Go p e below _ s₁ (mkF m 26 #[.val (.ref a1), .val (.double (FP.i2d vv)), .second, .val (.int (0 : Int32)), .val (.int (1 : Int32)), .val (.int (0 : Int32))] [(.int (cmpValue (FP.dcmp (FP.i2d u0) (FP.i2d vv)) .l))])
    refine Go.step (fun _ k => XS.ifNo X0.here hx rfl (hb hby own_f33) rfl ((if0 _ _).trans (tlt ((own_cmpi u0 vv).mpr hv26_6)).2.2.2) k) ?_
    show Go p e below _ s₁ (mkF m 29 #[.val (.ref a1), .val (.double (FP.i2d vv)), .second, .val (.int (0 : Int32)), .val (.int (1 : Int32)), .val (.int (0 : Int32))] [])
    refine Go.step (fun _ k => XS.iload X0.here hx rfl (hb hby own_f34) rfl k) ?_
    show Go p e below _ s₁ (mkF m 31 #[.val (.ref a1), .val (.double (FP.i2d vv)), .second, .val (.int (0 : Int32)), .val (.int (1 : Int32)), .val (.int (0 : Int32))] [(.int (0 : Int32))])
    refine Go.step (fun _ k => XS.istore X0.here hx rfl (hb hby own_f35) rfl (l' := #[.val (.ref a1), .val (.double (FP.i2d vv)), .second, .val (.int (0 : Int32)), .val (.int (0 : Int32)), .val (.int (0 : Int32))]) rfl k) ?_
    show Go p e below _ s₁ (mkF m 33 #[.val (.ref a1), .val (.double (FP.i2d vv)), .second, .val (.int (0 : Int32)), .val (.int (0 : Int32)), .val (.int (0 : Int32))] [])
    refine Go.step (fun _ k => XS.goto X0.here hx rfl (pc0 := 33) (pc' := 41) rfl (hb hby own_f36) (by decide) (by decide) k) ?_
    show Go p e below _ s₁ (mkF m 41 #[.val (.ref a1), .val (.double (FP.i2d vv)), .second, .val (.int (0 : Int32)), .val (.int (0 : Int32)), .val (.int (0 : Int32))] [])
    refine Go.step (fun _ k => XS.goto X0.here hx rfl (pc0 := 41) (pc' := 6) rfl (hb hby own_f37) (by decide) (by decide) k) ?_
    show Go p e below _ s₁ (mkF m 6 #[.val (.ref a1), .val (.double (FP.i2d vv)), .second, .val (.int (0 : Int32)), .val (.int (0 : Int32)), .val (.int (0 : Int32))] [])
    refine Go.step (fun _ k => XS.iloadN X0.here hx rfl (hb hby own_f16) rfl k) ?_
    show Go p e below _ s₁ (mkF m 7 #[.val (.ref a1), .val (.double (FP.i2d vv)), .second, .val (.int (0 : Int32)), .val (.int (0 : Int32)), .val (.int (0 : Int32))] [(.int (0 : Int32))])
    refine Go.step (fun _ k => XS.iload X0.here hx rfl (hb hby own_f17) rfl k) ?_
    show Go p e below _ s₁ (mkF m 9 #[.val (.ref a1), .val (.double (FP.i2d vv)), .second, .val (.int (0 : Int32)), .val (.int (0 : Int32)), .val (.int (0 : Int32))] [(.int (0 : Int32)), (.int (0 : Int32))])
    refine Go.step (fun _ k => XS.icmpYes X0.here hx rfl (pc0 := 9) (pc' := 44) rfl (hb hby own_f18) rfl (flt (by decide)).2.1 (by decide) (by decide) k) ?_
    show Go p e below _ s₁ (mkF m 44 #[.val (.ref a1), .val (.double (FP.i2d vv)), .second, .val (.int (0 : Int32)), .val (.int (0 : Int32)), .val (.int (0 : Int32))] [])
    refine Go.step (fun _ k => XS.iloadN X0.here hx rfl (hb hby own_f19) rfl k) ?_
    show Go p e below _ s₁ (mkF m 45 #[.val (.ref a1), .val (.double (FP.i2d vv)), .second, .val (.int (0 : Int32)), .val (.int (0 : Int32)), .val (.int (0 : Int32))] [(.int (0 : Int32))])
    have er : (own_c1 u0 vv) = (0 : Int32) := by simp [own_c1, hv26_6]
    obtain ⟨fs, hr, hrun, hended, hW, hsame⟩ := X0.leave (v := some (.int (0 : Int32))) (fun h => by rw [Bd.returns] at h; cases h)
    refine Go.fin (retI X0 hx Bd.returns (hb hby own_f20) hr) hrun hended ?_
    refine ⟨_, _, rfl, ?_, ⟨_, rfl⟩, hW, hsame.mono (by decide) (by decide)⟩
    show QK1 Z a1 (FP.i2d vv) kk vv u0 h0 n0 _ s₁.heap _
    rw [e0]
    exact ⟨by rw [er], N0, rfl⟩
  · show Go p e below _ s₁ (mkF m 26 #[.val (.ref a1), .val (.double (FP.i2d vv)), .second, .val (.int (0 : Int32)), .val (.int (1 : Int32)), .val (.int (0 : Int32))] [(.int (cmpValue (FP.dcmp (FP.i2d u0) (FP.i2d vv)) .l))])
    refine Go.step (fun _ k => XS.ifYes X0.here hx rfl (pc0 := 26) (pc' := 36) rfl (hb hby own_f33) rfl ((if0 _ _).trans (flt (fun q => hv26_6 ((own_cmpi u0 vv).mp q))).2.2.2) (by decide) (by decide) k) ?_
    show Go p e below _ s₁ (mkF m 36 #[.val (.ref a1), .val (.double (FP.i2d vv)), .second, .val (.int (0 : Int32)), .val (.int (1 : Int32)), .val (.int (0 : Int32))] [])
    refine Go.step (fun _ k => XS.iload X0.here hx rfl (hb hby own_f38) rfl k) ?_
    show Go p e below _ s₁ (mkF m 38 #[.val (.ref a1), .val (.double (FP.i2d vv)), .second, .val (.int (0 : Int32)), .val (.int (1 : Int32)), .val (.int (0 : Int32))] [(.int (0 : Int32))])
    refine Go.step (fun _ k => XS.iconst X0.here hx rfl (hb hby own_f39) k) ?_
    show Go p e below _ s₁ (mkF m 39 #[.val (.ref a1), .val (.double (FP.i2d vv)), .second, .val (.int (0 : Int32)), .val (.int (1 : Int32)), .val (.int (0 : Int32))] [(.int (1 : Int32)), (.int (0 : Int32))])
    refine Go.step (fun _ k => XS.iadd X0.here hx rfl (hb hby own_f40) rfl k) ?_
    show Go p e below _ s₁ (mkF m 40 #[.val (.ref a1), .val (.double (FP.i2d vv)), .second, .val (.int (0 : Int32)), .val (.int (1 : Int32)), .val (.int (0 : Int32))] [(.int ((0 : Int32) + (1 : Int32)))])
    show Go p e below _ s₁ (mkF m 40 #[.val (.ref a1), .val (.double (FP.i2d vv)), .second, .val (.int (0 : Int32)), .val (.int (1 : Int32)), .val (.int (0 : Int32))] [(.int (1 : Int32))])
    refine Go.step (fun _ k => XS.istoreN X0.here hx rfl (hb hby own_f41) rfl (l' := #[.val (.ref a1), .val (.double (FP.i2d vv)), .second, .val (.int (1 : Int32)), .val (.int (1 : Int32)), .val (.int (0 : Int32))]) rfl k) ?_
    show Go p e below _ s₁ (mkF m 41 #[.val (.ref a1), .val (.double (FP.i2d vv)), .second, .val (.int (1 : Int32)), .val (.int (1 : Int32)), .val (.int (0 : Int32))] [])
    refine Go.step (fun _ k => XS.goto X0.here hx rfl (pc0 := 41) (pc' := 6) rfl (hb hby own_f37) (by decide) (by decide) k) ?_
    show Go p e below _ s₁ (mkF m 6 #[.val (.ref a1), .val (.double (FP.i2d vv)), .second, .val (.int (1 : Int32)), .val (.int (1 : Int32)), .val (.int (0 : Int32))] [])
    refine Go.step (fun _ k => XS.iloadN X0.here hx rfl (hb hby own_f16) rfl k) ?_
    show Go p e below _ s₁ (mkF m 7 #[.val (.ref a1), .val (.double (FP.i2d vv)), .second, .val (.int (1 : Int32)), .val (.int (1 : Int32)), .val (.int (0 : Int32))] [(.int (1 : Int32))])
    refine Go.step (fun _ k => XS.iload X0.here hx rfl (hb hby own_f17) rfl k) ?_
    show Go p e below _ s₁ (mkF m 9 #[.val (.ref a1), .val (.double (FP.i2d vv)), .second, .val (.int (1 : Int32)), .val (.int (1 : Int32)), .val (.int (0 : Int32))] [(.int (1 : Int32)), (.int (1 : Int32))])
    refine Go.step (fun _ k => XS.icmpYes X0.here hx rfl (pc0 := 9) (pc' := 44) rfl (hb hby own_f18) rfl (flt (by decide)).2.1 (by decide) (by decide) k) ?_
    show Go p e below _ s₁ (mkF m 44 #[.val (.ref a1), .val (.double (FP.i2d vv)), .second, .val (.int (1 : Int32)), .val (.int (1 : Int32)), .val (.int (0 : Int32))] [])
    refine Go.step (fun _ k => XS.iloadN X0.here hx rfl (hb hby own_f19) rfl k) ?_
    show Go p e below _ s₁ (mkF m 45 #[.val (.ref a1), .val (.double (FP.i2d vv)), .second, .val (.int (1 : Int32)), .val (.int (1 : Int32)), .val (.int (0 : Int32))] [(.int (1 : Int32))])
    have er : (own_c1 u0 vv) = (1 : Int32) := by simp [own_c1, hv26_6]
    obtain ⟨fs, hr, hrun, hended, hW, hsame⟩ := X0.leave (v := some (.int (1 : Int32))) (fun h => by rw [Bd.returns] at h; cases h)
    refine Go.fin (retI X0 hx Bd.returns (hb hby own_f20) hr) hrun hended ?_
    refine ⟨_, _, rfl, ?_, ⟨_, rfl⟩, hW, hsame.mono (by decide) (by decide)⟩
    show QK1 Z a1 (FP.i2d vv) kk vv u0 h0 n0 _ s₁.heap _
    rw [e0]
    exact ⟨by rw [er], N0, rfl⟩
theorem own_ef_K2 (m : MethodId) (a1 : Addr) (d1 : UInt64) : entryFrame m #[(.ref a1), (.double d1)] 6 = mkF m 0 #[.val (.ref a1), .val (.double d1), .second, .unset, .unset, .unset] [] := by first | (simp [entryFrame, mkF, argsToLocals, Value.category]; done) | rfl
def QK2 (Z : State) (a1 : Addr) (d1 : UInt64) (kk : ClassId) (vv : Int32) (u0 : Int32) (u1 : Int32) (h0 : Heap) (n0 : Nat) (v : Option Value) (h : Heap) (L : List Loc) : Prop := v = some (.int (own_c2 u0 u1 vv)) ∧ Fr n0 L ∧ h = h0
set_option maxRecDepth 65536 in
set_option maxHeartbeats 40000000 in
theorem rmK2 (l : Launch) (Z : State) (a0 : Array Value) (hw : ∀ d ∈ tables_1, d.before a0 Z = true) (ws : List Jvm.Cond) (a1 : Addr) (d1 : UInt64) (kk : ClassId) (vv : Int32) (u0 : Int32) (u1 : Int32) (h0 : Heap) (n0 : Nat) (Z0 : n0 ≤ h0.size) (V_a1 : Arv Z h0 a1 kk .double (2 : Int32) [(.double (FP.i2d u0)), (.double (FP.i2d u1))] (.double (FP.l2d 0))) (hd1 : d1 = FP.i2d vv) :
    MetFree l (⟨"com/example/bidkeel/bidkeel/Knapsack", "countUpTo", "([DD)I"⟩ : MethodName) (head1 (Jvm.Cond.code (⟨"com/example/bidkeel/bidkeel/Knapsack", "countUpTo", "([DD)I"⟩ : MethodName) prog_27_method_2_code 6 (some .int) :: ws) ({ frames := 0, cells := 0, slots := 0, locals := 0 } : Room)) (fun a U => a = #[(.ref a1), (.double d1)] ∧ Z.Warmed39 U.vm ∧ U.heap = h0) (fun _ _ _ _ _ => True) (fun _ U o U' => ∃ v L, o = .returned v ∧ QK2 Z a1 d1 kk vv u0 u1 h0 n0 v U'.heap L ∧ FrameEnd U o U' L ({ frames := 0, cells := 0, slots := 0, locals := 0 } : Room).cells ({ frames := 0, cells := 0, slots := 0, locals := 0 } : Room).slots) := by
  refine MetFree.of_bodySF (plainFor_of_name own_f21) hisR ?_
  intro p e s m args below meth c s₁ Bd hml0 hP hK
  obtain ⟨rfl, hZ, hh⟩ := hP
  have hx := Bd.exec
  have hby := Bd.bytes
  have hml : c.maxLocals = 6 := hml0
  have hown : s.vm.findClass "com/example/bidkeel/bidkeel/Knapsack" = some m.cls := findClass_of_methodNamed Bd.named
  have hnm := (name_of_methodNamed Bd.named Bd.method).1
  have X0 : Stand p l e ({ frames := 0, cells := 0, slots := 0, locals := 0 } : Room) s m #[(.ref a1), (.double d1)] below meth c s₁ [] 0 0 := Stand.of_body Bd
  have e0 : s₁.heap = h0 := by rw [← hh, Bd.state]; rfl
  have N0 := Fr.nil n0
  refine Go.start (own_ef_K2 m a1 d1) ?_
  show Go p e below _ s₁ (mkF m 0 #[.val (.ref a1), .val (.double d1), .second, .unset, .unset, .unset] [])
  subst hd1
  show Go p e below _ s₁ (mkF m 0 #[.val (.ref a1), .val (.double (FP.i2d vv)), .second, .unset, .unset, .unset] [])
  refine Go.step (fun _ k => XS.iconst X0.here hx rfl (hb hby own_f11) k) ?_
  show Go p e below _ s₁ (mkF m 1 #[.val (.ref a1), .val (.double (FP.i2d vv)), .second, .unset, .unset, .unset] [(.int (0 : Int32))])
  refine Go.step (fun _ k => XS.istoreN X0.here hx rfl (hb hby own_f12) rfl (l' := #[.val (.ref a1), .val (.double (FP.i2d vv)), .second, .val (.int (0 : Int32)), .unset, .unset]) rfl k) ?_
  show Go p e below _ s₁ (mkF m 2 #[.val (.ref a1), .val (.double (FP.i2d vv)), .second, .val (.int (0 : Int32)), .unset, .unset] [])
  refine Go.step (fun _ k => XS.aloadN X0.here hx rfl (hb hby own_f13) rfl rfl k) ?_
  show Go p e below _ s₁ (mkF m 3 #[.val (.ref a1), .val (.double (FP.i2d vv)), .second, .val (.int (0 : Int32)), .unset, .unset] [(.ref a1)])
  obtain ⟨cl7, Ar7, q7, S7, Nn7, H7, G7⟩ := V_a1
  have V_a1 : Arv Z h0 a1 kk .double (2 : Int32) [(.double (FP.i2d u0)), (.double (FP.i2d u1))] (.double (FP.l2d 0)) := ⟨cl7, Ar7, q7, S7, Nn7, H7, G7⟩
  refine Go.step (X0.arraylength hx (by rw [e0]; exact Ar7.1) (State.isArrayOf_alike hZ.alike Ar7.2.1) (g := (mkF m 3 #[.val (.ref a1), .val (.double (FP.i2d vv)), .second, .val (.int (0 : Int32)), .unset, .unset] [(.ref a1)])) rfl rfl (hb hby own_f14)) ?_
  rw [len_of S7 Nn7]
  show Go p e below _ s₁ (mkF m 4 #[.val (.ref a1), .val (.double (FP.i2d vv)), .second, .val (.int (0 : Int32)), .unset, .unset] [(.int (2 : Int32))])
  refine Go.step (fun _ k => XS.istore X0.here hx rfl (hb hby own_f15) rfl (l' := #[.val (.ref a1), .val (.double (FP.i2d vv)), .second, .val (.int (0 : Int32)), .val (.int (2 : Int32)), .unset]) rfl k) ?_
  show Go p e below _ s₁ (mkF m 6 #[.val (.ref a1), .val (.double (FP.i2d vv)), .second, .val (.int (0 : Int32)), .val (.int (2 : Int32)), .unset] [])
  refine Go.step (fun _ k => XS.iloadN X0.here hx rfl (hb hby own_f16) rfl k) ?_
  show Go p e below _ s₁ (mkF m 7 #[.val (.ref a1), .val (.double (FP.i2d vv)), .second, .val (.int (0 : Int32)), .val (.int (2 : Int32)), .unset] [(.int (0 : Int32))])
  refine Go.step (fun _ k => XS.iload X0.here hx rfl (hb hby own_f17) rfl k) ?_
  show Go p e below _ s₁ (mkF m 9 #[.val (.ref a1), .val (.double (FP.i2d vv)), .second, .val (.int (0 : Int32)), .val (.int (2 : Int32)), .unset] [(.int (2 : Int32)), (.int (0 : Int32))])
  refine Go.step (fun _ k => XS.icmpNo X0.here hx rfl (hb hby own_f18) rfl (tlt (by decide)).2.1 k) ?_
  show Go p e below _ s₁ (mkF m 12 #[.val (.ref a1), .val (.double (FP.i2d vv)), .second, .val (.int (0 : Int32)), .val (.int (2 : Int32)), .unset] [])
  refine Go.step (fun _ k => XS.iloadN X0.here hx rfl (hb hby own_f22) rfl k) ?_
  show Go p e below _ s₁ (mkF m 13 #[.val (.ref a1), .val (.double (FP.i2d vv)), .second, .val (.int (0 : Int32)), .val (.int (2 : Int32)), .unset] [(.int (0 : Int32))])
  refine Go.step (fun _ k => XS.iload X0.here hx rfl (hb hby own_f23) rfl k) ?_
  show Go p e below _ s₁ (mkF m 15 #[.val (.ref a1), .val (.double (FP.i2d vv)), .second, .val (.int (0 : Int32)), .val (.int (2 : Int32)), .unset] [(.int (2 : Int32)), (.int (0 : Int32))])
  refine Go.step (fun _ k => XS.iadd X0.here hx rfl (hb hby own_f24) rfl k) ?_
  show Go p e below _ s₁ (mkF m 16 #[.val (.ref a1), .val (.double (FP.i2d vv)), .second, .val (.int (0 : Int32)), .val (.int (2 : Int32)), .unset] [(.int ((0 : Int32) + (2 : Int32)))])
  refine Go.step (fun _ k => XS.iconst X0.here hx rfl (hb hby own_f25) k) ?_
  show Go p e below _ s₁ (mkF m 17 #[.val (.ref a1), .val (.double (FP.i2d vv)), .second, .val (.int (0 : Int32)), .val (.int (2 : Int32)), .unset] [(.int (1 : Int32)), (.int ((0 : Int32) + (2 : Int32)))])
  refine Go.step (fun _ k => XS.iushr X0.here hx rfl (hb hby own_f26) rfl k) ?_
  show Go p e below _ s₁ (mkF m 18 #[.val (.ref a1), .val (.double (FP.i2d vv)), .second, .val (.int (0 : Int32)), .val (.int (2 : Int32)), .unset] [(.int ((((0 : Int32) + (2 : Int32)).toUInt32 >>> ((1 : Int32) &&& 31).toUInt32).toInt32))])
  show Go p e below _ s₁ (mkF m 18 #[.val (.ref a1), .val (.double (FP.i2d vv)), .second, .val (.int (0 : Int32)), .val (.int (2 : Int32)), .unset] [(.int (1 : Int32))])
  refine Go.step (fun _ k => XS.istore X0.here hx rfl (hb hby own_f27) rfl (l' := #[.val (.ref a1), .val (.double (FP.i2d vv)), .second, .val (.int (0 : Int32)), .val (.int (2 : Int32)), .val (.int (1 : Int32))]) rfl k) ?_
  show Go p e below _ s₁ (mkF m 20 #[.val (.ref a1), .val (.double (FP.i2d vv)), .second, .val (.int (0 : Int32)), .val (.int (2 : Int32)), .val (.int (1 : Int32))] [])
  refine Go.step (fun _ k => XS.aloadN X0.here hx rfl (hb hby own_f28) rfl rfl k) ?_
  show Go p e below _ s₁ (mkF m 21 #[.val (.ref a1), .val (.double (FP.i2d vv)), .second, .val (.int (0 : Int32)), .val (.int (2 : Int32)), .val (.int (1 : Int32))] [(.ref a1)])
  refine Go.step (fun _ k => XS.iload X0.here hx rfl (hb hby own_f29) rfl k) ?_
  show Go p e below _ s₁ (mkF m 23 #[.val (.ref a1), .val (.double (FP.i2d vv)), .second, .val (.int (0 : Int32)), .val (.int (2 : Int32)), .val (.int (1 : Int32))] [(.int (1 : Int32)), (.ref a1)])
  obtain ⟨cl8, Ar8, q8, S8, Nn8, H8, G8⟩ := V_a1
  have V_a1 : Arv Z h0 a1 kk .double (2 : Int32) [(.double (FP.i2d u0)), (.double (FP.i2d u1))] (.double (FP.l2d 0)) := ⟨cl8, Ar8, q8, S8, Nn8, H8, G8⟩
  have hin8 : ¬ ((1 : Int32) < 0 ∨ cl8.slots.size ≤ ((1 : Int32)).toNatClampNeg) := inb_of S8 ⟨by decide, by decide⟩
  have hat8 : cl8.slots[((1 : Int32)).toNatClampNeg]? = some (.double (FP.i2d u1)) := Has.at H8 hin8 rfl
  refine Go.step (X0.daload hx (j := (1 : Int32)) (v := (.double (FP.i2d u1))) (by rw [e0]; exact Ar8.1) (State.isArrayOf_alike hZ.alike Ar8.2.1) Ar8.2.2 hin8 hat8 (g := (mkF m 23 #[.val (.ref a1), .val (.double (FP.i2d vv)), .second, .val (.int (0 : Int32)), .val (.int (2 : Int32)), .val (.int (1 : Int32))] [(.int (1 : Int32)), (.ref a1)])) rfl rfl (hb hby own_f30)) ?_
  show Go p e below _ s₁ (mkF m 24 #[.val (.ref a1), .val (.double (FP.i2d vv)), .second, .val (.int (0 : Int32)), .val (.int (2 : Int32)), .val (.int (1 : Int32))] [(.double (FP.i2d u1))])
  refine Go.step (fun _ k => XS.dloadN X0.here hx rfl (hb hby own_f31) rfl k) ?_
  show Go p e below _ s₁ (mkF m 25 #[.val (.ref a1), .val (.double (FP.i2d vv)), .second, .val (.int (0 : Int32)), .val (.int (2 : Int32)), .val (.int (1 : Int32))] [(.double (FP.i2d vv)), (.double (FP.i2d u1))])
  refine Go.step (fun _ k => XS.dcmpS X0.here hx rfl (hb hby own_f32) rfl rfl k) ?_
  show Go p e below _ s₁ (mkF m 26 #[.val (.ref a1), .val (.double (FP.i2d vv)), .second, .val (.int (0 : Int32)), .val (.int (2 : Int32)), .val (.int (1 : Int32))] [(.int (cmpValue (FP.dcmp (FP.i2d u1) (FP.i2d vv)) .l))])
  by_cases hv26_9 : vv < u1
  · show Go p e below _ s₁ (mkF m 26 #[.val (.ref a1), .val (.double (FP.i2d vv)), .second, .val (.int (0 : Int32)), .val (.int (2 : Int32)), .val (.int (1 : Int32))] [(.int (cmpValue (FP.dcmp (FP.i2d u1) (FP.i2d vv)) .l))])
    refine Go.step (fun _ k => XS.ifNo X0.here hx rfl (hb hby own_f33) rfl ((if0 _ _).trans (tlt ((own_cmpi u1 vv).mpr hv26_9)).2.2.2) k) ?_
    show Go p e below _ s₁ (mkF m 29 #[.val (.ref a1), .val (.double (FP.i2d vv)), .second, .val (.int (0 : Int32)), .val (.int (2 : Int32)), .val (.int (1 : Int32))] [])
    refine Go.step (fun _ k => XS.iload X0.here hx rfl (hb hby own_f34) rfl k) ?_
    show Go p e below _ s₁ (mkF m 31 #[.val (.ref a1), .val (.double (FP.i2d vv)), .second, .val (.int (0 : Int32)), .val (.int (2 : Int32)), .val (.int (1 : Int32))] [(.int (1 : Int32))])
    refine Go.step (fun _ k => XS.istore X0.here hx rfl (hb hby own_f35) rfl (l' := #[.val (.ref a1), .val (.double (FP.i2d vv)), .second, .val (.int (0 : Int32)), .val (.int (1 : Int32)), .val (.int (1 : Int32))]) rfl k) ?_
    show Go p e below _ s₁ (mkF m 33 #[.val (.ref a1), .val (.double (FP.i2d vv)), .second, .val (.int (0 : Int32)), .val (.int (1 : Int32)), .val (.int (1 : Int32))] [])
    refine Go.step (fun _ k => XS.goto X0.here hx rfl (pc0 := 33) (pc' := 41) rfl (hb hby own_f36) (by decide) (by decide) k) ?_
    show Go p e below _ s₁ (mkF m 41 #[.val (.ref a1), .val (.double (FP.i2d vv)), .second, .val (.int (0 : Int32)), .val (.int (1 : Int32)), .val (.int (1 : Int32))] [])
    refine Go.step (fun _ k => XS.goto X0.here hx rfl (pc0 := 41) (pc' := 6) rfl (hb hby own_f37) (by decide) (by decide) k) ?_
    show Go p e below _ s₁ (mkF m 6 #[.val (.ref a1), .val (.double (FP.i2d vv)), .second, .val (.int (0 : Int32)), .val (.int (1 : Int32)), .val (.int (1 : Int32))] [])
    refine Go.step (fun _ k => XS.iloadN X0.here hx rfl (hb hby own_f16) rfl k) ?_
    show Go p e below _ s₁ (mkF m 7 #[.val (.ref a1), .val (.double (FP.i2d vv)), .second, .val (.int (0 : Int32)), .val (.int (1 : Int32)), .val (.int (1 : Int32))] [(.int (0 : Int32))])
    refine Go.step (fun _ k => XS.iload X0.here hx rfl (hb hby own_f17) rfl k) ?_
    show Go p e below _ s₁ (mkF m 9 #[.val (.ref a1), .val (.double (FP.i2d vv)), .second, .val (.int (0 : Int32)), .val (.int (1 : Int32)), .val (.int (1 : Int32))] [(.int (1 : Int32)), (.int (0 : Int32))])
    refine Go.step (fun _ k => XS.icmpNo X0.here hx rfl (hb hby own_f18) rfl (tlt (by decide)).2.1 k) ?_
    show Go p e below _ s₁ (mkF m 12 #[.val (.ref a1), .val (.double (FP.i2d vv)), .second, .val (.int (0 : Int32)), .val (.int (1 : Int32)), .val (.int (1 : Int32))] [])
    refine Go.step (fun _ k => XS.iloadN X0.here hx rfl (hb hby own_f22) rfl k) ?_
    show Go p e below _ s₁ (mkF m 13 #[.val (.ref a1), .val (.double (FP.i2d vv)), .second, .val (.int (0 : Int32)), .val (.int (1 : Int32)), .val (.int (1 : Int32))] [(.int (0 : Int32))])
    refine Go.step (fun _ k => XS.iload X0.here hx rfl (hb hby own_f23) rfl k) ?_
    show Go p e below _ s₁ (mkF m 15 #[.val (.ref a1), .val (.double (FP.i2d vv)), .second, .val (.int (0 : Int32)), .val (.int (1 : Int32)), .val (.int (1 : Int32))] [(.int (1 : Int32)), (.int (0 : Int32))])
    refine Go.step (fun _ k => XS.iadd X0.here hx rfl (hb hby own_f24) rfl k) ?_
    show Go p e below _ s₁ (mkF m 16 #[.val (.ref a1), .val (.double (FP.i2d vv)), .second, .val (.int (0 : Int32)), .val (.int (1 : Int32)), .val (.int (1 : Int32))] [(.int ((0 : Int32) + (1 : Int32)))])
    refine Go.step (fun _ k => XS.iconst X0.here hx rfl (hb hby own_f25) k) ?_
    show Go p e below _ s₁ (mkF m 17 #[.val (.ref a1), .val (.double (FP.i2d vv)), .second, .val (.int (0 : Int32)), .val (.int (1 : Int32)), .val (.int (1 : Int32))] [(.int (1 : Int32)), (.int ((0 : Int32) + (1 : Int32)))])
    refine Go.step (fun _ k => XS.iushr X0.here hx rfl (hb hby own_f26) rfl k) ?_
    show Go p e below _ s₁ (mkF m 18 #[.val (.ref a1), .val (.double (FP.i2d vv)), .second, .val (.int (0 : Int32)), .val (.int (1 : Int32)), .val (.int (1 : Int32))] [(.int ((((0 : Int32) + (1 : Int32)).toUInt32 >>> ((1 : Int32) &&& 31).toUInt32).toInt32))])
    show Go p e below _ s₁ (mkF m 18 #[.val (.ref a1), .val (.double (FP.i2d vv)), .second, .val (.int (0 : Int32)), .val (.int (1 : Int32)), .val (.int (1 : Int32))] [(.int (0 : Int32))])
    refine Go.step (fun _ k => XS.istore X0.here hx rfl (hb hby own_f27) rfl (l' := #[.val (.ref a1), .val (.double (FP.i2d vv)), .second, .val (.int (0 : Int32)), .val (.int (1 : Int32)), .val (.int (0 : Int32))]) rfl k) ?_
    show Go p e below _ s₁ (mkF m 20 #[.val (.ref a1), .val (.double (FP.i2d vv)), .second, .val (.int (0 : Int32)), .val (.int (1 : Int32)), .val (.int (0 : Int32))] [])
    refine Go.step (fun _ k => XS.aloadN X0.here hx rfl (hb hby own_f28) rfl rfl k) ?_
    show Go p e below _ s₁ (mkF m 21 #[.val (.ref a1), .val (.double (FP.i2d vv)), .second, .val (.int (0 : Int32)), .val (.int (1 : Int32)), .val (.int (0 : Int32))] [(.ref a1)])
    refine Go.step (fun _ k => XS.iload X0.here hx rfl (hb hby own_f29) rfl k) ?_
    show Go p e below _ s₁ (mkF m 23 #[.val (.ref a1), .val (.double (FP.i2d vv)), .second, .val (.int (0 : Int32)), .val (.int (1 : Int32)), .val (.int (0 : Int32))] [(.int (0 : Int32)), (.ref a1)])
    obtain ⟨cl10, Ar10, q10, S10, Nn10, H10, G10⟩ := V_a1
    have V_a1 : Arv Z h0 a1 kk .double (2 : Int32) [(.double (FP.i2d u0)), (.double (FP.i2d u1))] (.double (FP.l2d 0)) := ⟨cl10, Ar10, q10, S10, Nn10, H10, G10⟩
    have hin10 : ¬ ((0 : Int32) < 0 ∨ cl10.slots.size ≤ ((0 : Int32)).toNatClampNeg) := inb_of S10 ⟨by decide, by decide⟩
    have hat10 : cl10.slots[((0 : Int32)).toNatClampNeg]? = some (.double (FP.i2d u0)) := Has.at H10 hin10 rfl
    refine Go.step (X0.daload hx (j := (0 : Int32)) (v := (.double (FP.i2d u0))) (by rw [e0]; exact Ar10.1) (State.isArrayOf_alike hZ.alike Ar10.2.1) Ar10.2.2 hin10 hat10 (g := (mkF m 23 #[.val (.ref a1), .val (.double (FP.i2d vv)), .second, .val (.int (0 : Int32)), .val (.int (1 : Int32)), .val (.int (0 : Int32))] [(.int (0 : Int32)), (.ref a1)])) rfl rfl (hb hby own_f30)) ?_
    show Go p e below _ s₁ (mkF m 24 #[.val (.ref a1), .val (.double (FP.i2d vv)), .second, .val (.int (0 : Int32)), .val (.int (1 : Int32)), .val (.int (0 : Int32))] [(.double (FP.i2d u0))])
    refine Go.step (fun _ k => XS.dloadN X0.here hx rfl (hb hby own_f31) rfl k) ?_
    show Go p e below _ s₁ (mkF m 25 #[.val (.ref a1), .val (.double (FP.i2d vv)), .second, .val (.int (0 : Int32)), .val (.int (1 : Int32)), .val (.int (0 : Int32))] [(.double (FP.i2d vv)), (.double (FP.i2d u0))])
    refine Go.step (fun _ k => XS.dcmpS X0.here hx rfl (hb hby own_f32) rfl rfl k) ?_
    show Go p e below _ s₁ (mkF m 26 #[.val (.ref a1), .val (.double (FP.i2d vv)), .second, .val (.int (0 : Int32)), .val (.int (1 : Int32)), .val (.int (0 : Int32))] [(.int (cmpValue (FP.dcmp (FP.i2d u0) (FP.i2d vv)) .l))])
    by_cases hv26_11 : vv < u0
    · show Go p e below _ s₁ (mkF m 26 #[.val (.ref a1), .val (.double (FP.i2d vv)), .second, .val (.int (0 : Int32)), .val (.int (1 : Int32)), .val (.int (0 : Int32))] [(.int (cmpValue (FP.dcmp (FP.i2d u0) (FP.i2d vv)) .l))])
      refine Go.step (fun _ k => XS.ifNo X0.here hx rfl (hb hby own_f33) rfl ((if0 _ _).trans (tlt ((own_cmpi u0 vv).mpr hv26_11)).2.2.2) k) ?_
      show Go p e below _ s₁ (mkF m 29 #[.val (.ref a1), .val (.double (FP.i2d vv)), .second, .val (.int (0 : Int32)), .val (.int (1 : Int32)), .val (.int (0 : Int32))] [])
      refine Go.step (fun _ k => XS.iload X0.here hx rfl (hb hby own_f34) rfl k) ?_
      show Go p e below _ s₁ (mkF m 31 #[.val (.ref a1), .val (.double (FP.i2d vv)), .second, .val (.int (0 : Int32)), .val (.int (1 : Int32)), .val (.int (0 : Int32))] [(.int (0 : Int32))])
      refine Go.step (fun _ k => XS.istore X0.here hx rfl (hb hby own_f35) rfl (l' := #[.val (.ref a1), .val (.double (FP.i2d vv)), .second, .val (.int (0 : Int32)), .val (.int (0 : Int32)), .val (.int (0 : Int32))]) rfl k) ?_
      show Go p e below _ s₁ (mkF m 33 #[.val (.ref a1), .val (.double (FP.i2d vv)), .second, .val (.int (0 : Int32)), .val (.int (0 : Int32)), .val (.int (0 : Int32))] [])
      refine Go.step (fun _ k => XS.goto X0.here hx rfl (pc0 := 33) (pc' := 41) rfl (hb hby own_f36) (by decide) (by decide) k) ?_
      show Go p e below _ s₁ (mkF m 41 #[.val (.ref a1), .val (.double (FP.i2d vv)), .second, .val (.int (0 : Int32)), .val (.int (0 : Int32)), .val (.int (0 : Int32))] [])
      refine Go.step (fun _ k => XS.goto X0.here hx rfl (pc0 := 41) (pc' := 6) rfl (hb hby own_f37) (by decide) (by decide) k) ?_
      show Go p e below _ s₁ (mkF m 6 #[.val (.ref a1), .val (.double (FP.i2d vv)), .second, .val (.int (0 : Int32)), .val (.int (0 : Int32)), .val (.int (0 : Int32))] [])
      refine Go.step (fun _ k => XS.iloadN X0.here hx rfl (hb hby own_f16) rfl k) ?_
      show Go p e below _ s₁ (mkF m 7 #[.val (.ref a1), .val (.double (FP.i2d vv)), .second, .val (.int (0 : Int32)), .val (.int (0 : Int32)), .val (.int (0 : Int32))] [(.int (0 : Int32))])
      refine Go.step (fun _ k => XS.iload X0.here hx rfl (hb hby own_f17) rfl k) ?_
      show Go p e below _ s₁ (mkF m 9 #[.val (.ref a1), .val (.double (FP.i2d vv)), .second, .val (.int (0 : Int32)), .val (.int (0 : Int32)), .val (.int (0 : Int32))] [(.int (0 : Int32)), (.int (0 : Int32))])
      refine Go.step (fun _ k => XS.icmpYes X0.here hx rfl (pc0 := 9) (pc' := 44) rfl (hb hby own_f18) rfl (flt (by decide)).2.1 (by decide) (by decide) k) ?_
      show Go p e below _ s₁ (mkF m 44 #[.val (.ref a1), .val (.double (FP.i2d vv)), .second, .val (.int (0 : Int32)), .val (.int (0 : Int32)), .val (.int (0 : Int32))] [])
      refine Go.step (fun _ k => XS.iloadN X0.here hx rfl (hb hby own_f19) rfl k) ?_
      show Go p e below _ s₁ (mkF m 45 #[.val (.ref a1), .val (.double (FP.i2d vv)), .second, .val (.int (0 : Int32)), .val (.int (0 : Int32)), .val (.int (0 : Int32))] [(.int (0 : Int32))])
      have er : (own_c2 u0 u1 vv) = (0 : Int32) := by simp [own_c2, hv26_9, hv26_11]
      obtain ⟨fs, hr, hrun, hended, hW, hsame⟩ := X0.leave (v := some (.int (0 : Int32))) (fun h => by rw [Bd.returns] at h; cases h)
      refine Go.fin (retI X0 hx Bd.returns (hb hby own_f20) hr) hrun hended ?_
      refine ⟨_, _, rfl, ?_, ⟨_, rfl⟩, hW, hsame.mono (by decide) (by decide)⟩
      show QK2 Z a1 (FP.i2d vv) kk vv u0 u1 h0 n0 _ s₁.heap _
      rw [e0]
      exact ⟨by rw [er], N0, rfl⟩
    · show Go p e below _ s₁ (mkF m 26 #[.val (.ref a1), .val (.double (FP.i2d vv)), .second, .val (.int (0 : Int32)), .val (.int (1 : Int32)), .val (.int (0 : Int32))] [(.int (cmpValue (FP.dcmp (FP.i2d u0) (FP.i2d vv)) .l))])
      refine Go.step (fun _ k => XS.ifYes X0.here hx rfl (pc0 := 26) (pc' := 36) rfl (hb hby own_f33) rfl ((if0 _ _).trans (flt (fun q => hv26_11 ((own_cmpi u0 vv).mp q))).2.2.2) (by decide) (by decide) k) ?_
      show Go p e below _ s₁ (mkF m 36 #[.val (.ref a1), .val (.double (FP.i2d vv)), .second, .val (.int (0 : Int32)), .val (.int (1 : Int32)), .val (.int (0 : Int32))] [])
      refine Go.step (fun _ k => XS.iload X0.here hx rfl (hb hby own_f38) rfl k) ?_
      show Go p e below _ s₁ (mkF m 38 #[.val (.ref a1), .val (.double (FP.i2d vv)), .second, .val (.int (0 : Int32)), .val (.int (1 : Int32)), .val (.int (0 : Int32))] [(.int (0 : Int32))])
      refine Go.step (fun _ k => XS.iconst X0.here hx rfl (hb hby own_f39) k) ?_
      show Go p e below _ s₁ (mkF m 39 #[.val (.ref a1), .val (.double (FP.i2d vv)), .second, .val (.int (0 : Int32)), .val (.int (1 : Int32)), .val (.int (0 : Int32))] [(.int (1 : Int32)), (.int (0 : Int32))])
      refine Go.step (fun _ k => XS.iadd X0.here hx rfl (hb hby own_f40) rfl k) ?_
      show Go p e below _ s₁ (mkF m 40 #[.val (.ref a1), .val (.double (FP.i2d vv)), .second, .val (.int (0 : Int32)), .val (.int (1 : Int32)), .val (.int (0 : Int32))] [(.int ((0 : Int32) + (1 : Int32)))])
      show Go p e below _ s₁ (mkF m 40 #[.val (.ref a1), .val (.double (FP.i2d vv)), .second, .val (.int (0 : Int32)), .val (.int (1 : Int32)), .val (.int (0 : Int32))] [(.int (1 : Int32))])
      refine Go.step (fun _ k => XS.istoreN X0.here hx rfl (hb hby own_f41) rfl (l' := #[.val (.ref a1), .val (.double (FP.i2d vv)), .second, .val (.int (1 : Int32)), .val (.int (1 : Int32)), .val (.int (0 : Int32))]) rfl k) ?_
      show Go p e below _ s₁ (mkF m 41 #[.val (.ref a1), .val (.double (FP.i2d vv)), .second, .val (.int (1 : Int32)), .val (.int (1 : Int32)), .val (.int (0 : Int32))] [])
      refine Go.step (fun _ k => XS.goto X0.here hx rfl (pc0 := 41) (pc' := 6) rfl (hb hby own_f37) (by decide) (by decide) k) ?_
      show Go p e below _ s₁ (mkF m 6 #[.val (.ref a1), .val (.double (FP.i2d vv)), .second, .val (.int (1 : Int32)), .val (.int (1 : Int32)), .val (.int (0 : Int32))] [])
      refine Go.step (fun _ k => XS.iloadN X0.here hx rfl (hb hby own_f16) rfl k) ?_
      show Go p e below _ s₁ (mkF m 7 #[.val (.ref a1), .val (.double (FP.i2d vv)), .second, .val (.int (1 : Int32)), .val (.int (1 : Int32)), .val (.int (0 : Int32))] [(.int (1 : Int32))])
      refine Go.step (fun _ k => XS.iload X0.here hx rfl (hb hby own_f17) rfl k) ?_
      show Go p e below _ s₁ (mkF m 9 #[.val (.ref a1), .val (.double (FP.i2d vv)), .second, .val (.int (1 : Int32)), .val (.int (1 : Int32)), .val (.int (0 : Int32))] [(.int (1 : Int32)), (.int (1 : Int32))])
      refine Go.step (fun _ k => XS.icmpYes X0.here hx rfl (pc0 := 9) (pc' := 44) rfl (hb hby own_f18) rfl (flt (by decide)).2.1 (by decide) (by decide) k) ?_
      show Go p e below _ s₁ (mkF m 44 #[.val (.ref a1), .val (.double (FP.i2d vv)), .second, .val (.int (1 : Int32)), .val (.int (1 : Int32)), .val (.int (0 : Int32))] [])
      refine Go.step (fun _ k => XS.iloadN X0.here hx rfl (hb hby own_f19) rfl k) ?_
      show Go p e below _ s₁ (mkF m 45 #[.val (.ref a1), .val (.double (FP.i2d vv)), .second, .val (.int (1 : Int32)), .val (.int (1 : Int32)), .val (.int (0 : Int32))] [(.int (1 : Int32))])
      have er : (own_c2 u0 u1 vv) = (1 : Int32) := by simp [own_c2, hv26_9, hv26_11]
      obtain ⟨fs, hr, hrun, hended, hW, hsame⟩ := X0.leave (v := some (.int (1 : Int32))) (fun h => by rw [Bd.returns] at h; cases h)
      refine Go.fin (retI X0 hx Bd.returns (hb hby own_f20) hr) hrun hended ?_
      refine ⟨_, _, rfl, ?_, ⟨_, rfl⟩, hW, hsame.mono (by decide) (by decide)⟩
      show QK2 Z a1 (FP.i2d vv) kk vv u0 u1 h0 n0 _ s₁.heap _
      rw [e0]
      exact ⟨by rw [er], N0, rfl⟩
  · show Go p e below _ s₁ (mkF m 26 #[.val (.ref a1), .val (.double (FP.i2d vv)), .second, .val (.int (0 : Int32)), .val (.int (2 : Int32)), .val (.int (1 : Int32))] [(.int (cmpValue (FP.dcmp (FP.i2d u1) (FP.i2d vv)) .l))])
    refine Go.step (fun _ k => XS.ifYes X0.here hx rfl (pc0 := 26) (pc' := 36) rfl (hb hby own_f33) rfl ((if0 _ _).trans (flt (fun q => hv26_9 ((own_cmpi u1 vv).mp q))).2.2.2) (by decide) (by decide) k) ?_
    show Go p e below _ s₁ (mkF m 36 #[.val (.ref a1), .val (.double (FP.i2d vv)), .second, .val (.int (0 : Int32)), .val (.int (2 : Int32)), .val (.int (1 : Int32))] [])
    refine Go.step (fun _ k => XS.iload X0.here hx rfl (hb hby own_f38) rfl k) ?_
    show Go p e below _ s₁ (mkF m 38 #[.val (.ref a1), .val (.double (FP.i2d vv)), .second, .val (.int (0 : Int32)), .val (.int (2 : Int32)), .val (.int (1 : Int32))] [(.int (1 : Int32))])
    refine Go.step (fun _ k => XS.iconst X0.here hx rfl (hb hby own_f39) k) ?_
    show Go p e below _ s₁ (mkF m 39 #[.val (.ref a1), .val (.double (FP.i2d vv)), .second, .val (.int (0 : Int32)), .val (.int (2 : Int32)), .val (.int (1 : Int32))] [(.int (1 : Int32)), (.int (1 : Int32))])
    refine Go.step (fun _ k => XS.iadd X0.here hx rfl (hb hby own_f40) rfl k) ?_
    show Go p e below _ s₁ (mkF m 40 #[.val (.ref a1), .val (.double (FP.i2d vv)), .second, .val (.int (0 : Int32)), .val (.int (2 : Int32)), .val (.int (1 : Int32))] [(.int ((1 : Int32) + (1 : Int32)))])
    show Go p e below _ s₁ (mkF m 40 #[.val (.ref a1), .val (.double (FP.i2d vv)), .second, .val (.int (0 : Int32)), .val (.int (2 : Int32)), .val (.int (1 : Int32))] [(.int (2 : Int32))])
    refine Go.step (fun _ k => XS.istoreN X0.here hx rfl (hb hby own_f41) rfl (l' := #[.val (.ref a1), .val (.double (FP.i2d vv)), .second, .val (.int (2 : Int32)), .val (.int (2 : Int32)), .val (.int (1 : Int32))]) rfl k) ?_
    show Go p e below _ s₁ (mkF m 41 #[.val (.ref a1), .val (.double (FP.i2d vv)), .second, .val (.int (2 : Int32)), .val (.int (2 : Int32)), .val (.int (1 : Int32))] [])
    refine Go.step (fun _ k => XS.goto X0.here hx rfl (pc0 := 41) (pc' := 6) rfl (hb hby own_f37) (by decide) (by decide) k) ?_
    show Go p e below _ s₁ (mkF m 6 #[.val (.ref a1), .val (.double (FP.i2d vv)), .second, .val (.int (2 : Int32)), .val (.int (2 : Int32)), .val (.int (1 : Int32))] [])
    refine Go.step (fun _ k => XS.iloadN X0.here hx rfl (hb hby own_f16) rfl k) ?_
    show Go p e below _ s₁ (mkF m 7 #[.val (.ref a1), .val (.double (FP.i2d vv)), .second, .val (.int (2 : Int32)), .val (.int (2 : Int32)), .val (.int (1 : Int32))] [(.int (2 : Int32))])
    refine Go.step (fun _ k => XS.iload X0.here hx rfl (hb hby own_f17) rfl k) ?_
    show Go p e below _ s₁ (mkF m 9 #[.val (.ref a1), .val (.double (FP.i2d vv)), .second, .val (.int (2 : Int32)), .val (.int (2 : Int32)), .val (.int (1 : Int32))] [(.int (2 : Int32)), (.int (2 : Int32))])
    refine Go.step (fun _ k => XS.icmpYes X0.here hx rfl (pc0 := 9) (pc' := 44) rfl (hb hby own_f18) rfl (flt (by decide)).2.1 (by decide) (by decide) k) ?_
    show Go p e below _ s₁ (mkF m 44 #[.val (.ref a1), .val (.double (FP.i2d vv)), .second, .val (.int (2 : Int32)), .val (.int (2 : Int32)), .val (.int (1 : Int32))] [])
    refine Go.step (fun _ k => XS.iloadN X0.here hx rfl (hb hby own_f19) rfl k) ?_
    show Go p e below _ s₁ (mkF m 45 #[.val (.ref a1), .val (.double (FP.i2d vv)), .second, .val (.int (2 : Int32)), .val (.int (2 : Int32)), .val (.int (1 : Int32))] [(.int (2 : Int32))])
    have er : (own_c2 u0 u1 vv) = (2 : Int32) := by simp [own_c2, hv26_9]
    obtain ⟨fs, hr, hrun, hended, hW, hsame⟩ := X0.leave (v := some (.int (2 : Int32))) (fun h => by rw [Bd.returns] at h; cases h)
    refine Go.fin (retI X0 hx Bd.returns (hb hby own_f20) hr) hrun hended ?_
    refine ⟨_, _, rfl, ?_, ⟨_, rfl⟩, hW, hsame.mono (by decide) (by decide)⟩
    show QK2 Z a1 (FP.i2d vv) kk vv u0 u1 h0 n0 _ s₁.heap _
    rw [e0]
    exact ⟨by rw [er], N0, rfl⟩
theorem own_ef_K3 (m : MethodId) (a1 : Addr) (d1 : UInt64) : entryFrame m #[(.ref a1), (.double d1)] 6 = mkF m 0 #[.val (.ref a1), .val (.double d1), .second, .unset, .unset, .unset] [] := by first | (simp [entryFrame, mkF, argsToLocals, Value.category]; done) | rfl
def QK3 (Z : State) (a1 : Addr) (d1 : UInt64) (kk : ClassId) (vv : Int32) (u0 : Int32) (u1 : Int32) (u2 : Int32) (h0 : Heap) (n0 : Nat) (v : Option Value) (h : Heap) (L : List Loc) : Prop := v = some (.int (own_c3 u0 u1 u2 vv)) ∧ Fr n0 L ∧ h = h0
set_option maxRecDepth 65536 in
set_option maxHeartbeats 40000000 in
theorem rmK3 (l : Launch) (Z : State) (a0 : Array Value) (hw : ∀ d ∈ tables_1, d.before a0 Z = true) (ws : List Jvm.Cond) (a1 : Addr) (d1 : UInt64) (kk : ClassId) (vv : Int32) (u0 : Int32) (u1 : Int32) (u2 : Int32) (h0 : Heap) (n0 : Nat) (Z0 : n0 ≤ h0.size) (V_a1 : Arv Z h0 a1 kk .double (3 : Int32) [(.double (FP.i2d u0)), (.double (FP.i2d u1)), (.double (FP.i2d u2))] (.double (FP.l2d 0))) (hd1 : d1 = FP.i2d vv) :
    MetFree l (⟨"com/example/bidkeel/bidkeel/Knapsack", "countUpTo", "([DD)I"⟩ : MethodName) (head1 (Jvm.Cond.code (⟨"com/example/bidkeel/bidkeel/Knapsack", "countUpTo", "([DD)I"⟩ : MethodName) prog_27_method_2_code 6 (some .int) :: ws) ({ frames := 0, cells := 0, slots := 0, locals := 0 } : Room)) (fun a U => a = #[(.ref a1), (.double d1)] ∧ Z.Warmed39 U.vm ∧ U.heap = h0) (fun _ _ _ _ _ => True) (fun _ U o U' => ∃ v L, o = .returned v ∧ QK3 Z a1 d1 kk vv u0 u1 u2 h0 n0 v U'.heap L ∧ FrameEnd U o U' L ({ frames := 0, cells := 0, slots := 0, locals := 0 } : Room).cells ({ frames := 0, cells := 0, slots := 0, locals := 0 } : Room).slots) := by
  refine MetFree.of_bodySF (plainFor_of_name own_f21) hisR ?_
  intro p e s m args below meth c s₁ Bd hml0 hP hK
  obtain ⟨rfl, hZ, hh⟩ := hP
  have hx := Bd.exec
  have hby := Bd.bytes
  have hml : c.maxLocals = 6 := hml0
  have hown : s.vm.findClass "com/example/bidkeel/bidkeel/Knapsack" = some m.cls := findClass_of_methodNamed Bd.named
  have hnm := (name_of_methodNamed Bd.named Bd.method).1
  have X0 : Stand p l e ({ frames := 0, cells := 0, slots := 0, locals := 0 } : Room) s m #[(.ref a1), (.double d1)] below meth c s₁ [] 0 0 := Stand.of_body Bd
  have e0 : s₁.heap = h0 := by rw [← hh, Bd.state]; rfl
  have N0 := Fr.nil n0
  refine Go.start (own_ef_K3 m a1 d1) ?_
  show Go p e below _ s₁ (mkF m 0 #[.val (.ref a1), .val (.double d1), .second, .unset, .unset, .unset] [])
  subst hd1
  show Go p e below _ s₁ (mkF m 0 #[.val (.ref a1), .val (.double (FP.i2d vv)), .second, .unset, .unset, .unset] [])
  refine Go.step (fun _ k => XS.iconst X0.here hx rfl (hb hby own_f11) k) ?_
  show Go p e below _ s₁ (mkF m 1 #[.val (.ref a1), .val (.double (FP.i2d vv)), .second, .unset, .unset, .unset] [(.int (0 : Int32))])
  refine Go.step (fun _ k => XS.istoreN X0.here hx rfl (hb hby own_f12) rfl (l' := #[.val (.ref a1), .val (.double (FP.i2d vv)), .second, .val (.int (0 : Int32)), .unset, .unset]) rfl k) ?_
  show Go p e below _ s₁ (mkF m 2 #[.val (.ref a1), .val (.double (FP.i2d vv)), .second, .val (.int (0 : Int32)), .unset, .unset] [])
  refine Go.step (fun _ k => XS.aloadN X0.here hx rfl (hb hby own_f13) rfl rfl k) ?_
  show Go p e below _ s₁ (mkF m 3 #[.val (.ref a1), .val (.double (FP.i2d vv)), .second, .val (.int (0 : Int32)), .unset, .unset] [(.ref a1)])
  obtain ⟨cl12, Ar12, q12, S12, Nn12, H12, G12⟩ := V_a1
  have V_a1 : Arv Z h0 a1 kk .double (3 : Int32) [(.double (FP.i2d u0)), (.double (FP.i2d u1)), (.double (FP.i2d u2))] (.double (FP.l2d 0)) := ⟨cl12, Ar12, q12, S12, Nn12, H12, G12⟩
  refine Go.step (X0.arraylength hx (by rw [e0]; exact Ar12.1) (State.isArrayOf_alike hZ.alike Ar12.2.1) (g := (mkF m 3 #[.val (.ref a1), .val (.double (FP.i2d vv)), .second, .val (.int (0 : Int32)), .unset, .unset] [(.ref a1)])) rfl rfl (hb hby own_f14)) ?_
  rw [len_of S12 Nn12]
  show Go p e below _ s₁ (mkF m 4 #[.val (.ref a1), .val (.double (FP.i2d vv)), .second, .val (.int (0 : Int32)), .unset, .unset] [(.int (3 : Int32))])
  refine Go.step (fun _ k => XS.istore X0.here hx rfl (hb hby own_f15) rfl (l' := #[.val (.ref a1), .val (.double (FP.i2d vv)), .second, .val (.int (0 : Int32)), .val (.int (3 : Int32)), .unset]) rfl k) ?_
  show Go p e below _ s₁ (mkF m 6 #[.val (.ref a1), .val (.double (FP.i2d vv)), .second, .val (.int (0 : Int32)), .val (.int (3 : Int32)), .unset] [])
  refine Go.step (fun _ k => XS.iloadN X0.here hx rfl (hb hby own_f16) rfl k) ?_
  show Go p e below _ s₁ (mkF m 7 #[.val (.ref a1), .val (.double (FP.i2d vv)), .second, .val (.int (0 : Int32)), .val (.int (3 : Int32)), .unset] [(.int (0 : Int32))])
  refine Go.step (fun _ k => XS.iload X0.here hx rfl (hb hby own_f17) rfl k) ?_
  show Go p e below _ s₁ (mkF m 9 #[.val (.ref a1), .val (.double (FP.i2d vv)), .second, .val (.int (0 : Int32)), .val (.int (3 : Int32)), .unset] [(.int (3 : Int32)), (.int (0 : Int32))])
  refine Go.step (fun _ k => XS.icmpNo X0.here hx rfl (hb hby own_f18) rfl (tlt (by decide)).2.1 k) ?_
  show Go p e below _ s₁ (mkF m 12 #[.val (.ref a1), .val (.double (FP.i2d vv)), .second, .val (.int (0 : Int32)), .val (.int (3 : Int32)), .unset] [])
  refine Go.step (fun _ k => XS.iloadN X0.here hx rfl (hb hby own_f22) rfl k) ?_
  show Go p e below _ s₁ (mkF m 13 #[.val (.ref a1), .val (.double (FP.i2d vv)), .second, .val (.int (0 : Int32)), .val (.int (3 : Int32)), .unset] [(.int (0 : Int32))])
  refine Go.step (fun _ k => XS.iload X0.here hx rfl (hb hby own_f23) rfl k) ?_
  show Go p e below _ s₁ (mkF m 15 #[.val (.ref a1), .val (.double (FP.i2d vv)), .second, .val (.int (0 : Int32)), .val (.int (3 : Int32)), .unset] [(.int (3 : Int32)), (.int (0 : Int32))])
  refine Go.step (fun _ k => XS.iadd X0.here hx rfl (hb hby own_f24) rfl k) ?_
  show Go p e below _ s₁ (mkF m 16 #[.val (.ref a1), .val (.double (FP.i2d vv)), .second, .val (.int (0 : Int32)), .val (.int (3 : Int32)), .unset] [(.int ((0 : Int32) + (3 : Int32)))])
  refine Go.step (fun _ k => XS.iconst X0.here hx rfl (hb hby own_f25) k) ?_
  show Go p e below _ s₁ (mkF m 17 #[.val (.ref a1), .val (.double (FP.i2d vv)), .second, .val (.int (0 : Int32)), .val (.int (3 : Int32)), .unset] [(.int (1 : Int32)), (.int ((0 : Int32) + (3 : Int32)))])
  refine Go.step (fun _ k => XS.iushr X0.here hx rfl (hb hby own_f26) rfl k) ?_
  show Go p e below _ s₁ (mkF m 18 #[.val (.ref a1), .val (.double (FP.i2d vv)), .second, .val (.int (0 : Int32)), .val (.int (3 : Int32)), .unset] [(.int ((((0 : Int32) + (3 : Int32)).toUInt32 >>> ((1 : Int32) &&& 31).toUInt32).toInt32))])
  show Go p e below _ s₁ (mkF m 18 #[.val (.ref a1), .val (.double (FP.i2d vv)), .second, .val (.int (0 : Int32)), .val (.int (3 : Int32)), .unset] [(.int (1 : Int32))])
  refine Go.step (fun _ k => XS.istore X0.here hx rfl (hb hby own_f27) rfl (l' := #[.val (.ref a1), .val (.double (FP.i2d vv)), .second, .val (.int (0 : Int32)), .val (.int (3 : Int32)), .val (.int (1 : Int32))]) rfl k) ?_
  show Go p e below _ s₁ (mkF m 20 #[.val (.ref a1), .val (.double (FP.i2d vv)), .second, .val (.int (0 : Int32)), .val (.int (3 : Int32)), .val (.int (1 : Int32))] [])
  refine Go.step (fun _ k => XS.aloadN X0.here hx rfl (hb hby own_f28) rfl rfl k) ?_
  show Go p e below _ s₁ (mkF m 21 #[.val (.ref a1), .val (.double (FP.i2d vv)), .second, .val (.int (0 : Int32)), .val (.int (3 : Int32)), .val (.int (1 : Int32))] [(.ref a1)])
  refine Go.step (fun _ k => XS.iload X0.here hx rfl (hb hby own_f29) rfl k) ?_
  show Go p e below _ s₁ (mkF m 23 #[.val (.ref a1), .val (.double (FP.i2d vv)), .second, .val (.int (0 : Int32)), .val (.int (3 : Int32)), .val (.int (1 : Int32))] [(.int (1 : Int32)), (.ref a1)])
  obtain ⟨cl13, Ar13, q13, S13, Nn13, H13, G13⟩ := V_a1
  have V_a1 : Arv Z h0 a1 kk .double (3 : Int32) [(.double (FP.i2d u0)), (.double (FP.i2d u1)), (.double (FP.i2d u2))] (.double (FP.l2d 0)) := ⟨cl13, Ar13, q13, S13, Nn13, H13, G13⟩
  have hin13 : ¬ ((1 : Int32) < 0 ∨ cl13.slots.size ≤ ((1 : Int32)).toNatClampNeg) := inb_of S13 ⟨by decide, by decide⟩
  have hat13 : cl13.slots[((1 : Int32)).toNatClampNeg]? = some (.double (FP.i2d u1)) := Has.at H13 hin13 rfl
  refine Go.step (X0.daload hx (j := (1 : Int32)) (v := (.double (FP.i2d u1))) (by rw [e0]; exact Ar13.1) (State.isArrayOf_alike hZ.alike Ar13.2.1) Ar13.2.2 hin13 hat13 (g := (mkF m 23 #[.val (.ref a1), .val (.double (FP.i2d vv)), .second, .val (.int (0 : Int32)), .val (.int (3 : Int32)), .val (.int (1 : Int32))] [(.int (1 : Int32)), (.ref a1)])) rfl rfl (hb hby own_f30)) ?_
  show Go p e below _ s₁ (mkF m 24 #[.val (.ref a1), .val (.double (FP.i2d vv)), .second, .val (.int (0 : Int32)), .val (.int (3 : Int32)), .val (.int (1 : Int32))] [(.double (FP.i2d u1))])
  refine Go.step (fun _ k => XS.dloadN X0.here hx rfl (hb hby own_f31) rfl k) ?_
  show Go p e below _ s₁ (mkF m 25 #[.val (.ref a1), .val (.double (FP.i2d vv)), .second, .val (.int (0 : Int32)), .val (.int (3 : Int32)), .val (.int (1 : Int32))] [(.double (FP.i2d vv)), (.double (FP.i2d u1))])
  refine Go.step (fun _ k => XS.dcmpS X0.here hx rfl (hb hby own_f32) rfl rfl k) ?_
  show Go p e below _ s₁ (mkF m 26 #[.val (.ref a1), .val (.double (FP.i2d vv)), .second, .val (.int (0 : Int32)), .val (.int (3 : Int32)), .val (.int (1 : Int32))] [(.int (cmpValue (FP.dcmp (FP.i2d u1) (FP.i2d vv)) .l))])
  by_cases hv26_14 : vv < u1
  · show Go p e below _ s₁ (mkF m 26 #[.val (.ref a1), .val (.double (FP.i2d vv)), .second, .val (.int (0 : Int32)), .val (.int (3 : Int32)), .val (.int (1 : Int32))] [(.int (cmpValue (FP.dcmp (FP.i2d u1) (FP.i2d vv)) .l))])
    refine Go.step (fun _ k => XS.ifNo X0.here hx rfl (hb hby own_f33) rfl ((if0 _ _).trans (tlt ((own_cmpi u1 vv).mpr hv26_14)).2.2.2) k) ?_
    show Go p e below _ s₁ (mkF m 29 #[.val (.ref a1), .val (.double (FP.i2d vv)), .second, .val (.int (0 : Int32)), .val (.int (3 : Int32)), .val (.int (1 : Int32))] [])
    refine Go.step (fun _ k => XS.iload X0.here hx rfl (hb hby own_f34) rfl k) ?_
    show Go p e below _ s₁ (mkF m 31 #[.val (.ref a1), .val (.double (FP.i2d vv)), .second, .val (.int (0 : Int32)), .val (.int (3 : Int32)), .val (.int (1 : Int32))] [(.int (1 : Int32))])
    refine Go.step (fun _ k => XS.istore X0.here hx rfl (hb hby own_f35) rfl (l' := #[.val (.ref a1), .val (.double (FP.i2d vv)), .second, .val (.int (0 : Int32)), .val (.int (1 : Int32)), .val (.int (1 : Int32))]) rfl k) ?_
    show Go p e below _ s₁ (mkF m 33 #[.val (.ref a1), .val (.double (FP.i2d vv)), .second, .val (.int (0 : Int32)), .val (.int (1 : Int32)), .val (.int (1 : Int32))] [])
    refine Go.step (fun _ k => XS.goto X0.here hx rfl (pc0 := 33) (pc' := 41) rfl (hb hby own_f36) (by decide) (by decide) k) ?_
    show Go p e below _ s₁ (mkF m 41 #[.val (.ref a1), .val (.double (FP.i2d vv)), .second, .val (.int (0 : Int32)), .val (.int (1 : Int32)), .val (.int (1 : Int32))] [])
    refine Go.step (fun _ k => XS.goto X0.here hx rfl (pc0 := 41) (pc' := 6) rfl (hb hby own_f37) (by decide) (by decide) k) ?_
    show Go p e below _ s₁ (mkF m 6 #[.val (.ref a1), .val (.double (FP.i2d vv)), .second, .val (.int (0 : Int32)), .val (.int (1 : Int32)), .val (.int (1 : Int32))] [])
    refine Go.step (fun _ k => XS.iloadN X0.here hx rfl (hb hby own_f16) rfl k) ?_
    show Go p e below _ s₁ (mkF m 7 #[.val (.ref a1), .val (.double (FP.i2d vv)), .second, .val (.int (0 : Int32)), .val (.int (1 : Int32)), .val (.int (1 : Int32))] [(.int (0 : Int32))])
    refine Go.step (fun _ k => XS.iload X0.here hx rfl (hb hby own_f17) rfl k) ?_
    show Go p e below _ s₁ (mkF m 9 #[.val (.ref a1), .val (.double (FP.i2d vv)), .second, .val (.int (0 : Int32)), .val (.int (1 : Int32)), .val (.int (1 : Int32))] [(.int (1 : Int32)), (.int (0 : Int32))])
    refine Go.step (fun _ k => XS.icmpNo X0.here hx rfl (hb hby own_f18) rfl (tlt (by decide)).2.1 k) ?_
    show Go p e below _ s₁ (mkF m 12 #[.val (.ref a1), .val (.double (FP.i2d vv)), .second, .val (.int (0 : Int32)), .val (.int (1 : Int32)), .val (.int (1 : Int32))] [])
    refine Go.step (fun _ k => XS.iloadN X0.here hx rfl (hb hby own_f22) rfl k) ?_
    show Go p e below _ s₁ (mkF m 13 #[.val (.ref a1), .val (.double (FP.i2d vv)), .second, .val (.int (0 : Int32)), .val (.int (1 : Int32)), .val (.int (1 : Int32))] [(.int (0 : Int32))])
    refine Go.step (fun _ k => XS.iload X0.here hx rfl (hb hby own_f23) rfl k) ?_
    show Go p e below _ s₁ (mkF m 15 #[.val (.ref a1), .val (.double (FP.i2d vv)), .second, .val (.int (0 : Int32)), .val (.int (1 : Int32)), .val (.int (1 : Int32))] [(.int (1 : Int32)), (.int (0 : Int32))])
    refine Go.step (fun _ k => XS.iadd X0.here hx rfl (hb hby own_f24) rfl k) ?_
    show Go p e below _ s₁ (mkF m 16 #[.val (.ref a1), .val (.double (FP.i2d vv)), .second, .val (.int (0 : Int32)), .val (.int (1 : Int32)), .val (.int (1 : Int32))] [(.int ((0 : Int32) + (1 : Int32)))])
    refine Go.step (fun _ k => XS.iconst X0.here hx rfl (hb hby own_f25) k) ?_
    show Go p e below _ s₁ (mkF m 17 #[.val (.ref a1), .val (.double (FP.i2d vv)), .second, .val (.int (0 : Int32)), .val (.int (1 : Int32)), .val (.int (1 : Int32))] [(.int (1 : Int32)), (.int ((0 : Int32) + (1 : Int32)))])
    refine Go.step (fun _ k => XS.iushr X0.here hx rfl (hb hby own_f26) rfl k) ?_
    show Go p e below _ s₁ (mkF m 18 #[.val (.ref a1), .val (.double (FP.i2d vv)), .second, .val (.int (0 : Int32)), .val (.int (1 : Int32)), .val (.int (1 : Int32))] [(.int ((((0 : Int32) + (1 : Int32)).toUInt32 >>> ((1 : Int32) &&& 31).toUInt32).toInt32))])
    show Go p e below _ s₁ (mkF m 18 #[.val (.ref a1), .val (.double (FP.i2d vv)), .second, .val (.int (0 : Int32)), .val (.int (1 : Int32)), .val (.int (1 : Int32))] [(.int (0 : Int32))])
    refine Go.step (fun _ k => XS.istore X0.here hx rfl (hb hby own_f27) rfl (l' := #[.val (.ref a1), .val (.double (FP.i2d vv)), .second, .val (.int (0 : Int32)), .val (.int (1 : Int32)), .val (.int (0 : Int32))]) rfl k) ?_
    show Go p e below _ s₁ (mkF m 20 #[.val (.ref a1), .val (.double (FP.i2d vv)), .second, .val (.int (0 : Int32)), .val (.int (1 : Int32)), .val (.int (0 : Int32))] [])
    refine Go.step (fun _ k => XS.aloadN X0.here hx rfl (hb hby own_f28) rfl rfl k) ?_
    show Go p e below _ s₁ (mkF m 21 #[.val (.ref a1), .val (.double (FP.i2d vv)), .second, .val (.int (0 : Int32)), .val (.int (1 : Int32)), .val (.int (0 : Int32))] [(.ref a1)])
    refine Go.step (fun _ k => XS.iload X0.here hx rfl (hb hby own_f29) rfl k) ?_
    show Go p e below _ s₁ (mkF m 23 #[.val (.ref a1), .val (.double (FP.i2d vv)), .second, .val (.int (0 : Int32)), .val (.int (1 : Int32)), .val (.int (0 : Int32))] [(.int (0 : Int32)), (.ref a1)])
    obtain ⟨cl15, Ar15, q15, S15, Nn15, H15, G15⟩ := V_a1
    have V_a1 : Arv Z h0 a1 kk .double (3 : Int32) [(.double (FP.i2d u0)), (.double (FP.i2d u1)), (.double (FP.i2d u2))] (.double (FP.l2d 0)) := ⟨cl15, Ar15, q15, S15, Nn15, H15, G15⟩
    have hin15 : ¬ ((0 : Int32) < 0 ∨ cl15.slots.size ≤ ((0 : Int32)).toNatClampNeg) := inb_of S15 ⟨by decide, by decide⟩
    have hat15 : cl15.slots[((0 : Int32)).toNatClampNeg]? = some (.double (FP.i2d u0)) := Has.at H15 hin15 rfl
    refine Go.step (X0.daload hx (j := (0 : Int32)) (v := (.double (FP.i2d u0))) (by rw [e0]; exact Ar15.1) (State.isArrayOf_alike hZ.alike Ar15.2.1) Ar15.2.2 hin15 hat15 (g := (mkF m 23 #[.val (.ref a1), .val (.double (FP.i2d vv)), .second, .val (.int (0 : Int32)), .val (.int (1 : Int32)), .val (.int (0 : Int32))] [(.int (0 : Int32)), (.ref a1)])) rfl rfl (hb hby own_f30)) ?_
    show Go p e below _ s₁ (mkF m 24 #[.val (.ref a1), .val (.double (FP.i2d vv)), .second, .val (.int (0 : Int32)), .val (.int (1 : Int32)), .val (.int (0 : Int32))] [(.double (FP.i2d u0))])
    refine Go.step (fun _ k => XS.dloadN X0.here hx rfl (hb hby own_f31) rfl k) ?_
    show Go p e below _ s₁ (mkF m 25 #[.val (.ref a1), .val (.double (FP.i2d vv)), .second, .val (.int (0 : Int32)), .val (.int (1 : Int32)), .val (.int (0 : Int32))] [(.double (FP.i2d vv)), (.double (FP.i2d u0))])
    refine Go.step (fun _ k => XS.dcmpS X0.here hx rfl (hb hby own_f32) rfl rfl k) ?_
    show Go p e below _ s₁ (mkF m 26 #[.val (.ref a1), .val (.double (FP.i2d vv)), .second, .val (.int (0 : Int32)), .val (.int (1 : Int32)), .val (.int (0 : Int32))] [(.int (cmpValue (FP.dcmp (FP.i2d u0) (FP.i2d vv)) .l))])
    by_cases hv26_16 : vv < u0
    · show Go p e below _ s₁ (mkF m 26 #[.val (.ref a1), .val (.double (FP.i2d vv)), .second, .val (.int (0 : Int32)), .val (.int (1 : Int32)), .val (.int (0 : Int32))] [(.int (cmpValue (FP.dcmp (FP.i2d u0) (FP.i2d vv)) .l))])
      refine Go.step (fun _ k => XS.ifNo X0.here hx rfl (hb hby own_f33) rfl ((if0 _ _).trans (tlt ((own_cmpi u0 vv).mpr hv26_16)).2.2.2) k) ?_
      show Go p e below _ s₁ (mkF m 29 #[.val (.ref a1), .val (.double (FP.i2d vv)), .second, .val (.int (0 : Int32)), .val (.int (1 : Int32)), .val (.int (0 : Int32))] [])
      refine Go.step (fun _ k => XS.iload X0.here hx rfl (hb hby own_f34) rfl k) ?_
      show Go p e below _ s₁ (mkF m 31 #[.val (.ref a1), .val (.double (FP.i2d vv)), .second, .val (.int (0 : Int32)), .val (.int (1 : Int32)), .val (.int (0 : Int32))] [(.int (0 : Int32))])
      refine Go.step (fun _ k => XS.istore X0.here hx rfl (hb hby own_f35) rfl (l' := #[.val (.ref a1), .val (.double (FP.i2d vv)), .second, .val (.int (0 : Int32)), .val (.int (0 : Int32)), .val (.int (0 : Int32))]) rfl k) ?_
      show Go p e below _ s₁ (mkF m 33 #[.val (.ref a1), .val (.double (FP.i2d vv)), .second, .val (.int (0 : Int32)), .val (.int (0 : Int32)), .val (.int (0 : Int32))] [])
      refine Go.step (fun _ k => XS.goto X0.here hx rfl (pc0 := 33) (pc' := 41) rfl (hb hby own_f36) (by decide) (by decide) k) ?_
      show Go p e below _ s₁ (mkF m 41 #[.val (.ref a1), .val (.double (FP.i2d vv)), .second, .val (.int (0 : Int32)), .val (.int (0 : Int32)), .val (.int (0 : Int32))] [])
      refine Go.step (fun _ k => XS.goto X0.here hx rfl (pc0 := 41) (pc' := 6) rfl (hb hby own_f37) (by decide) (by decide) k) ?_
      show Go p e below _ s₁ (mkF m 6 #[.val (.ref a1), .val (.double (FP.i2d vv)), .second, .val (.int (0 : Int32)), .val (.int (0 : Int32)), .val (.int (0 : Int32))] [])
      refine Go.step (fun _ k => XS.iloadN X0.here hx rfl (hb hby own_f16) rfl k) ?_
      show Go p e below _ s₁ (mkF m 7 #[.val (.ref a1), .val (.double (FP.i2d vv)), .second, .val (.int (0 : Int32)), .val (.int (0 : Int32)), .val (.int (0 : Int32))] [(.int (0 : Int32))])
      refine Go.step (fun _ k => XS.iload X0.here hx rfl (hb hby own_f17) rfl k) ?_
      show Go p e below _ s₁ (mkF m 9 #[.val (.ref a1), .val (.double (FP.i2d vv)), .second, .val (.int (0 : Int32)), .val (.int (0 : Int32)), .val (.int (0 : Int32))] [(.int (0 : Int32)), (.int (0 : Int32))])
      refine Go.step (fun _ k => XS.icmpYes X0.here hx rfl (pc0 := 9) (pc' := 44) rfl (hb hby own_f18) rfl (flt (by decide)).2.1 (by decide) (by decide) k) ?_
      show Go p e below _ s₁ (mkF m 44 #[.val (.ref a1), .val (.double (FP.i2d vv)), .second, .val (.int (0 : Int32)), .val (.int (0 : Int32)), .val (.int (0 : Int32))] [])
      refine Go.step (fun _ k => XS.iloadN X0.here hx rfl (hb hby own_f19) rfl k) ?_
      show Go p e below _ s₁ (mkF m 45 #[.val (.ref a1), .val (.double (FP.i2d vv)), .second, .val (.int (0 : Int32)), .val (.int (0 : Int32)), .val (.int (0 : Int32))] [(.int (0 : Int32))])
      have er : (own_c3 u0 u1 u2 vv) = (0 : Int32) := by simp [own_c3, hv26_14, hv26_16]
      obtain ⟨fs, hr, hrun, hended, hW, hsame⟩ := X0.leave (v := some (.int (0 : Int32))) (fun h => by rw [Bd.returns] at h; cases h)
      refine Go.fin (retI X0 hx Bd.returns (hb hby own_f20) hr) hrun hended ?_
      refine ⟨_, _, rfl, ?_, ⟨_, rfl⟩, hW, hsame.mono (by decide) (by decide)⟩
      show QK3 Z a1 (FP.i2d vv) kk vv u0 u1 u2 h0 n0 _ s₁.heap _
      rw [e0]
      exact ⟨by rw [er], N0, rfl⟩
    · show Go p e below _ s₁ (mkF m 26 #[.val (.ref a1), .val (.double (FP.i2d vv)), .second, .val (.int (0 : Int32)), .val (.int (1 : Int32)), .val (.int (0 : Int32))] [(.int (cmpValue (FP.dcmp (FP.i2d u0) (FP.i2d vv)) .l))])
      refine Go.step (fun _ k => XS.ifYes X0.here hx rfl (pc0 := 26) (pc' := 36) rfl (hb hby own_f33) rfl ((if0 _ _).trans (flt (fun q => hv26_16 ((own_cmpi u0 vv).mp q))).2.2.2) (by decide) (by decide) k) ?_
      show Go p e below _ s₁ (mkF m 36 #[.val (.ref a1), .val (.double (FP.i2d vv)), .second, .val (.int (0 : Int32)), .val (.int (1 : Int32)), .val (.int (0 : Int32))] [])
      refine Go.step (fun _ k => XS.iload X0.here hx rfl (hb hby own_f38) rfl k) ?_
      show Go p e below _ s₁ (mkF m 38 #[.val (.ref a1), .val (.double (FP.i2d vv)), .second, .val (.int (0 : Int32)), .val (.int (1 : Int32)), .val (.int (0 : Int32))] [(.int (0 : Int32))])
      refine Go.step (fun _ k => XS.iconst X0.here hx rfl (hb hby own_f39) k) ?_
      show Go p e below _ s₁ (mkF m 39 #[.val (.ref a1), .val (.double (FP.i2d vv)), .second, .val (.int (0 : Int32)), .val (.int (1 : Int32)), .val (.int (0 : Int32))] [(.int (1 : Int32)), (.int (0 : Int32))])
      refine Go.step (fun _ k => XS.iadd X0.here hx rfl (hb hby own_f40) rfl k) ?_
      show Go p e below _ s₁ (mkF m 40 #[.val (.ref a1), .val (.double (FP.i2d vv)), .second, .val (.int (0 : Int32)), .val (.int (1 : Int32)), .val (.int (0 : Int32))] [(.int ((0 : Int32) + (1 : Int32)))])
      show Go p e below _ s₁ (mkF m 40 #[.val (.ref a1), .val (.double (FP.i2d vv)), .second, .val (.int (0 : Int32)), .val (.int (1 : Int32)), .val (.int (0 : Int32))] [(.int (1 : Int32))])
      refine Go.step (fun _ k => XS.istoreN X0.here hx rfl (hb hby own_f41) rfl (l' := #[.val (.ref a1), .val (.double (FP.i2d vv)), .second, .val (.int (1 : Int32)), .val (.int (1 : Int32)), .val (.int (0 : Int32))]) rfl k) ?_
      show Go p e below _ s₁ (mkF m 41 #[.val (.ref a1), .val (.double (FP.i2d vv)), .second, .val (.int (1 : Int32)), .val (.int (1 : Int32)), .val (.int (0 : Int32))] [])
      refine Go.step (fun _ k => XS.goto X0.here hx rfl (pc0 := 41) (pc' := 6) rfl (hb hby own_f37) (by decide) (by decide) k) ?_
      show Go p e below _ s₁ (mkF m 6 #[.val (.ref a1), .val (.double (FP.i2d vv)), .second, .val (.int (1 : Int32)), .val (.int (1 : Int32)), .val (.int (0 : Int32))] [])
      refine Go.step (fun _ k => XS.iloadN X0.here hx rfl (hb hby own_f16) rfl k) ?_
      show Go p e below _ s₁ (mkF m 7 #[.val (.ref a1), .val (.double (FP.i2d vv)), .second, .val (.int (1 : Int32)), .val (.int (1 : Int32)), .val (.int (0 : Int32))] [(.int (1 : Int32))])
      refine Go.step (fun _ k => XS.iload X0.here hx rfl (hb hby own_f17) rfl k) ?_
      show Go p e below _ s₁ (mkF m 9 #[.val (.ref a1), .val (.double (FP.i2d vv)), .second, .val (.int (1 : Int32)), .val (.int (1 : Int32)), .val (.int (0 : Int32))] [(.int (1 : Int32)), (.int (1 : Int32))])
      refine Go.step (fun _ k => XS.icmpYes X0.here hx rfl (pc0 := 9) (pc' := 44) rfl (hb hby own_f18) rfl (flt (by decide)).2.1 (by decide) (by decide) k) ?_
      show Go p e below _ s₁ (mkF m 44 #[.val (.ref a1), .val (.double (FP.i2d vv)), .second, .val (.int (1 : Int32)), .val (.int (1 : Int32)), .val (.int (0 : Int32))] [])
      refine Go.step (fun _ k => XS.iloadN X0.here hx rfl (hb hby own_f19) rfl k) ?_
      show Go p e below _ s₁ (mkF m 45 #[.val (.ref a1), .val (.double (FP.i2d vv)), .second, .val (.int (1 : Int32)), .val (.int (1 : Int32)), .val (.int (0 : Int32))] [(.int (1 : Int32))])
      have er : (own_c3 u0 u1 u2 vv) = (1 : Int32) := by simp [own_c3, hv26_14, hv26_16]
      obtain ⟨fs, hr, hrun, hended, hW, hsame⟩ := X0.leave (v := some (.int (1 : Int32))) (fun h => by rw [Bd.returns] at h; cases h)
      refine Go.fin (retI X0 hx Bd.returns (hb hby own_f20) hr) hrun hended ?_
      refine ⟨_, _, rfl, ?_, ⟨_, rfl⟩, hW, hsame.mono (by decide) (by decide)⟩
      show QK3 Z a1 (FP.i2d vv) kk vv u0 u1 u2 h0 n0 _ s₁.heap _
      rw [e0]
      exact ⟨by rw [er], N0, rfl⟩
  · show Go p e below _ s₁ (mkF m 26 #[.val (.ref a1), .val (.double (FP.i2d vv)), .second, .val (.int (0 : Int32)), .val (.int (3 : Int32)), .val (.int (1 : Int32))] [(.int (cmpValue (FP.dcmp (FP.i2d u1) (FP.i2d vv)) .l))])
    refine Go.step (fun _ k => XS.ifYes X0.here hx rfl (pc0 := 26) (pc' := 36) rfl (hb hby own_f33) rfl ((if0 _ _).trans (flt (fun q => hv26_14 ((own_cmpi u1 vv).mp q))).2.2.2) (by decide) (by decide) k) ?_
    show Go p e below _ s₁ (mkF m 36 #[.val (.ref a1), .val (.double (FP.i2d vv)), .second, .val (.int (0 : Int32)), .val (.int (3 : Int32)), .val (.int (1 : Int32))] [])
    refine Go.step (fun _ k => XS.iload X0.here hx rfl (hb hby own_f38) rfl k) ?_
    show Go p e below _ s₁ (mkF m 38 #[.val (.ref a1), .val (.double (FP.i2d vv)), .second, .val (.int (0 : Int32)), .val (.int (3 : Int32)), .val (.int (1 : Int32))] [(.int (1 : Int32))])
    refine Go.step (fun _ k => XS.iconst X0.here hx rfl (hb hby own_f39) k) ?_
    show Go p e below _ s₁ (mkF m 39 #[.val (.ref a1), .val (.double (FP.i2d vv)), .second, .val (.int (0 : Int32)), .val (.int (3 : Int32)), .val (.int (1 : Int32))] [(.int (1 : Int32)), (.int (1 : Int32))])
    refine Go.step (fun _ k => XS.iadd X0.here hx rfl (hb hby own_f40) rfl k) ?_
    show Go p e below _ s₁ (mkF m 40 #[.val (.ref a1), .val (.double (FP.i2d vv)), .second, .val (.int (0 : Int32)), .val (.int (3 : Int32)), .val (.int (1 : Int32))] [(.int ((1 : Int32) + (1 : Int32)))])
    show Go p e below _ s₁ (mkF m 40 #[.val (.ref a1), .val (.double (FP.i2d vv)), .second, .val (.int (0 : Int32)), .val (.int (3 : Int32)), .val (.int (1 : Int32))] [(.int (2 : Int32))])
    refine Go.step (fun _ k => XS.istoreN X0.here hx rfl (hb hby own_f41) rfl (l' := #[.val (.ref a1), .val (.double (FP.i2d vv)), .second, .val (.int (2 : Int32)), .val (.int (3 : Int32)), .val (.int (1 : Int32))]) rfl k) ?_
    show Go p e below _ s₁ (mkF m 41 #[.val (.ref a1), .val (.double (FP.i2d vv)), .second, .val (.int (2 : Int32)), .val (.int (3 : Int32)), .val (.int (1 : Int32))] [])
    refine Go.step (fun _ k => XS.goto X0.here hx rfl (pc0 := 41) (pc' := 6) rfl (hb hby own_f37) (by decide) (by decide) k) ?_
    show Go p e below _ s₁ (mkF m 6 #[.val (.ref a1), .val (.double (FP.i2d vv)), .second, .val (.int (2 : Int32)), .val (.int (3 : Int32)), .val (.int (1 : Int32))] [])
    refine Go.step (fun _ k => XS.iloadN X0.here hx rfl (hb hby own_f16) rfl k) ?_
    show Go p e below _ s₁ (mkF m 7 #[.val (.ref a1), .val (.double (FP.i2d vv)), .second, .val (.int (2 : Int32)), .val (.int (3 : Int32)), .val (.int (1 : Int32))] [(.int (2 : Int32))])
    refine Go.step (fun _ k => XS.iload X0.here hx rfl (hb hby own_f17) rfl k) ?_
    show Go p e below _ s₁ (mkF m 9 #[.val (.ref a1), .val (.double (FP.i2d vv)), .second, .val (.int (2 : Int32)), .val (.int (3 : Int32)), .val (.int (1 : Int32))] [(.int (3 : Int32)), (.int (2 : Int32))])
    refine Go.step (fun _ k => XS.icmpNo X0.here hx rfl (hb hby own_f18) rfl (tlt (by decide)).2.1 k) ?_
    show Go p e below _ s₁ (mkF m 12 #[.val (.ref a1), .val (.double (FP.i2d vv)), .second, .val (.int (2 : Int32)), .val (.int (3 : Int32)), .val (.int (1 : Int32))] [])
    refine Go.step (fun _ k => XS.iloadN X0.here hx rfl (hb hby own_f22) rfl k) ?_
    show Go p e below _ s₁ (mkF m 13 #[.val (.ref a1), .val (.double (FP.i2d vv)), .second, .val (.int (2 : Int32)), .val (.int (3 : Int32)), .val (.int (1 : Int32))] [(.int (2 : Int32))])
    refine Go.step (fun _ k => XS.iload X0.here hx rfl (hb hby own_f23) rfl k) ?_
    show Go p e below _ s₁ (mkF m 15 #[.val (.ref a1), .val (.double (FP.i2d vv)), .second, .val (.int (2 : Int32)), .val (.int (3 : Int32)), .val (.int (1 : Int32))] [(.int (3 : Int32)), (.int (2 : Int32))])
    refine Go.step (fun _ k => XS.iadd X0.here hx rfl (hb hby own_f24) rfl k) ?_
    show Go p e below _ s₁ (mkF m 16 #[.val (.ref a1), .val (.double (FP.i2d vv)), .second, .val (.int (2 : Int32)), .val (.int (3 : Int32)), .val (.int (1 : Int32))] [(.int ((2 : Int32) + (3 : Int32)))])
    refine Go.step (fun _ k => XS.iconst X0.here hx rfl (hb hby own_f25) k) ?_
    show Go p e below _ s₁ (mkF m 17 #[.val (.ref a1), .val (.double (FP.i2d vv)), .second, .val (.int (2 : Int32)), .val (.int (3 : Int32)), .val (.int (1 : Int32))] [(.int (1 : Int32)), (.int ((2 : Int32) + (3 : Int32)))])
    refine Go.step (fun _ k => XS.iushr X0.here hx rfl (hb hby own_f26) rfl k) ?_
    show Go p e below _ s₁ (mkF m 18 #[.val (.ref a1), .val (.double (FP.i2d vv)), .second, .val (.int (2 : Int32)), .val (.int (3 : Int32)), .val (.int (1 : Int32))] [(.int ((((2 : Int32) + (3 : Int32)).toUInt32 >>> ((1 : Int32) &&& 31).toUInt32).toInt32))])
    show Go p e below _ s₁ (mkF m 18 #[.val (.ref a1), .val (.double (FP.i2d vv)), .second, .val (.int (2 : Int32)), .val (.int (3 : Int32)), .val (.int (1 : Int32))] [(.int (2 : Int32))])
    refine Go.step (fun _ k => XS.istore X0.here hx rfl (hb hby own_f27) rfl (l' := #[.val (.ref a1), .val (.double (FP.i2d vv)), .second, .val (.int (2 : Int32)), .val (.int (3 : Int32)), .val (.int (2 : Int32))]) rfl k) ?_
    show Go p e below _ s₁ (mkF m 20 #[.val (.ref a1), .val (.double (FP.i2d vv)), .second, .val (.int (2 : Int32)), .val (.int (3 : Int32)), .val (.int (2 : Int32))] [])
    refine Go.step (fun _ k => XS.aloadN X0.here hx rfl (hb hby own_f28) rfl rfl k) ?_
    show Go p e below _ s₁ (mkF m 21 #[.val (.ref a1), .val (.double (FP.i2d vv)), .second, .val (.int (2 : Int32)), .val (.int (3 : Int32)), .val (.int (2 : Int32))] [(.ref a1)])
    refine Go.step (fun _ k => XS.iload X0.here hx rfl (hb hby own_f29) rfl k) ?_
    show Go p e below _ s₁ (mkF m 23 #[.val (.ref a1), .val (.double (FP.i2d vv)), .second, .val (.int (2 : Int32)), .val (.int (3 : Int32)), .val (.int (2 : Int32))] [(.int (2 : Int32)), (.ref a1)])
    obtain ⟨cl17, Ar17, q17, S17, Nn17, H17, G17⟩ := V_a1
    have V_a1 : Arv Z h0 a1 kk .double (3 : Int32) [(.double (FP.i2d u0)), (.double (FP.i2d u1)), (.double (FP.i2d u2))] (.double (FP.l2d 0)) := ⟨cl17, Ar17, q17, S17, Nn17, H17, G17⟩
    have hin17 : ¬ ((2 : Int32) < 0 ∨ cl17.slots.size ≤ ((2 : Int32)).toNatClampNeg) := inb_of S17 ⟨by decide, by decide⟩
    have hat17 : cl17.slots[((2 : Int32)).toNatClampNeg]? = some (.double (FP.i2d u2)) := Has.at H17 hin17 rfl
    refine Go.step (X0.daload hx (j := (2 : Int32)) (v := (.double (FP.i2d u2))) (by rw [e0]; exact Ar17.1) (State.isArrayOf_alike hZ.alike Ar17.2.1) Ar17.2.2 hin17 hat17 (g := (mkF m 23 #[.val (.ref a1), .val (.double (FP.i2d vv)), .second, .val (.int (2 : Int32)), .val (.int (3 : Int32)), .val (.int (2 : Int32))] [(.int (2 : Int32)), (.ref a1)])) rfl rfl (hb hby own_f30)) ?_
    show Go p e below _ s₁ (mkF m 24 #[.val (.ref a1), .val (.double (FP.i2d vv)), .second, .val (.int (2 : Int32)), .val (.int (3 : Int32)), .val (.int (2 : Int32))] [(.double (FP.i2d u2))])
    refine Go.step (fun _ k => XS.dloadN X0.here hx rfl (hb hby own_f31) rfl k) ?_
    show Go p e below _ s₁ (mkF m 25 #[.val (.ref a1), .val (.double (FP.i2d vv)), .second, .val (.int (2 : Int32)), .val (.int (3 : Int32)), .val (.int (2 : Int32))] [(.double (FP.i2d vv)), (.double (FP.i2d u2))])
    refine Go.step (fun _ k => XS.dcmpS X0.here hx rfl (hb hby own_f32) rfl rfl k) ?_
    show Go p e below _ s₁ (mkF m 26 #[.val (.ref a1), .val (.double (FP.i2d vv)), .second, .val (.int (2 : Int32)), .val (.int (3 : Int32)), .val (.int (2 : Int32))] [(.int (cmpValue (FP.dcmp (FP.i2d u2) (FP.i2d vv)) .l))])
    by_cases hv26_18 : vv < u2
    · show Go p e below _ s₁ (mkF m 26 #[.val (.ref a1), .val (.double (FP.i2d vv)), .second, .val (.int (2 : Int32)), .val (.int (3 : Int32)), .val (.int (2 : Int32))] [(.int (cmpValue (FP.dcmp (FP.i2d u2) (FP.i2d vv)) .l))])
      refine Go.step (fun _ k => XS.ifNo X0.here hx rfl (hb hby own_f33) rfl ((if0 _ _).trans (tlt ((own_cmpi u2 vv).mpr hv26_18)).2.2.2) k) ?_
      show Go p e below _ s₁ (mkF m 29 #[.val (.ref a1), .val (.double (FP.i2d vv)), .second, .val (.int (2 : Int32)), .val (.int (3 : Int32)), .val (.int (2 : Int32))] [])
      refine Go.step (fun _ k => XS.iload X0.here hx rfl (hb hby own_f34) rfl k) ?_
      show Go p e below _ s₁ (mkF m 31 #[.val (.ref a1), .val (.double (FP.i2d vv)), .second, .val (.int (2 : Int32)), .val (.int (3 : Int32)), .val (.int (2 : Int32))] [(.int (2 : Int32))])
      refine Go.step (fun _ k => XS.istore X0.here hx rfl (hb hby own_f35) rfl (l' := #[.val (.ref a1), .val (.double (FP.i2d vv)), .second, .val (.int (2 : Int32)), .val (.int (2 : Int32)), .val (.int (2 : Int32))]) rfl k) ?_
      show Go p e below _ s₁ (mkF m 33 #[.val (.ref a1), .val (.double (FP.i2d vv)), .second, .val (.int (2 : Int32)), .val (.int (2 : Int32)), .val (.int (2 : Int32))] [])
      refine Go.step (fun _ k => XS.goto X0.here hx rfl (pc0 := 33) (pc' := 41) rfl (hb hby own_f36) (by decide) (by decide) k) ?_
      show Go p e below _ s₁ (mkF m 41 #[.val (.ref a1), .val (.double (FP.i2d vv)), .second, .val (.int (2 : Int32)), .val (.int (2 : Int32)), .val (.int (2 : Int32))] [])
      refine Go.step (fun _ k => XS.goto X0.here hx rfl (pc0 := 41) (pc' := 6) rfl (hb hby own_f37) (by decide) (by decide) k) ?_
      show Go p e below _ s₁ (mkF m 6 #[.val (.ref a1), .val (.double (FP.i2d vv)), .second, .val (.int (2 : Int32)), .val (.int (2 : Int32)), .val (.int (2 : Int32))] [])
      refine Go.step (fun _ k => XS.iloadN X0.here hx rfl (hb hby own_f16) rfl k) ?_
      show Go p e below _ s₁ (mkF m 7 #[.val (.ref a1), .val (.double (FP.i2d vv)), .second, .val (.int (2 : Int32)), .val (.int (2 : Int32)), .val (.int (2 : Int32))] [(.int (2 : Int32))])
      refine Go.step (fun _ k => XS.iload X0.here hx rfl (hb hby own_f17) rfl k) ?_
      show Go p e below _ s₁ (mkF m 9 #[.val (.ref a1), .val (.double (FP.i2d vv)), .second, .val (.int (2 : Int32)), .val (.int (2 : Int32)), .val (.int (2 : Int32))] [(.int (2 : Int32)), (.int (2 : Int32))])
      refine Go.step (fun _ k => XS.icmpYes X0.here hx rfl (pc0 := 9) (pc' := 44) rfl (hb hby own_f18) rfl (flt (by decide)).2.1 (by decide) (by decide) k) ?_
      show Go p e below _ s₁ (mkF m 44 #[.val (.ref a1), .val (.double (FP.i2d vv)), .second, .val (.int (2 : Int32)), .val (.int (2 : Int32)), .val (.int (2 : Int32))] [])
      refine Go.step (fun _ k => XS.iloadN X0.here hx rfl (hb hby own_f19) rfl k) ?_
      show Go p e below _ s₁ (mkF m 45 #[.val (.ref a1), .val (.double (FP.i2d vv)), .second, .val (.int (2 : Int32)), .val (.int (2 : Int32)), .val (.int (2 : Int32))] [(.int (2 : Int32))])
      have er : (own_c3 u0 u1 u2 vv) = (2 : Int32) := by simp [own_c3, hv26_14, hv26_18]
      obtain ⟨fs, hr, hrun, hended, hW, hsame⟩ := X0.leave (v := some (.int (2 : Int32))) (fun h => by rw [Bd.returns] at h; cases h)
      refine Go.fin (retI X0 hx Bd.returns (hb hby own_f20) hr) hrun hended ?_
      refine ⟨_, _, rfl, ?_, ⟨_, rfl⟩, hW, hsame.mono (by decide) (by decide)⟩
      show QK3 Z a1 (FP.i2d vv) kk vv u0 u1 u2 h0 n0 _ s₁.heap _
      rw [e0]
      exact ⟨by rw [er], N0, rfl⟩
    · show Go p e below _ s₁ (mkF m 26 #[.val (.ref a1), .val (.double (FP.i2d vv)), .second, .val (.int (2 : Int32)), .val (.int (3 : Int32)), .val (.int (2 : Int32))] [(.int (cmpValue (FP.dcmp (FP.i2d u2) (FP.i2d vv)) .l))])
      refine Go.step (fun _ k => XS.ifYes X0.here hx rfl (pc0 := 26) (pc' := 36) rfl (hb hby own_f33) rfl ((if0 _ _).trans (flt (fun q => hv26_18 ((own_cmpi u2 vv).mp q))).2.2.2) (by decide) (by decide) k) ?_
      show Go p e below _ s₁ (mkF m 36 #[.val (.ref a1), .val (.double (FP.i2d vv)), .second, .val (.int (2 : Int32)), .val (.int (3 : Int32)), .val (.int (2 : Int32))] [])
      refine Go.step (fun _ k => XS.iload X0.here hx rfl (hb hby own_f38) rfl k) ?_
      show Go p e below _ s₁ (mkF m 38 #[.val (.ref a1), .val (.double (FP.i2d vv)), .second, .val (.int (2 : Int32)), .val (.int (3 : Int32)), .val (.int (2 : Int32))] [(.int (2 : Int32))])
      refine Go.step (fun _ k => XS.iconst X0.here hx rfl (hb hby own_f39) k) ?_
      show Go p e below _ s₁ (mkF m 39 #[.val (.ref a1), .val (.double (FP.i2d vv)), .second, .val (.int (2 : Int32)), .val (.int (3 : Int32)), .val (.int (2 : Int32))] [(.int (1 : Int32)), (.int (2 : Int32))])
      refine Go.step (fun _ k => XS.iadd X0.here hx rfl (hb hby own_f40) rfl k) ?_
      show Go p e below _ s₁ (mkF m 40 #[.val (.ref a1), .val (.double (FP.i2d vv)), .second, .val (.int (2 : Int32)), .val (.int (3 : Int32)), .val (.int (2 : Int32))] [(.int ((2 : Int32) + (1 : Int32)))])
      show Go p e below _ s₁ (mkF m 40 #[.val (.ref a1), .val (.double (FP.i2d vv)), .second, .val (.int (2 : Int32)), .val (.int (3 : Int32)), .val (.int (2 : Int32))] [(.int (3 : Int32))])
      refine Go.step (fun _ k => XS.istoreN X0.here hx rfl (hb hby own_f41) rfl (l' := #[.val (.ref a1), .val (.double (FP.i2d vv)), .second, .val (.int (3 : Int32)), .val (.int (3 : Int32)), .val (.int (2 : Int32))]) rfl k) ?_
      show Go p e below _ s₁ (mkF m 41 #[.val (.ref a1), .val (.double (FP.i2d vv)), .second, .val (.int (3 : Int32)), .val (.int (3 : Int32)), .val (.int (2 : Int32))] [])
      refine Go.step (fun _ k => XS.goto X0.here hx rfl (pc0 := 41) (pc' := 6) rfl (hb hby own_f37) (by decide) (by decide) k) ?_
      show Go p e below _ s₁ (mkF m 6 #[.val (.ref a1), .val (.double (FP.i2d vv)), .second, .val (.int (3 : Int32)), .val (.int (3 : Int32)), .val (.int (2 : Int32))] [])
      refine Go.step (fun _ k => XS.iloadN X0.here hx rfl (hb hby own_f16) rfl k) ?_
      show Go p e below _ s₁ (mkF m 7 #[.val (.ref a1), .val (.double (FP.i2d vv)), .second, .val (.int (3 : Int32)), .val (.int (3 : Int32)), .val (.int (2 : Int32))] [(.int (3 : Int32))])
      refine Go.step (fun _ k => XS.iload X0.here hx rfl (hb hby own_f17) rfl k) ?_
      show Go p e below _ s₁ (mkF m 9 #[.val (.ref a1), .val (.double (FP.i2d vv)), .second, .val (.int (3 : Int32)), .val (.int (3 : Int32)), .val (.int (2 : Int32))] [(.int (3 : Int32)), (.int (3 : Int32))])
      refine Go.step (fun _ k => XS.icmpYes X0.here hx rfl (pc0 := 9) (pc' := 44) rfl (hb hby own_f18) rfl (flt (by decide)).2.1 (by decide) (by decide) k) ?_
      show Go p e below _ s₁ (mkF m 44 #[.val (.ref a1), .val (.double (FP.i2d vv)), .second, .val (.int (3 : Int32)), .val (.int (3 : Int32)), .val (.int (2 : Int32))] [])
      refine Go.step (fun _ k => XS.iloadN X0.here hx rfl (hb hby own_f19) rfl k) ?_
      show Go p e below _ s₁ (mkF m 45 #[.val (.ref a1), .val (.double (FP.i2d vv)), .second, .val (.int (3 : Int32)), .val (.int (3 : Int32)), .val (.int (2 : Int32))] [(.int (3 : Int32))])
      have er : (own_c3 u0 u1 u2 vv) = (3 : Int32) := by simp [own_c3, hv26_14, hv26_18]
      obtain ⟨fs, hr, hrun, hended, hW, hsame⟩ := X0.leave (v := some (.int (3 : Int32))) (fun h => by rw [Bd.returns] at h; cases h)
      refine Go.fin (retI X0 hx Bd.returns (hb hby own_f20) hr) hrun hended ?_
      refine ⟨_, _, rfl, ?_, ⟨_, rfl⟩, hW, hsame.mono (by decide) (by decide)⟩
      show QK3 Z a1 (FP.i2d vv) kk vv u0 u1 u2 h0 n0 _ s₁.heap _
      rw [e0]
      exact ⟨by rw [er], N0, rfl⟩
theorem own_ef_K4 (m : MethodId) (a1 : Addr) (d1 : UInt64) : entryFrame m #[(.ref a1), (.double d1)] 6 = mkF m 0 #[.val (.ref a1), .val (.double d1), .second, .unset, .unset, .unset] [] := by first | (simp [entryFrame, mkF, argsToLocals, Value.category]; done) | rfl
def QK4 (Z : State) (a1 : Addr) (d1 : UInt64) (kk : ClassId) (vv : Int32) (u0 : Int32) (u1 : Int32) (u2 : Int32) (u3 : Int32) (h0 : Heap) (n0 : Nat) (v : Option Value) (h : Heap) (L : List Loc) : Prop := v = some (.int (own_c4 u0 u1 u2 u3 vv)) ∧ Fr n0 L ∧ h = h0
set_option maxRecDepth 65536 in
set_option maxHeartbeats 40000000 in
theorem rmK4 (l : Launch) (Z : State) (a0 : Array Value) (hw : ∀ d ∈ tables_1, d.before a0 Z = true) (ws : List Jvm.Cond) (a1 : Addr) (d1 : UInt64) (kk : ClassId) (vv : Int32) (u0 : Int32) (u1 : Int32) (u2 : Int32) (u3 : Int32) (h0 : Heap) (n0 : Nat) (Z0 : n0 ≤ h0.size) (V_a1 : Arv Z h0 a1 kk .double (4 : Int32) [(.double (FP.i2d u0)), (.double (FP.i2d u1)), (.double (FP.i2d u2)), (.double (FP.i2d u3))] (.double (FP.l2d 0))) (hd1 : d1 = FP.i2d vv) :
    MetFree l (⟨"com/example/bidkeel/bidkeel/Knapsack", "countUpTo", "([DD)I"⟩ : MethodName) (head1 (Jvm.Cond.code (⟨"com/example/bidkeel/bidkeel/Knapsack", "countUpTo", "([DD)I"⟩ : MethodName) prog_27_method_2_code 6 (some .int) :: ws) ({ frames := 0, cells := 0, slots := 0, locals := 0 } : Room)) (fun a U => a = #[(.ref a1), (.double d1)] ∧ Z.Warmed39 U.vm ∧ U.heap = h0) (fun _ _ _ _ _ => True) (fun _ U o U' => ∃ v L, o = .returned v ∧ QK4 Z a1 d1 kk vv u0 u1 u2 u3 h0 n0 v U'.heap L ∧ FrameEnd U o U' L ({ frames := 0, cells := 0, slots := 0, locals := 0 } : Room).cells ({ frames := 0, cells := 0, slots := 0, locals := 0 } : Room).slots) := by
  refine MetFree.of_bodySF (plainFor_of_name own_f21) hisR ?_
  intro p e s m args below meth c s₁ Bd hml0 hP hK
  obtain ⟨rfl, hZ, hh⟩ := hP
  have hx := Bd.exec
  have hby := Bd.bytes
  have hml : c.maxLocals = 6 := hml0
  have hown : s.vm.findClass "com/example/bidkeel/bidkeel/Knapsack" = some m.cls := findClass_of_methodNamed Bd.named
  have hnm := (name_of_methodNamed Bd.named Bd.method).1
  have X0 : Stand p l e ({ frames := 0, cells := 0, slots := 0, locals := 0 } : Room) s m #[(.ref a1), (.double d1)] below meth c s₁ [] 0 0 := Stand.of_body Bd
  have e0 : s₁.heap = h0 := by rw [← hh, Bd.state]; rfl
  have N0 := Fr.nil n0
  refine Go.start (own_ef_K4 m a1 d1) ?_
  show Go p e below _ s₁ (mkF m 0 #[.val (.ref a1), .val (.double d1), .second, .unset, .unset, .unset] [])
  subst hd1
  show Go p e below _ s₁ (mkF m 0 #[.val (.ref a1), .val (.double (FP.i2d vv)), .second, .unset, .unset, .unset] [])
  refine Go.step (fun _ k => XS.iconst X0.here hx rfl (hb hby own_f11) k) ?_
  show Go p e below _ s₁ (mkF m 1 #[.val (.ref a1), .val (.double (FP.i2d vv)), .second, .unset, .unset, .unset] [(.int (0 : Int32))])
  refine Go.step (fun _ k => XS.istoreN X0.here hx rfl (hb hby own_f12) rfl (l' := #[.val (.ref a1), .val (.double (FP.i2d vv)), .second, .val (.int (0 : Int32)), .unset, .unset]) rfl k) ?_
  show Go p e below _ s₁ (mkF m 2 #[.val (.ref a1), .val (.double (FP.i2d vv)), .second, .val (.int (0 : Int32)), .unset, .unset] [])
  refine Go.step (fun _ k => XS.aloadN X0.here hx rfl (hb hby own_f13) rfl rfl k) ?_
  show Go p e below _ s₁ (mkF m 3 #[.val (.ref a1), .val (.double (FP.i2d vv)), .second, .val (.int (0 : Int32)), .unset, .unset] [(.ref a1)])
  obtain ⟨cl19, Ar19, q19, S19, Nn19, H19, G19⟩ := V_a1
  have V_a1 : Arv Z h0 a1 kk .double (4 : Int32) [(.double (FP.i2d u0)), (.double (FP.i2d u1)), (.double (FP.i2d u2)), (.double (FP.i2d u3))] (.double (FP.l2d 0)) := ⟨cl19, Ar19, q19, S19, Nn19, H19, G19⟩
  refine Go.step (X0.arraylength hx (by rw [e0]; exact Ar19.1) (State.isArrayOf_alike hZ.alike Ar19.2.1) (g := (mkF m 3 #[.val (.ref a1), .val (.double (FP.i2d vv)), .second, .val (.int (0 : Int32)), .unset, .unset] [(.ref a1)])) rfl rfl (hb hby own_f14)) ?_
  rw [len_of S19 Nn19]
  show Go p e below _ s₁ (mkF m 4 #[.val (.ref a1), .val (.double (FP.i2d vv)), .second, .val (.int (0 : Int32)), .unset, .unset] [(.int (4 : Int32))])
  refine Go.step (fun _ k => XS.istore X0.here hx rfl (hb hby own_f15) rfl (l' := #[.val (.ref a1), .val (.double (FP.i2d vv)), .second, .val (.int (0 : Int32)), .val (.int (4 : Int32)), .unset]) rfl k) ?_
  show Go p e below _ s₁ (mkF m 6 #[.val (.ref a1), .val (.double (FP.i2d vv)), .second, .val (.int (0 : Int32)), .val (.int (4 : Int32)), .unset] [])
  refine Go.step (fun _ k => XS.iloadN X0.here hx rfl (hb hby own_f16) rfl k) ?_
  show Go p e below _ s₁ (mkF m 7 #[.val (.ref a1), .val (.double (FP.i2d vv)), .second, .val (.int (0 : Int32)), .val (.int (4 : Int32)), .unset] [(.int (0 : Int32))])
  refine Go.step (fun _ k => XS.iload X0.here hx rfl (hb hby own_f17) rfl k) ?_
  show Go p e below _ s₁ (mkF m 9 #[.val (.ref a1), .val (.double (FP.i2d vv)), .second, .val (.int (0 : Int32)), .val (.int (4 : Int32)), .unset] [(.int (4 : Int32)), (.int (0 : Int32))])
  refine Go.step (fun _ k => XS.icmpNo X0.here hx rfl (hb hby own_f18) rfl (tlt (by decide)).2.1 k) ?_
  show Go p e below _ s₁ (mkF m 12 #[.val (.ref a1), .val (.double (FP.i2d vv)), .second, .val (.int (0 : Int32)), .val (.int (4 : Int32)), .unset] [])
  refine Go.step (fun _ k => XS.iloadN X0.here hx rfl (hb hby own_f22) rfl k) ?_
  show Go p e below _ s₁ (mkF m 13 #[.val (.ref a1), .val (.double (FP.i2d vv)), .second, .val (.int (0 : Int32)), .val (.int (4 : Int32)), .unset] [(.int (0 : Int32))])
  refine Go.step (fun _ k => XS.iload X0.here hx rfl (hb hby own_f23) rfl k) ?_
  show Go p e below _ s₁ (mkF m 15 #[.val (.ref a1), .val (.double (FP.i2d vv)), .second, .val (.int (0 : Int32)), .val (.int (4 : Int32)), .unset] [(.int (4 : Int32)), (.int (0 : Int32))])
  refine Go.step (fun _ k => XS.iadd X0.here hx rfl (hb hby own_f24) rfl k) ?_
  show Go p e below _ s₁ (mkF m 16 #[.val (.ref a1), .val (.double (FP.i2d vv)), .second, .val (.int (0 : Int32)), .val (.int (4 : Int32)), .unset] [(.int ((0 : Int32) + (4 : Int32)))])
  refine Go.step (fun _ k => XS.iconst X0.here hx rfl (hb hby own_f25) k) ?_
  show Go p e below _ s₁ (mkF m 17 #[.val (.ref a1), .val (.double (FP.i2d vv)), .second, .val (.int (0 : Int32)), .val (.int (4 : Int32)), .unset] [(.int (1 : Int32)), (.int ((0 : Int32) + (4 : Int32)))])
  refine Go.step (fun _ k => XS.iushr X0.here hx rfl (hb hby own_f26) rfl k) ?_
  show Go p e below _ s₁ (mkF m 18 #[.val (.ref a1), .val (.double (FP.i2d vv)), .second, .val (.int (0 : Int32)), .val (.int (4 : Int32)), .unset] [(.int ((((0 : Int32) + (4 : Int32)).toUInt32 >>> ((1 : Int32) &&& 31).toUInt32).toInt32))])
  show Go p e below _ s₁ (mkF m 18 #[.val (.ref a1), .val (.double (FP.i2d vv)), .second, .val (.int (0 : Int32)), .val (.int (4 : Int32)), .unset] [(.int (2 : Int32))])
  refine Go.step (fun _ k => XS.istore X0.here hx rfl (hb hby own_f27) rfl (l' := #[.val (.ref a1), .val (.double (FP.i2d vv)), .second, .val (.int (0 : Int32)), .val (.int (4 : Int32)), .val (.int (2 : Int32))]) rfl k) ?_
  show Go p e below _ s₁ (mkF m 20 #[.val (.ref a1), .val (.double (FP.i2d vv)), .second, .val (.int (0 : Int32)), .val (.int (4 : Int32)), .val (.int (2 : Int32))] [])
  refine Go.step (fun _ k => XS.aloadN X0.here hx rfl (hb hby own_f28) rfl rfl k) ?_
  show Go p e below _ s₁ (mkF m 21 #[.val (.ref a1), .val (.double (FP.i2d vv)), .second, .val (.int (0 : Int32)), .val (.int (4 : Int32)), .val (.int (2 : Int32))] [(.ref a1)])
  refine Go.step (fun _ k => XS.iload X0.here hx rfl (hb hby own_f29) rfl k) ?_
  show Go p e below _ s₁ (mkF m 23 #[.val (.ref a1), .val (.double (FP.i2d vv)), .second, .val (.int (0 : Int32)), .val (.int (4 : Int32)), .val (.int (2 : Int32))] [(.int (2 : Int32)), (.ref a1)])
  obtain ⟨cl20, Ar20, q20, S20, Nn20, H20, G20⟩ := V_a1
  have V_a1 : Arv Z h0 a1 kk .double (4 : Int32) [(.double (FP.i2d u0)), (.double (FP.i2d u1)), (.double (FP.i2d u2)), (.double (FP.i2d u3))] (.double (FP.l2d 0)) := ⟨cl20, Ar20, q20, S20, Nn20, H20, G20⟩
  have hin20 : ¬ ((2 : Int32) < 0 ∨ cl20.slots.size ≤ ((2 : Int32)).toNatClampNeg) := inb_of S20 ⟨by decide, by decide⟩
  have hat20 : cl20.slots[((2 : Int32)).toNatClampNeg]? = some (.double (FP.i2d u2)) := Has.at H20 hin20 rfl
  refine Go.step (X0.daload hx (j := (2 : Int32)) (v := (.double (FP.i2d u2))) (by rw [e0]; exact Ar20.1) (State.isArrayOf_alike hZ.alike Ar20.2.1) Ar20.2.2 hin20 hat20 (g := (mkF m 23 #[.val (.ref a1), .val (.double (FP.i2d vv)), .second, .val (.int (0 : Int32)), .val (.int (4 : Int32)), .val (.int (2 : Int32))] [(.int (2 : Int32)), (.ref a1)])) rfl rfl (hb hby own_f30)) ?_
  show Go p e below _ s₁ (mkF m 24 #[.val (.ref a1), .val (.double (FP.i2d vv)), .second, .val (.int (0 : Int32)), .val (.int (4 : Int32)), .val (.int (2 : Int32))] [(.double (FP.i2d u2))])
  refine Go.step (fun _ k => XS.dloadN X0.here hx rfl (hb hby own_f31) rfl k) ?_
  show Go p e below _ s₁ (mkF m 25 #[.val (.ref a1), .val (.double (FP.i2d vv)), .second, .val (.int (0 : Int32)), .val (.int (4 : Int32)), .val (.int (2 : Int32))] [(.double (FP.i2d vv)), (.double (FP.i2d u2))])
  refine Go.step (fun _ k => XS.dcmpS X0.here hx rfl (hb hby own_f32) rfl rfl k) ?_
  show Go p e below _ s₁ (mkF m 26 #[.val (.ref a1), .val (.double (FP.i2d vv)), .second, .val (.int (0 : Int32)), .val (.int (4 : Int32)), .val (.int (2 : Int32))] [(.int (cmpValue (FP.dcmp (FP.i2d u2) (FP.i2d vv)) .l))])
  by_cases hv26_21 : vv < u2
  · show Go p e below _ s₁ (mkF m 26 #[.val (.ref a1), .val (.double (FP.i2d vv)), .second, .val (.int (0 : Int32)), .val (.int (4 : Int32)), .val (.int (2 : Int32))] [(.int (cmpValue (FP.dcmp (FP.i2d u2) (FP.i2d vv)) .l))])
    refine Go.step (fun _ k => XS.ifNo X0.here hx rfl (hb hby own_f33) rfl ((if0 _ _).trans (tlt ((own_cmpi u2 vv).mpr hv26_21)).2.2.2) k) ?_
    show Go p e below _ s₁ (mkF m 29 #[.val (.ref a1), .val (.double (FP.i2d vv)), .second, .val (.int (0 : Int32)), .val (.int (4 : Int32)), .val (.int (2 : Int32))] [])
    refine Go.step (fun _ k => XS.iload X0.here hx rfl (hb hby own_f34) rfl k) ?_
    show Go p e below _ s₁ (mkF m 31 #[.val (.ref a1), .val (.double (FP.i2d vv)), .second, .val (.int (0 : Int32)), .val (.int (4 : Int32)), .val (.int (2 : Int32))] [(.int (2 : Int32))])
    refine Go.step (fun _ k => XS.istore X0.here hx rfl (hb hby own_f35) rfl (l' := #[.val (.ref a1), .val (.double (FP.i2d vv)), .second, .val (.int (0 : Int32)), .val (.int (2 : Int32)), .val (.int (2 : Int32))]) rfl k) ?_
    show Go p e below _ s₁ (mkF m 33 #[.val (.ref a1), .val (.double (FP.i2d vv)), .second, .val (.int (0 : Int32)), .val (.int (2 : Int32)), .val (.int (2 : Int32))] [])
    refine Go.step (fun _ k => XS.goto X0.here hx rfl (pc0 := 33) (pc' := 41) rfl (hb hby own_f36) (by decide) (by decide) k) ?_
    show Go p e below _ s₁ (mkF m 41 #[.val (.ref a1), .val (.double (FP.i2d vv)), .second, .val (.int (0 : Int32)), .val (.int (2 : Int32)), .val (.int (2 : Int32))] [])
    refine Go.step (fun _ k => XS.goto X0.here hx rfl (pc0 := 41) (pc' := 6) rfl (hb hby own_f37) (by decide) (by decide) k) ?_
    show Go p e below _ s₁ (mkF m 6 #[.val (.ref a1), .val (.double (FP.i2d vv)), .second, .val (.int (0 : Int32)), .val (.int (2 : Int32)), .val (.int (2 : Int32))] [])
    refine Go.step (fun _ k => XS.iloadN X0.here hx rfl (hb hby own_f16) rfl k) ?_
    show Go p e below _ s₁ (mkF m 7 #[.val (.ref a1), .val (.double (FP.i2d vv)), .second, .val (.int (0 : Int32)), .val (.int (2 : Int32)), .val (.int (2 : Int32))] [(.int (0 : Int32))])
    refine Go.step (fun _ k => XS.iload X0.here hx rfl (hb hby own_f17) rfl k) ?_
    show Go p e below _ s₁ (mkF m 9 #[.val (.ref a1), .val (.double (FP.i2d vv)), .second, .val (.int (0 : Int32)), .val (.int (2 : Int32)), .val (.int (2 : Int32))] [(.int (2 : Int32)), (.int (0 : Int32))])
    refine Go.step (fun _ k => XS.icmpNo X0.here hx rfl (hb hby own_f18) rfl (tlt (by decide)).2.1 k) ?_
    show Go p e below _ s₁ (mkF m 12 #[.val (.ref a1), .val (.double (FP.i2d vv)), .second, .val (.int (0 : Int32)), .val (.int (2 : Int32)), .val (.int (2 : Int32))] [])
    refine Go.step (fun _ k => XS.iloadN X0.here hx rfl (hb hby own_f22) rfl k) ?_
    show Go p e below _ s₁ (mkF m 13 #[.val (.ref a1), .val (.double (FP.i2d vv)), .second, .val (.int (0 : Int32)), .val (.int (2 : Int32)), .val (.int (2 : Int32))] [(.int (0 : Int32))])
    refine Go.step (fun _ k => XS.iload X0.here hx rfl (hb hby own_f23) rfl k) ?_
    show Go p e below _ s₁ (mkF m 15 #[.val (.ref a1), .val (.double (FP.i2d vv)), .second, .val (.int (0 : Int32)), .val (.int (2 : Int32)), .val (.int (2 : Int32))] [(.int (2 : Int32)), (.int (0 : Int32))])
    refine Go.step (fun _ k => XS.iadd X0.here hx rfl (hb hby own_f24) rfl k) ?_
    show Go p e below _ s₁ (mkF m 16 #[.val (.ref a1), .val (.double (FP.i2d vv)), .second, .val (.int (0 : Int32)), .val (.int (2 : Int32)), .val (.int (2 : Int32))] [(.int ((0 : Int32) + (2 : Int32)))])
    refine Go.step (fun _ k => XS.iconst X0.here hx rfl (hb hby own_f25) k) ?_
    show Go p e below _ s₁ (mkF m 17 #[.val (.ref a1), .val (.double (FP.i2d vv)), .second, .val (.int (0 : Int32)), .val (.int (2 : Int32)), .val (.int (2 : Int32))] [(.int (1 : Int32)), (.int ((0 : Int32) + (2 : Int32)))])
    refine Go.step (fun _ k => XS.iushr X0.here hx rfl (hb hby own_f26) rfl k) ?_
    show Go p e below _ s₁ (mkF m 18 #[.val (.ref a1), .val (.double (FP.i2d vv)), .second, .val (.int (0 : Int32)), .val (.int (2 : Int32)), .val (.int (2 : Int32))] [(.int ((((0 : Int32) + (2 : Int32)).toUInt32 >>> ((1 : Int32) &&& 31).toUInt32).toInt32))])
    show Go p e below _ s₁ (mkF m 18 #[.val (.ref a1), .val (.double (FP.i2d vv)), .second, .val (.int (0 : Int32)), .val (.int (2 : Int32)), .val (.int (2 : Int32))] [(.int (1 : Int32))])
    refine Go.step (fun _ k => XS.istore X0.here hx rfl (hb hby own_f27) rfl (l' := #[.val (.ref a1), .val (.double (FP.i2d vv)), .second, .val (.int (0 : Int32)), .val (.int (2 : Int32)), .val (.int (1 : Int32))]) rfl k) ?_
    show Go p e below _ s₁ (mkF m 20 #[.val (.ref a1), .val (.double (FP.i2d vv)), .second, .val (.int (0 : Int32)), .val (.int (2 : Int32)), .val (.int (1 : Int32))] [])
    refine Go.step (fun _ k => XS.aloadN X0.here hx rfl (hb hby own_f28) rfl rfl k) ?_
    show Go p e below _ s₁ (mkF m 21 #[.val (.ref a1), .val (.double (FP.i2d vv)), .second, .val (.int (0 : Int32)), .val (.int (2 : Int32)), .val (.int (1 : Int32))] [(.ref a1)])
    refine Go.step (fun _ k => XS.iload X0.here hx rfl (hb hby own_f29) rfl k) ?_
    show Go p e below _ s₁ (mkF m 23 #[.val (.ref a1), .val (.double (FP.i2d vv)), .second, .val (.int (0 : Int32)), .val (.int (2 : Int32)), .val (.int (1 : Int32))] [(.int (1 : Int32)), (.ref a1)])
    obtain ⟨cl22, Ar22, q22, S22, Nn22, H22, G22⟩ := V_a1
    have V_a1 : Arv Z h0 a1 kk .double (4 : Int32) [(.double (FP.i2d u0)), (.double (FP.i2d u1)), (.double (FP.i2d u2)), (.double (FP.i2d u3))] (.double (FP.l2d 0)) := ⟨cl22, Ar22, q22, S22, Nn22, H22, G22⟩
    have hin22 : ¬ ((1 : Int32) < 0 ∨ cl22.slots.size ≤ ((1 : Int32)).toNatClampNeg) := inb_of S22 ⟨by decide, by decide⟩
    have hat22 : cl22.slots[((1 : Int32)).toNatClampNeg]? = some (.double (FP.i2d u1)) := Has.at H22 hin22 rfl
    refine Go.step (X0.daload hx (j := (1 : Int32)) (v := (.double (FP.i2d u1))) (by rw [e0]; exact Ar22.1) (State.isArrayOf_alike hZ.alike Ar22.2.1) Ar22.2.2 hin22 hat22 (g := (mkF m 23 #[.val (.ref a1), .val (.double (FP.i2d vv)), .second, .val (.int (0 : Int32)), .val (.int (2 : Int32)), .val (.int (1 : Int32))] [(.int (1 : Int32)), (.ref a1)])) rfl rfl (hb hby own_f30)) ?_
    show Go p e below _ s₁ (mkF m 24 #[.val (.ref a1), .val (.double (FP.i2d vv)), .second, .val (.int (0 : Int32)), .val (.int (2 : Int32)), .val (.int (1 : Int32))] [(.double (FP.i2d u1))])
    refine Go.step (fun _ k => XS.dloadN X0.here hx rfl (hb hby own_f31) rfl k) ?_
    show Go p e below _ s₁ (mkF m 25 #[.val (.ref a1), .val (.double (FP.i2d vv)), .second, .val (.int (0 : Int32)), .val (.int (2 : Int32)), .val (.int (1 : Int32))] [(.double (FP.i2d vv)), (.double (FP.i2d u1))])
    refine Go.step (fun _ k => XS.dcmpS X0.here hx rfl (hb hby own_f32) rfl rfl k) ?_
    show Go p e below _ s₁ (mkF m 26 #[.val (.ref a1), .val (.double (FP.i2d vv)), .second, .val (.int (0 : Int32)), .val (.int (2 : Int32)), .val (.int (1 : Int32))] [(.int (cmpValue (FP.dcmp (FP.i2d u1) (FP.i2d vv)) .l))])
    by_cases hv26_23 : vv < u1
    · show Go p e below _ s₁ (mkF m 26 #[.val (.ref a1), .val (.double (FP.i2d vv)), .second, .val (.int (0 : Int32)), .val (.int (2 : Int32)), .val (.int (1 : Int32))] [(.int (cmpValue (FP.dcmp (FP.i2d u1) (FP.i2d vv)) .l))])
      refine Go.step (fun _ k => XS.ifNo X0.here hx rfl (hb hby own_f33) rfl ((if0 _ _).trans (tlt ((own_cmpi u1 vv).mpr hv26_23)).2.2.2) k) ?_
      show Go p e below _ s₁ (mkF m 29 #[.val (.ref a1), .val (.double (FP.i2d vv)), .second, .val (.int (0 : Int32)), .val (.int (2 : Int32)), .val (.int (1 : Int32))] [])
      refine Go.step (fun _ k => XS.iload X0.here hx rfl (hb hby own_f34) rfl k) ?_
      show Go p e below _ s₁ (mkF m 31 #[.val (.ref a1), .val (.double (FP.i2d vv)), .second, .val (.int (0 : Int32)), .val (.int (2 : Int32)), .val (.int (1 : Int32))] [(.int (1 : Int32))])
      refine Go.step (fun _ k => XS.istore X0.here hx rfl (hb hby own_f35) rfl (l' := #[.val (.ref a1), .val (.double (FP.i2d vv)), .second, .val (.int (0 : Int32)), .val (.int (1 : Int32)), .val (.int (1 : Int32))]) rfl k) ?_
      show Go p e below _ s₁ (mkF m 33 #[.val (.ref a1), .val (.double (FP.i2d vv)), .second, .val (.int (0 : Int32)), .val (.int (1 : Int32)), .val (.int (1 : Int32))] [])
      refine Go.step (fun _ k => XS.goto X0.here hx rfl (pc0 := 33) (pc' := 41) rfl (hb hby own_f36) (by decide) (by decide) k) ?_
      show Go p e below _ s₁ (mkF m 41 #[.val (.ref a1), .val (.double (FP.i2d vv)), .second, .val (.int (0 : Int32)), .val (.int (1 : Int32)), .val (.int (1 : Int32))] [])
      refine Go.step (fun _ k => XS.goto X0.here hx rfl (pc0 := 41) (pc' := 6) rfl (hb hby own_f37) (by decide) (by decide) k) ?_
      show Go p e below _ s₁ (mkF m 6 #[.val (.ref a1), .val (.double (FP.i2d vv)), .second, .val (.int (0 : Int32)), .val (.int (1 : Int32)), .val (.int (1 : Int32))] [])
      refine Go.step (fun _ k => XS.iloadN X0.here hx rfl (hb hby own_f16) rfl k) ?_
      show Go p e below _ s₁ (mkF m 7 #[.val (.ref a1), .val (.double (FP.i2d vv)), .second, .val (.int (0 : Int32)), .val (.int (1 : Int32)), .val (.int (1 : Int32))] [(.int (0 : Int32))])
      refine Go.step (fun _ k => XS.iload X0.here hx rfl (hb hby own_f17) rfl k) ?_
      show Go p e below _ s₁ (mkF m 9 #[.val (.ref a1), .val (.double (FP.i2d vv)), .second, .val (.int (0 : Int32)), .val (.int (1 : Int32)), .val (.int (1 : Int32))] [(.int (1 : Int32)), (.int (0 : Int32))])
      refine Go.step (fun _ k => XS.icmpNo X0.here hx rfl (hb hby own_f18) rfl (tlt (by decide)).2.1 k) ?_
      show Go p e below _ s₁ (mkF m 12 #[.val (.ref a1), .val (.double (FP.i2d vv)), .second, .val (.int (0 : Int32)), .val (.int (1 : Int32)), .val (.int (1 : Int32))] [])
      refine Go.step (fun _ k => XS.iloadN X0.here hx rfl (hb hby own_f22) rfl k) ?_
      show Go p e below _ s₁ (mkF m 13 #[.val (.ref a1), .val (.double (FP.i2d vv)), .second, .val (.int (0 : Int32)), .val (.int (1 : Int32)), .val (.int (1 : Int32))] [(.int (0 : Int32))])
      refine Go.step (fun _ k => XS.iload X0.here hx rfl (hb hby own_f23) rfl k) ?_
      show Go p e below _ s₁ (mkF m 15 #[.val (.ref a1), .val (.double (FP.i2d vv)), .second, .val (.int (0 : Int32)), .val (.int (1 : Int32)), .val (.int (1 : Int32))] [(.int (1 : Int32)), (.int (0 : Int32))])
      refine Go.step (fun _ k => XS.iadd X0.here hx rfl (hb hby own_f24) rfl k) ?_
      show Go p e below _ s₁ (mkF m 16 #[.val (.ref a1), .val (.double (FP.i2d vv)), .second, .val (.int (0 : Int32)), .val (.int (1 : Int32)), .val (.int (1 : Int32))] [(.int ((0 : Int32) + (1 : Int32)))])
      refine Go.step (fun _ k => XS.iconst X0.here hx rfl (hb hby own_f25) k) ?_
      show Go p e below _ s₁ (mkF m 17 #[.val (.ref a1), .val (.double (FP.i2d vv)), .second, .val (.int (0 : Int32)), .val (.int (1 : Int32)), .val (.int (1 : Int32))] [(.int (1 : Int32)), (.int ((0 : Int32) + (1 : Int32)))])
      refine Go.step (fun _ k => XS.iushr X0.here hx rfl (hb hby own_f26) rfl k) ?_
      show Go p e below _ s₁ (mkF m 18 #[.val (.ref a1), .val (.double (FP.i2d vv)), .second, .val (.int (0 : Int32)), .val (.int (1 : Int32)), .val (.int (1 : Int32))] [(.int ((((0 : Int32) + (1 : Int32)).toUInt32 >>> ((1 : Int32) &&& 31).toUInt32).toInt32))])
      show Go p e below _ s₁ (mkF m 18 #[.val (.ref a1), .val (.double (FP.i2d vv)), .second, .val (.int (0 : Int32)), .val (.int (1 : Int32)), .val (.int (1 : Int32))] [(.int (0 : Int32))])
      refine Go.step (fun _ k => XS.istore X0.here hx rfl (hb hby own_f27) rfl (l' := #[.val (.ref a1), .val (.double (FP.i2d vv)), .second, .val (.int (0 : Int32)), .val (.int (1 : Int32)), .val (.int (0 : Int32))]) rfl k) ?_
      show Go p e below _ s₁ (mkF m 20 #[.val (.ref a1), .val (.double (FP.i2d vv)), .second, .val (.int (0 : Int32)), .val (.int (1 : Int32)), .val (.int (0 : Int32))] [])
      refine Go.step (fun _ k => XS.aloadN X0.here hx rfl (hb hby own_f28) rfl rfl k) ?_
      show Go p e below _ s₁ (mkF m 21 #[.val (.ref a1), .val (.double (FP.i2d vv)), .second, .val (.int (0 : Int32)), .val (.int (1 : Int32)), .val (.int (0 : Int32))] [(.ref a1)])
      refine Go.step (fun _ k => XS.iload X0.here hx rfl (hb hby own_f29) rfl k) ?_
      show Go p e below _ s₁ (mkF m 23 #[.val (.ref a1), .val (.double (FP.i2d vv)), .second, .val (.int (0 : Int32)), .val (.int (1 : Int32)), .val (.int (0 : Int32))] [(.int (0 : Int32)), (.ref a1)])
      obtain ⟨cl24, Ar24, q24, S24, Nn24, H24, G24⟩ := V_a1
      have V_a1 : Arv Z h0 a1 kk .double (4 : Int32) [(.double (FP.i2d u0)), (.double (FP.i2d u1)), (.double (FP.i2d u2)), (.double (FP.i2d u3))] (.double (FP.l2d 0)) := ⟨cl24, Ar24, q24, S24, Nn24, H24, G24⟩
      have hin24 : ¬ ((0 : Int32) < 0 ∨ cl24.slots.size ≤ ((0 : Int32)).toNatClampNeg) := inb_of S24 ⟨by decide, by decide⟩
      have hat24 : cl24.slots[((0 : Int32)).toNatClampNeg]? = some (.double (FP.i2d u0)) := Has.at H24 hin24 rfl
      refine Go.step (X0.daload hx (j := (0 : Int32)) (v := (.double (FP.i2d u0))) (by rw [e0]; exact Ar24.1) (State.isArrayOf_alike hZ.alike Ar24.2.1) Ar24.2.2 hin24 hat24 (g := (mkF m 23 #[.val (.ref a1), .val (.double (FP.i2d vv)), .second, .val (.int (0 : Int32)), .val (.int (1 : Int32)), .val (.int (0 : Int32))] [(.int (0 : Int32)), (.ref a1)])) rfl rfl (hb hby own_f30)) ?_
      show Go p e below _ s₁ (mkF m 24 #[.val (.ref a1), .val (.double (FP.i2d vv)), .second, .val (.int (0 : Int32)), .val (.int (1 : Int32)), .val (.int (0 : Int32))] [(.double (FP.i2d u0))])
      refine Go.step (fun _ k => XS.dloadN X0.here hx rfl (hb hby own_f31) rfl k) ?_
      show Go p e below _ s₁ (mkF m 25 #[.val (.ref a1), .val (.double (FP.i2d vv)), .second, .val (.int (0 : Int32)), .val (.int (1 : Int32)), .val (.int (0 : Int32))] [(.double (FP.i2d vv)), (.double (FP.i2d u0))])
      refine Go.step (fun _ k => XS.dcmpS X0.here hx rfl (hb hby own_f32) rfl rfl k) ?_
      show Go p e below _ s₁ (mkF m 26 #[.val (.ref a1), .val (.double (FP.i2d vv)), .second, .val (.int (0 : Int32)), .val (.int (1 : Int32)), .val (.int (0 : Int32))] [(.int (cmpValue (FP.dcmp (FP.i2d u0) (FP.i2d vv)) .l))])
      by_cases hv26_25 : vv < u0
      · show Go p e below _ s₁ (mkF m 26 #[.val (.ref a1), .val (.double (FP.i2d vv)), .second, .val (.int (0 : Int32)), .val (.int (1 : Int32)), .val (.int (0 : Int32))] [(.int (cmpValue (FP.dcmp (FP.i2d u0) (FP.i2d vv)) .l))])
        refine Go.step (fun _ k => XS.ifNo X0.here hx rfl (hb hby own_f33) rfl ((if0 _ _).trans (tlt ((own_cmpi u0 vv).mpr hv26_25)).2.2.2) k) ?_
        show Go p e below _ s₁ (mkF m 29 #[.val (.ref a1), .val (.double (FP.i2d vv)), .second, .val (.int (0 : Int32)), .val (.int (1 : Int32)), .val (.int (0 : Int32))] [])
        refine Go.step (fun _ k => XS.iload X0.here hx rfl (hb hby own_f34) rfl k) ?_
        show Go p e below _ s₁ (mkF m 31 #[.val (.ref a1), .val (.double (FP.i2d vv)), .second, .val (.int (0 : Int32)), .val (.int (1 : Int32)), .val (.int (0 : Int32))] [(.int (0 : Int32))])
        refine Go.step (fun _ k => XS.istore X0.here hx rfl (hb hby own_f35) rfl (l' := #[.val (.ref a1), .val (.double (FP.i2d vv)), .second, .val (.int (0 : Int32)), .val (.int (0 : Int32)), .val (.int (0 : Int32))]) rfl k) ?_
        show Go p e below _ s₁ (mkF m 33 #[.val (.ref a1), .val (.double (FP.i2d vv)), .second, .val (.int (0 : Int32)), .val (.int (0 : Int32)), .val (.int (0 : Int32))] [])
        refine Go.step (fun _ k => XS.goto X0.here hx rfl (pc0 := 33) (pc' := 41) rfl (hb hby own_f36) (by decide) (by decide) k) ?_
        show Go p e below _ s₁ (mkF m 41 #[.val (.ref a1), .val (.double (FP.i2d vv)), .second, .val (.int (0 : Int32)), .val (.int (0 : Int32)), .val (.int (0 : Int32))] [])
        refine Go.step (fun _ k => XS.goto X0.here hx rfl (pc0 := 41) (pc' := 6) rfl (hb hby own_f37) (by decide) (by decide) k) ?_
        show Go p e below _ s₁ (mkF m 6 #[.val (.ref a1), .val (.double (FP.i2d vv)), .second, .val (.int (0 : Int32)), .val (.int (0 : Int32)), .val (.int (0 : Int32))] [])
        refine Go.step (fun _ k => XS.iloadN X0.here hx rfl (hb hby own_f16) rfl k) ?_
        show Go p e below _ s₁ (mkF m 7 #[.val (.ref a1), .val (.double (FP.i2d vv)), .second, .val (.int (0 : Int32)), .val (.int (0 : Int32)), .val (.int (0 : Int32))] [(.int (0 : Int32))])
        refine Go.step (fun _ k => XS.iload X0.here hx rfl (hb hby own_f17) rfl k) ?_
        show Go p e below _ s₁ (mkF m 9 #[.val (.ref a1), .val (.double (FP.i2d vv)), .second, .val (.int (0 : Int32)), .val (.int (0 : Int32)), .val (.int (0 : Int32))] [(.int (0 : Int32)), (.int (0 : Int32))])
        refine Go.step (fun _ k => XS.icmpYes X0.here hx rfl (pc0 := 9) (pc' := 44) rfl (hb hby own_f18) rfl (flt (by decide)).2.1 (by decide) (by decide) k) ?_
        show Go p e below _ s₁ (mkF m 44 #[.val (.ref a1), .val (.double (FP.i2d vv)), .second, .val (.int (0 : Int32)), .val (.int (0 : Int32)), .val (.int (0 : Int32))] [])
        refine Go.step (fun _ k => XS.iloadN X0.here hx rfl (hb hby own_f19) rfl k) ?_
        show Go p e below _ s₁ (mkF m 45 #[.val (.ref a1), .val (.double (FP.i2d vv)), .second, .val (.int (0 : Int32)), .val (.int (0 : Int32)), .val (.int (0 : Int32))] [(.int (0 : Int32))])
        have er : (own_c4 u0 u1 u2 u3 vv) = (0 : Int32) := by simp [own_c4, hv26_21, hv26_23, hv26_25]
        obtain ⟨fs, hr, hrun, hended, hW, hsame⟩ := X0.leave (v := some (.int (0 : Int32))) (fun h => by rw [Bd.returns] at h; cases h)
        refine Go.fin (retI X0 hx Bd.returns (hb hby own_f20) hr) hrun hended ?_
        refine ⟨_, _, rfl, ?_, ⟨_, rfl⟩, hW, hsame.mono (by decide) (by decide)⟩
        show QK4 Z a1 (FP.i2d vv) kk vv u0 u1 u2 u3 h0 n0 _ s₁.heap _
        rw [e0]
        exact ⟨by rw [er], N0, rfl⟩
      · show Go p e below _ s₁ (mkF m 26 #[.val (.ref a1), .val (.double (FP.i2d vv)), .second, .val (.int (0 : Int32)), .val (.int (1 : Int32)), .val (.int (0 : Int32))] [(.int (cmpValue (FP.dcmp (FP.i2d u0) (FP.i2d vv)) .l))])
        refine Go.step (fun _ k => XS.ifYes X0.here hx rfl (pc0 := 26) (pc' := 36) rfl (hb hby own_f33) rfl ((if0 _ _).trans (flt (fun q => hv26_25 ((own_cmpi u0 vv).mp q))).2.2.2) (by decide) (by decide) k) ?_
        show Go p e below _ s₁ (mkF m 36 #[.val (.ref a1), .val (.double (FP.i2d vv)), .second, .val (.int (0 : Int32)), .val (.int (1 : Int32)), .val (.int (0 : Int32))] [])
        refine Go.step (fun _ k => XS.iload X0.here hx rfl (hb hby own_f38) rfl k) ?_
        show Go p e below _ s₁ (mkF m 38 #[.val (.ref a1), .val (.double (FP.i2d vv)), .second, .val (.int (0 : Int32)), .val (.int (1 : Int32)), .val (.int (0 : Int32))] [(.int (0 : Int32))])
        refine Go.step (fun _ k => XS.iconst X0.here hx rfl (hb hby own_f39) k) ?_
        show Go p e below _ s₁ (mkF m 39 #[.val (.ref a1), .val (.double (FP.i2d vv)), .second, .val (.int (0 : Int32)), .val (.int (1 : Int32)), .val (.int (0 : Int32))] [(.int (1 : Int32)), (.int (0 : Int32))])
        refine Go.step (fun _ k => XS.iadd X0.here hx rfl (hb hby own_f40) rfl k) ?_
        show Go p e below _ s₁ (mkF m 40 #[.val (.ref a1), .val (.double (FP.i2d vv)), .second, .val (.int (0 : Int32)), .val (.int (1 : Int32)), .val (.int (0 : Int32))] [(.int ((0 : Int32) + (1 : Int32)))])
        show Go p e below _ s₁ (mkF m 40 #[.val (.ref a1), .val (.double (FP.i2d vv)), .second, .val (.int (0 : Int32)), .val (.int (1 : Int32)), .val (.int (0 : Int32))] [(.int (1 : Int32))])
        refine Go.step (fun _ k => XS.istoreN X0.here hx rfl (hb hby own_f41) rfl (l' := #[.val (.ref a1), .val (.double (FP.i2d vv)), .second, .val (.int (1 : Int32)), .val (.int (1 : Int32)), .val (.int (0 : Int32))]) rfl k) ?_
        show Go p e below _ s₁ (mkF m 41 #[.val (.ref a1), .val (.double (FP.i2d vv)), .second, .val (.int (1 : Int32)), .val (.int (1 : Int32)), .val (.int (0 : Int32))] [])
        refine Go.step (fun _ k => XS.goto X0.here hx rfl (pc0 := 41) (pc' := 6) rfl (hb hby own_f37) (by decide) (by decide) k) ?_
        show Go p e below _ s₁ (mkF m 6 #[.val (.ref a1), .val (.double (FP.i2d vv)), .second, .val (.int (1 : Int32)), .val (.int (1 : Int32)), .val (.int (0 : Int32))] [])
        refine Go.step (fun _ k => XS.iloadN X0.here hx rfl (hb hby own_f16) rfl k) ?_
        show Go p e below _ s₁ (mkF m 7 #[.val (.ref a1), .val (.double (FP.i2d vv)), .second, .val (.int (1 : Int32)), .val (.int (1 : Int32)), .val (.int (0 : Int32))] [(.int (1 : Int32))])
        refine Go.step (fun _ k => XS.iload X0.here hx rfl (hb hby own_f17) rfl k) ?_
        show Go p e below _ s₁ (mkF m 9 #[.val (.ref a1), .val (.double (FP.i2d vv)), .second, .val (.int (1 : Int32)), .val (.int (1 : Int32)), .val (.int (0 : Int32))] [(.int (1 : Int32)), (.int (1 : Int32))])
        refine Go.step (fun _ k => XS.icmpYes X0.here hx rfl (pc0 := 9) (pc' := 44) rfl (hb hby own_f18) rfl (flt (by decide)).2.1 (by decide) (by decide) k) ?_
        show Go p e below _ s₁ (mkF m 44 #[.val (.ref a1), .val (.double (FP.i2d vv)), .second, .val (.int (1 : Int32)), .val (.int (1 : Int32)), .val (.int (0 : Int32))] [])
        refine Go.step (fun _ k => XS.iloadN X0.here hx rfl (hb hby own_f19) rfl k) ?_
        show Go p e below _ s₁ (mkF m 45 #[.val (.ref a1), .val (.double (FP.i2d vv)), .second, .val (.int (1 : Int32)), .val (.int (1 : Int32)), .val (.int (0 : Int32))] [(.int (1 : Int32))])
        have er : (own_c4 u0 u1 u2 u3 vv) = (1 : Int32) := by simp [own_c4, hv26_21, hv26_23, hv26_25]
        obtain ⟨fs, hr, hrun, hended, hW, hsame⟩ := X0.leave (v := some (.int (1 : Int32))) (fun h => by rw [Bd.returns] at h; cases h)
        refine Go.fin (retI X0 hx Bd.returns (hb hby own_f20) hr) hrun hended ?_
        refine ⟨_, _, rfl, ?_, ⟨_, rfl⟩, hW, hsame.mono (by decide) (by decide)⟩
        show QK4 Z a1 (FP.i2d vv) kk vv u0 u1 u2 u3 h0 n0 _ s₁.heap _
        rw [e0]
        exact ⟨by rw [er], N0, rfl⟩
    · show Go p e below _ s₁ (mkF m 26 #[.val (.ref a1), .val (.double (FP.i2d vv)), .second, .val (.int (0 : Int32)), .val (.int (2 : Int32)), .val (.int (1 : Int32))] [(.int (cmpValue (FP.dcmp (FP.i2d u1) (FP.i2d vv)) .l))])
      refine Go.step (fun _ k => XS.ifYes X0.here hx rfl (pc0 := 26) (pc' := 36) rfl (hb hby own_f33) rfl ((if0 _ _).trans (flt (fun q => hv26_23 ((own_cmpi u1 vv).mp q))).2.2.2) (by decide) (by decide) k) ?_
      show Go p e below _ s₁ (mkF m 36 #[.val (.ref a1), .val (.double (FP.i2d vv)), .second, .val (.int (0 : Int32)), .val (.int (2 : Int32)), .val (.int (1 : Int32))] [])
      refine Go.step (fun _ k => XS.iload X0.here hx rfl (hb hby own_f38) rfl k) ?_
      show Go p e below _ s₁ (mkF m 38 #[.val (.ref a1), .val (.double (FP.i2d vv)), .second, .val (.int (0 : Int32)), .val (.int (2 : Int32)), .val (.int (1 : Int32))] [(.int (1 : Int32))])
      refine Go.step (fun _ k => XS.iconst X0.here hx rfl (hb hby own_f39) k) ?_
      show Go p e below _ s₁ (mkF m 39 #[.val (.ref a1), .val (.double (FP.i2d vv)), .second, .val (.int (0 : Int32)), .val (.int (2 : Int32)), .val (.int (1 : Int32))] [(.int (1 : Int32)), (.int (1 : Int32))])
      refine Go.step (fun _ k => XS.iadd X0.here hx rfl (hb hby own_f40) rfl k) ?_
      show Go p e below _ s₁ (mkF m 40 #[.val (.ref a1), .val (.double (FP.i2d vv)), .second, .val (.int (0 : Int32)), .val (.int (2 : Int32)), .val (.int (1 : Int32))] [(.int ((1 : Int32) + (1 : Int32)))])
      show Go p e below _ s₁ (mkF m 40 #[.val (.ref a1), .val (.double (FP.i2d vv)), .second, .val (.int (0 : Int32)), .val (.int (2 : Int32)), .val (.int (1 : Int32))] [(.int (2 : Int32))])
      refine Go.step (fun _ k => XS.istoreN X0.here hx rfl (hb hby own_f41) rfl (l' := #[.val (.ref a1), .val (.double (FP.i2d vv)), .second, .val (.int (2 : Int32)), .val (.int (2 : Int32)), .val (.int (1 : Int32))]) rfl k) ?_
      show Go p e below _ s₁ (mkF m 41 #[.val (.ref a1), .val (.double (FP.i2d vv)), .second, .val (.int (2 : Int32)), .val (.int (2 : Int32)), .val (.int (1 : Int32))] [])
      refine Go.step (fun _ k => XS.goto X0.here hx rfl (pc0 := 41) (pc' := 6) rfl (hb hby own_f37) (by decide) (by decide) k) ?_
      show Go p e below _ s₁ (mkF m 6 #[.val (.ref a1), .val (.double (FP.i2d vv)), .second, .val (.int (2 : Int32)), .val (.int (2 : Int32)), .val (.int (1 : Int32))] [])
      refine Go.step (fun _ k => XS.iloadN X0.here hx rfl (hb hby own_f16) rfl k) ?_
      show Go p e below _ s₁ (mkF m 7 #[.val (.ref a1), .val (.double (FP.i2d vv)), .second, .val (.int (2 : Int32)), .val (.int (2 : Int32)), .val (.int (1 : Int32))] [(.int (2 : Int32))])
      refine Go.step (fun _ k => XS.iload X0.here hx rfl (hb hby own_f17) rfl k) ?_
      show Go p e below _ s₁ (mkF m 9 #[.val (.ref a1), .val (.double (FP.i2d vv)), .second, .val (.int (2 : Int32)), .val (.int (2 : Int32)), .val (.int (1 : Int32))] [(.int (2 : Int32)), (.int (2 : Int32))])
      refine Go.step (fun _ k => XS.icmpYes X0.here hx rfl (pc0 := 9) (pc' := 44) rfl (hb hby own_f18) rfl (flt (by decide)).2.1 (by decide) (by decide) k) ?_
      show Go p e below _ s₁ (mkF m 44 #[.val (.ref a1), .val (.double (FP.i2d vv)), .second, .val (.int (2 : Int32)), .val (.int (2 : Int32)), .val (.int (1 : Int32))] [])
      refine Go.step (fun _ k => XS.iloadN X0.here hx rfl (hb hby own_f19) rfl k) ?_
      show Go p e below _ s₁ (mkF m 45 #[.val (.ref a1), .val (.double (FP.i2d vv)), .second, .val (.int (2 : Int32)), .val (.int (2 : Int32)), .val (.int (1 : Int32))] [(.int (2 : Int32))])
      have er : (own_c4 u0 u1 u2 u3 vv) = (2 : Int32) := by simp [own_c4, hv26_21, hv26_23]
      obtain ⟨fs, hr, hrun, hended, hW, hsame⟩ := X0.leave (v := some (.int (2 : Int32))) (fun h => by rw [Bd.returns] at h; cases h)
      refine Go.fin (retI X0 hx Bd.returns (hb hby own_f20) hr) hrun hended ?_
      refine ⟨_, _, rfl, ?_, ⟨_, rfl⟩, hW, hsame.mono (by decide) (by decide)⟩
      show QK4 Z a1 (FP.i2d vv) kk vv u0 u1 u2 u3 h0 n0 _ s₁.heap _
      rw [e0]
      exact ⟨by rw [er], N0, rfl⟩
  · show Go p e below _ s₁ (mkF m 26 #[.val (.ref a1), .val (.double (FP.i2d vv)), .second, .val (.int (0 : Int32)), .val (.int (4 : Int32)), .val (.int (2 : Int32))] [(.int (cmpValue (FP.dcmp (FP.i2d u2) (FP.i2d vv)) .l))])
    refine Go.step (fun _ k => XS.ifYes X0.here hx rfl (pc0 := 26) (pc' := 36) rfl (hb hby own_f33) rfl ((if0 _ _).trans (flt (fun q => hv26_21 ((own_cmpi u2 vv).mp q))).2.2.2) (by decide) (by decide) k) ?_
    show Go p e below _ s₁ (mkF m 36 #[.val (.ref a1), .val (.double (FP.i2d vv)), .second, .val (.int (0 : Int32)), .val (.int (4 : Int32)), .val (.int (2 : Int32))] [])
    refine Go.step (fun _ k => XS.iload X0.here hx rfl (hb hby own_f38) rfl k) ?_
    show Go p e below _ s₁ (mkF m 38 #[.val (.ref a1), .val (.double (FP.i2d vv)), .second, .val (.int (0 : Int32)), .val (.int (4 : Int32)), .val (.int (2 : Int32))] [(.int (2 : Int32))])
    refine Go.step (fun _ k => XS.iconst X0.here hx rfl (hb hby own_f39) k) ?_
    show Go p e below _ s₁ (mkF m 39 #[.val (.ref a1), .val (.double (FP.i2d vv)), .second, .val (.int (0 : Int32)), .val (.int (4 : Int32)), .val (.int (2 : Int32))] [(.int (1 : Int32)), (.int (2 : Int32))])
    refine Go.step (fun _ k => XS.iadd X0.here hx rfl (hb hby own_f40) rfl k) ?_
    show Go p e below _ s₁ (mkF m 40 #[.val (.ref a1), .val (.double (FP.i2d vv)), .second, .val (.int (0 : Int32)), .val (.int (4 : Int32)), .val (.int (2 : Int32))] [(.int ((2 : Int32) + (1 : Int32)))])
    show Go p e below _ s₁ (mkF m 40 #[.val (.ref a1), .val (.double (FP.i2d vv)), .second, .val (.int (0 : Int32)), .val (.int (4 : Int32)), .val (.int (2 : Int32))] [(.int (3 : Int32))])
    refine Go.step (fun _ k => XS.istoreN X0.here hx rfl (hb hby own_f41) rfl (l' := #[.val (.ref a1), .val (.double (FP.i2d vv)), .second, .val (.int (3 : Int32)), .val (.int (4 : Int32)), .val (.int (2 : Int32))]) rfl k) ?_
    show Go p e below _ s₁ (mkF m 41 #[.val (.ref a1), .val (.double (FP.i2d vv)), .second, .val (.int (3 : Int32)), .val (.int (4 : Int32)), .val (.int (2 : Int32))] [])
    refine Go.step (fun _ k => XS.goto X0.here hx rfl (pc0 := 41) (pc' := 6) rfl (hb hby own_f37) (by decide) (by decide) k) ?_
    show Go p e below _ s₁ (mkF m 6 #[.val (.ref a1), .val (.double (FP.i2d vv)), .second, .val (.int (3 : Int32)), .val (.int (4 : Int32)), .val (.int (2 : Int32))] [])
    refine Go.step (fun _ k => XS.iloadN X0.here hx rfl (hb hby own_f16) rfl k) ?_
    show Go p e below _ s₁ (mkF m 7 #[.val (.ref a1), .val (.double (FP.i2d vv)), .second, .val (.int (3 : Int32)), .val (.int (4 : Int32)), .val (.int (2 : Int32))] [(.int (3 : Int32))])
    refine Go.step (fun _ k => XS.iload X0.here hx rfl (hb hby own_f17) rfl k) ?_
    show Go p e below _ s₁ (mkF m 9 #[.val (.ref a1), .val (.double (FP.i2d vv)), .second, .val (.int (3 : Int32)), .val (.int (4 : Int32)), .val (.int (2 : Int32))] [(.int (4 : Int32)), (.int (3 : Int32))])
    refine Go.step (fun _ k => XS.icmpNo X0.here hx rfl (hb hby own_f18) rfl (tlt (by decide)).2.1 k) ?_
    show Go p e below _ s₁ (mkF m 12 #[.val (.ref a1), .val (.double (FP.i2d vv)), .second, .val (.int (3 : Int32)), .val (.int (4 : Int32)), .val (.int (2 : Int32))] [])
    refine Go.step (fun _ k => XS.iloadN X0.here hx rfl (hb hby own_f22) rfl k) ?_
    show Go p e below _ s₁ (mkF m 13 #[.val (.ref a1), .val (.double (FP.i2d vv)), .second, .val (.int (3 : Int32)), .val (.int (4 : Int32)), .val (.int (2 : Int32))] [(.int (3 : Int32))])
    refine Go.step (fun _ k => XS.iload X0.here hx rfl (hb hby own_f23) rfl k) ?_
    show Go p e below _ s₁ (mkF m 15 #[.val (.ref a1), .val (.double (FP.i2d vv)), .second, .val (.int (3 : Int32)), .val (.int (4 : Int32)), .val (.int (2 : Int32))] [(.int (4 : Int32)), (.int (3 : Int32))])
    refine Go.step (fun _ k => XS.iadd X0.here hx rfl (hb hby own_f24) rfl k) ?_
    show Go p e below _ s₁ (mkF m 16 #[.val (.ref a1), .val (.double (FP.i2d vv)), .second, .val (.int (3 : Int32)), .val (.int (4 : Int32)), .val (.int (2 : Int32))] [(.int ((3 : Int32) + (4 : Int32)))])
    refine Go.step (fun _ k => XS.iconst X0.here hx rfl (hb hby own_f25) k) ?_
    show Go p e below _ s₁ (mkF m 17 #[.val (.ref a1), .val (.double (FP.i2d vv)), .second, .val (.int (3 : Int32)), .val (.int (4 : Int32)), .val (.int (2 : Int32))] [(.int (1 : Int32)), (.int ((3 : Int32) + (4 : Int32)))])
    refine Go.step (fun _ k => XS.iushr X0.here hx rfl (hb hby own_f26) rfl k) ?_
    show Go p e below _ s₁ (mkF m 18 #[.val (.ref a1), .val (.double (FP.i2d vv)), .second, .val (.int (3 : Int32)), .val (.int (4 : Int32)), .val (.int (2 : Int32))] [(.int ((((3 : Int32) + (4 : Int32)).toUInt32 >>> ((1 : Int32) &&& 31).toUInt32).toInt32))])
    show Go p e below _ s₁ (mkF m 18 #[.val (.ref a1), .val (.double (FP.i2d vv)), .second, .val (.int (3 : Int32)), .val (.int (4 : Int32)), .val (.int (2 : Int32))] [(.int (3 : Int32))])
    refine Go.step (fun _ k => XS.istore X0.here hx rfl (hb hby own_f27) rfl (l' := #[.val (.ref a1), .val (.double (FP.i2d vv)), .second, .val (.int (3 : Int32)), .val (.int (4 : Int32)), .val (.int (3 : Int32))]) rfl k) ?_
    show Go p e below _ s₁ (mkF m 20 #[.val (.ref a1), .val (.double (FP.i2d vv)), .second, .val (.int (3 : Int32)), .val (.int (4 : Int32)), .val (.int (3 : Int32))] [])
    refine Go.step (fun _ k => XS.aloadN X0.here hx rfl (hb hby own_f28) rfl rfl k) ?_
    show Go p e below _ s₁ (mkF m 21 #[.val (.ref a1), .val (.double (FP.i2d vv)), .second, .val (.int (3 : Int32)), .val (.int (4 : Int32)), .val (.int (3 : Int32))] [(.ref a1)])
    refine Go.step (fun _ k => XS.iload X0.here hx rfl (hb hby own_f29) rfl k) ?_
    show Go p e below _ s₁ (mkF m 23 #[.val (.ref a1), .val (.double (FP.i2d vv)), .second, .val (.int (3 : Int32)), .val (.int (4 : Int32)), .val (.int (3 : Int32))] [(.int (3 : Int32)), (.ref a1)])
    obtain ⟨cl26, Ar26, q26, S26, Nn26, H26, G26⟩ := V_a1
    have V_a1 : Arv Z h0 a1 kk .double (4 : Int32) [(.double (FP.i2d u0)), (.double (FP.i2d u1)), (.double (FP.i2d u2)), (.double (FP.i2d u3))] (.double (FP.l2d 0)) := ⟨cl26, Ar26, q26, S26, Nn26, H26, G26⟩
    have hin26 : ¬ ((3 : Int32) < 0 ∨ cl26.slots.size ≤ ((3 : Int32)).toNatClampNeg) := inb_of S26 ⟨by decide, by decide⟩
    have hat26 : cl26.slots[((3 : Int32)).toNatClampNeg]? = some (.double (FP.i2d u3)) := Has.at H26 hin26 rfl
    refine Go.step (X0.daload hx (j := (3 : Int32)) (v := (.double (FP.i2d u3))) (by rw [e0]; exact Ar26.1) (State.isArrayOf_alike hZ.alike Ar26.2.1) Ar26.2.2 hin26 hat26 (g := (mkF m 23 #[.val (.ref a1), .val (.double (FP.i2d vv)), .second, .val (.int (3 : Int32)), .val (.int (4 : Int32)), .val (.int (3 : Int32))] [(.int (3 : Int32)), (.ref a1)])) rfl rfl (hb hby own_f30)) ?_
    show Go p e below _ s₁ (mkF m 24 #[.val (.ref a1), .val (.double (FP.i2d vv)), .second, .val (.int (3 : Int32)), .val (.int (4 : Int32)), .val (.int (3 : Int32))] [(.double (FP.i2d u3))])
    refine Go.step (fun _ k => XS.dloadN X0.here hx rfl (hb hby own_f31) rfl k) ?_
    show Go p e below _ s₁ (mkF m 25 #[.val (.ref a1), .val (.double (FP.i2d vv)), .second, .val (.int (3 : Int32)), .val (.int (4 : Int32)), .val (.int (3 : Int32))] [(.double (FP.i2d vv)), (.double (FP.i2d u3))])
    refine Go.step (fun _ k => XS.dcmpS X0.here hx rfl (hb hby own_f32) rfl rfl k) ?_
    show Go p e below _ s₁ (mkF m 26 #[.val (.ref a1), .val (.double (FP.i2d vv)), .second, .val (.int (3 : Int32)), .val (.int (4 : Int32)), .val (.int (3 : Int32))] [(.int (cmpValue (FP.dcmp (FP.i2d u3) (FP.i2d vv)) .l))])
    by_cases hv26_27 : vv < u3
    · show Go p e below _ s₁ (mkF m 26 #[.val (.ref a1), .val (.double (FP.i2d vv)), .second, .val (.int (3 : Int32)), .val (.int (4 : Int32)), .val (.int (3 : Int32))] [(.int (cmpValue (FP.dcmp (FP.i2d u3) (FP.i2d vv)) .l))])
      refine Go.step (fun _ k => XS.ifNo X0.here hx rfl (hb hby own_f33) rfl ((if0 _ _).trans (tlt ((own_cmpi u3 vv).mpr hv26_27)).2.2.2) k) ?_
      show Go p e below _ s₁ (mkF m 29 #[.val (.ref a1), .val (.double (FP.i2d vv)), .second, .val (.int (3 : Int32)), .val (.int (4 : Int32)), .val (.int (3 : Int32))] [])
      refine Go.step (fun _ k => XS.iload X0.here hx rfl (hb hby own_f34) rfl k) ?_
      show Go p e below _ s₁ (mkF m 31 #[.val (.ref a1), .val (.double (FP.i2d vv)), .second, .val (.int (3 : Int32)), .val (.int (4 : Int32)), .val (.int (3 : Int32))] [(.int (3 : Int32))])
      refine Go.step (fun _ k => XS.istore X0.here hx rfl (hb hby own_f35) rfl (l' := #[.val (.ref a1), .val (.double (FP.i2d vv)), .second, .val (.int (3 : Int32)), .val (.int (3 : Int32)), .val (.int (3 : Int32))]) rfl k) ?_
      show Go p e below _ s₁ (mkF m 33 #[.val (.ref a1), .val (.double (FP.i2d vv)), .second, .val (.int (3 : Int32)), .val (.int (3 : Int32)), .val (.int (3 : Int32))] [])
      refine Go.step (fun _ k => XS.goto X0.here hx rfl (pc0 := 33) (pc' := 41) rfl (hb hby own_f36) (by decide) (by decide) k) ?_
      show Go p e below _ s₁ (mkF m 41 #[.val (.ref a1), .val (.double (FP.i2d vv)), .second, .val (.int (3 : Int32)), .val (.int (3 : Int32)), .val (.int (3 : Int32))] [])
      refine Go.step (fun _ k => XS.goto X0.here hx rfl (pc0 := 41) (pc' := 6) rfl (hb hby own_f37) (by decide) (by decide) k) ?_
      show Go p e below _ s₁ (mkF m 6 #[.val (.ref a1), .val (.double (FP.i2d vv)), .second, .val (.int (3 : Int32)), .val (.int (3 : Int32)), .val (.int (3 : Int32))] [])
      refine Go.step (fun _ k => XS.iloadN X0.here hx rfl (hb hby own_f16) rfl k) ?_
      show Go p e below _ s₁ (mkF m 7 #[.val (.ref a1), .val (.double (FP.i2d vv)), .second, .val (.int (3 : Int32)), .val (.int (3 : Int32)), .val (.int (3 : Int32))] [(.int (3 : Int32))])
      refine Go.step (fun _ k => XS.iload X0.here hx rfl (hb hby own_f17) rfl k) ?_
      show Go p e below _ s₁ (mkF m 9 #[.val (.ref a1), .val (.double (FP.i2d vv)), .second, .val (.int (3 : Int32)), .val (.int (3 : Int32)), .val (.int (3 : Int32))] [(.int (3 : Int32)), (.int (3 : Int32))])
      refine Go.step (fun _ k => XS.icmpYes X0.here hx rfl (pc0 := 9) (pc' := 44) rfl (hb hby own_f18) rfl (flt (by decide)).2.1 (by decide) (by decide) k) ?_
      show Go p e below _ s₁ (mkF m 44 #[.val (.ref a1), .val (.double (FP.i2d vv)), .second, .val (.int (3 : Int32)), .val (.int (3 : Int32)), .val (.int (3 : Int32))] [])
      refine Go.step (fun _ k => XS.iloadN X0.here hx rfl (hb hby own_f19) rfl k) ?_
      show Go p e below _ s₁ (mkF m 45 #[.val (.ref a1), .val (.double (FP.i2d vv)), .second, .val (.int (3 : Int32)), .val (.int (3 : Int32)), .val (.int (3 : Int32))] [(.int (3 : Int32))])
      have er : (own_c4 u0 u1 u2 u3 vv) = (3 : Int32) := by simp [own_c4, hv26_21, hv26_27]
      obtain ⟨fs, hr, hrun, hended, hW, hsame⟩ := X0.leave (v := some (.int (3 : Int32))) (fun h => by rw [Bd.returns] at h; cases h)
      refine Go.fin (retI X0 hx Bd.returns (hb hby own_f20) hr) hrun hended ?_
      refine ⟨_, _, rfl, ?_, ⟨_, rfl⟩, hW, hsame.mono (by decide) (by decide)⟩
      show QK4 Z a1 (FP.i2d vv) kk vv u0 u1 u2 u3 h0 n0 _ s₁.heap _
      rw [e0]
      exact ⟨by rw [er], N0, rfl⟩
    · show Go p e below _ s₁ (mkF m 26 #[.val (.ref a1), .val (.double (FP.i2d vv)), .second, .val (.int (3 : Int32)), .val (.int (4 : Int32)), .val (.int (3 : Int32))] [(.int (cmpValue (FP.dcmp (FP.i2d u3) (FP.i2d vv)) .l))])
      refine Go.step (fun _ k => XS.ifYes X0.here hx rfl (pc0 := 26) (pc' := 36) rfl (hb hby own_f33) rfl ((if0 _ _).trans (flt (fun q => hv26_27 ((own_cmpi u3 vv).mp q))).2.2.2) (by decide) (by decide) k) ?_
      show Go p e below _ s₁ (mkF m 36 #[.val (.ref a1), .val (.double (FP.i2d vv)), .second, .val (.int (3 : Int32)), .val (.int (4 : Int32)), .val (.int (3 : Int32))] [])
      refine Go.step (fun _ k => XS.iload X0.here hx rfl (hb hby own_f38) rfl k) ?_
      show Go p e below _ s₁ (mkF m 38 #[.val (.ref a1), .val (.double (FP.i2d vv)), .second, .val (.int (3 : Int32)), .val (.int (4 : Int32)), .val (.int (3 : Int32))] [(.int (3 : Int32))])
      refine Go.step (fun _ k => XS.iconst X0.here hx rfl (hb hby own_f39) k) ?_
      show Go p e below _ s₁ (mkF m 39 #[.val (.ref a1), .val (.double (FP.i2d vv)), .second, .val (.int (3 : Int32)), .val (.int (4 : Int32)), .val (.int (3 : Int32))] [(.int (1 : Int32)), (.int (3 : Int32))])
      refine Go.step (fun _ k => XS.iadd X0.here hx rfl (hb hby own_f40) rfl k) ?_
      show Go p e below _ s₁ (mkF m 40 #[.val (.ref a1), .val (.double (FP.i2d vv)), .second, .val (.int (3 : Int32)), .val (.int (4 : Int32)), .val (.int (3 : Int32))] [(.int ((3 : Int32) + (1 : Int32)))])
      show Go p e below _ s₁ (mkF m 40 #[.val (.ref a1), .val (.double (FP.i2d vv)), .second, .val (.int (3 : Int32)), .val (.int (4 : Int32)), .val (.int (3 : Int32))] [(.int (4 : Int32))])
      refine Go.step (fun _ k => XS.istoreN X0.here hx rfl (hb hby own_f41) rfl (l' := #[.val (.ref a1), .val (.double (FP.i2d vv)), .second, .val (.int (4 : Int32)), .val (.int (4 : Int32)), .val (.int (3 : Int32))]) rfl k) ?_
      show Go p e below _ s₁ (mkF m 41 #[.val (.ref a1), .val (.double (FP.i2d vv)), .second, .val (.int (4 : Int32)), .val (.int (4 : Int32)), .val (.int (3 : Int32))] [])
      refine Go.step (fun _ k => XS.goto X0.here hx rfl (pc0 := 41) (pc' := 6) rfl (hb hby own_f37) (by decide) (by decide) k) ?_
      show Go p e below _ s₁ (mkF m 6 #[.val (.ref a1), .val (.double (FP.i2d vv)), .second, .val (.int (4 : Int32)), .val (.int (4 : Int32)), .val (.int (3 : Int32))] [])
      refine Go.step (fun _ k => XS.iloadN X0.here hx rfl (hb hby own_f16) rfl k) ?_
      show Go p e below _ s₁ (mkF m 7 #[.val (.ref a1), .val (.double (FP.i2d vv)), .second, .val (.int (4 : Int32)), .val (.int (4 : Int32)), .val (.int (3 : Int32))] [(.int (4 : Int32))])
      refine Go.step (fun _ k => XS.iload X0.here hx rfl (hb hby own_f17) rfl k) ?_
      show Go p e below _ s₁ (mkF m 9 #[.val (.ref a1), .val (.double (FP.i2d vv)), .second, .val (.int (4 : Int32)), .val (.int (4 : Int32)), .val (.int (3 : Int32))] [(.int (4 : Int32)), (.int (4 : Int32))])
      refine Go.step (fun _ k => XS.icmpYes X0.here hx rfl (pc0 := 9) (pc' := 44) rfl (hb hby own_f18) rfl (flt (by decide)).2.1 (by decide) (by decide) k) ?_
      show Go p e below _ s₁ (mkF m 44 #[.val (.ref a1), .val (.double (FP.i2d vv)), .second, .val (.int (4 : Int32)), .val (.int (4 : Int32)), .val (.int (3 : Int32))] [])
      refine Go.step (fun _ k => XS.iloadN X0.here hx rfl (hb hby own_f19) rfl k) ?_
      show Go p e below _ s₁ (mkF m 45 #[.val (.ref a1), .val (.double (FP.i2d vv)), .second, .val (.int (4 : Int32)), .val (.int (4 : Int32)), .val (.int (3 : Int32))] [(.int (4 : Int32))])
      have er : (own_c4 u0 u1 u2 u3 vv) = (4 : Int32) := by simp [own_c4, hv26_21, hv26_27]
      obtain ⟨fs, hr, hrun, hended, hW, hsame⟩ := X0.leave (v := some (.int (4 : Int32))) (fun h => by rw [Bd.returns] at h; cases h)
      refine Go.fin (retI X0 hx Bd.returns (hb hby own_f20) hr) hrun hended ?_
      refine ⟨_, _, rfl, ?_, ⟨_, rfl⟩, hW, hsame.mono (by decide) (by decide)⟩
      show QK4 Z a1 (FP.i2d vv) kk vv u0 u1 u2 u3 h0 n0 _ s₁.heap _
      rw [e0]
      exact ⟨by rw [er], N0, rfl⟩
theorem own_ef_K5 (m : MethodId) (a1 : Addr) (d1 : UInt64) : entryFrame m #[(.ref a1), (.double d1)] 6 = mkF m 0 #[.val (.ref a1), .val (.double d1), .second, .unset, .unset, .unset] [] := by first | (simp [entryFrame, mkF, argsToLocals, Value.category]; done) | rfl
def QK5 (Z : State) (a1 : Addr) (d1 : UInt64) (kk : ClassId) (vv : Int32) (u0 : Int32) (u1 : Int32) (u2 : Int32) (u3 : Int32) (u4 : Int32) (h0 : Heap) (n0 : Nat) (v : Option Value) (h : Heap) (L : List Loc) : Prop := v = some (.int (own_c5 u0 u1 u2 u3 u4 vv)) ∧ Fr n0 L ∧ h = h0
set_option maxRecDepth 65536 in
set_option maxHeartbeats 40000000 in
theorem rmK5 (l : Launch) (Z : State) (a0 : Array Value) (hw : ∀ d ∈ tables_1, d.before a0 Z = true) (ws : List Jvm.Cond) (a1 : Addr) (d1 : UInt64) (kk : ClassId) (vv : Int32) (u0 : Int32) (u1 : Int32) (u2 : Int32) (u3 : Int32) (u4 : Int32) (h0 : Heap) (n0 : Nat) (Z0 : n0 ≤ h0.size) (V_a1 : Arv Z h0 a1 kk .double (5 : Int32) [(.double (FP.i2d u0)), (.double (FP.i2d u1)), (.double (FP.i2d u2)), (.double (FP.i2d u3)), (.double (FP.i2d u4))] (.double (FP.l2d 0))) (hd1 : d1 = FP.i2d vv) :
    MetFree l (⟨"com/example/bidkeel/bidkeel/Knapsack", "countUpTo", "([DD)I"⟩ : MethodName) (head1 (Jvm.Cond.code (⟨"com/example/bidkeel/bidkeel/Knapsack", "countUpTo", "([DD)I"⟩ : MethodName) prog_27_method_2_code 6 (some .int) :: ws) ({ frames := 0, cells := 0, slots := 0, locals := 0 } : Room)) (fun a U => a = #[(.ref a1), (.double d1)] ∧ Z.Warmed39 U.vm ∧ U.heap = h0) (fun _ _ _ _ _ => True) (fun _ U o U' => ∃ v L, o = .returned v ∧ QK5 Z a1 d1 kk vv u0 u1 u2 u3 u4 h0 n0 v U'.heap L ∧ FrameEnd U o U' L ({ frames := 0, cells := 0, slots := 0, locals := 0 } : Room).cells ({ frames := 0, cells := 0, slots := 0, locals := 0 } : Room).slots) := by
  refine MetFree.of_bodySF (plainFor_of_name own_f21) hisR ?_
  intro p e s m args below meth c s₁ Bd hml0 hP hK
  obtain ⟨rfl, hZ, hh⟩ := hP
  have hx := Bd.exec
  have hby := Bd.bytes
  have hml : c.maxLocals = 6 := hml0
  have hown : s.vm.findClass "com/example/bidkeel/bidkeel/Knapsack" = some m.cls := findClass_of_methodNamed Bd.named
  have hnm := (name_of_methodNamed Bd.named Bd.method).1
  have X0 : Stand p l e ({ frames := 0, cells := 0, slots := 0, locals := 0 } : Room) s m #[(.ref a1), (.double d1)] below meth c s₁ [] 0 0 := Stand.of_body Bd
  have e0 : s₁.heap = h0 := by rw [← hh, Bd.state]; rfl
  have N0 := Fr.nil n0
  refine Go.start (own_ef_K5 m a1 d1) ?_
  show Go p e below _ s₁ (mkF m 0 #[.val (.ref a1), .val (.double d1), .second, .unset, .unset, .unset] [])
  subst hd1
  show Go p e below _ s₁ (mkF m 0 #[.val (.ref a1), .val (.double (FP.i2d vv)), .second, .unset, .unset, .unset] [])
  refine Go.step (fun _ k => XS.iconst X0.here hx rfl (hb hby own_f11) k) ?_
  show Go p e below _ s₁ (mkF m 1 #[.val (.ref a1), .val (.double (FP.i2d vv)), .second, .unset, .unset, .unset] [(.int (0 : Int32))])
  refine Go.step (fun _ k => XS.istoreN X0.here hx rfl (hb hby own_f12) rfl (l' := #[.val (.ref a1), .val (.double (FP.i2d vv)), .second, .val (.int (0 : Int32)), .unset, .unset]) rfl k) ?_
  show Go p e below _ s₁ (mkF m 2 #[.val (.ref a1), .val (.double (FP.i2d vv)), .second, .val (.int (0 : Int32)), .unset, .unset] [])
  refine Go.step (fun _ k => XS.aloadN X0.here hx rfl (hb hby own_f13) rfl rfl k) ?_
  show Go p e below _ s₁ (mkF m 3 #[.val (.ref a1), .val (.double (FP.i2d vv)), .second, .val (.int (0 : Int32)), .unset, .unset] [(.ref a1)])
  obtain ⟨cl28, Ar28, q28, S28, Nn28, H28, G28⟩ := V_a1
  have V_a1 : Arv Z h0 a1 kk .double (5 : Int32) [(.double (FP.i2d u0)), (.double (FP.i2d u1)), (.double (FP.i2d u2)), (.double (FP.i2d u3)), (.double (FP.i2d u4))] (.double (FP.l2d 0)) := ⟨cl28, Ar28, q28, S28, Nn28, H28, G28⟩
  refine Go.step (X0.arraylength hx (by rw [e0]; exact Ar28.1) (State.isArrayOf_alike hZ.alike Ar28.2.1) (g := (mkF m 3 #[.val (.ref a1), .val (.double (FP.i2d vv)), .second, .val (.int (0 : Int32)), .unset, .unset] [(.ref a1)])) rfl rfl (hb hby own_f14)) ?_
  rw [len_of S28 Nn28]
  show Go p e below _ s₁ (mkF m 4 #[.val (.ref a1), .val (.double (FP.i2d vv)), .second, .val (.int (0 : Int32)), .unset, .unset] [(.int (5 : Int32))])
  refine Go.step (fun _ k => XS.istore X0.here hx rfl (hb hby own_f15) rfl (l' := #[.val (.ref a1), .val (.double (FP.i2d vv)), .second, .val (.int (0 : Int32)), .val (.int (5 : Int32)), .unset]) rfl k) ?_
  show Go p e below _ s₁ (mkF m 6 #[.val (.ref a1), .val (.double (FP.i2d vv)), .second, .val (.int (0 : Int32)), .val (.int (5 : Int32)), .unset] [])
  refine Go.step (fun _ k => XS.iloadN X0.here hx rfl (hb hby own_f16) rfl k) ?_
  show Go p e below _ s₁ (mkF m 7 #[.val (.ref a1), .val (.double (FP.i2d vv)), .second, .val (.int (0 : Int32)), .val (.int (5 : Int32)), .unset] [(.int (0 : Int32))])
  refine Go.step (fun _ k => XS.iload X0.here hx rfl (hb hby own_f17) rfl k) ?_
  show Go p e below _ s₁ (mkF m 9 #[.val (.ref a1), .val (.double (FP.i2d vv)), .second, .val (.int (0 : Int32)), .val (.int (5 : Int32)), .unset] [(.int (5 : Int32)), (.int (0 : Int32))])
  refine Go.step (fun _ k => XS.icmpNo X0.here hx rfl (hb hby own_f18) rfl (tlt (by decide)).2.1 k) ?_
  show Go p e below _ s₁ (mkF m 12 #[.val (.ref a1), .val (.double (FP.i2d vv)), .second, .val (.int (0 : Int32)), .val (.int (5 : Int32)), .unset] [])
  refine Go.step (fun _ k => XS.iloadN X0.here hx rfl (hb hby own_f22) rfl k) ?_
  show Go p e below _ s₁ (mkF m 13 #[.val (.ref a1), .val (.double (FP.i2d vv)), .second, .val (.int (0 : Int32)), .val (.int (5 : Int32)), .unset] [(.int (0 : Int32))])
  refine Go.step (fun _ k => XS.iload X0.here hx rfl (hb hby own_f23) rfl k) ?_
  show Go p e below _ s₁ (mkF m 15 #[.val (.ref a1), .val (.double (FP.i2d vv)), .second, .val (.int (0 : Int32)), .val (.int (5 : Int32)), .unset] [(.int (5 : Int32)), (.int (0 : Int32))])
  refine Go.step (fun _ k => XS.iadd X0.here hx rfl (hb hby own_f24) rfl k) ?_
  show Go p e below _ s₁ (mkF m 16 #[.val (.ref a1), .val (.double (FP.i2d vv)), .second, .val (.int (0 : Int32)), .val (.int (5 : Int32)), .unset] [(.int ((0 : Int32) + (5 : Int32)))])
  refine Go.step (fun _ k => XS.iconst X0.here hx rfl (hb hby own_f25) k) ?_
  show Go p e below _ s₁ (mkF m 17 #[.val (.ref a1), .val (.double (FP.i2d vv)), .second, .val (.int (0 : Int32)), .val (.int (5 : Int32)), .unset] [(.int (1 : Int32)), (.int ((0 : Int32) + (5 : Int32)))])
  refine Go.step (fun _ k => XS.iushr X0.here hx rfl (hb hby own_f26) rfl k) ?_
  show Go p e below _ s₁ (mkF m 18 #[.val (.ref a1), .val (.double (FP.i2d vv)), .second, .val (.int (0 : Int32)), .val (.int (5 : Int32)), .unset] [(.int ((((0 : Int32) + (5 : Int32)).toUInt32 >>> ((1 : Int32) &&& 31).toUInt32).toInt32))])
  show Go p e below _ s₁ (mkF m 18 #[.val (.ref a1), .val (.double (FP.i2d vv)), .second, .val (.int (0 : Int32)), .val (.int (5 : Int32)), .unset] [(.int (2 : Int32))])
  refine Go.step (fun _ k => XS.istore X0.here hx rfl (hb hby own_f27) rfl (l' := #[.val (.ref a1), .val (.double (FP.i2d vv)), .second, .val (.int (0 : Int32)), .val (.int (5 : Int32)), .val (.int (2 : Int32))]) rfl k) ?_
  show Go p e below _ s₁ (mkF m 20 #[.val (.ref a1), .val (.double (FP.i2d vv)), .second, .val (.int (0 : Int32)), .val (.int (5 : Int32)), .val (.int (2 : Int32))] [])
  refine Go.step (fun _ k => XS.aloadN X0.here hx rfl (hb hby own_f28) rfl rfl k) ?_
  show Go p e below _ s₁ (mkF m 21 #[.val (.ref a1), .val (.double (FP.i2d vv)), .second, .val (.int (0 : Int32)), .val (.int (5 : Int32)), .val (.int (2 : Int32))] [(.ref a1)])
  refine Go.step (fun _ k => XS.iload X0.here hx rfl (hb hby own_f29) rfl k) ?_
  show Go p e below _ s₁ (mkF m 23 #[.val (.ref a1), .val (.double (FP.i2d vv)), .second, .val (.int (0 : Int32)), .val (.int (5 : Int32)), .val (.int (2 : Int32))] [(.int (2 : Int32)), (.ref a1)])
  obtain ⟨cl29, Ar29, q29, S29, Nn29, H29, G29⟩ := V_a1
  have V_a1 : Arv Z h0 a1 kk .double (5 : Int32) [(.double (FP.i2d u0)), (.double (FP.i2d u1)), (.double (FP.i2d u2)), (.double (FP.i2d u3)), (.double (FP.i2d u4))] (.double (FP.l2d 0)) := ⟨cl29, Ar29, q29, S29, Nn29, H29, G29⟩
  have hin29 : ¬ ((2 : Int32) < 0 ∨ cl29.slots.size ≤ ((2 : Int32)).toNatClampNeg) := inb_of S29 ⟨by decide, by decide⟩
  have hat29 : cl29.slots[((2 : Int32)).toNatClampNeg]? = some (.double (FP.i2d u2)) := Has.at H29 hin29 rfl
  refine Go.step (X0.daload hx (j := (2 : Int32)) (v := (.double (FP.i2d u2))) (by rw [e0]; exact Ar29.1) (State.isArrayOf_alike hZ.alike Ar29.2.1) Ar29.2.2 hin29 hat29 (g := (mkF m 23 #[.val (.ref a1), .val (.double (FP.i2d vv)), .second, .val (.int (0 : Int32)), .val (.int (5 : Int32)), .val (.int (2 : Int32))] [(.int (2 : Int32)), (.ref a1)])) rfl rfl (hb hby own_f30)) ?_
  show Go p e below _ s₁ (mkF m 24 #[.val (.ref a1), .val (.double (FP.i2d vv)), .second, .val (.int (0 : Int32)), .val (.int (5 : Int32)), .val (.int (2 : Int32))] [(.double (FP.i2d u2))])
  refine Go.step (fun _ k => XS.dloadN X0.here hx rfl (hb hby own_f31) rfl k) ?_
  show Go p e below _ s₁ (mkF m 25 #[.val (.ref a1), .val (.double (FP.i2d vv)), .second, .val (.int (0 : Int32)), .val (.int (5 : Int32)), .val (.int (2 : Int32))] [(.double (FP.i2d vv)), (.double (FP.i2d u2))])
  refine Go.step (fun _ k => XS.dcmpS X0.here hx rfl (hb hby own_f32) rfl rfl k) ?_
  show Go p e below _ s₁ (mkF m 26 #[.val (.ref a1), .val (.double (FP.i2d vv)), .second, .val (.int (0 : Int32)), .val (.int (5 : Int32)), .val (.int (2 : Int32))] [(.int (cmpValue (FP.dcmp (FP.i2d u2) (FP.i2d vv)) .l))])
  by_cases hv26_30 : vv < u2
  · show Go p e below _ s₁ (mkF m 26 #[.val (.ref a1), .val (.double (FP.i2d vv)), .second, .val (.int (0 : Int32)), .val (.int (5 : Int32)), .val (.int (2 : Int32))] [(.int (cmpValue (FP.dcmp (FP.i2d u2) (FP.i2d vv)) .l))])
    refine Go.step (fun _ k => XS.ifNo X0.here hx rfl (hb hby own_f33) rfl ((if0 _ _).trans (tlt ((own_cmpi u2 vv).mpr hv26_30)).2.2.2) k) ?_
    show Go p e below _ s₁ (mkF m 29 #[.val (.ref a1), .val (.double (FP.i2d vv)), .second, .val (.int (0 : Int32)), .val (.int (5 : Int32)), .val (.int (2 : Int32))] [])
    refine Go.step (fun _ k => XS.iload X0.here hx rfl (hb hby own_f34) rfl k) ?_
    show Go p e below _ s₁ (mkF m 31 #[.val (.ref a1), .val (.double (FP.i2d vv)), .second, .val (.int (0 : Int32)), .val (.int (5 : Int32)), .val (.int (2 : Int32))] [(.int (2 : Int32))])
    refine Go.step (fun _ k => XS.istore X0.here hx rfl (hb hby own_f35) rfl (l' := #[.val (.ref a1), .val (.double (FP.i2d vv)), .second, .val (.int (0 : Int32)), .val (.int (2 : Int32)), .val (.int (2 : Int32))]) rfl k) ?_
    show Go p e below _ s₁ (mkF m 33 #[.val (.ref a1), .val (.double (FP.i2d vv)), .second, .val (.int (0 : Int32)), .val (.int (2 : Int32)), .val (.int (2 : Int32))] [])
    refine Go.step (fun _ k => XS.goto X0.here hx rfl (pc0 := 33) (pc' := 41) rfl (hb hby own_f36) (by decide) (by decide) k) ?_
    show Go p e below _ s₁ (mkF m 41 #[.val (.ref a1), .val (.double (FP.i2d vv)), .second, .val (.int (0 : Int32)), .val (.int (2 : Int32)), .val (.int (2 : Int32))] [])
    refine Go.step (fun _ k => XS.goto X0.here hx rfl (pc0 := 41) (pc' := 6) rfl (hb hby own_f37) (by decide) (by decide) k) ?_
    show Go p e below _ s₁ (mkF m 6 #[.val (.ref a1), .val (.double (FP.i2d vv)), .second, .val (.int (0 : Int32)), .val (.int (2 : Int32)), .val (.int (2 : Int32))] [])
    refine Go.step (fun _ k => XS.iloadN X0.here hx rfl (hb hby own_f16) rfl k) ?_
    show Go p e below _ s₁ (mkF m 7 #[.val (.ref a1), .val (.double (FP.i2d vv)), .second, .val (.int (0 : Int32)), .val (.int (2 : Int32)), .val (.int (2 : Int32))] [(.int (0 : Int32))])
    refine Go.step (fun _ k => XS.iload X0.here hx rfl (hb hby own_f17) rfl k) ?_
    show Go p e below _ s₁ (mkF m 9 #[.val (.ref a1), .val (.double (FP.i2d vv)), .second, .val (.int (0 : Int32)), .val (.int (2 : Int32)), .val (.int (2 : Int32))] [(.int (2 : Int32)), (.int (0 : Int32))])
    refine Go.step (fun _ k => XS.icmpNo X0.here hx rfl (hb hby own_f18) rfl (tlt (by decide)).2.1 k) ?_
    show Go p e below _ s₁ (mkF m 12 #[.val (.ref a1), .val (.double (FP.i2d vv)), .second, .val (.int (0 : Int32)), .val (.int (2 : Int32)), .val (.int (2 : Int32))] [])
    refine Go.step (fun _ k => XS.iloadN X0.here hx rfl (hb hby own_f22) rfl k) ?_
    show Go p e below _ s₁ (mkF m 13 #[.val (.ref a1), .val (.double (FP.i2d vv)), .second, .val (.int (0 : Int32)), .val (.int (2 : Int32)), .val (.int (2 : Int32))] [(.int (0 : Int32))])
    refine Go.step (fun _ k => XS.iload X0.here hx rfl (hb hby own_f23) rfl k) ?_
    show Go p e below _ s₁ (mkF m 15 #[.val (.ref a1), .val (.double (FP.i2d vv)), .second, .val (.int (0 : Int32)), .val (.int (2 : Int32)), .val (.int (2 : Int32))] [(.int (2 : Int32)), (.int (0 : Int32))])
    refine Go.step (fun _ k => XS.iadd X0.here hx rfl (hb hby own_f24) rfl k) ?_
    show Go p e below _ s₁ (mkF m 16 #[.val (.ref a1), .val (.double (FP.i2d vv)), .second, .val (.int (0 : Int32)), .val (.int (2 : Int32)), .val (.int (2 : Int32))] [(.int ((0 : Int32) + (2 : Int32)))])
    refine Go.step (fun _ k => XS.iconst X0.here hx rfl (hb hby own_f25) k) ?_
    show Go p e below _ s₁ (mkF m 17 #[.val (.ref a1), .val (.double (FP.i2d vv)), .second, .val (.int (0 : Int32)), .val (.int (2 : Int32)), .val (.int (2 : Int32))] [(.int (1 : Int32)), (.int ((0 : Int32) + (2 : Int32)))])
    refine Go.step (fun _ k => XS.iushr X0.here hx rfl (hb hby own_f26) rfl k) ?_
    show Go p e below _ s₁ (mkF m 18 #[.val (.ref a1), .val (.double (FP.i2d vv)), .second, .val (.int (0 : Int32)), .val (.int (2 : Int32)), .val (.int (2 : Int32))] [(.int ((((0 : Int32) + (2 : Int32)).toUInt32 >>> ((1 : Int32) &&& 31).toUInt32).toInt32))])
    show Go p e below _ s₁ (mkF m 18 #[.val (.ref a1), .val (.double (FP.i2d vv)), .second, .val (.int (0 : Int32)), .val (.int (2 : Int32)), .val (.int (2 : Int32))] [(.int (1 : Int32))])
    refine Go.step (fun _ k => XS.istore X0.here hx rfl (hb hby own_f27) rfl (l' := #[.val (.ref a1), .val (.double (FP.i2d vv)), .second, .val (.int (0 : Int32)), .val (.int (2 : Int32)), .val (.int (1 : Int32))]) rfl k) ?_
    show Go p e below _ s₁ (mkF m 20 #[.val (.ref a1), .val (.double (FP.i2d vv)), .second, .val (.int (0 : Int32)), .val (.int (2 : Int32)), .val (.int (1 : Int32))] [])
    refine Go.step (fun _ k => XS.aloadN X0.here hx rfl (hb hby own_f28) rfl rfl k) ?_
    show Go p e below _ s₁ (mkF m 21 #[.val (.ref a1), .val (.double (FP.i2d vv)), .second, .val (.int (0 : Int32)), .val (.int (2 : Int32)), .val (.int (1 : Int32))] [(.ref a1)])
    refine Go.step (fun _ k => XS.iload X0.here hx rfl (hb hby own_f29) rfl k) ?_
    show Go p e below _ s₁ (mkF m 23 #[.val (.ref a1), .val (.double (FP.i2d vv)), .second, .val (.int (0 : Int32)), .val (.int (2 : Int32)), .val (.int (1 : Int32))] [(.int (1 : Int32)), (.ref a1)])
    obtain ⟨cl31, Ar31, q31, S31, Nn31, H31, G31⟩ := V_a1
    have V_a1 : Arv Z h0 a1 kk .double (5 : Int32) [(.double (FP.i2d u0)), (.double (FP.i2d u1)), (.double (FP.i2d u2)), (.double (FP.i2d u3)), (.double (FP.i2d u4))] (.double (FP.l2d 0)) := ⟨cl31, Ar31, q31, S31, Nn31, H31, G31⟩
    have hin31 : ¬ ((1 : Int32) < 0 ∨ cl31.slots.size ≤ ((1 : Int32)).toNatClampNeg) := inb_of S31 ⟨by decide, by decide⟩
    have hat31 : cl31.slots[((1 : Int32)).toNatClampNeg]? = some (.double (FP.i2d u1)) := Has.at H31 hin31 rfl
    refine Go.step (X0.daload hx (j := (1 : Int32)) (v := (.double (FP.i2d u1))) (by rw [e0]; exact Ar31.1) (State.isArrayOf_alike hZ.alike Ar31.2.1) Ar31.2.2 hin31 hat31 (g := (mkF m 23 #[.val (.ref a1), .val (.double (FP.i2d vv)), .second, .val (.int (0 : Int32)), .val (.int (2 : Int32)), .val (.int (1 : Int32))] [(.int (1 : Int32)), (.ref a1)])) rfl rfl (hb hby own_f30)) ?_
    show Go p e below _ s₁ (mkF m 24 #[.val (.ref a1), .val (.double (FP.i2d vv)), .second, .val (.int (0 : Int32)), .val (.int (2 : Int32)), .val (.int (1 : Int32))] [(.double (FP.i2d u1))])
    refine Go.step (fun _ k => XS.dloadN X0.here hx rfl (hb hby own_f31) rfl k) ?_
    show Go p e below _ s₁ (mkF m 25 #[.val (.ref a1), .val (.double (FP.i2d vv)), .second, .val (.int (0 : Int32)), .val (.int (2 : Int32)), .val (.int (1 : Int32))] [(.double (FP.i2d vv)), (.double (FP.i2d u1))])
    refine Go.step (fun _ k => XS.dcmpS X0.here hx rfl (hb hby own_f32) rfl rfl k) ?_
    show Go p e below _ s₁ (mkF m 26 #[.val (.ref a1), .val (.double (FP.i2d vv)), .second, .val (.int (0 : Int32)), .val (.int (2 : Int32)), .val (.int (1 : Int32))] [(.int (cmpValue (FP.dcmp (FP.i2d u1) (FP.i2d vv)) .l))])
    by_cases hv26_32 : vv < u1
    · show Go p e below _ s₁ (mkF m 26 #[.val (.ref a1), .val (.double (FP.i2d vv)), .second, .val (.int (0 : Int32)), .val (.int (2 : Int32)), .val (.int (1 : Int32))] [(.int (cmpValue (FP.dcmp (FP.i2d u1) (FP.i2d vv)) .l))])
      refine Go.step (fun _ k => XS.ifNo X0.here hx rfl (hb hby own_f33) rfl ((if0 _ _).trans (tlt ((own_cmpi u1 vv).mpr hv26_32)).2.2.2) k) ?_
      show Go p e below _ s₁ (mkF m 29 #[.val (.ref a1), .val (.double (FP.i2d vv)), .second, .val (.int (0 : Int32)), .val (.int (2 : Int32)), .val (.int (1 : Int32))] [])
      refine Go.step (fun _ k => XS.iload X0.here hx rfl (hb hby own_f34) rfl k) ?_
      show Go p e below _ s₁ (mkF m 31 #[.val (.ref a1), .val (.double (FP.i2d vv)), .second, .val (.int (0 : Int32)), .val (.int (2 : Int32)), .val (.int (1 : Int32))] [(.int (1 : Int32))])
      refine Go.step (fun _ k => XS.istore X0.here hx rfl (hb hby own_f35) rfl (l' := #[.val (.ref a1), .val (.double (FP.i2d vv)), .second, .val (.int (0 : Int32)), .val (.int (1 : Int32)), .val (.int (1 : Int32))]) rfl k) ?_
      show Go p e below _ s₁ (mkF m 33 #[.val (.ref a1), .val (.double (FP.i2d vv)), .second, .val (.int (0 : Int32)), .val (.int (1 : Int32)), .val (.int (1 : Int32))] [])
      refine Go.step (fun _ k => XS.goto X0.here hx rfl (pc0 := 33) (pc' := 41) rfl (hb hby own_f36) (by decide) (by decide) k) ?_
      show Go p e below _ s₁ (mkF m 41 #[.val (.ref a1), .val (.double (FP.i2d vv)), .second, .val (.int (0 : Int32)), .val (.int (1 : Int32)), .val (.int (1 : Int32))] [])
      refine Go.step (fun _ k => XS.goto X0.here hx rfl (pc0 := 41) (pc' := 6) rfl (hb hby own_f37) (by decide) (by decide) k) ?_
      show Go p e below _ s₁ (mkF m 6 #[.val (.ref a1), .val (.double (FP.i2d vv)), .second, .val (.int (0 : Int32)), .val (.int (1 : Int32)), .val (.int (1 : Int32))] [])
      refine Go.step (fun _ k => XS.iloadN X0.here hx rfl (hb hby own_f16) rfl k) ?_
      show Go p e below _ s₁ (mkF m 7 #[.val (.ref a1), .val (.double (FP.i2d vv)), .second, .val (.int (0 : Int32)), .val (.int (1 : Int32)), .val (.int (1 : Int32))] [(.int (0 : Int32))])
      refine Go.step (fun _ k => XS.iload X0.here hx rfl (hb hby own_f17) rfl k) ?_
      show Go p e below _ s₁ (mkF m 9 #[.val (.ref a1), .val (.double (FP.i2d vv)), .second, .val (.int (0 : Int32)), .val (.int (1 : Int32)), .val (.int (1 : Int32))] [(.int (1 : Int32)), (.int (0 : Int32))])
      refine Go.step (fun _ k => XS.icmpNo X0.here hx rfl (hb hby own_f18) rfl (tlt (by decide)).2.1 k) ?_
      show Go p e below _ s₁ (mkF m 12 #[.val (.ref a1), .val (.double (FP.i2d vv)), .second, .val (.int (0 : Int32)), .val (.int (1 : Int32)), .val (.int (1 : Int32))] [])
      refine Go.step (fun _ k => XS.iloadN X0.here hx rfl (hb hby own_f22) rfl k) ?_
      show Go p e below _ s₁ (mkF m 13 #[.val (.ref a1), .val (.double (FP.i2d vv)), .second, .val (.int (0 : Int32)), .val (.int (1 : Int32)), .val (.int (1 : Int32))] [(.int (0 : Int32))])
      refine Go.step (fun _ k => XS.iload X0.here hx rfl (hb hby own_f23) rfl k) ?_
      show Go p e below _ s₁ (mkF m 15 #[.val (.ref a1), .val (.double (FP.i2d vv)), .second, .val (.int (0 : Int32)), .val (.int (1 : Int32)), .val (.int (1 : Int32))] [(.int (1 : Int32)), (.int (0 : Int32))])
      refine Go.step (fun _ k => XS.iadd X0.here hx rfl (hb hby own_f24) rfl k) ?_
      show Go p e below _ s₁ (mkF m 16 #[.val (.ref a1), .val (.double (FP.i2d vv)), .second, .val (.int (0 : Int32)), .val (.int (1 : Int32)), .val (.int (1 : Int32))] [(.int ((0 : Int32) + (1 : Int32)))])
      refine Go.step (fun _ k => XS.iconst X0.here hx rfl (hb hby own_f25) k) ?_
      show Go p e below _ s₁ (mkF m 17 #[.val (.ref a1), .val (.double (FP.i2d vv)), .second, .val (.int (0 : Int32)), .val (.int (1 : Int32)), .val (.int (1 : Int32))] [(.int (1 : Int32)), (.int ((0 : Int32) + (1 : Int32)))])
      refine Go.step (fun _ k => XS.iushr X0.here hx rfl (hb hby own_f26) rfl k) ?_
      show Go p e below _ s₁ (mkF m 18 #[.val (.ref a1), .val (.double (FP.i2d vv)), .second, .val (.int (0 : Int32)), .val (.int (1 : Int32)), .val (.int (1 : Int32))] [(.int ((((0 : Int32) + (1 : Int32)).toUInt32 >>> ((1 : Int32) &&& 31).toUInt32).toInt32))])
      show Go p e below _ s₁ (mkF m 18 #[.val (.ref a1), .val (.double (FP.i2d vv)), .second, .val (.int (0 : Int32)), .val (.int (1 : Int32)), .val (.int (1 : Int32))] [(.int (0 : Int32))])
      refine Go.step (fun _ k => XS.istore X0.here hx rfl (hb hby own_f27) rfl (l' := #[.val (.ref a1), .val (.double (FP.i2d vv)), .second, .val (.int (0 : Int32)), .val (.int (1 : Int32)), .val (.int (0 : Int32))]) rfl k) ?_
      show Go p e below _ s₁ (mkF m 20 #[.val (.ref a1), .val (.double (FP.i2d vv)), .second, .val (.int (0 : Int32)), .val (.int (1 : Int32)), .val (.int (0 : Int32))] [])
      refine Go.step (fun _ k => XS.aloadN X0.here hx rfl (hb hby own_f28) rfl rfl k) ?_
      show Go p e below _ s₁ (mkF m 21 #[.val (.ref a1), .val (.double (FP.i2d vv)), .second, .val (.int (0 : Int32)), .val (.int (1 : Int32)), .val (.int (0 : Int32))] [(.ref a1)])
      refine Go.step (fun _ k => XS.iload X0.here hx rfl (hb hby own_f29) rfl k) ?_
      show Go p e below _ s₁ (mkF m 23 #[.val (.ref a1), .val (.double (FP.i2d vv)), .second, .val (.int (0 : Int32)), .val (.int (1 : Int32)), .val (.int (0 : Int32))] [(.int (0 : Int32)), (.ref a1)])
      obtain ⟨cl33, Ar33, q33, S33, Nn33, H33, G33⟩ := V_a1
      have V_a1 : Arv Z h0 a1 kk .double (5 : Int32) [(.double (FP.i2d u0)), (.double (FP.i2d u1)), (.double (FP.i2d u2)), (.double (FP.i2d u3)), (.double (FP.i2d u4))] (.double (FP.l2d 0)) := ⟨cl33, Ar33, q33, S33, Nn33, H33, G33⟩
      have hin33 : ¬ ((0 : Int32) < 0 ∨ cl33.slots.size ≤ ((0 : Int32)).toNatClampNeg) := inb_of S33 ⟨by decide, by decide⟩
      have hat33 : cl33.slots[((0 : Int32)).toNatClampNeg]? = some (.double (FP.i2d u0)) := Has.at H33 hin33 rfl
      refine Go.step (X0.daload hx (j := (0 : Int32)) (v := (.double (FP.i2d u0))) (by rw [e0]; exact Ar33.1) (State.isArrayOf_alike hZ.alike Ar33.2.1) Ar33.2.2 hin33 hat33 (g := (mkF m 23 #[.val (.ref a1), .val (.double (FP.i2d vv)), .second, .val (.int (0 : Int32)), .val (.int (1 : Int32)), .val (.int (0 : Int32))] [(.int (0 : Int32)), (.ref a1)])) rfl rfl (hb hby own_f30)) ?_
      show Go p e below _ s₁ (mkF m 24 #[.val (.ref a1), .val (.double (FP.i2d vv)), .second, .val (.int (0 : Int32)), .val (.int (1 : Int32)), .val (.int (0 : Int32))] [(.double (FP.i2d u0))])
      refine Go.step (fun _ k => XS.dloadN X0.here hx rfl (hb hby own_f31) rfl k) ?_
      show Go p e below _ s₁ (mkF m 25 #[.val (.ref a1), .val (.double (FP.i2d vv)), .second, .val (.int (0 : Int32)), .val (.int (1 : Int32)), .val (.int (0 : Int32))] [(.double (FP.i2d vv)), (.double (FP.i2d u0))])
      refine Go.step (fun _ k => XS.dcmpS X0.here hx rfl (hb hby own_f32) rfl rfl k) ?_
      show Go p e below _ s₁ (mkF m 26 #[.val (.ref a1), .val (.double (FP.i2d vv)), .second, .val (.int (0 : Int32)), .val (.int (1 : Int32)), .val (.int (0 : Int32))] [(.int (cmpValue (FP.dcmp (FP.i2d u0) (FP.i2d vv)) .l))])
      by_cases hv26_34 : vv < u0
      · show Go p e below _ s₁ (mkF m 26 #[.val (.ref a1), .val (.double (FP.i2d vv)), .second, .val (.int (0 : Int32)), .val (.int (1 : Int32)), .val (.int (0 : Int32))] [(.int (cmpValue (FP.dcmp (FP.i2d u0) (FP.i2d vv)) .l))])
        refine Go.step (fun _ k => XS.ifNo X0.here hx rfl (hb hby own_f33) rfl ((if0 _ _).trans (tlt ((own_cmpi u0 vv).mpr hv26_34)).2.2.2) k) ?_
        show Go p e below _ s₁ (mkF m 29 #[.val (.ref a1), .val (.double (FP.i2d vv)), .second, .val (.int (0 : Int32)), .val (.int (1 : Int32)), .val (.int (0 : Int32))] [])
        refine Go.step (fun _ k => XS.iload X0.here hx rfl (hb hby own_f34) rfl k) ?_
        show Go p e below _ s₁ (mkF m 31 #[.val (.ref a1), .val (.double (FP.i2d vv)), .second, .val (.int (0 : Int32)), .val (.int (1 : Int32)), .val (.int (0 : Int32))] [(.int (0 : Int32))])
        refine Go.step (fun _ k => XS.istore X0.here hx rfl (hb hby own_f35) rfl (l' := #[.val (.ref a1), .val (.double (FP.i2d vv)), .second, .val (.int (0 : Int32)), .val (.int (0 : Int32)), .val (.int (0 : Int32))]) rfl k) ?_
        show Go p e below _ s₁ (mkF m 33 #[.val (.ref a1), .val (.double (FP.i2d vv)), .second, .val (.int (0 : Int32)), .val (.int (0 : Int32)), .val (.int (0 : Int32))] [])
        refine Go.step (fun _ k => XS.goto X0.here hx rfl (pc0 := 33) (pc' := 41) rfl (hb hby own_f36) (by decide) (by decide) k) ?_
        show Go p e below _ s₁ (mkF m 41 #[.val (.ref a1), .val (.double (FP.i2d vv)), .second, .val (.int (0 : Int32)), .val (.int (0 : Int32)), .val (.int (0 : Int32))] [])
        refine Go.step (fun _ k => XS.goto X0.here hx rfl (pc0 := 41) (pc' := 6) rfl (hb hby own_f37) (by decide) (by decide) k) ?_
        show Go p e below _ s₁ (mkF m 6 #[.val (.ref a1), .val (.double (FP.i2d vv)), .second, .val (.int (0 : Int32)), .val (.int (0 : Int32)), .val (.int (0 : Int32))] [])
        refine Go.step (fun _ k => XS.iloadN X0.here hx rfl (hb hby own_f16) rfl k) ?_
        show Go p e below _ s₁ (mkF m 7 #[.val (.ref a1), .val (.double (FP.i2d vv)), .second, .val (.int (0 : Int32)), .val (.int (0 : Int32)), .val (.int (0 : Int32))] [(.int (0 : Int32))])
        refine Go.step (fun _ k => XS.iload X0.here hx rfl (hb hby own_f17) rfl k) ?_
        show Go p e below _ s₁ (mkF m 9 #[.val (.ref a1), .val (.double (FP.i2d vv)), .second, .val (.int (0 : Int32)), .val (.int (0 : Int32)), .val (.int (0 : Int32))] [(.int (0 : Int32)), (.int (0 : Int32))])
        refine Go.step (fun _ k => XS.icmpYes X0.here hx rfl (pc0 := 9) (pc' := 44) rfl (hb hby own_f18) rfl (flt (by decide)).2.1 (by decide) (by decide) k) ?_
        show Go p e below _ s₁ (mkF m 44 #[.val (.ref a1), .val (.double (FP.i2d vv)), .second, .val (.int (0 : Int32)), .val (.int (0 : Int32)), .val (.int (0 : Int32))] [])
        refine Go.step (fun _ k => XS.iloadN X0.here hx rfl (hb hby own_f19) rfl k) ?_
        show Go p e below _ s₁ (mkF m 45 #[.val (.ref a1), .val (.double (FP.i2d vv)), .second, .val (.int (0 : Int32)), .val (.int (0 : Int32)), .val (.int (0 : Int32))] [(.int (0 : Int32))])
        have er : (own_c5 u0 u1 u2 u3 u4 vv) = (0 : Int32) := by simp [own_c5, hv26_30, hv26_32, hv26_34]
        obtain ⟨fs, hr, hrun, hended, hW, hsame⟩ := X0.leave (v := some (.int (0 : Int32))) (fun h => by rw [Bd.returns] at h; cases h)
        refine Go.fin (retI X0 hx Bd.returns (hb hby own_f20) hr) hrun hended ?_
        refine ⟨_, _, rfl, ?_, ⟨_, rfl⟩, hW, hsame.mono (by decide) (by decide)⟩
        show QK5 Z a1 (FP.i2d vv) kk vv u0 u1 u2 u3 u4 h0 n0 _ s₁.heap _
        rw [e0]
        exact ⟨by rw [er], N0, rfl⟩
      · show Go p e below _ s₁ (mkF m 26 #[.val (.ref a1), .val (.double (FP.i2d vv)), .second, .val (.int (0 : Int32)), .val (.int (1 : Int32)), .val (.int (0 : Int32))] [(.int (cmpValue (FP.dcmp (FP.i2d u0) (FP.i2d vv)) .l))])
        refine Go.step (fun _ k => XS.ifYes X0.here hx rfl (pc0 := 26) (pc' := 36) rfl (hb hby own_f33) rfl ((if0 _ _).trans (flt (fun q => hv26_34 ((own_cmpi u0 vv).mp q))).2.2.2) (by decide) (by decide) k) ?_
        show Go p e below _ s₁ (mkF m 36 #[.val (.ref a1), .val (.double (FP.i2d vv)), .second, .val (.int (0 : Int32)), .val (.int (1 : Int32)), .val (.int (0 : Int32))] [])
        refine Go.step (fun _ k => XS.iload X0.here hx rfl (hb hby own_f38) rfl k) ?_
        show Go p e below _ s₁ (mkF m 38 #[.val (.ref a1), .val (.double (FP.i2d vv)), .second, .val (.int (0 : Int32)), .val (.int (1 : Int32)), .val (.int (0 : Int32))] [(.int (0 : Int32))])
        refine Go.step (fun _ k => XS.iconst X0.here hx rfl (hb hby own_f39) k) ?_
        show Go p e below _ s₁ (mkF m 39 #[.val (.ref a1), .val (.double (FP.i2d vv)), .second, .val (.int (0 : Int32)), .val (.int (1 : Int32)), .val (.int (0 : Int32))] [(.int (1 : Int32)), (.int (0 : Int32))])
        refine Go.step (fun _ k => XS.iadd X0.here hx rfl (hb hby own_f40) rfl k) ?_
        show Go p e below _ s₁ (mkF m 40 #[.val (.ref a1), .val (.double (FP.i2d vv)), .second, .val (.int (0 : Int32)), .val (.int (1 : Int32)), .val (.int (0 : Int32))] [(.int ((0 : Int32) + (1 : Int32)))])
        show Go p e below _ s₁ (mkF m 40 #[.val (.ref a1), .val (.double (FP.i2d vv)), .second, .val (.int (0 : Int32)), .val (.int (1 : Int32)), .val (.int (0 : Int32))] [(.int (1 : Int32))])
        refine Go.step (fun _ k => XS.istoreN X0.here hx rfl (hb hby own_f41) rfl (l' := #[.val (.ref a1), .val (.double (FP.i2d vv)), .second, .val (.int (1 : Int32)), .val (.int (1 : Int32)), .val (.int (0 : Int32))]) rfl k) ?_
        show Go p e below _ s₁ (mkF m 41 #[.val (.ref a1), .val (.double (FP.i2d vv)), .second, .val (.int (1 : Int32)), .val (.int (1 : Int32)), .val (.int (0 : Int32))] [])
        refine Go.step (fun _ k => XS.goto X0.here hx rfl (pc0 := 41) (pc' := 6) rfl (hb hby own_f37) (by decide) (by decide) k) ?_
        show Go p e below _ s₁ (mkF m 6 #[.val (.ref a1), .val (.double (FP.i2d vv)), .second, .val (.int (1 : Int32)), .val (.int (1 : Int32)), .val (.int (0 : Int32))] [])
        refine Go.step (fun _ k => XS.iloadN X0.here hx rfl (hb hby own_f16) rfl k) ?_
        show Go p e below _ s₁ (mkF m 7 #[.val (.ref a1), .val (.double (FP.i2d vv)), .second, .val (.int (1 : Int32)), .val (.int (1 : Int32)), .val (.int (0 : Int32))] [(.int (1 : Int32))])
        refine Go.step (fun _ k => XS.iload X0.here hx rfl (hb hby own_f17) rfl k) ?_
        show Go p e below _ s₁ (mkF m 9 #[.val (.ref a1), .val (.double (FP.i2d vv)), .second, .val (.int (1 : Int32)), .val (.int (1 : Int32)), .val (.int (0 : Int32))] [(.int (1 : Int32)), (.int (1 : Int32))])
        refine Go.step (fun _ k => XS.icmpYes X0.here hx rfl (pc0 := 9) (pc' := 44) rfl (hb hby own_f18) rfl (flt (by decide)).2.1 (by decide) (by decide) k) ?_
        show Go p e below _ s₁ (mkF m 44 #[.val (.ref a1), .val (.double (FP.i2d vv)), .second, .val (.int (1 : Int32)), .val (.int (1 : Int32)), .val (.int (0 : Int32))] [])
        refine Go.step (fun _ k => XS.iloadN X0.here hx rfl (hb hby own_f19) rfl k) ?_
        show Go p e below _ s₁ (mkF m 45 #[.val (.ref a1), .val (.double (FP.i2d vv)), .second, .val (.int (1 : Int32)), .val (.int (1 : Int32)), .val (.int (0 : Int32))] [(.int (1 : Int32))])
        have er : (own_c5 u0 u1 u2 u3 u4 vv) = (1 : Int32) := by simp [own_c5, hv26_30, hv26_32, hv26_34]
        obtain ⟨fs, hr, hrun, hended, hW, hsame⟩ := X0.leave (v := some (.int (1 : Int32))) (fun h => by rw [Bd.returns] at h; cases h)
        refine Go.fin (retI X0 hx Bd.returns (hb hby own_f20) hr) hrun hended ?_
        refine ⟨_, _, rfl, ?_, ⟨_, rfl⟩, hW, hsame.mono (by decide) (by decide)⟩
        show QK5 Z a1 (FP.i2d vv) kk vv u0 u1 u2 u3 u4 h0 n0 _ s₁.heap _
        rw [e0]
        exact ⟨by rw [er], N0, rfl⟩
    · show Go p e below _ s₁ (mkF m 26 #[.val (.ref a1), .val (.double (FP.i2d vv)), .second, .val (.int (0 : Int32)), .val (.int (2 : Int32)), .val (.int (1 : Int32))] [(.int (cmpValue (FP.dcmp (FP.i2d u1) (FP.i2d vv)) .l))])
      refine Go.step (fun _ k => XS.ifYes X0.here hx rfl (pc0 := 26) (pc' := 36) rfl (hb hby own_f33) rfl ((if0 _ _).trans (flt (fun q => hv26_32 ((own_cmpi u1 vv).mp q))).2.2.2) (by decide) (by decide) k) ?_
      show Go p e below _ s₁ (mkF m 36 #[.val (.ref a1), .val (.double (FP.i2d vv)), .second, .val (.int (0 : Int32)), .val (.int (2 : Int32)), .val (.int (1 : Int32))] [])
      refine Go.step (fun _ k => XS.iload X0.here hx rfl (hb hby own_f38) rfl k) ?_
      show Go p e below _ s₁ (mkF m 38 #[.val (.ref a1), .val (.double (FP.i2d vv)), .second, .val (.int (0 : Int32)), .val (.int (2 : Int32)), .val (.int (1 : Int32))] [(.int (1 : Int32))])
      refine Go.step (fun _ k => XS.iconst X0.here hx rfl (hb hby own_f39) k) ?_
      show Go p e below _ s₁ (mkF m 39 #[.val (.ref a1), .val (.double (FP.i2d vv)), .second, .val (.int (0 : Int32)), .val (.int (2 : Int32)), .val (.int (1 : Int32))] [(.int (1 : Int32)), (.int (1 : Int32))])
      refine Go.step (fun _ k => XS.iadd X0.here hx rfl (hb hby own_f40) rfl k) ?_
      show Go p e below _ s₁ (mkF m 40 #[.val (.ref a1), .val (.double (FP.i2d vv)), .second, .val (.int (0 : Int32)), .val (.int (2 : Int32)), .val (.int (1 : Int32))] [(.int ((1 : Int32) + (1 : Int32)))])
      show Go p e below _ s₁ (mkF m 40 #[.val (.ref a1), .val (.double (FP.i2d vv)), .second, .val (.int (0 : Int32)), .val (.int (2 : Int32)), .val (.int (1 : Int32))] [(.int (2 : Int32))])
      refine Go.step (fun _ k => XS.istoreN X0.here hx rfl (hb hby own_f41) rfl (l' := #[.val (.ref a1), .val (.double (FP.i2d vv)), .second, .val (.int (2 : Int32)), .val (.int (2 : Int32)), .val (.int (1 : Int32))]) rfl k) ?_
      show Go p e below _ s₁ (mkF m 41 #[.val (.ref a1), .val (.double (FP.i2d vv)), .second, .val (.int (2 : Int32)), .val (.int (2 : Int32)), .val (.int (1 : Int32))] [])
      refine Go.step (fun _ k => XS.goto X0.here hx rfl (pc0 := 41) (pc' := 6) rfl (hb hby own_f37) (by decide) (by decide) k) ?_
      show Go p e below _ s₁ (mkF m 6 #[.val (.ref a1), .val (.double (FP.i2d vv)), .second, .val (.int (2 : Int32)), .val (.int (2 : Int32)), .val (.int (1 : Int32))] [])
      refine Go.step (fun _ k => XS.iloadN X0.here hx rfl (hb hby own_f16) rfl k) ?_
      show Go p e below _ s₁ (mkF m 7 #[.val (.ref a1), .val (.double (FP.i2d vv)), .second, .val (.int (2 : Int32)), .val (.int (2 : Int32)), .val (.int (1 : Int32))] [(.int (2 : Int32))])
      refine Go.step (fun _ k => XS.iload X0.here hx rfl (hb hby own_f17) rfl k) ?_
      show Go p e below _ s₁ (mkF m 9 #[.val (.ref a1), .val (.double (FP.i2d vv)), .second, .val (.int (2 : Int32)), .val (.int (2 : Int32)), .val (.int (1 : Int32))] [(.int (2 : Int32)), (.int (2 : Int32))])
      refine Go.step (fun _ k => XS.icmpYes X0.here hx rfl (pc0 := 9) (pc' := 44) rfl (hb hby own_f18) rfl (flt (by decide)).2.1 (by decide) (by decide) k) ?_
      show Go p e below _ s₁ (mkF m 44 #[.val (.ref a1), .val (.double (FP.i2d vv)), .second, .val (.int (2 : Int32)), .val (.int (2 : Int32)), .val (.int (1 : Int32))] [])
      refine Go.step (fun _ k => XS.iloadN X0.here hx rfl (hb hby own_f19) rfl k) ?_
      show Go p e below _ s₁ (mkF m 45 #[.val (.ref a1), .val (.double (FP.i2d vv)), .second, .val (.int (2 : Int32)), .val (.int (2 : Int32)), .val (.int (1 : Int32))] [(.int (2 : Int32))])
      have er : (own_c5 u0 u1 u2 u3 u4 vv) = (2 : Int32) := by simp [own_c5, hv26_30, hv26_32]
      obtain ⟨fs, hr, hrun, hended, hW, hsame⟩ := X0.leave (v := some (.int (2 : Int32))) (fun h => by rw [Bd.returns] at h; cases h)
      refine Go.fin (retI X0 hx Bd.returns (hb hby own_f20) hr) hrun hended ?_
      refine ⟨_, _, rfl, ?_, ⟨_, rfl⟩, hW, hsame.mono (by decide) (by decide)⟩
      show QK5 Z a1 (FP.i2d vv) kk vv u0 u1 u2 u3 u4 h0 n0 _ s₁.heap _
      rw [e0]
      exact ⟨by rw [er], N0, rfl⟩
  · show Go p e below _ s₁ (mkF m 26 #[.val (.ref a1), .val (.double (FP.i2d vv)), .second, .val (.int (0 : Int32)), .val (.int (5 : Int32)), .val (.int (2 : Int32))] [(.int (cmpValue (FP.dcmp (FP.i2d u2) (FP.i2d vv)) .l))])
    refine Go.step (fun _ k => XS.ifYes X0.here hx rfl (pc0 := 26) (pc' := 36) rfl (hb hby own_f33) rfl ((if0 _ _).trans (flt (fun q => hv26_30 ((own_cmpi u2 vv).mp q))).2.2.2) (by decide) (by decide) k) ?_
    show Go p e below _ s₁ (mkF m 36 #[.val (.ref a1), .val (.double (FP.i2d vv)), .second, .val (.int (0 : Int32)), .val (.int (5 : Int32)), .val (.int (2 : Int32))] [])
    refine Go.step (fun _ k => XS.iload X0.here hx rfl (hb hby own_f38) rfl k) ?_
    show Go p e below _ s₁ (mkF m 38 #[.val (.ref a1), .val (.double (FP.i2d vv)), .second, .val (.int (0 : Int32)), .val (.int (5 : Int32)), .val (.int (2 : Int32))] [(.int (2 : Int32))])
    refine Go.step (fun _ k => XS.iconst X0.here hx rfl (hb hby own_f39) k) ?_
    show Go p e below _ s₁ (mkF m 39 #[.val (.ref a1), .val (.double (FP.i2d vv)), .second, .val (.int (0 : Int32)), .val (.int (5 : Int32)), .val (.int (2 : Int32))] [(.int (1 : Int32)), (.int (2 : Int32))])
    refine Go.step (fun _ k => XS.iadd X0.here hx rfl (hb hby own_f40) rfl k) ?_
    show Go p e below _ s₁ (mkF m 40 #[.val (.ref a1), .val (.double (FP.i2d vv)), .second, .val (.int (0 : Int32)), .val (.int (5 : Int32)), .val (.int (2 : Int32))] [(.int ((2 : Int32) + (1 : Int32)))])
    show Go p e below _ s₁ (mkF m 40 #[.val (.ref a1), .val (.double (FP.i2d vv)), .second, .val (.int (0 : Int32)), .val (.int (5 : Int32)), .val (.int (2 : Int32))] [(.int (3 : Int32))])
    refine Go.step (fun _ k => XS.istoreN X0.here hx rfl (hb hby own_f41) rfl (l' := #[.val (.ref a1), .val (.double (FP.i2d vv)), .second, .val (.int (3 : Int32)), .val (.int (5 : Int32)), .val (.int (2 : Int32))]) rfl k) ?_
    show Go p e below _ s₁ (mkF m 41 #[.val (.ref a1), .val (.double (FP.i2d vv)), .second, .val (.int (3 : Int32)), .val (.int (5 : Int32)), .val (.int (2 : Int32))] [])
    refine Go.step (fun _ k => XS.goto X0.here hx rfl (pc0 := 41) (pc' := 6) rfl (hb hby own_f37) (by decide) (by decide) k) ?_
    show Go p e below _ s₁ (mkF m 6 #[.val (.ref a1), .val (.double (FP.i2d vv)), .second, .val (.int (3 : Int32)), .val (.int (5 : Int32)), .val (.int (2 : Int32))] [])
    refine Go.step (fun _ k => XS.iloadN X0.here hx rfl (hb hby own_f16) rfl k) ?_
    show Go p e below _ s₁ (mkF m 7 #[.val (.ref a1), .val (.double (FP.i2d vv)), .second, .val (.int (3 : Int32)), .val (.int (5 : Int32)), .val (.int (2 : Int32))] [(.int (3 : Int32))])
    refine Go.step (fun _ k => XS.iload X0.here hx rfl (hb hby own_f17) rfl k) ?_
    show Go p e below _ s₁ (mkF m 9 #[.val (.ref a1), .val (.double (FP.i2d vv)), .second, .val (.int (3 : Int32)), .val (.int (5 : Int32)), .val (.int (2 : Int32))] [(.int (5 : Int32)), (.int (3 : Int32))])
    refine Go.step (fun _ k => XS.icmpNo X0.here hx rfl (hb hby own_f18) rfl (tlt (by decide)).2.1 k) ?_
    show Go p e below _ s₁ (mkF m 12 #[.val (.ref a1), .val (.double (FP.i2d vv)), .second, .val (.int (3 : Int32)), .val (.int (5 : Int32)), .val (.int (2 : Int32))] [])
    refine Go.step (fun _ k => XS.iloadN X0.here hx rfl (hb hby own_f22) rfl k) ?_
    show Go p e below _ s₁ (mkF m 13 #[.val (.ref a1), .val (.double (FP.i2d vv)), .second, .val (.int (3 : Int32)), .val (.int (5 : Int32)), .val (.int (2 : Int32))] [(.int (3 : Int32))])
    refine Go.step (fun _ k => XS.iload X0.here hx rfl (hb hby own_f23) rfl k) ?_
    show Go p e below _ s₁ (mkF m 15 #[.val (.ref a1), .val (.double (FP.i2d vv)), .second, .val (.int (3 : Int32)), .val (.int (5 : Int32)), .val (.int (2 : Int32))] [(.int (5 : Int32)), (.int (3 : Int32))])
    refine Go.step (fun _ k => XS.iadd X0.here hx rfl (hb hby own_f24) rfl k) ?_
    show Go p e below _ s₁ (mkF m 16 #[.val (.ref a1), .val (.double (FP.i2d vv)), .second, .val (.int (3 : Int32)), .val (.int (5 : Int32)), .val (.int (2 : Int32))] [(.int ((3 : Int32) + (5 : Int32)))])
    refine Go.step (fun _ k => XS.iconst X0.here hx rfl (hb hby own_f25) k) ?_
    show Go p e below _ s₁ (mkF m 17 #[.val (.ref a1), .val (.double (FP.i2d vv)), .second, .val (.int (3 : Int32)), .val (.int (5 : Int32)), .val (.int (2 : Int32))] [(.int (1 : Int32)), (.int ((3 : Int32) + (5 : Int32)))])
    refine Go.step (fun _ k => XS.iushr X0.here hx rfl (hb hby own_f26) rfl k) ?_
    show Go p e below _ s₁ (mkF m 18 #[.val (.ref a1), .val (.double (FP.i2d vv)), .second, .val (.int (3 : Int32)), .val (.int (5 : Int32)), .val (.int (2 : Int32))] [(.int ((((3 : Int32) + (5 : Int32)).toUInt32 >>> ((1 : Int32) &&& 31).toUInt32).toInt32))])
    show Go p e below _ s₁ (mkF m 18 #[.val (.ref a1), .val (.double (FP.i2d vv)), .second, .val (.int (3 : Int32)), .val (.int (5 : Int32)), .val (.int (2 : Int32))] [(.int (4 : Int32))])
    refine Go.step (fun _ k => XS.istore X0.here hx rfl (hb hby own_f27) rfl (l' := #[.val (.ref a1), .val (.double (FP.i2d vv)), .second, .val (.int (3 : Int32)), .val (.int (5 : Int32)), .val (.int (4 : Int32))]) rfl k) ?_
    show Go p e below _ s₁ (mkF m 20 #[.val (.ref a1), .val (.double (FP.i2d vv)), .second, .val (.int (3 : Int32)), .val (.int (5 : Int32)), .val (.int (4 : Int32))] [])
    refine Go.step (fun _ k => XS.aloadN X0.here hx rfl (hb hby own_f28) rfl rfl k) ?_
    show Go p e below _ s₁ (mkF m 21 #[.val (.ref a1), .val (.double (FP.i2d vv)), .second, .val (.int (3 : Int32)), .val (.int (5 : Int32)), .val (.int (4 : Int32))] [(.ref a1)])
    refine Go.step (fun _ k => XS.iload X0.here hx rfl (hb hby own_f29) rfl k) ?_
    show Go p e below _ s₁ (mkF m 23 #[.val (.ref a1), .val (.double (FP.i2d vv)), .second, .val (.int (3 : Int32)), .val (.int (5 : Int32)), .val (.int (4 : Int32))] [(.int (4 : Int32)), (.ref a1)])
    obtain ⟨cl35, Ar35, q35, S35, Nn35, H35, G35⟩ := V_a1
    have V_a1 : Arv Z h0 a1 kk .double (5 : Int32) [(.double (FP.i2d u0)), (.double (FP.i2d u1)), (.double (FP.i2d u2)), (.double (FP.i2d u3)), (.double (FP.i2d u4))] (.double (FP.l2d 0)) := ⟨cl35, Ar35, q35, S35, Nn35, H35, G35⟩
    have hin35 : ¬ ((4 : Int32) < 0 ∨ cl35.slots.size ≤ ((4 : Int32)).toNatClampNeg) := inb_of S35 ⟨by decide, by decide⟩
    have hat35 : cl35.slots[((4 : Int32)).toNatClampNeg]? = some (.double (FP.i2d u4)) := Has.at H35 hin35 rfl
    refine Go.step (X0.daload hx (j := (4 : Int32)) (v := (.double (FP.i2d u4))) (by rw [e0]; exact Ar35.1) (State.isArrayOf_alike hZ.alike Ar35.2.1) Ar35.2.2 hin35 hat35 (g := (mkF m 23 #[.val (.ref a1), .val (.double (FP.i2d vv)), .second, .val (.int (3 : Int32)), .val (.int (5 : Int32)), .val (.int (4 : Int32))] [(.int (4 : Int32)), (.ref a1)])) rfl rfl (hb hby own_f30)) ?_
    show Go p e below _ s₁ (mkF m 24 #[.val (.ref a1), .val (.double (FP.i2d vv)), .second, .val (.int (3 : Int32)), .val (.int (5 : Int32)), .val (.int (4 : Int32))] [(.double (FP.i2d u4))])
    refine Go.step (fun _ k => XS.dloadN X0.here hx rfl (hb hby own_f31) rfl k) ?_
    show Go p e below _ s₁ (mkF m 25 #[.val (.ref a1), .val (.double (FP.i2d vv)), .second, .val (.int (3 : Int32)), .val (.int (5 : Int32)), .val (.int (4 : Int32))] [(.double (FP.i2d vv)), (.double (FP.i2d u4))])
    refine Go.step (fun _ k => XS.dcmpS X0.here hx rfl (hb hby own_f32) rfl rfl k) ?_
    show Go p e below _ s₁ (mkF m 26 #[.val (.ref a1), .val (.double (FP.i2d vv)), .second, .val (.int (3 : Int32)), .val (.int (5 : Int32)), .val (.int (4 : Int32))] [(.int (cmpValue (FP.dcmp (FP.i2d u4) (FP.i2d vv)) .l))])
    by_cases hv26_36 : vv < u4
    · show Go p e below _ s₁ (mkF m 26 #[.val (.ref a1), .val (.double (FP.i2d vv)), .second, .val (.int (3 : Int32)), .val (.int (5 : Int32)), .val (.int (4 : Int32))] [(.int (cmpValue (FP.dcmp (FP.i2d u4) (FP.i2d vv)) .l))])
      refine Go.step (fun _ k => XS.ifNo X0.here hx rfl (hb hby own_f33) rfl ((if0 _ _).trans (tlt ((own_cmpi u4 vv).mpr hv26_36)).2.2.2) k) ?_
      show Go p e below _ s₁ (mkF m 29 #[.val (.ref a1), .val (.double (FP.i2d vv)), .second, .val (.int (3 : Int32)), .val (.int (5 : Int32)), .val (.int (4 : Int32))] [])
      refine Go.step (fun _ k => XS.iload X0.here hx rfl (hb hby own_f34) rfl k) ?_
      show Go p e below _ s₁ (mkF m 31 #[.val (.ref a1), .val (.double (FP.i2d vv)), .second, .val (.int (3 : Int32)), .val (.int (5 : Int32)), .val (.int (4 : Int32))] [(.int (4 : Int32))])
      refine Go.step (fun _ k => XS.istore X0.here hx rfl (hb hby own_f35) rfl (l' := #[.val (.ref a1), .val (.double (FP.i2d vv)), .second, .val (.int (3 : Int32)), .val (.int (4 : Int32)), .val (.int (4 : Int32))]) rfl k) ?_
      show Go p e below _ s₁ (mkF m 33 #[.val (.ref a1), .val (.double (FP.i2d vv)), .second, .val (.int (3 : Int32)), .val (.int (4 : Int32)), .val (.int (4 : Int32))] [])
      refine Go.step (fun _ k => XS.goto X0.here hx rfl (pc0 := 33) (pc' := 41) rfl (hb hby own_f36) (by decide) (by decide) k) ?_
      show Go p e below _ s₁ (mkF m 41 #[.val (.ref a1), .val (.double (FP.i2d vv)), .second, .val (.int (3 : Int32)), .val (.int (4 : Int32)), .val (.int (4 : Int32))] [])
      refine Go.step (fun _ k => XS.goto X0.here hx rfl (pc0 := 41) (pc' := 6) rfl (hb hby own_f37) (by decide) (by decide) k) ?_
      show Go p e below _ s₁ (mkF m 6 #[.val (.ref a1), .val (.double (FP.i2d vv)), .second, .val (.int (3 : Int32)), .val (.int (4 : Int32)), .val (.int (4 : Int32))] [])
      refine Go.step (fun _ k => XS.iloadN X0.here hx rfl (hb hby own_f16) rfl k) ?_
      show Go p e below _ s₁ (mkF m 7 #[.val (.ref a1), .val (.double (FP.i2d vv)), .second, .val (.int (3 : Int32)), .val (.int (4 : Int32)), .val (.int (4 : Int32))] [(.int (3 : Int32))])
      refine Go.step (fun _ k => XS.iload X0.here hx rfl (hb hby own_f17) rfl k) ?_
      show Go p e below _ s₁ (mkF m 9 #[.val (.ref a1), .val (.double (FP.i2d vv)), .second, .val (.int (3 : Int32)), .val (.int (4 : Int32)), .val (.int (4 : Int32))] [(.int (4 : Int32)), (.int (3 : Int32))])
      refine Go.step (fun _ k => XS.icmpNo X0.here hx rfl (hb hby own_f18) rfl (tlt (by decide)).2.1 k) ?_
      show Go p e below _ s₁ (mkF m 12 #[.val (.ref a1), .val (.double (FP.i2d vv)), .second, .val (.int (3 : Int32)), .val (.int (4 : Int32)), .val (.int (4 : Int32))] [])
      refine Go.step (fun _ k => XS.iloadN X0.here hx rfl (hb hby own_f22) rfl k) ?_
      show Go p e below _ s₁ (mkF m 13 #[.val (.ref a1), .val (.double (FP.i2d vv)), .second, .val (.int (3 : Int32)), .val (.int (4 : Int32)), .val (.int (4 : Int32))] [(.int (3 : Int32))])
      refine Go.step (fun _ k => XS.iload X0.here hx rfl (hb hby own_f23) rfl k) ?_
      show Go p e below _ s₁ (mkF m 15 #[.val (.ref a1), .val (.double (FP.i2d vv)), .second, .val (.int (3 : Int32)), .val (.int (4 : Int32)), .val (.int (4 : Int32))] [(.int (4 : Int32)), (.int (3 : Int32))])
      refine Go.step (fun _ k => XS.iadd X0.here hx rfl (hb hby own_f24) rfl k) ?_
      show Go p e below _ s₁ (mkF m 16 #[.val (.ref a1), .val (.double (FP.i2d vv)), .second, .val (.int (3 : Int32)), .val (.int (4 : Int32)), .val (.int (4 : Int32))] [(.int ((3 : Int32) + (4 : Int32)))])
      refine Go.step (fun _ k => XS.iconst X0.here hx rfl (hb hby own_f25) k) ?_
      show Go p e below _ s₁ (mkF m 17 #[.val (.ref a1), .val (.double (FP.i2d vv)), .second, .val (.int (3 : Int32)), .val (.int (4 : Int32)), .val (.int (4 : Int32))] [(.int (1 : Int32)), (.int ((3 : Int32) + (4 : Int32)))])
      refine Go.step (fun _ k => XS.iushr X0.here hx rfl (hb hby own_f26) rfl k) ?_
      show Go p e below _ s₁ (mkF m 18 #[.val (.ref a1), .val (.double (FP.i2d vv)), .second, .val (.int (3 : Int32)), .val (.int (4 : Int32)), .val (.int (4 : Int32))] [(.int ((((3 : Int32) + (4 : Int32)).toUInt32 >>> ((1 : Int32) &&& 31).toUInt32).toInt32))])
      show Go p e below _ s₁ (mkF m 18 #[.val (.ref a1), .val (.double (FP.i2d vv)), .second, .val (.int (3 : Int32)), .val (.int (4 : Int32)), .val (.int (4 : Int32))] [(.int (3 : Int32))])
      refine Go.step (fun _ k => XS.istore X0.here hx rfl (hb hby own_f27) rfl (l' := #[.val (.ref a1), .val (.double (FP.i2d vv)), .second, .val (.int (3 : Int32)), .val (.int (4 : Int32)), .val (.int (3 : Int32))]) rfl k) ?_
      show Go p e below _ s₁ (mkF m 20 #[.val (.ref a1), .val (.double (FP.i2d vv)), .second, .val (.int (3 : Int32)), .val (.int (4 : Int32)), .val (.int (3 : Int32))] [])
      refine Go.step (fun _ k => XS.aloadN X0.here hx rfl (hb hby own_f28) rfl rfl k) ?_
      show Go p e below _ s₁ (mkF m 21 #[.val (.ref a1), .val (.double (FP.i2d vv)), .second, .val (.int (3 : Int32)), .val (.int (4 : Int32)), .val (.int (3 : Int32))] [(.ref a1)])
      refine Go.step (fun _ k => XS.iload X0.here hx rfl (hb hby own_f29) rfl k) ?_
      show Go p e below _ s₁ (mkF m 23 #[.val (.ref a1), .val (.double (FP.i2d vv)), .second, .val (.int (3 : Int32)), .val (.int (4 : Int32)), .val (.int (3 : Int32))] [(.int (3 : Int32)), (.ref a1)])
      obtain ⟨cl37, Ar37, q37, S37, Nn37, H37, G37⟩ := V_a1
      have V_a1 : Arv Z h0 a1 kk .double (5 : Int32) [(.double (FP.i2d u0)), (.double (FP.i2d u1)), (.double (FP.i2d u2)), (.double (FP.i2d u3)), (.double (FP.i2d u4))] (.double (FP.l2d 0)) := ⟨cl37, Ar37, q37, S37, Nn37, H37, G37⟩
      have hin37 : ¬ ((3 : Int32) < 0 ∨ cl37.slots.size ≤ ((3 : Int32)).toNatClampNeg) := inb_of S37 ⟨by decide, by decide⟩
      have hat37 : cl37.slots[((3 : Int32)).toNatClampNeg]? = some (.double (FP.i2d u3)) := Has.at H37 hin37 rfl
      refine Go.step (X0.daload hx (j := (3 : Int32)) (v := (.double (FP.i2d u3))) (by rw [e0]; exact Ar37.1) (State.isArrayOf_alike hZ.alike Ar37.2.1) Ar37.2.2 hin37 hat37 (g := (mkF m 23 #[.val (.ref a1), .val (.double (FP.i2d vv)), .second, .val (.int (3 : Int32)), .val (.int (4 : Int32)), .val (.int (3 : Int32))] [(.int (3 : Int32)), (.ref a1)])) rfl rfl (hb hby own_f30)) ?_
      show Go p e below _ s₁ (mkF m 24 #[.val (.ref a1), .val (.double (FP.i2d vv)), .second, .val (.int (3 : Int32)), .val (.int (4 : Int32)), .val (.int (3 : Int32))] [(.double (FP.i2d u3))])
      refine Go.step (fun _ k => XS.dloadN X0.here hx rfl (hb hby own_f31) rfl k) ?_
      show Go p e below _ s₁ (mkF m 25 #[.val (.ref a1), .val (.double (FP.i2d vv)), .second, .val (.int (3 : Int32)), .val (.int (4 : Int32)), .val (.int (3 : Int32))] [(.double (FP.i2d vv)), (.double (FP.i2d u3))])
      refine Go.step (fun _ k => XS.dcmpS X0.here hx rfl (hb hby own_f32) rfl rfl k) ?_
      show Go p e below _ s₁ (mkF m 26 #[.val (.ref a1), .val (.double (FP.i2d vv)), .second, .val (.int (3 : Int32)), .val (.int (4 : Int32)), .val (.int (3 : Int32))] [(.int (cmpValue (FP.dcmp (FP.i2d u3) (FP.i2d vv)) .l))])
      by_cases hv26_38 : vv < u3
      · show Go p e below _ s₁ (mkF m 26 #[.val (.ref a1), .val (.double (FP.i2d vv)), .second, .val (.int (3 : Int32)), .val (.int (4 : Int32)), .val (.int (3 : Int32))] [(.int (cmpValue (FP.dcmp (FP.i2d u3) (FP.i2d vv)) .l))])
        refine Go.step (fun _ k => XS.ifNo X0.here hx rfl (hb hby own_f33) rfl ((if0 _ _).trans (tlt ((own_cmpi u3 vv).mpr hv26_38)).2.2.2) k) ?_
        show Go p e below _ s₁ (mkF m 29 #[.val (.ref a1), .val (.double (FP.i2d vv)), .second, .val (.int (3 : Int32)), .val (.int (4 : Int32)), .val (.int (3 : Int32))] [])
        refine Go.step (fun _ k => XS.iload X0.here hx rfl (hb hby own_f34) rfl k) ?_
        show Go p e below _ s₁ (mkF m 31 #[.val (.ref a1), .val (.double (FP.i2d vv)), .second, .val (.int (3 : Int32)), .val (.int (4 : Int32)), .val (.int (3 : Int32))] [(.int (3 : Int32))])
        refine Go.step (fun _ k => XS.istore X0.here hx rfl (hb hby own_f35) rfl (l' := #[.val (.ref a1), .val (.double (FP.i2d vv)), .second, .val (.int (3 : Int32)), .val (.int (3 : Int32)), .val (.int (3 : Int32))]) rfl k) ?_
        show Go p e below _ s₁ (mkF m 33 #[.val (.ref a1), .val (.double (FP.i2d vv)), .second, .val (.int (3 : Int32)), .val (.int (3 : Int32)), .val (.int (3 : Int32))] [])
        refine Go.step (fun _ k => XS.goto X0.here hx rfl (pc0 := 33) (pc' := 41) rfl (hb hby own_f36) (by decide) (by decide) k) ?_
        show Go p e below _ s₁ (mkF m 41 #[.val (.ref a1), .val (.double (FP.i2d vv)), .second, .val (.int (3 : Int32)), .val (.int (3 : Int32)), .val (.int (3 : Int32))] [])
        refine Go.step (fun _ k => XS.goto X0.here hx rfl (pc0 := 41) (pc' := 6) rfl (hb hby own_f37) (by decide) (by decide) k) ?_
        show Go p e below _ s₁ (mkF m 6 #[.val (.ref a1), .val (.double (FP.i2d vv)), .second, .val (.int (3 : Int32)), .val (.int (3 : Int32)), .val (.int (3 : Int32))] [])
        refine Go.step (fun _ k => XS.iloadN X0.here hx rfl (hb hby own_f16) rfl k) ?_
        show Go p e below _ s₁ (mkF m 7 #[.val (.ref a1), .val (.double (FP.i2d vv)), .second, .val (.int (3 : Int32)), .val (.int (3 : Int32)), .val (.int (3 : Int32))] [(.int (3 : Int32))])
        refine Go.step (fun _ k => XS.iload X0.here hx rfl (hb hby own_f17) rfl k) ?_
        show Go p e below _ s₁ (mkF m 9 #[.val (.ref a1), .val (.double (FP.i2d vv)), .second, .val (.int (3 : Int32)), .val (.int (3 : Int32)), .val (.int (3 : Int32))] [(.int (3 : Int32)), (.int (3 : Int32))])
        refine Go.step (fun _ k => XS.icmpYes X0.here hx rfl (pc0 := 9) (pc' := 44) rfl (hb hby own_f18) rfl (flt (by decide)).2.1 (by decide) (by decide) k) ?_
        show Go p e below _ s₁ (mkF m 44 #[.val (.ref a1), .val (.double (FP.i2d vv)), .second, .val (.int (3 : Int32)), .val (.int (3 : Int32)), .val (.int (3 : Int32))] [])
        refine Go.step (fun _ k => XS.iloadN X0.here hx rfl (hb hby own_f19) rfl k) ?_
        show Go p e below _ s₁ (mkF m 45 #[.val (.ref a1), .val (.double (FP.i2d vv)), .second, .val (.int (3 : Int32)), .val (.int (3 : Int32)), .val (.int (3 : Int32))] [(.int (3 : Int32))])
        have er : (own_c5 u0 u1 u2 u3 u4 vv) = (3 : Int32) := by simp [own_c5, hv26_30, hv26_36, hv26_38]
        obtain ⟨fs, hr, hrun, hended, hW, hsame⟩ := X0.leave (v := some (.int (3 : Int32))) (fun h => by rw [Bd.returns] at h; cases h)
        refine Go.fin (retI X0 hx Bd.returns (hb hby own_f20) hr) hrun hended ?_
        refine ⟨_, _, rfl, ?_, ⟨_, rfl⟩, hW, hsame.mono (by decide) (by decide)⟩
        show QK5 Z a1 (FP.i2d vv) kk vv u0 u1 u2 u3 u4 h0 n0 _ s₁.heap _
        rw [e0]
        exact ⟨by rw [er], N0, rfl⟩
      · show Go p e below _ s₁ (mkF m 26 #[.val (.ref a1), .val (.double (FP.i2d vv)), .second, .val (.int (3 : Int32)), .val (.int (4 : Int32)), .val (.int (3 : Int32))] [(.int (cmpValue (FP.dcmp (FP.i2d u3) (FP.i2d vv)) .l))])
        refine Go.step (fun _ k => XS.ifYes X0.here hx rfl (pc0 := 26) (pc' := 36) rfl (hb hby own_f33) rfl ((if0 _ _).trans (flt (fun q => hv26_38 ((own_cmpi u3 vv).mp q))).2.2.2) (by decide) (by decide) k) ?_
        show Go p e below _ s₁ (mkF m 36 #[.val (.ref a1), .val (.double (FP.i2d vv)), .second, .val (.int (3 : Int32)), .val (.int (4 : Int32)), .val (.int (3 : Int32))] [])
        refine Go.step (fun _ k => XS.iload X0.here hx rfl (hb hby own_f38) rfl k) ?_
        show Go p e below _ s₁ (mkF m 38 #[.val (.ref a1), .val (.double (FP.i2d vv)), .second, .val (.int (3 : Int32)), .val (.int (4 : Int32)), .val (.int (3 : Int32))] [(.int (3 : Int32))])
        refine Go.step (fun _ k => XS.iconst X0.here hx rfl (hb hby own_f39) k) ?_
        show Go p e below _ s₁ (mkF m 39 #[.val (.ref a1), .val (.double (FP.i2d vv)), .second, .val (.int (3 : Int32)), .val (.int (4 : Int32)), .val (.int (3 : Int32))] [(.int (1 : Int32)), (.int (3 : Int32))])
        refine Go.step (fun _ k => XS.iadd X0.here hx rfl (hb hby own_f40) rfl k) ?_
        show Go p e below _ s₁ (mkF m 40 #[.val (.ref a1), .val (.double (FP.i2d vv)), .second, .val (.int (3 : Int32)), .val (.int (4 : Int32)), .val (.int (3 : Int32))] [(.int ((3 : Int32) + (1 : Int32)))])
        show Go p e below _ s₁ (mkF m 40 #[.val (.ref a1), .val (.double (FP.i2d vv)), .second, .val (.int (3 : Int32)), .val (.int (4 : Int32)), .val (.int (3 : Int32))] [(.int (4 : Int32))])
        refine Go.step (fun _ k => XS.istoreN X0.here hx rfl (hb hby own_f41) rfl (l' := #[.val (.ref a1), .val (.double (FP.i2d vv)), .second, .val (.int (4 : Int32)), .val (.int (4 : Int32)), .val (.int (3 : Int32))]) rfl k) ?_
        show Go p e below _ s₁ (mkF m 41 #[.val (.ref a1), .val (.double (FP.i2d vv)), .second, .val (.int (4 : Int32)), .val (.int (4 : Int32)), .val (.int (3 : Int32))] [])
        refine Go.step (fun _ k => XS.goto X0.here hx rfl (pc0 := 41) (pc' := 6) rfl (hb hby own_f37) (by decide) (by decide) k) ?_
        show Go p e below _ s₁ (mkF m 6 #[.val (.ref a1), .val (.double (FP.i2d vv)), .second, .val (.int (4 : Int32)), .val (.int (4 : Int32)), .val (.int (3 : Int32))] [])
        refine Go.step (fun _ k => XS.iloadN X0.here hx rfl (hb hby own_f16) rfl k) ?_
        show Go p e below _ s₁ (mkF m 7 #[.val (.ref a1), .val (.double (FP.i2d vv)), .second, .val (.int (4 : Int32)), .val (.int (4 : Int32)), .val (.int (3 : Int32))] [(.int (4 : Int32))])
        refine Go.step (fun _ k => XS.iload X0.here hx rfl (hb hby own_f17) rfl k) ?_
        show Go p e below _ s₁ (mkF m 9 #[.val (.ref a1), .val (.double (FP.i2d vv)), .second, .val (.int (4 : Int32)), .val (.int (4 : Int32)), .val (.int (3 : Int32))] [(.int (4 : Int32)), (.int (4 : Int32))])
        refine Go.step (fun _ k => XS.icmpYes X0.here hx rfl (pc0 := 9) (pc' := 44) rfl (hb hby own_f18) rfl (flt (by decide)).2.1 (by decide) (by decide) k) ?_
        show Go p e below _ s₁ (mkF m 44 #[.val (.ref a1), .val (.double (FP.i2d vv)), .second, .val (.int (4 : Int32)), .val (.int (4 : Int32)), .val (.int (3 : Int32))] [])
        refine Go.step (fun _ k => XS.iloadN X0.here hx rfl (hb hby own_f19) rfl k) ?_
        show Go p e below _ s₁ (mkF m 45 #[.val (.ref a1), .val (.double (FP.i2d vv)), .second, .val (.int (4 : Int32)), .val (.int (4 : Int32)), .val (.int (3 : Int32))] [(.int (4 : Int32))])
        have er : (own_c5 u0 u1 u2 u3 u4 vv) = (4 : Int32) := by simp [own_c5, hv26_30, hv26_36, hv26_38]
        obtain ⟨fs, hr, hrun, hended, hW, hsame⟩ := X0.leave (v := some (.int (4 : Int32))) (fun h => by rw [Bd.returns] at h; cases h)
        refine Go.fin (retI X0 hx Bd.returns (hb hby own_f20) hr) hrun hended ?_
        refine ⟨_, _, rfl, ?_, ⟨_, rfl⟩, hW, hsame.mono (by decide) (by decide)⟩
        show QK5 Z a1 (FP.i2d vv) kk vv u0 u1 u2 u3 u4 h0 n0 _ s₁.heap _
        rw [e0]
        exact ⟨by rw [er], N0, rfl⟩
    · show Go p e below _ s₁ (mkF m 26 #[.val (.ref a1), .val (.double (FP.i2d vv)), .second, .val (.int (3 : Int32)), .val (.int (5 : Int32)), .val (.int (4 : Int32))] [(.int (cmpValue (FP.dcmp (FP.i2d u4) (FP.i2d vv)) .l))])
      refine Go.step (fun _ k => XS.ifYes X0.here hx rfl (pc0 := 26) (pc' := 36) rfl (hb hby own_f33) rfl ((if0 _ _).trans (flt (fun q => hv26_36 ((own_cmpi u4 vv).mp q))).2.2.2) (by decide) (by decide) k) ?_
      show Go p e below _ s₁ (mkF m 36 #[.val (.ref a1), .val (.double (FP.i2d vv)), .second, .val (.int (3 : Int32)), .val (.int (5 : Int32)), .val (.int (4 : Int32))] [])
      refine Go.step (fun _ k => XS.iload X0.here hx rfl (hb hby own_f38) rfl k) ?_
      show Go p e below _ s₁ (mkF m 38 #[.val (.ref a1), .val (.double (FP.i2d vv)), .second, .val (.int (3 : Int32)), .val (.int (5 : Int32)), .val (.int (4 : Int32))] [(.int (4 : Int32))])
      refine Go.step (fun _ k => XS.iconst X0.here hx rfl (hb hby own_f39) k) ?_
      show Go p e below _ s₁ (mkF m 39 #[.val (.ref a1), .val (.double (FP.i2d vv)), .second, .val (.int (3 : Int32)), .val (.int (5 : Int32)), .val (.int (4 : Int32))] [(.int (1 : Int32)), (.int (4 : Int32))])
      refine Go.step (fun _ k => XS.iadd X0.here hx rfl (hb hby own_f40) rfl k) ?_
      show Go p e below _ s₁ (mkF m 40 #[.val (.ref a1), .val (.double (FP.i2d vv)), .second, .val (.int (3 : Int32)), .val (.int (5 : Int32)), .val (.int (4 : Int32))] [(.int ((4 : Int32) + (1 : Int32)))])
      show Go p e below _ s₁ (mkF m 40 #[.val (.ref a1), .val (.double (FP.i2d vv)), .second, .val (.int (3 : Int32)), .val (.int (5 : Int32)), .val (.int (4 : Int32))] [(.int (5 : Int32))])
      refine Go.step (fun _ k => XS.istoreN X0.here hx rfl (hb hby own_f41) rfl (l' := #[.val (.ref a1), .val (.double (FP.i2d vv)), .second, .val (.int (5 : Int32)), .val (.int (5 : Int32)), .val (.int (4 : Int32))]) rfl k) ?_
      show Go p e below _ s₁ (mkF m 41 #[.val (.ref a1), .val (.double (FP.i2d vv)), .second, .val (.int (5 : Int32)), .val (.int (5 : Int32)), .val (.int (4 : Int32))] [])
      refine Go.step (fun _ k => XS.goto X0.here hx rfl (pc0 := 41) (pc' := 6) rfl (hb hby own_f37) (by decide) (by decide) k) ?_
      show Go p e below _ s₁ (mkF m 6 #[.val (.ref a1), .val (.double (FP.i2d vv)), .second, .val (.int (5 : Int32)), .val (.int (5 : Int32)), .val (.int (4 : Int32))] [])
      refine Go.step (fun _ k => XS.iloadN X0.here hx rfl (hb hby own_f16) rfl k) ?_
      show Go p e below _ s₁ (mkF m 7 #[.val (.ref a1), .val (.double (FP.i2d vv)), .second, .val (.int (5 : Int32)), .val (.int (5 : Int32)), .val (.int (4 : Int32))] [(.int (5 : Int32))])
      refine Go.step (fun _ k => XS.iload X0.here hx rfl (hb hby own_f17) rfl k) ?_
      show Go p e below _ s₁ (mkF m 9 #[.val (.ref a1), .val (.double (FP.i2d vv)), .second, .val (.int (5 : Int32)), .val (.int (5 : Int32)), .val (.int (4 : Int32))] [(.int (5 : Int32)), (.int (5 : Int32))])
      refine Go.step (fun _ k => XS.icmpYes X0.here hx rfl (pc0 := 9) (pc' := 44) rfl (hb hby own_f18) rfl (flt (by decide)).2.1 (by decide) (by decide) k) ?_
      show Go p e below _ s₁ (mkF m 44 #[.val (.ref a1), .val (.double (FP.i2d vv)), .second, .val (.int (5 : Int32)), .val (.int (5 : Int32)), .val (.int (4 : Int32))] [])
      refine Go.step (fun _ k => XS.iloadN X0.here hx rfl (hb hby own_f19) rfl k) ?_
      show Go p e below _ s₁ (mkF m 45 #[.val (.ref a1), .val (.double (FP.i2d vv)), .second, .val (.int (5 : Int32)), .val (.int (5 : Int32)), .val (.int (4 : Int32))] [(.int (5 : Int32))])
      have er : (own_c5 u0 u1 u2 u3 u4 vv) = (5 : Int32) := by simp [own_c5, hv26_30, hv26_36]
      obtain ⟨fs, hr, hrun, hended, hW, hsame⟩ := X0.leave (v := some (.int (5 : Int32))) (fun h => by rw [Bd.returns] at h; cases h)
      refine Go.fin (retI X0 hx Bd.returns (hb hby own_f20) hr) hrun hended ?_
      refine ⟨_, _, rfl, ?_, ⟨_, rfl⟩, hW, hsame.mono (by decide) (by decide)⟩
      show QK5 Z a1 (FP.i2d vv) kk vv u0 u1 u2 u3 u4 h0 n0 _ s₁.heap _
      rw [e0]
      exact ⟨by rw [er], N0, rfl⟩
theorem own_f42 : parseMethodDescriptor "(IIII)I" = some ⟨[.int, .int, .int, .int], some .int⟩ := by decide +kernel
theorem own_f43 : parseMethodDescriptor "([DD)I" = some ⟨[(.array .double), .double], some .int⟩ := by decide +kernel
theorem own_ef_0 (m : MethodId) (i0 : Int32) (i1 : Int32) (i2 : Int32) (i3 : Int32) : entryFrame m #[(.int i0), (.int i1), (.int i2), (.int i3)] maxLocals = mkF m 0 #[.val (.int i0), .val (.int i1), .val (.int i2), .val (.int i3), .unset, .unset, .unset, .unset, .unset, .unset, .unset, .unset, .unset, .unset] [] := by first | (simp [entryFrame, mkF, argsToLocals, Value.category, maxLocals]; done) | rfl
def Q0 (Z : State) (i0 : Int32) (i1 : Int32) (i2 : Int32) (i3 : Int32) (h0 : Heap) (n0 : Nat) (v : Option Value) (h : Heap) (L : List Loc) : Prop := v = some (.int 1) ∧ Fr n0 L
set_option maxRecDepth 65536 in
set_option maxHeartbeats 40000000 in
theorem rm0 (l : Launch) (Z : State) (a0 : Array Value) (hw : ∀ d ∈ tables_1, d.before a0 Z = true) (ws : List Jvm.Cond) (i0 : Int32) (i1 : Int32) (i2 : Int32) (i3 : Int32) (h0 : Heap) (n0 : Nat) (Z0 : n0 ≤ h0.size)  :
    MetFree l x (head1 (Jvm.Cond.code x code maxLocals ret :: ws) room_1) (fun a U => a = #[(.int i0), (.int i1), (.int i2), (.int i3)] ∧ Z.Warmed39 U.vm ∧ U.heap = h0) (fun _ _ _ _ _ => True) (fun _ U o U' => ∃ v L, o = .returned v ∧ Q0 Z i0 i1 i2 i3 h0 n0 v U'.heap L ∧ FrameEnd U o U' L 1 5) := by
  refine MetFree.of_bodySF (plainFor_of_name own_f10) hisR ?_
  intro p e s m args below meth c s₁ Bd hml0 hP hK
  obtain ⟨rfl, hZ, hh⟩ := hP
  have hx := Bd.exec
  have hby := Bd.bytes
  have hml : c.maxLocals = 14 := hml0
  have hown : s.vm.findClass "com/example/bidkeel/bidkeel/KnapsackCountUpToPinLaw" = some m.cls := findClass_of_methodNamed Bd.named
  have hnm := (name_of_methodNamed Bd.named Bd.method).1
  have X0 : Stand p l e room_1 s m #[(.int i0), (.int i1), (.int i2), (.int i3)] below meth c s₁ [] 0 0 := Stand.of_body Bd
  have e0 : s₁.heap = h0 := by rw [← hh, Bd.state]; rfl
  have N0 := Fr.nil n0
  refine Go.start (own_ef_0 m i0 i1 i2 i3) ?_
  show Go p e below _ s₁ (mkF m 0 #[.val (.int i0), .val (.int i1), .val (.int i2), .val (.int i3), .unset, .unset, .unset, .unset, .unset, .unset, .unset, .unset, .unset, .unset] [])
  have Zn := Z0
  have K0 : Keep h0 h0 [] := Keep.refl h0 _
  refine Go.step (fun _ k => XS.iloadN X0.here hx rfl (hb hby at_0) rfl k) ?_
  show Go p e below _ s₁ (mkF m 1 #[.val (.int i0), .val (.int i1), .val (.int i2), .val (.int i3), .unset, .unset, .unset, .unset, .unset, .unset, .unset, .unset, .unset, .unset] [(.int i0)])
  refine Go.step (X0.ldcInt hx hown (mvT hZ (hw _ (List.mem_of_getElem? (i := 0) rfl))) (g := (mkF m 1 #[.val (.int i0), .val (.int i1), .val (.int i2), .val (.int i3), .unset, .unset, .unset, .unset, .unset, .unset, .unset, .unset, .unset, .unset] [(.int i0)])) rfl (hb hby at_1)) ?_
  show Go p e below _ s₁ (mkF m 3 #[.val (.int i0), .val (.int i1), .val (.int i2), .val (.int i3), .unset, .unset, .unset, .unset, .unset, .unset, .unset, .unset, .unset, .unset] [(.int (2147483647 : Int32)), (.int i0)])
  refine Go.step (fun _ k => XS.iand X0.here hx rfl (hb hby at_3) rfl k) ?_
  show Go p e below _ s₁ (mkF m 4 #[.val (.int i0), .val (.int i1), .val (.int i2), .val (.int i3), .unset, .unset, .unset, .unset, .unset, .unset, .unset, .unset, .unset, .unset] [(.int (i0 &&& (2147483647 : Int32)))])
  refine Go.step (fun _ k => XS.bipush X0.here hx rfl (hb hby at_4) k) ?_
  show Go p e below _ s₁ (mkF m 6 #[.val (.int i0), .val (.int i1), .val (.int i2), .val (.int i3), .unset, .unset, .unset, .unset, .unset, .unset, .unset, .unset, .unset, .unset] [(.int (6 : Int32)), (.int (i0 &&& (2147483647 : Int32)))])
  refine Go.step (fun _ k => iremM X0 hx rfl (hb hby at_6) rfl (by decide) k) ?_
  show Go p e below _ s₁ (mkF m 7 #[.val (.int i0), .val (.int i1), .val (.int i2), .val (.int i3), .unset, .unset, .unset, .unset, .unset, .unset, .unset, .unset, .unset, .unset] [(.int ((i0 &&& (2147483647 : Int32)) % (6 : Int32)))])
  obtain ⟨nn, e_nn⟩ : ∃ z : Int32, z = ((i0 &&& (2147483647 : Int32)) % (6 : Int32)) := ⟨_, rfl⟩
  rw [← e_nn]
  show Go p e below _ s₁ (mkF m 7 #[.val (.int i0), .val (.int i1), .val (.int i2), .val (.int i3), .unset, .unset, .unset, .unset, .unset, .unset, .unset, .unset, .unset, .unset] [(.int nn)])
  refine Go.step (fun _ k => XS.istore X0.here hx rfl (hb hby at_7) rfl (l' := #[.val (.int i0), .val (.int i1), .val (.int i2), .val (.int i3), .val (.int nn), .unset, .unset, .unset, .unset, .unset, .unset, .unset, .unset, .unset]) rfl k) ?_
  show Go p e below _ s₁ (mkF m 9 #[.val (.int i0), .val (.int i1), .val (.int i2), .val (.int i3), .val (.int nn), .unset, .unset, .unset, .unset, .unset, .unset, .unset, .unset, .unset] [])
  refine Go.step (fun _ k => XS.iconst X0.here hx rfl (hb hby at_9) k) ?_
  show Go p e below _ s₁ (mkF m 10 #[.val (.int i0), .val (.int i1), .val (.int i2), .val (.int i3), .val (.int nn), .unset, .unset, .unset, .unset, .unset, .unset, .unset, .unset, .unset] [(.int (2 : Int32))])
  refine Go.step (fun _ k => XS.iloadN X0.here hx rfl (hb hby at_10) rfl k) ?_
  show Go p e below _ s₁ (mkF m 11 #[.val (.int i0), .val (.int i1), .val (.int i2), .val (.int i3), .val (.int nn), .unset, .unset, .unset, .unset, .unset, .unset, .unset, .unset, .unset] [(.int i1), (.int (2 : Int32))])
  refine Go.step (fun _ k => XS.bipush X0.here hx rfl (hb hby at_11) k) ?_
  show Go p e below _ s₁ (mkF m 13 #[.val (.int i0), .val (.int i1), .val (.int i2), .val (.int i3), .val (.int nn), .unset, .unset, .unset, .unset, .unset, .unset, .unset, .unset, .unset] [(.int (63 : Int32)), (.int i1), (.int (2 : Int32))])
  refine Go.step (fun _ k => XS.iand X0.here hx rfl (hb hby at_13) rfl k) ?_
  show Go p e below _ s₁ (mkF m 14 #[.val (.int i0), .val (.int i1), .val (.int i2), .val (.int i3), .val (.int nn), .unset, .unset, .unset, .unset, .unset, .unset, .unset, .unset, .unset] [(.int (i1 &&& (63 : Int32))), (.int (2 : Int32))])
  refine Go.step (fun _ k => XS.bipush X0.here hx rfl (hb hby at_14) k) ?_
  show Go p e below _ s₁ (mkF m 16 #[.val (.int i0), .val (.int i1), .val (.int i2), .val (.int i3), .val (.int nn), .unset, .unset, .unset, .unset, .unset, .unset, .unset, .unset, .unset] [(.int (32 : Int32)), (.int (i1 &&& (63 : Int32))), (.int (2 : Int32))])
  refine Go.step (fun _ k => XS.isub X0.here hx rfl (hb hby at_16) rfl k) ?_
  show Go p e below _ s₁ (mkF m 17 #[.val (.int i0), .val (.int i1), .val (.int i2), .val (.int i3), .val (.int nn), .unset, .unset, .unset, .unset, .unset, .unset, .unset, .unset, .unset] [(.int ((i1 &&& (63 : Int32)) - (32 : Int32))), (.int (2 : Int32))])
  refine Go.step (fun _ k => XS.imul X0.here hx rfl (hb hby at_17) rfl k) ?_
  show Go p e below _ s₁ (mkF m 18 #[.val (.int i0), .val (.int i1), .val (.int i2), .val (.int i3), .val (.int nn), .unset, .unset, .unset, .unset, .unset, .unset, .unset, .unset, .unset] [(.int ((2 : Int32) * ((i1 &&& (63 : Int32)) - (32 : Int32))))])
  obtain ⟨aa0, e_aa0⟩ : ∃ z : Int32, z = ((2 : Int32) * ((i1 &&& (63 : Int32)) - (32 : Int32))) := ⟨_, rfl⟩
  rw [← e_aa0]
  show Go p e below _ s₁ (mkF m 18 #[.val (.int i0), .val (.int i1), .val (.int i2), .val (.int i3), .val (.int nn), .unset, .unset, .unset, .unset, .unset, .unset, .unset, .unset, .unset] [(.int aa0)])
  refine Go.step (fun _ k => XS.istore X0.here hx rfl (hb hby at_18) rfl (l' := #[.val (.int i0), .val (.int i1), .val (.int i2), .val (.int i3), .val (.int nn), .val (.int aa0), .unset, .unset, .unset, .unset, .unset, .unset, .unset, .unset]) rfl k) ?_
  show Go p e below _ s₁ (mkF m 20 #[.val (.int i0), .val (.int i1), .val (.int i2), .val (.int i3), .val (.int nn), .val (.int aa0), .unset, .unset, .unset, .unset, .unset, .unset, .unset, .unset] [])
  refine Go.step (fun _ k => XS.iload X0.here hx rfl (hb hby at_20) rfl k) ?_
  show Go p e below _ s₁ (mkF m 22 #[.val (.int i0), .val (.int i1), .val (.int i2), .val (.int i3), .val (.int nn), .val (.int aa0), .unset, .unset, .unset, .unset, .unset, .unset, .unset, .unset] [(.int aa0)])
  refine Go.step (fun _ k => XS.iconst X0.here hx rfl (hb hby at_22) k) ?_
  show Go p e below _ s₁ (mkF m 23 #[.val (.int i0), .val (.int i1), .val (.int i2), .val (.int i3), .val (.int nn), .val (.int aa0), .unset, .unset, .unset, .unset, .unset, .unset, .unset, .unset] [(.int (2 : Int32)), (.int aa0)])
  refine Go.step (fun _ k => XS.iloadN X0.here hx rfl (hb hby at_23) rfl k) ?_
  show Go p e below _ s₁ (mkF m 24 #[.val (.int i0), .val (.int i1), .val (.int i2), .val (.int i3), .val (.int nn), .val (.int aa0), .unset, .unset, .unset, .unset, .unset, .unset, .unset, .unset] [(.int i2), (.int (2 : Int32)), (.int aa0)])
  refine Go.step (fun _ k => XS.iconst X0.here hx rfl (hb hby at_24) k) ?_
  show Go p e below _ s₁ (mkF m 25 #[.val (.int i0), .val (.int i1), .val (.int i2), .val (.int i3), .val (.int nn), .val (.int aa0), .unset, .unset, .unset, .unset, .unset, .unset, .unset, .unset] [(.int (3 : Int32)), (.int i2), (.int (2 : Int32)), (.int aa0)])
  refine Go.step (fun _ k => XS.iand X0.here hx rfl (hb hby at_25) rfl k) ?_
  show Go p e below _ s₁ (mkF m 26 #[.val (.int i0), .val (.int i1), .val (.int i2), .val (.int i3), .val (.int nn), .val (.int aa0), .unset, .unset, .unset, .unset, .unset, .unset, .unset, .unset] [(.int (i2 &&& (3 : Int32))), (.int (2 : Int32)), (.int aa0)])
  refine Go.step (fun _ k => XS.imul X0.here hx rfl (hb hby at_26) rfl k) ?_
  show Go p e below _ s₁ (mkF m 27 #[.val (.int i0), .val (.int i1), .val (.int i2), .val (.int i3), .val (.int nn), .val (.int aa0), .unset, .unset, .unset, .unset, .unset, .unset, .unset, .unset] [(.int ((2 : Int32) * (i2 &&& (3 : Int32)))), (.int aa0)])
  refine Go.step (fun _ k => XS.iadd X0.here hx rfl (hb hby at_27) rfl k) ?_
  show Go p e below _ s₁ (mkF m 28 #[.val (.int i0), .val (.int i1), .val (.int i2), .val (.int i3), .val (.int nn), .val (.int aa0), .unset, .unset, .unset, .unset, .unset, .unset, .unset, .unset] [(.int (aa0 + ((2 : Int32) * (i2 &&& (3 : Int32)))))])
  obtain ⟨aa1, e_aa1⟩ : ∃ z : Int32, z = (aa0 + ((2 : Int32) * (i2 &&& (3 : Int32)))) := ⟨_, rfl⟩
  rw [← e_aa1]
  show Go p e below _ s₁ (mkF m 28 #[.val (.int i0), .val (.int i1), .val (.int i2), .val (.int i3), .val (.int nn), .val (.int aa0), .unset, .unset, .unset, .unset, .unset, .unset, .unset, .unset] [(.int aa1)])
  refine Go.step (fun _ k => XS.istore X0.here hx rfl (hb hby at_28) rfl (l' := #[.val (.int i0), .val (.int i1), .val (.int i2), .val (.int i3), .val (.int nn), .val (.int aa0), .val (.int aa1), .unset, .unset, .unset, .unset, .unset, .unset, .unset]) rfl k) ?_
  show Go p e below _ s₁ (mkF m 30 #[.val (.int i0), .val (.int i1), .val (.int i2), .val (.int i3), .val (.int nn), .val (.int aa0), .val (.int aa1), .unset, .unset, .unset, .unset, .unset, .unset, .unset] [])
  refine Go.step (fun _ k => XS.iload X0.here hx rfl (hb hby at_30) rfl k) ?_
  show Go p e below _ s₁ (mkF m 32 #[.val (.int i0), .val (.int i1), .val (.int i2), .val (.int i3), .val (.int nn), .val (.int aa0), .val (.int aa1), .unset, .unset, .unset, .unset, .unset, .unset, .unset] [(.int aa1)])
  refine Go.step (fun _ k => XS.iconst X0.here hx rfl (hb hby at_32) k) ?_
  show Go p e below _ s₁ (mkF m 33 #[.val (.int i0), .val (.int i1), .val (.int i2), .val (.int i3), .val (.int nn), .val (.int aa0), .val (.int aa1), .unset, .unset, .unset, .unset, .unset, .unset, .unset] [(.int (2 : Int32)), (.int aa1)])
  refine Go.step (fun _ k => XS.iloadN X0.here hx rfl (hb hby at_33) rfl k) ?_
  show Go p e below _ s₁ (mkF m 34 #[.val (.int i0), .val (.int i1), .val (.int i2), .val (.int i3), .val (.int nn), .val (.int aa0), .val (.int aa1), .unset, .unset, .unset, .unset, .unset, .unset, .unset] [(.int i2), (.int (2 : Int32)), (.int aa1)])
  refine Go.step (fun _ k => XS.iconst X0.here hx rfl (hb hby at_34) k) ?_
  show Go p e below _ s₁ (mkF m 35 #[.val (.int i0), .val (.int i1), .val (.int i2), .val (.int i3), .val (.int nn), .val (.int aa0), .val (.int aa1), .unset, .unset, .unset, .unset, .unset, .unset, .unset] [(.int (2 : Int32)), (.int i2), (.int (2 : Int32)), (.int aa1)])
  refine Go.step (fun _ k => XS.iushr X0.here hx rfl (hb hby at_35) rfl k) ?_
  show Go p e below _ s₁ (mkF m 36 #[.val (.int i0), .val (.int i1), .val (.int i2), .val (.int i3), .val (.int nn), .val (.int aa0), .val (.int aa1), .unset, .unset, .unset, .unset, .unset, .unset, .unset] [(.int ((i2.toUInt32 >>> ((2 : Int32) &&& 31).toUInt32).toInt32)), (.int (2 : Int32)), (.int aa1)])
  refine Go.step (fun _ k => XS.iconst X0.here hx rfl (hb hby at_36) k) ?_
  show Go p e below _ s₁ (mkF m 37 #[.val (.int i0), .val (.int i1), .val (.int i2), .val (.int i3), .val (.int nn), .val (.int aa0), .val (.int aa1), .unset, .unset, .unset, .unset, .unset, .unset, .unset] [(.int (3 : Int32)), (.int ((i2.toUInt32 >>> ((2 : Int32) &&& 31).toUInt32).toInt32)), (.int (2 : Int32)), (.int aa1)])
  refine Go.step (fun _ k => XS.iand X0.here hx rfl (hb hby at_37) rfl k) ?_
  show Go p e below _ s₁ (mkF m 38 #[.val (.int i0), .val (.int i1), .val (.int i2), .val (.int i3), .val (.int nn), .val (.int aa0), .val (.int aa1), .unset, .unset, .unset, .unset, .unset, .unset, .unset] [(.int (((i2.toUInt32 >>> ((2 : Int32) &&& 31).toUInt32).toInt32) &&& (3 : Int32))), (.int (2 : Int32)), (.int aa1)])
  refine Go.step (fun _ k => XS.imul X0.here hx rfl (hb hby at_38) rfl k) ?_
  show Go p e below _ s₁ (mkF m 39 #[.val (.int i0), .val (.int i1), .val (.int i2), .val (.int i3), .val (.int nn), .val (.int aa0), .val (.int aa1), .unset, .unset, .unset, .unset, .unset, .unset, .unset] [(.int ((2 : Int32) * (((i2.toUInt32 >>> ((2 : Int32) &&& 31).toUInt32).toInt32) &&& (3 : Int32)))), (.int aa1)])
  refine Go.step (fun _ k => XS.iadd X0.here hx rfl (hb hby at_39) rfl k) ?_
  show Go p e below _ s₁ (mkF m 40 #[.val (.int i0), .val (.int i1), .val (.int i2), .val (.int i3), .val (.int nn), .val (.int aa0), .val (.int aa1), .unset, .unset, .unset, .unset, .unset, .unset, .unset] [(.int (aa1 + ((2 : Int32) * (((i2.toUInt32 >>> ((2 : Int32) &&& 31).toUInt32).toInt32) &&& (3 : Int32)))))])
  obtain ⟨aa2, e_aa2⟩ : ∃ z : Int32, z = (aa1 + ((2 : Int32) * (((i2.toUInt32 >>> ((2 : Int32) &&& 31).toUInt32).toInt32) &&& (3 : Int32)))) := ⟨_, rfl⟩
  rw [← e_aa2]
  show Go p e below _ s₁ (mkF m 40 #[.val (.int i0), .val (.int i1), .val (.int i2), .val (.int i3), .val (.int nn), .val (.int aa0), .val (.int aa1), .unset, .unset, .unset, .unset, .unset, .unset, .unset] [(.int aa2)])
  refine Go.step (fun _ k => XS.istore X0.here hx rfl (hb hby at_40) rfl (l' := #[.val (.int i0), .val (.int i1), .val (.int i2), .val (.int i3), .val (.int nn), .val (.int aa0), .val (.int aa1), .val (.int aa2), .unset, .unset, .unset, .unset, .unset, .unset]) rfl k) ?_
  show Go p e below _ s₁ (mkF m 42 #[.val (.int i0), .val (.int i1), .val (.int i2), .val (.int i3), .val (.int nn), .val (.int aa0), .val (.int aa1), .val (.int aa2), .unset, .unset, .unset, .unset, .unset, .unset] [])
  refine Go.step (fun _ k => XS.iload X0.here hx rfl (hb hby at_42) rfl k) ?_
  show Go p e below _ s₁ (mkF m 44 #[.val (.int i0), .val (.int i1), .val (.int i2), .val (.int i3), .val (.int nn), .val (.int aa0), .val (.int aa1), .val (.int aa2), .unset, .unset, .unset, .unset, .unset, .unset] [(.int aa2)])
  refine Go.step (fun _ k => XS.iconst X0.here hx rfl (hb hby at_44) k) ?_
  show Go p e below _ s₁ (mkF m 45 #[.val (.int i0), .val (.int i1), .val (.int i2), .val (.int i3), .val (.int nn), .val (.int aa0), .val (.int aa1), .val (.int aa2), .unset, .unset, .unset, .unset, .unset, .unset] [(.int (2 : Int32)), (.int aa2)])
  refine Go.step (fun _ k => XS.iloadN X0.here hx rfl (hb hby at_45) rfl k) ?_
  show Go p e below _ s₁ (mkF m 46 #[.val (.int i0), .val (.int i1), .val (.int i2), .val (.int i3), .val (.int nn), .val (.int aa0), .val (.int aa1), .val (.int aa2), .unset, .unset, .unset, .unset, .unset, .unset] [(.int i2), (.int (2 : Int32)), (.int aa2)])
  refine Go.step (fun _ k => XS.iconst X0.here hx rfl (hb hby at_46) k) ?_
  show Go p e below _ s₁ (mkF m 47 #[.val (.int i0), .val (.int i1), .val (.int i2), .val (.int i3), .val (.int nn), .val (.int aa0), .val (.int aa1), .val (.int aa2), .unset, .unset, .unset, .unset, .unset, .unset] [(.int (4 : Int32)), (.int i2), (.int (2 : Int32)), (.int aa2)])
  refine Go.step (fun _ k => XS.iushr X0.here hx rfl (hb hby at_47) rfl k) ?_
  show Go p e below _ s₁ (mkF m 48 #[.val (.int i0), .val (.int i1), .val (.int i2), .val (.int i3), .val (.int nn), .val (.int aa0), .val (.int aa1), .val (.int aa2), .unset, .unset, .unset, .unset, .unset, .unset] [(.int ((i2.toUInt32 >>> ((4 : Int32) &&& 31).toUInt32).toInt32)), (.int (2 : Int32)), (.int aa2)])
  refine Go.step (fun _ k => XS.iconst X0.here hx rfl (hb hby at_48) k) ?_
  show Go p e below _ s₁ (mkF m 49 #[.val (.int i0), .val (.int i1), .val (.int i2), .val (.int i3), .val (.int nn), .val (.int aa0), .val (.int aa1), .val (.int aa2), .unset, .unset, .unset, .unset, .unset, .unset] [(.int (3 : Int32)), (.int ((i2.toUInt32 >>> ((4 : Int32) &&& 31).toUInt32).toInt32)), (.int (2 : Int32)), (.int aa2)])
  refine Go.step (fun _ k => XS.iand X0.here hx rfl (hb hby at_49) rfl k) ?_
  show Go p e below _ s₁ (mkF m 50 #[.val (.int i0), .val (.int i1), .val (.int i2), .val (.int i3), .val (.int nn), .val (.int aa0), .val (.int aa1), .val (.int aa2), .unset, .unset, .unset, .unset, .unset, .unset] [(.int (((i2.toUInt32 >>> ((4 : Int32) &&& 31).toUInt32).toInt32) &&& (3 : Int32))), (.int (2 : Int32)), (.int aa2)])
  refine Go.step (fun _ k => XS.imul X0.here hx rfl (hb hby at_50) rfl k) ?_
  show Go p e below _ s₁ (mkF m 51 #[.val (.int i0), .val (.int i1), .val (.int i2), .val (.int i3), .val (.int nn), .val (.int aa0), .val (.int aa1), .val (.int aa2), .unset, .unset, .unset, .unset, .unset, .unset] [(.int ((2 : Int32) * (((i2.toUInt32 >>> ((4 : Int32) &&& 31).toUInt32).toInt32) &&& (3 : Int32)))), (.int aa2)])
  refine Go.step (fun _ k => XS.iadd X0.here hx rfl (hb hby at_51) rfl k) ?_
  show Go p e below _ s₁ (mkF m 52 #[.val (.int i0), .val (.int i1), .val (.int i2), .val (.int i3), .val (.int nn), .val (.int aa0), .val (.int aa1), .val (.int aa2), .unset, .unset, .unset, .unset, .unset, .unset] [(.int (aa2 + ((2 : Int32) * (((i2.toUInt32 >>> ((4 : Int32) &&& 31).toUInt32).toInt32) &&& (3 : Int32)))))])
  obtain ⟨aa3, e_aa3⟩ : ∃ z : Int32, z = (aa2 + ((2 : Int32) * (((i2.toUInt32 >>> ((4 : Int32) &&& 31).toUInt32).toInt32) &&& (3 : Int32)))) := ⟨_, rfl⟩
  rw [← e_aa3]
  show Go p e below _ s₁ (mkF m 52 #[.val (.int i0), .val (.int i1), .val (.int i2), .val (.int i3), .val (.int nn), .val (.int aa0), .val (.int aa1), .val (.int aa2), .unset, .unset, .unset, .unset, .unset, .unset] [(.int aa3)])
  refine Go.step (fun _ k => XS.istore X0.here hx rfl (hb hby at_52) rfl (l' := #[.val (.int i0), .val (.int i1), .val (.int i2), .val (.int i3), .val (.int nn), .val (.int aa0), .val (.int aa1), .val (.int aa2), .val (.int aa3), .unset, .unset, .unset, .unset, .unset]) rfl k) ?_
  show Go p e below _ s₁ (mkF m 54 #[.val (.int i0), .val (.int i1), .val (.int i2), .val (.int i3), .val (.int nn), .val (.int aa0), .val (.int aa1), .val (.int aa2), .val (.int aa3), .unset, .unset, .unset, .unset, .unset] [])
  refine Go.step (fun _ k => XS.iload X0.here hx rfl (hb hby at_54) rfl k) ?_
  show Go p e below _ s₁ (mkF m 56 #[.val (.int i0), .val (.int i1), .val (.int i2), .val (.int i3), .val (.int nn), .val (.int aa0), .val (.int aa1), .val (.int aa2), .val (.int aa3), .unset, .unset, .unset, .unset, .unset] [(.int aa3)])
  refine Go.step (fun _ k => XS.iconst X0.here hx rfl (hb hby at_56) k) ?_
  show Go p e below _ s₁ (mkF m 57 #[.val (.int i0), .val (.int i1), .val (.int i2), .val (.int i3), .val (.int nn), .val (.int aa0), .val (.int aa1), .val (.int aa2), .val (.int aa3), .unset, .unset, .unset, .unset, .unset] [(.int (2 : Int32)), (.int aa3)])
  refine Go.step (fun _ k => XS.iloadN X0.here hx rfl (hb hby at_57) rfl k) ?_
  show Go p e below _ s₁ (mkF m 58 #[.val (.int i0), .val (.int i1), .val (.int i2), .val (.int i3), .val (.int nn), .val (.int aa0), .val (.int aa1), .val (.int aa2), .val (.int aa3), .unset, .unset, .unset, .unset, .unset] [(.int i2), (.int (2 : Int32)), (.int aa3)])
  refine Go.step (fun _ k => XS.bipush X0.here hx rfl (hb hby at_58) k) ?_
  show Go p e below _ s₁ (mkF m 60 #[.val (.int i0), .val (.int i1), .val (.int i2), .val (.int i3), .val (.int nn), .val (.int aa0), .val (.int aa1), .val (.int aa2), .val (.int aa3), .unset, .unset, .unset, .unset, .unset] [(.int (6 : Int32)), (.int i2), (.int (2 : Int32)), (.int aa3)])
  refine Go.step (fun _ k => XS.iushr X0.here hx rfl (hb hby at_60) rfl k) ?_
  show Go p e below _ s₁ (mkF m 61 #[.val (.int i0), .val (.int i1), .val (.int i2), .val (.int i3), .val (.int nn), .val (.int aa0), .val (.int aa1), .val (.int aa2), .val (.int aa3), .unset, .unset, .unset, .unset, .unset] [(.int ((i2.toUInt32 >>> ((6 : Int32) &&& 31).toUInt32).toInt32)), (.int (2 : Int32)), (.int aa3)])
  refine Go.step (fun _ k => XS.iconst X0.here hx rfl (hb hby at_61) k) ?_
  show Go p e below _ s₁ (mkF m 62 #[.val (.int i0), .val (.int i1), .val (.int i2), .val (.int i3), .val (.int nn), .val (.int aa0), .val (.int aa1), .val (.int aa2), .val (.int aa3), .unset, .unset, .unset, .unset, .unset] [(.int (3 : Int32)), (.int ((i2.toUInt32 >>> ((6 : Int32) &&& 31).toUInt32).toInt32)), (.int (2 : Int32)), (.int aa3)])
  refine Go.step (fun _ k => XS.iand X0.here hx rfl (hb hby at_62) rfl k) ?_
  show Go p e below _ s₁ (mkF m 63 #[.val (.int i0), .val (.int i1), .val (.int i2), .val (.int i3), .val (.int nn), .val (.int aa0), .val (.int aa1), .val (.int aa2), .val (.int aa3), .unset, .unset, .unset, .unset, .unset] [(.int (((i2.toUInt32 >>> ((6 : Int32) &&& 31).toUInt32).toInt32) &&& (3 : Int32))), (.int (2 : Int32)), (.int aa3)])
  refine Go.step (fun _ k => XS.imul X0.here hx rfl (hb hby at_63) rfl k) ?_
  show Go p e below _ s₁ (mkF m 64 #[.val (.int i0), .val (.int i1), .val (.int i2), .val (.int i3), .val (.int nn), .val (.int aa0), .val (.int aa1), .val (.int aa2), .val (.int aa3), .unset, .unset, .unset, .unset, .unset] [(.int ((2 : Int32) * (((i2.toUInt32 >>> ((6 : Int32) &&& 31).toUInt32).toInt32) &&& (3 : Int32)))), (.int aa3)])
  refine Go.step (fun _ k => XS.iadd X0.here hx rfl (hb hby at_64) rfl k) ?_
  show Go p e below _ s₁ (mkF m 65 #[.val (.int i0), .val (.int i1), .val (.int i2), .val (.int i3), .val (.int nn), .val (.int aa0), .val (.int aa1), .val (.int aa2), .val (.int aa3), .unset, .unset, .unset, .unset, .unset] [(.int (aa3 + ((2 : Int32) * (((i2.toUInt32 >>> ((6 : Int32) &&& 31).toUInt32).toInt32) &&& (3 : Int32)))))])
  obtain ⟨aa4, e_aa4⟩ : ∃ z : Int32, z = (aa3 + ((2 : Int32) * (((i2.toUInt32 >>> ((6 : Int32) &&& 31).toUInt32).toInt32) &&& (3 : Int32)))) := ⟨_, rfl⟩
  rw [← e_aa4]
  show Go p e below _ s₁ (mkF m 65 #[.val (.int i0), .val (.int i1), .val (.int i2), .val (.int i3), .val (.int nn), .val (.int aa0), .val (.int aa1), .val (.int aa2), .val (.int aa3), .unset, .unset, .unset, .unset, .unset] [(.int aa4)])
  refine Go.step (fun _ k => XS.istore X0.here hx rfl (hb hby at_65) rfl (l' := #[.val (.int i0), .val (.int i1), .val (.int i2), .val (.int i3), .val (.int nn), .val (.int aa0), .val (.int aa1), .val (.int aa2), .val (.int aa3), .val (.int aa4), .unset, .unset, .unset, .unset]) rfl k) ?_
  show Go p e below _ s₁ (mkF m 67 #[.val (.int i0), .val (.int i1), .val (.int i2), .val (.int i3), .val (.int nn), .val (.int aa0), .val (.int aa1), .val (.int aa2), .val (.int aa3), .val (.int aa4), .unset, .unset, .unset, .unset] [])
  refine Go.step (fun _ k => XS.iloadN X0.here hx rfl (hb hby at_67) rfl k) ?_
  show Go p e below _ s₁ (mkF m 68 #[.val (.int i0), .val (.int i1), .val (.int i2), .val (.int i3), .val (.int nn), .val (.int aa0), .val (.int aa1), .val (.int aa2), .val (.int aa3), .val (.int aa4), .unset, .unset, .unset, .unset] [(.int i3)])
  refine Go.step (fun _ k => XS.sipush X0.here hx rfl (hb hby at_68) k) ?_
  show Go p e below _ s₁ (mkF m 71 #[.val (.int i0), .val (.int i1), .val (.int i2), .val (.int i3), .val (.int nn), .val (.int aa0), .val (.int aa1), .val (.int aa2), .val (.int aa3), .val (.int aa4), .unset, .unset, .unset, .unset] [(.int (255 : Int32)), (.int i3)])
  refine Go.step (fun _ k => XS.iand X0.here hx rfl (hb hby at_71) rfl k) ?_
  show Go p e below _ s₁ (mkF m 72 #[.val (.int i0), .val (.int i1), .val (.int i2), .val (.int i3), .val (.int nn), .val (.int aa0), .val (.int aa1), .val (.int aa2), .val (.int aa3), .val (.int aa4), .unset, .unset, .unset, .unset] [(.int (i3 &&& (255 : Int32)))])
  refine Go.step (fun _ k => XS.sipush X0.here hx rfl (hb hby at_72) k) ?_
  show Go p e below _ s₁ (mkF m 75 #[.val (.int i0), .val (.int i1), .val (.int i2), .val (.int i3), .val (.int nn), .val (.int aa0), .val (.int aa1), .val (.int aa2), .val (.int aa3), .val (.int aa4), .unset, .unset, .unset, .unset] [(.int (128 : Int32)), (.int (i3 &&& (255 : Int32)))])
  refine Go.step (fun _ k => XS.isub X0.here hx rfl (hb hby at_75) rfl k) ?_
  show Go p e below _ s₁ (mkF m 76 #[.val (.int i0), .val (.int i1), .val (.int i2), .val (.int i3), .val (.int nn), .val (.int aa0), .val (.int aa1), .val (.int aa2), .val (.int aa3), .val (.int aa4), .unset, .unset, .unset, .unset] [(.int ((i3 &&& (255 : Int32)) - (128 : Int32)))])
  obtain ⟨vv, e_vv⟩ : ∃ z : Int32, z = ((i3 &&& (255 : Int32)) - (128 : Int32)) := ⟨_, rfl⟩
  rw [← e_vv]
  show Go p e below _ s₁ (mkF m 76 #[.val (.int i0), .val (.int i1), .val (.int i2), .val (.int i3), .val (.int nn), .val (.int aa0), .val (.int aa1), .val (.int aa2), .val (.int aa3), .val (.int aa4), .unset, .unset, .unset, .unset] [(.int vv)])
  have hs := own_sorted e_aa0 e_aa1 e_aa2 e_aa3 e_aa4
  have hn := own_n6 i0
  rw [← e_nn] at hn
  refine Go.step (fun _ k => XS.istore X0.here hx rfl (hb hby at_76) rfl (l' := #[.val (.int i0), .val (.int i1), .val (.int i2), .val (.int i3), .val (.int nn), .val (.int aa0), .val (.int aa1), .val (.int aa2), .val (.int aa3), .val (.int aa4), .val (.int vv), .unset, .unset, .unset]) rfl k) ?_
  show Go p e below _ s₁ (mkF m 78 #[.val (.int i0), .val (.int i1), .val (.int i2), .val (.int i3), .val (.int nn), .val (.int aa0), .val (.int aa1), .val (.int aa2), .val (.int aa3), .val (.int aa4), .val (.int vv), .unset, .unset, .unset] [])
  refine Go.step (fun _ k => XS.iload X0.here hx rfl (hb hby at_78) rfl k) ?_
  show Go p e below _ s₁ (mkF m 80 #[.val (.int i0), .val (.int i1), .val (.int i2), .val (.int i3), .val (.int nn), .val (.int aa0), .val (.int aa1), .val (.int aa2), .val (.int aa3), .val (.int aa4), .val (.int vv), .unset, .unset, .unset] [(.int nn)])
  rcases hn with rfl | rfl | rfl | rfl | rfl | rfl
  · show Go p e below _ s₁ (mkF m 80 #[.val (.int i0), .val (.int i1), .val (.int i2), .val (.int i3), .val (.int (0 : Int32)), .val (.int aa0), .val (.int aa1), .val (.int aa2), .val (.int aa3), .val (.int aa4), .val (.int vv), .unset, .unset, .unset] [(.int (0 : Int32))])
    obtain ⟨T39, h39, k39, X39, e39, E39, A39, st39⟩ := newP X0 hx hZ (hw _ (List.mem_of_getElem? (i := 1) rfl)) e0 (g := (mkF m 80 #[.val (.int i0), .val (.int i1), .val (.int i2), .val (.int i3), .val (.int (0 : Int32)), .val (.int aa0), .val (.int aa1), .val (.int aa2), .val (.int aa3), .val (.int aa4), .val (.int vv), .unset, .unset, .unset] [(.int (0 : Int32))])) rfl (hb hby at_80) rfl (by decide) (cap := 0) (by decide) (by decide) (by decide) (by decide)
    obtain ⟨ar, g39⟩ : ∃ z, z = h0.size := ⟨_, rfl⟩
    rw [← g39] at A39 st39
    have g_ar : n0 ≤ ar := Nat.le_trans Zn (Nat.le_of_eq g39.symm)
    have sz_ar : h0.size ≤ ar := Nat.le_trans K0.1 (Nat.le_of_eq g39.symm)
    replace Zn := Nat.le_trans Zn E39.1
    replace K0 := K0.ext E39
    have V_ar : Arv Z h39 ar k39 .double (0 : Int32) [] (.double (FP.l2d 0)) := Arv.newD A39 (by decide)
    refine Go.step st39 ?_
    show Go p e below _ T39 (mkF m 82 #[.val (.int i0), .val (.int i1), .val (.int i2), .val (.int i3), .val (.int (0 : Int32)), .val (.int aa0), .val (.int aa1), .val (.int aa2), .val (.int aa3), .val (.int aa4), .val (.int vv), .unset, .unset, .unset] [(.ref ar)])
    refine Go.step (fun _ k => XS.astore X39.here hx rfl (hb hby at_82) rfl rfl (l' := #[.val (.int i0), .val (.int i1), .val (.int i2), .val (.int i3), .val (.int (0 : Int32)), .val (.int aa0), .val (.int aa1), .val (.int aa2), .val (.int aa3), .val (.int aa4), .val (.int vv), .val (.ref ar), .unset, .unset]) rfl k) ?_
    show Go p e below _ T39 (mkF m 84 #[.val (.int i0), .val (.int i1), .val (.int i2), .val (.int i3), .val (.int (0 : Int32)), .val (.int aa0), .val (.int aa1), .val (.int aa2), .val (.int aa3), .val (.int aa4), .val (.int vv), .val (.ref ar), .unset, .unset] [])
    refine Go.step (fun _ k => XS.iload X39.here hx rfl (hb hby at_84) rfl k) ?_
    show Go p e below _ T39 (mkF m 86 #[.val (.int i0), .val (.int i1), .val (.int i2), .val (.int i3), .val (.int (0 : Int32)), .val (.int aa0), .val (.int aa1), .val (.int aa2), .val (.int aa3), .val (.int aa4), .val (.int vv), .val (.ref ar), .unset, .unset] [(.int (0 : Int32))])
    refine Go.step (fun _ k => XS.ifYes X39.here hx rfl (pc0 := 86) (pc' := 96) rfl (hb hby at_86) rfl ((if0 _ _).trans (flt (by decide)).2.2.2) (by decide) (by decide) k) ?_
    show Go p e below _ T39 (mkF m 96 #[.val (.int i0), .val (.int i1), .val (.int i2), .val (.int i3), .val (.int (0 : Int32)), .val (.int aa0), .val (.int aa1), .val (.int aa2), .val (.int aa3), .val (.int aa4), .val (.int vv), .val (.ref ar), .unset, .unset] [])
    refine Go.step (fun _ k => XS.iload X39.here hx rfl (hb hby at_96) rfl k) ?_
    show Go p e below _ T39 (mkF m 98 #[.val (.int i0), .val (.int i1), .val (.int i2), .val (.int i3), .val (.int (0 : Int32)), .val (.int aa0), .val (.int aa1), .val (.int aa2), .val (.int aa3), .val (.int aa4), .val (.int vv), .val (.ref ar), .unset, .unset] [(.int (0 : Int32))])
    refine Go.step (fun _ k => XS.iconst X39.here hx rfl (hb hby at_98) k) ?_
    show Go p e below _ T39 (mkF m 99 #[.val (.int i0), .val (.int i1), .val (.int i2), .val (.int i3), .val (.int (0 : Int32)), .val (.int aa0), .val (.int aa1), .val (.int aa2), .val (.int aa3), .val (.int aa4), .val (.int vv), .val (.ref ar), .unset, .unset] [(.int (1 : Int32)), (.int (0 : Int32))])
    refine Go.step (fun _ k => XS.icmpYes X39.here hx rfl (pc0 := 99) (pc' := 109) rfl (hb hby at_99) rfl (flt (by decide)).2.2.2 (by decide) (by decide) k) ?_
    show Go p e below _ T39 (mkF m 109 #[.val (.int i0), .val (.int i1), .val (.int i2), .val (.int i3), .val (.int (0 : Int32)), .val (.int aa0), .val (.int aa1), .val (.int aa2), .val (.int aa3), .val (.int aa4), .val (.int vv), .val (.ref ar), .unset, .unset] [])
    refine Go.step (fun _ k => XS.iload X39.here hx rfl (hb hby at_109) rfl k) ?_
    show Go p e below _ T39 (mkF m 111 #[.val (.int i0), .val (.int i1), .val (.int i2), .val (.int i3), .val (.int (0 : Int32)), .val (.int aa0), .val (.int aa1), .val (.int aa2), .val (.int aa3), .val (.int aa4), .val (.int vv), .val (.ref ar), .unset, .unset] [(.int (0 : Int32))])
    refine Go.step (fun _ k => XS.iconst X39.here hx rfl (hb hby at_111) k) ?_
    show Go p e below _ T39 (mkF m 112 #[.val (.int i0), .val (.int i1), .val (.int i2), .val (.int i3), .val (.int (0 : Int32)), .val (.int aa0), .val (.int aa1), .val (.int aa2), .val (.int aa3), .val (.int aa4), .val (.int vv), .val (.ref ar), .unset, .unset] [(.int (2 : Int32)), (.int (0 : Int32))])
    refine Go.step (fun _ k => XS.icmpYes X39.here hx rfl (pc0 := 112) (pc' := 122) rfl (hb hby at_112) rfl (flt (by decide)).2.2.2 (by decide) (by decide) k) ?_
    show Go p e below _ T39 (mkF m 122 #[.val (.int i0), .val (.int i1), .val (.int i2), .val (.int i3), .val (.int (0 : Int32)), .val (.int aa0), .val (.int aa1), .val (.int aa2), .val (.int aa3), .val (.int aa4), .val (.int vv), .val (.ref ar), .unset, .unset] [])
    refine Go.step (fun _ k => XS.iload X39.here hx rfl (hb hby at_122) rfl k) ?_
    show Go p e below _ T39 (mkF m 124 #[.val (.int i0), .val (.int i1), .val (.int i2), .val (.int i3), .val (.int (0 : Int32)), .val (.int aa0), .val (.int aa1), .val (.int aa2), .val (.int aa3), .val (.int aa4), .val (.int vv), .val (.ref ar), .unset, .unset] [(.int (0 : Int32))])
    refine Go.step (fun _ k => XS.iconst X39.here hx rfl (hb hby at_124) k) ?_
    show Go p e below _ T39 (mkF m 125 #[.val (.int i0), .val (.int i1), .val (.int i2), .val (.int i3), .val (.int (0 : Int32)), .val (.int aa0), .val (.int aa1), .val (.int aa2), .val (.int aa3), .val (.int aa4), .val (.int vv), .val (.ref ar), .unset, .unset] [(.int (3 : Int32)), (.int (0 : Int32))])
    refine Go.step (fun _ k => XS.icmpYes X39.here hx rfl (pc0 := 125) (pc' := 135) rfl (hb hby at_125) rfl (flt (by decide)).2.2.2 (by decide) (by decide) k) ?_
    show Go p e below _ T39 (mkF m 135 #[.val (.int i0), .val (.int i1), .val (.int i2), .val (.int i3), .val (.int (0 : Int32)), .val (.int aa0), .val (.int aa1), .val (.int aa2), .val (.int aa3), .val (.int aa4), .val (.int vv), .val (.ref ar), .unset, .unset] [])
    refine Go.step (fun _ k => XS.iload X39.here hx rfl (hb hby at_135) rfl k) ?_
    show Go p e below _ T39 (mkF m 137 #[.val (.int i0), .val (.int i1), .val (.int i2), .val (.int i3), .val (.int (0 : Int32)), .val (.int aa0), .val (.int aa1), .val (.int aa2), .val (.int aa3), .val (.int aa4), .val (.int vv), .val (.ref ar), .unset, .unset] [(.int (0 : Int32))])
    refine Go.step (fun _ k => XS.iconst X39.here hx rfl (hb hby at_137) k) ?_
    show Go p e below _ T39 (mkF m 138 #[.val (.int i0), .val (.int i1), .val (.int i2), .val (.int i3), .val (.int (0 : Int32)), .val (.int aa0), .val (.int aa1), .val (.int aa2), .val (.int aa3), .val (.int aa4), .val (.int vv), .val (.ref ar), .unset, .unset] [(.int (4 : Int32)), (.int (0 : Int32))])
    refine Go.step (fun _ k => XS.icmpYes X39.here hx rfl (pc0 := 138) (pc' := 148) rfl (hb hby at_138) rfl (flt (by decide)).2.2.2 (by decide) (by decide) k) ?_
    show Go p e below _ T39 (mkF m 148 #[.val (.int i0), .val (.int i1), .val (.int i2), .val (.int i3), .val (.int (0 : Int32)), .val (.int aa0), .val (.int aa1), .val (.int aa2), .val (.int aa3), .val (.int aa4), .val (.int vv), .val (.ref ar), .unset, .unset] [])
    refine Go.step (fun _ k => XS.iload X39.here hx rfl (hb hby at_148) rfl k) ?_
    show Go p e below _ T39 (mkF m 150 #[.val (.int i0), .val (.int i1), .val (.int i2), .val (.int i3), .val (.int (0 : Int32)), .val (.int aa0), .val (.int aa1), .val (.int aa2), .val (.int aa3), .val (.int aa4), .val (.int vv), .val (.ref ar), .unset, .unset] [(.int (0 : Int32))])
    refine Go.step (fun _ k => XS.iconst X39.here hx rfl (hb hby at_150) k) ?_
    show Go p e below _ T39 (mkF m 151 #[.val (.int i0), .val (.int i1), .val (.int i2), .val (.int i3), .val (.int (0 : Int32)), .val (.int aa0), .val (.int aa1), .val (.int aa2), .val (.int aa3), .val (.int aa4), .val (.int vv), .val (.ref ar), .unset, .unset] [(.int (0 : Int32)), (.int (0 : Int32))])
    refine Go.step (fun _ k => XS.iload X39.here hx rfl (hb hby at_151) rfl k) ?_
    show Go p e below _ T39 (mkF m 153 #[.val (.int i0), .val (.int i1), .val (.int i2), .val (.int i3), .val (.int (0 : Int32)), .val (.int aa0), .val (.int aa1), .val (.int aa2), .val (.int aa3), .val (.int aa4), .val (.int vv), .val (.ref ar), .unset, .unset] [(.int aa0), (.int (0 : Int32)), (.int (0 : Int32))])
    refine Go.step (fun _ k => XS.iload X39.here hx rfl (hb hby at_153) rfl k) ?_
    show Go p e below _ T39 (mkF m 155 #[.val (.int i0), .val (.int i1), .val (.int i2), .val (.int i3), .val (.int (0 : Int32)), .val (.int aa0), .val (.int aa1), .val (.int aa2), .val (.int aa3), .val (.int aa4), .val (.int vv), .val (.ref ar), .unset, .unset] [(.int vv), (.int aa0), (.int (0 : Int32)), (.int (0 : Int32))])
    obtain ⟨_, _, ⟨T40, L40, k40, n40⟩, -, X40, ⟨Lc40, hQ40, l40, y40, z40⟩, st40⟩ := Jvm.LawKit.callS X39 hx (y := (⟨"com/example/bidkeel/bidkeel/KnapsackCountUpToPinLaw", "atOrBelow", "(IIII)I"⟩ : MethodName)) hown (mvT hZ (hw _ (List.mem_of_getElem? (i := 2) rfl))) (mvT hZ (hw _ (List.mem_of_getElem? (i := 3) rfl))) (mvT hZ (hw _ (List.mem_of_getElem? (i := 4) rfl))) (mvT hZ (hw _ (List.mem_of_getElem? (i := 5) rfl))) (by decide) (backOf (W := 0) (rmA l Z a0 hw [] (0 : Int32) (0 : Int32) aa0 vv h39 n0 Zn) hZ (hw _ (List.mem_of_getElem? (i := 5) rfl)) (hw _ (List.mem_of_getElem? (i := 4) rfl)) (by decide) (by decide)) (g := (mkF m 155 #[.val (.int i0), .val (.int i1), .val (.int i2), .val (.int i3), .val (.int (0 : Int32)), .val (.int aa0), .val (.int aa1), .val (.int aa2), .val (.int aa3), .val (.int aa4), .val (.int vv), .val (.ref ar), .unset, .unset] [(.int vv), (.int aa0), (.int (0 : Int32)), (.int (0 : Int32))])) rfl (by rw [hml]; rfl) (argsL := [(.int (0 : Int32)), (.int (0 : Int32)), (.int aa0), (.int vv)]) (rest := []) (lenOf own_f42 rfl) rfl (by show 2 * 0 + _ ≤ _; exact Nat.le_of_eq rfl) (hb hby at_155) (fun _ _ => ⟨rfl, e39, (by dsimp only [Pt.cells, Pt.slots]; decide), (by dsimp only [Pt.cells, Pt.slots]; decide)⟩)
    dsimp only [Pt.U, Pt.locs, Pt.cells, Pt.slots] at X40 l40 y40 z40 st40 hQ40
    subst l40 y40 z40
    obtain ⟨rfl, N40q, e40⟩ := hQ40
    have N40 := Fr.app N0 N40q
    refine Go.step (st40) ?_
    show Go p e below _ T40 (mkF m 158 #[.val (.int i0), .val (.int i1), .val (.int i2), .val (.int i3), .val (.int (0 : Int32)), .val (.int aa0), .val (.int aa1), .val (.int aa2), .val (.int aa3), .val (.int aa4), .val (.int vv), .val (.ref ar), .unset, .unset] [(.int (own_ab 0 0 aa0 vv))])
    refine Go.step (fun _ k => XS.iload X40.here hx rfl (hb hby at_158) rfl k) ?_
    show Go p e below _ T40 (mkF m 160 #[.val (.int i0), .val (.int i1), .val (.int i2), .val (.int i3), .val (.int (0 : Int32)), .val (.int aa0), .val (.int aa1), .val (.int aa2), .val (.int aa3), .val (.int aa4), .val (.int vv), .val (.ref ar), .unset, .unset] [(.int (0 : Int32)), (.int (own_ab 0 0 aa0 vv))])
    refine Go.step (fun _ k => XS.iconst X40.here hx rfl (hb hby at_160) k) ?_
    show Go p e below _ T40 (mkF m 161 #[.val (.int i0), .val (.int i1), .val (.int i2), .val (.int i3), .val (.int (0 : Int32)), .val (.int aa0), .val (.int aa1), .val (.int aa2), .val (.int aa3), .val (.int aa4), .val (.int vv), .val (.ref ar), .unset, .unset] [(.int (1 : Int32)), (.int (0 : Int32)), (.int (own_ab 0 0 aa0 vv))])
    refine Go.step (fun _ k => XS.iload X40.here hx rfl (hb hby at_161) rfl k) ?_
    show Go p e below _ T40 (mkF m 163 #[.val (.int i0), .val (.int i1), .val (.int i2), .val (.int i3), .val (.int (0 : Int32)), .val (.int aa0), .val (.int aa1), .val (.int aa2), .val (.int aa3), .val (.int aa4), .val (.int vv), .val (.ref ar), .unset, .unset] [(.int aa1), (.int (1 : Int32)), (.int (0 : Int32)), (.int (own_ab 0 0 aa0 vv))])
    refine Go.step (fun _ k => XS.iload X40.here hx rfl (hb hby at_163) rfl k) ?_
    show Go p e below _ T40 (mkF m 165 #[.val (.int i0), .val (.int i1), .val (.int i2), .val (.int i3), .val (.int (0 : Int32)), .val (.int aa0), .val (.int aa1), .val (.int aa2), .val (.int aa3), .val (.int aa4), .val (.int vv), .val (.ref ar), .unset, .unset] [(.int vv), (.int aa1), (.int (1 : Int32)), (.int (0 : Int32)), (.int (own_ab 0 0 aa0 vv))])
    obtain ⟨_, _, ⟨T41, L41, k41, n41⟩, -, X41, ⟨Lc41, hQ41, l41, y41, z41⟩, st41⟩ := Jvm.LawKit.callS X40 hx (y := (⟨"com/example/bidkeel/bidkeel/KnapsackCountUpToPinLaw", "atOrBelow", "(IIII)I"⟩ : MethodName)) hown (mvT hZ (hw _ (List.mem_of_getElem? (i := 2) rfl))) (mvT hZ (hw _ (List.mem_of_getElem? (i := 3) rfl))) (mvT hZ (hw _ (List.mem_of_getElem? (i := 4) rfl))) (mvT hZ (hw _ (List.mem_of_getElem? (i := 5) rfl))) (by decide) (backOf (W := 1) (rmA l Z a0 hw [] (0 : Int32) (1 : Int32) aa1 vv h39 n0 Zn) hZ (hw _ (List.mem_of_getElem? (i := 5) rfl)) (hw _ (List.mem_of_getElem? (i := 4) rfl)) (by decide) (by decide)) (g := (mkF m 165 #[.val (.int i0), .val (.int i1), .val (.int i2), .val (.int i3), .val (.int (0 : Int32)), .val (.int aa0), .val (.int aa1), .val (.int aa2), .val (.int aa3), .val (.int aa4), .val (.int vv), .val (.ref ar), .unset, .unset] [(.int vv), (.int aa1), (.int (1 : Int32)), (.int (0 : Int32)), (.int (own_ab 0 0 aa0 vv))])) rfl (by rw [hml]; rfl) (argsL := [(.int (0 : Int32)), (.int (1 : Int32)), (.int aa1), (.int vv)]) (rest := [(.int (own_ab 0 0 aa0 vv))]) (lenOf own_f42 rfl) rfl (by show 2 * 0 + _ ≤ _; exact Nat.le_of_eq rfl) (hb hby at_165) (fun _ _ => ⟨rfl, e40, (by dsimp only [Pt.cells, Pt.slots]; decide), (by dsimp only [Pt.cells, Pt.slots]; decide)⟩)
    dsimp only [Pt.U, Pt.locs, Pt.cells, Pt.slots] at X41 l41 y41 z41 st41 hQ41
    subst l41 y41 z41
    obtain ⟨rfl, N41q, e41⟩ := hQ41
    have N41 := Fr.app N40 N41q
    refine Go.step (st41) ?_
    show Go p e below _ T41 (mkF m 168 #[.val (.int i0), .val (.int i1), .val (.int i2), .val (.int i3), .val (.int (0 : Int32)), .val (.int aa0), .val (.int aa1), .val (.int aa2), .val (.int aa3), .val (.int aa4), .val (.int vv), .val (.ref ar), .unset, .unset] [(.int (own_ab 0 1 aa1 vv)), (.int (own_ab 0 0 aa0 vv))])
    refine Go.step (fun _ k => XS.iadd X41.here hx rfl (hb hby at_168) rfl k) ?_
    show Go p e below _ T41 (mkF m 169 #[.val (.int i0), .val (.int i1), .val (.int i2), .val (.int i3), .val (.int (0 : Int32)), .val (.int aa0), .val (.int aa1), .val (.int aa2), .val (.int aa3), .val (.int aa4), .val (.int vv), .val (.ref ar), .unset, .unset] [(.int ((own_ab 0 0 aa0 vv) + (own_ab 0 1 aa1 vv)))])
    refine Go.step (fun _ k => XS.iload X41.here hx rfl (hb hby at_169) rfl k) ?_
    show Go p e below _ T41 (mkF m 171 #[.val (.int i0), .val (.int i1), .val (.int i2), .val (.int i3), .val (.int (0 : Int32)), .val (.int aa0), .val (.int aa1), .val (.int aa2), .val (.int aa3), .val (.int aa4), .val (.int vv), .val (.ref ar), .unset, .unset] [(.int (0 : Int32)), (.int ((own_ab 0 0 aa0 vv) + (own_ab 0 1 aa1 vv)))])
    refine Go.step (fun _ k => XS.iconst X41.here hx rfl (hb hby at_171) k) ?_
    show Go p e below _ T41 (mkF m 172 #[.val (.int i0), .val (.int i1), .val (.int i2), .val (.int i3), .val (.int (0 : Int32)), .val (.int aa0), .val (.int aa1), .val (.int aa2), .val (.int aa3), .val (.int aa4), .val (.int vv), .val (.ref ar), .unset, .unset] [(.int (2 : Int32)), (.int (0 : Int32)), (.int ((own_ab 0 0 aa0 vv) + (own_ab 0 1 aa1 vv)))])
    refine Go.step (fun _ k => XS.iload X41.here hx rfl (hb hby at_172) rfl k) ?_
    show Go p e below _ T41 (mkF m 174 #[.val (.int i0), .val (.int i1), .val (.int i2), .val (.int i3), .val (.int (0 : Int32)), .val (.int aa0), .val (.int aa1), .val (.int aa2), .val (.int aa3), .val (.int aa4), .val (.int vv), .val (.ref ar), .unset, .unset] [(.int aa2), (.int (2 : Int32)), (.int (0 : Int32)), (.int ((own_ab 0 0 aa0 vv) + (own_ab 0 1 aa1 vv)))])
    refine Go.step (fun _ k => XS.iload X41.here hx rfl (hb hby at_174) rfl k) ?_
    show Go p e below _ T41 (mkF m 176 #[.val (.int i0), .val (.int i1), .val (.int i2), .val (.int i3), .val (.int (0 : Int32)), .val (.int aa0), .val (.int aa1), .val (.int aa2), .val (.int aa3), .val (.int aa4), .val (.int vv), .val (.ref ar), .unset, .unset] [(.int vv), (.int aa2), (.int (2 : Int32)), (.int (0 : Int32)), (.int ((own_ab 0 0 aa0 vv) + (own_ab 0 1 aa1 vv)))])
    obtain ⟨_, _, ⟨T42, L42, k42, n42⟩, -, X42, ⟨Lc42, hQ42, l42, y42, z42⟩, st42⟩ := Jvm.LawKit.callS X41 hx (y := (⟨"com/example/bidkeel/bidkeel/KnapsackCountUpToPinLaw", "atOrBelow", "(IIII)I"⟩ : MethodName)) hown (mvT hZ (hw _ (List.mem_of_getElem? (i := 2) rfl))) (mvT hZ (hw _ (List.mem_of_getElem? (i := 3) rfl))) (mvT hZ (hw _ (List.mem_of_getElem? (i := 4) rfl))) (mvT hZ (hw _ (List.mem_of_getElem? (i := 5) rfl))) (by decide) (backOf (W := 1) (rmA l Z a0 hw [] (0 : Int32) (2 : Int32) aa2 vv h39 n0 Zn) hZ (hw _ (List.mem_of_getElem? (i := 5) rfl)) (hw _ (List.mem_of_getElem? (i := 4) rfl)) (by decide) (by decide)) (g := (mkF m 176 #[.val (.int i0), .val (.int i1), .val (.int i2), .val (.int i3), .val (.int (0 : Int32)), .val (.int aa0), .val (.int aa1), .val (.int aa2), .val (.int aa3), .val (.int aa4), .val (.int vv), .val (.ref ar), .unset, .unset] [(.int vv), (.int aa2), (.int (2 : Int32)), (.int (0 : Int32)), (.int ((own_ab 0 0 aa0 vv) + (own_ab 0 1 aa1 vv)))])) rfl (by rw [hml]; rfl) (argsL := [(.int (0 : Int32)), (.int (2 : Int32)), (.int aa2), (.int vv)]) (rest := [(.int ((own_ab 0 0 aa0 vv) + (own_ab 0 1 aa1 vv)))]) (lenOf own_f42 rfl) rfl (by show 2 * 0 + _ ≤ _; exact Nat.le_of_eq rfl) (hb hby at_176) (fun _ _ => ⟨rfl, e41, (by dsimp only [Pt.cells, Pt.slots]; decide), (by dsimp only [Pt.cells, Pt.slots]; decide)⟩)
    dsimp only [Pt.U, Pt.locs, Pt.cells, Pt.slots] at X42 l42 y42 z42 st42 hQ42
    subst l42 y42 z42
    obtain ⟨rfl, N42q, e42⟩ := hQ42
    have N42 := Fr.app N41 N42q
    refine Go.step (st42) ?_
    show Go p e below _ T42 (mkF m 179 #[.val (.int i0), .val (.int i1), .val (.int i2), .val (.int i3), .val (.int (0 : Int32)), .val (.int aa0), .val (.int aa1), .val (.int aa2), .val (.int aa3), .val (.int aa4), .val (.int vv), .val (.ref ar), .unset, .unset] [(.int (own_ab 0 2 aa2 vv)), (.int ((own_ab 0 0 aa0 vv) + (own_ab 0 1 aa1 vv)))])
    refine Go.step (fun _ k => XS.iadd X42.here hx rfl (hb hby at_179) rfl k) ?_
    show Go p e below _ T42 (mkF m 180 #[.val (.int i0), .val (.int i1), .val (.int i2), .val (.int i3), .val (.int (0 : Int32)), .val (.int aa0), .val (.int aa1), .val (.int aa2), .val (.int aa3), .val (.int aa4), .val (.int vv), .val (.ref ar), .unset, .unset] [(.int (((own_ab 0 0 aa0 vv) + (own_ab 0 1 aa1 vv)) + (own_ab 0 2 aa2 vv)))])
    refine Go.step (fun _ k => XS.iload X42.here hx rfl (hb hby at_180) rfl k) ?_
    show Go p e below _ T42 (mkF m 182 #[.val (.int i0), .val (.int i1), .val (.int i2), .val (.int i3), .val (.int (0 : Int32)), .val (.int aa0), .val (.int aa1), .val (.int aa2), .val (.int aa3), .val (.int aa4), .val (.int vv), .val (.ref ar), .unset, .unset] [(.int (0 : Int32)), (.int (((own_ab 0 0 aa0 vv) + (own_ab 0 1 aa1 vv)) + (own_ab 0 2 aa2 vv)))])
    refine Go.step (fun _ k => XS.iconst X42.here hx rfl (hb hby at_182) k) ?_
    show Go p e below _ T42 (mkF m 183 #[.val (.int i0), .val (.int i1), .val (.int i2), .val (.int i3), .val (.int (0 : Int32)), .val (.int aa0), .val (.int aa1), .val (.int aa2), .val (.int aa3), .val (.int aa4), .val (.int vv), .val (.ref ar), .unset, .unset] [(.int (3 : Int32)), (.int (0 : Int32)), (.int (((own_ab 0 0 aa0 vv) + (own_ab 0 1 aa1 vv)) + (own_ab 0 2 aa2 vv)))])
    refine Go.step (fun _ k => XS.iload X42.here hx rfl (hb hby at_183) rfl k) ?_
    show Go p e below _ T42 (mkF m 185 #[.val (.int i0), .val (.int i1), .val (.int i2), .val (.int i3), .val (.int (0 : Int32)), .val (.int aa0), .val (.int aa1), .val (.int aa2), .val (.int aa3), .val (.int aa4), .val (.int vv), .val (.ref ar), .unset, .unset] [(.int aa3), (.int (3 : Int32)), (.int (0 : Int32)), (.int (((own_ab 0 0 aa0 vv) + (own_ab 0 1 aa1 vv)) + (own_ab 0 2 aa2 vv)))])
    refine Go.step (fun _ k => XS.iload X42.here hx rfl (hb hby at_185) rfl k) ?_
    show Go p e below _ T42 (mkF m 187 #[.val (.int i0), .val (.int i1), .val (.int i2), .val (.int i3), .val (.int (0 : Int32)), .val (.int aa0), .val (.int aa1), .val (.int aa2), .val (.int aa3), .val (.int aa4), .val (.int vv), .val (.ref ar), .unset, .unset] [(.int vv), (.int aa3), (.int (3 : Int32)), (.int (0 : Int32)), (.int (((own_ab 0 0 aa0 vv) + (own_ab 0 1 aa1 vv)) + (own_ab 0 2 aa2 vv)))])
    obtain ⟨_, _, ⟨T43, L43, k43, n43⟩, -, X43, ⟨Lc43, hQ43, l43, y43, z43⟩, st43⟩ := Jvm.LawKit.callS X42 hx (y := (⟨"com/example/bidkeel/bidkeel/KnapsackCountUpToPinLaw", "atOrBelow", "(IIII)I"⟩ : MethodName)) hown (mvT hZ (hw _ (List.mem_of_getElem? (i := 2) rfl))) (mvT hZ (hw _ (List.mem_of_getElem? (i := 3) rfl))) (mvT hZ (hw _ (List.mem_of_getElem? (i := 4) rfl))) (mvT hZ (hw _ (List.mem_of_getElem? (i := 5) rfl))) (by decide) (backOf (W := 1) (rmA l Z a0 hw [] (0 : Int32) (3 : Int32) aa3 vv h39 n0 Zn) hZ (hw _ (List.mem_of_getElem? (i := 5) rfl)) (hw _ (List.mem_of_getElem? (i := 4) rfl)) (by decide) (by decide)) (g := (mkF m 187 #[.val (.int i0), .val (.int i1), .val (.int i2), .val (.int i3), .val (.int (0 : Int32)), .val (.int aa0), .val (.int aa1), .val (.int aa2), .val (.int aa3), .val (.int aa4), .val (.int vv), .val (.ref ar), .unset, .unset] [(.int vv), (.int aa3), (.int (3 : Int32)), (.int (0 : Int32)), (.int (((own_ab 0 0 aa0 vv) + (own_ab 0 1 aa1 vv)) + (own_ab 0 2 aa2 vv)))])) rfl (by rw [hml]; rfl) (argsL := [(.int (0 : Int32)), (.int (3 : Int32)), (.int aa3), (.int vv)]) (rest := [(.int (((own_ab 0 0 aa0 vv) + (own_ab 0 1 aa1 vv)) + (own_ab 0 2 aa2 vv)))]) (lenOf own_f42 rfl) rfl (by show 2 * 0 + _ ≤ _; exact Nat.le_of_eq rfl) (hb hby at_187) (fun _ _ => ⟨rfl, e42, (by dsimp only [Pt.cells, Pt.slots]; decide), (by dsimp only [Pt.cells, Pt.slots]; decide)⟩)
    dsimp only [Pt.U, Pt.locs, Pt.cells, Pt.slots] at X43 l43 y43 z43 st43 hQ43
    subst l43 y43 z43
    obtain ⟨rfl, N43q, e43⟩ := hQ43
    have N43 := Fr.app N42 N43q
    refine Go.step (st43) ?_
    show Go p e below _ T43 (mkF m 190 #[.val (.int i0), .val (.int i1), .val (.int i2), .val (.int i3), .val (.int (0 : Int32)), .val (.int aa0), .val (.int aa1), .val (.int aa2), .val (.int aa3), .val (.int aa4), .val (.int vv), .val (.ref ar), .unset, .unset] [(.int (own_ab 0 3 aa3 vv)), (.int (((own_ab 0 0 aa0 vv) + (own_ab 0 1 aa1 vv)) + (own_ab 0 2 aa2 vv)))])
    refine Go.step (fun _ k => XS.iadd X43.here hx rfl (hb hby at_190) rfl k) ?_
    show Go p e below _ T43 (mkF m 191 #[.val (.int i0), .val (.int i1), .val (.int i2), .val (.int i3), .val (.int (0 : Int32)), .val (.int aa0), .val (.int aa1), .val (.int aa2), .val (.int aa3), .val (.int aa4), .val (.int vv), .val (.ref ar), .unset, .unset] [(.int ((((own_ab 0 0 aa0 vv) + (own_ab 0 1 aa1 vv)) + (own_ab 0 2 aa2 vv)) + (own_ab 0 3 aa3 vv)))])
    refine Go.step (fun _ k => XS.iload X43.here hx rfl (hb hby at_191) rfl k) ?_
    show Go p e below _ T43 (mkF m 193 #[.val (.int i0), .val (.int i1), .val (.int i2), .val (.int i3), .val (.int (0 : Int32)), .val (.int aa0), .val (.int aa1), .val (.int aa2), .val (.int aa3), .val (.int aa4), .val (.int vv), .val (.ref ar), .unset, .unset] [(.int (0 : Int32)), (.int ((((own_ab 0 0 aa0 vv) + (own_ab 0 1 aa1 vv)) + (own_ab 0 2 aa2 vv)) + (own_ab 0 3 aa3 vv)))])
    refine Go.step (fun _ k => XS.iconst X43.here hx rfl (hb hby at_193) k) ?_
    show Go p e below _ T43 (mkF m 194 #[.val (.int i0), .val (.int i1), .val (.int i2), .val (.int i3), .val (.int (0 : Int32)), .val (.int aa0), .val (.int aa1), .val (.int aa2), .val (.int aa3), .val (.int aa4), .val (.int vv), .val (.ref ar), .unset, .unset] [(.int (4 : Int32)), (.int (0 : Int32)), (.int ((((own_ab 0 0 aa0 vv) + (own_ab 0 1 aa1 vv)) + (own_ab 0 2 aa2 vv)) + (own_ab 0 3 aa3 vv)))])
    refine Go.step (fun _ k => XS.iload X43.here hx rfl (hb hby at_194) rfl k) ?_
    show Go p e below _ T43 (mkF m 196 #[.val (.int i0), .val (.int i1), .val (.int i2), .val (.int i3), .val (.int (0 : Int32)), .val (.int aa0), .val (.int aa1), .val (.int aa2), .val (.int aa3), .val (.int aa4), .val (.int vv), .val (.ref ar), .unset, .unset] [(.int aa4), (.int (4 : Int32)), (.int (0 : Int32)), (.int ((((own_ab 0 0 aa0 vv) + (own_ab 0 1 aa1 vv)) + (own_ab 0 2 aa2 vv)) + (own_ab 0 3 aa3 vv)))])
    refine Go.step (fun _ k => XS.iload X43.here hx rfl (hb hby at_196) rfl k) ?_
    show Go p e below _ T43 (mkF m 198 #[.val (.int i0), .val (.int i1), .val (.int i2), .val (.int i3), .val (.int (0 : Int32)), .val (.int aa0), .val (.int aa1), .val (.int aa2), .val (.int aa3), .val (.int aa4), .val (.int vv), .val (.ref ar), .unset, .unset] [(.int vv), (.int aa4), (.int (4 : Int32)), (.int (0 : Int32)), (.int ((((own_ab 0 0 aa0 vv) + (own_ab 0 1 aa1 vv)) + (own_ab 0 2 aa2 vv)) + (own_ab 0 3 aa3 vv)))])
    obtain ⟨_, _, ⟨T44, L44, k44, n44⟩, -, X44, ⟨Lc44, hQ44, l44, y44, z44⟩, st44⟩ := Jvm.LawKit.callS X43 hx (y := (⟨"com/example/bidkeel/bidkeel/KnapsackCountUpToPinLaw", "atOrBelow", "(IIII)I"⟩ : MethodName)) hown (mvT hZ (hw _ (List.mem_of_getElem? (i := 2) rfl))) (mvT hZ (hw _ (List.mem_of_getElem? (i := 3) rfl))) (mvT hZ (hw _ (List.mem_of_getElem? (i := 4) rfl))) (mvT hZ (hw _ (List.mem_of_getElem? (i := 5) rfl))) (by decide) (backOf (W := 1) (rmA l Z a0 hw [] (0 : Int32) (4 : Int32) aa4 vv h39 n0 Zn) hZ (hw _ (List.mem_of_getElem? (i := 5) rfl)) (hw _ (List.mem_of_getElem? (i := 4) rfl)) (by decide) (by decide)) (g := (mkF m 198 #[.val (.int i0), .val (.int i1), .val (.int i2), .val (.int i3), .val (.int (0 : Int32)), .val (.int aa0), .val (.int aa1), .val (.int aa2), .val (.int aa3), .val (.int aa4), .val (.int vv), .val (.ref ar), .unset, .unset] [(.int vv), (.int aa4), (.int (4 : Int32)), (.int (0 : Int32)), (.int ((((own_ab 0 0 aa0 vv) + (own_ab 0 1 aa1 vv)) + (own_ab 0 2 aa2 vv)) + (own_ab 0 3 aa3 vv)))])) rfl (by rw [hml]; rfl) (argsL := [(.int (0 : Int32)), (.int (4 : Int32)), (.int aa4), (.int vv)]) (rest := [(.int ((((own_ab 0 0 aa0 vv) + (own_ab 0 1 aa1 vv)) + (own_ab 0 2 aa2 vv)) + (own_ab 0 3 aa3 vv)))]) (lenOf own_f42 rfl) rfl (by show 2 * 0 + _ ≤ _; exact Nat.le_of_eq rfl) (hb hby at_198) (fun _ _ => ⟨rfl, e43, (by dsimp only [Pt.cells, Pt.slots]; decide), (by dsimp only [Pt.cells, Pt.slots]; decide)⟩)
    dsimp only [Pt.U, Pt.locs, Pt.cells, Pt.slots] at X44 l44 y44 z44 st44 hQ44
    subst l44 y44 z44
    obtain ⟨rfl, N44q, e44⟩ := hQ44
    have N44 := Fr.app N43 N44q
    refine Go.step (st44) ?_
    show Go p e below _ T44 (mkF m 201 #[.val (.int i0), .val (.int i1), .val (.int i2), .val (.int i3), .val (.int (0 : Int32)), .val (.int aa0), .val (.int aa1), .val (.int aa2), .val (.int aa3), .val (.int aa4), .val (.int vv), .val (.ref ar), .unset, .unset] [(.int (own_ab 0 4 aa4 vv)), (.int ((((own_ab 0 0 aa0 vv) + (own_ab 0 1 aa1 vv)) + (own_ab 0 2 aa2 vv)) + (own_ab 0 3 aa3 vv)))])
    refine Go.step (fun _ k => XS.iadd X44.here hx rfl (hb hby at_201) rfl k) ?_
    show Go p e below _ T44 (mkF m 202 #[.val (.int i0), .val (.int i1), .val (.int i2), .val (.int i3), .val (.int (0 : Int32)), .val (.int aa0), .val (.int aa1), .val (.int aa2), .val (.int aa3), .val (.int aa4), .val (.int vv), .val (.ref ar), .unset, .unset] [(.int (((((own_ab 0 0 aa0 vv) + (own_ab 0 1 aa1 vv)) + (own_ab 0 2 aa2 vv)) + (own_ab 0 3 aa3 vv)) + (own_ab 0 4 aa4 vv)))])
    refine Go.step (fun _ k => XS.istore X44.here hx rfl (hb hby at_202) rfl (l' := #[.val (.int i0), .val (.int i1), .val (.int i2), .val (.int i3), .val (.int (0 : Int32)), .val (.int aa0), .val (.int aa1), .val (.int aa2), .val (.int aa3), .val (.int aa4), .val (.int vv), .val (.ref ar), .val (.int (((((own_ab 0 0 aa0 vv) + (own_ab 0 1 aa1 vv)) + (own_ab 0 2 aa2 vv)) + (own_ab 0 3 aa3 vv)) + (own_ab 0 4 aa4 vv))), .unset]) rfl k) ?_
    show Go p e below _ T44 (mkF m 204 #[.val (.int i0), .val (.int i1), .val (.int i2), .val (.int i3), .val (.int (0 : Int32)), .val (.int aa0), .val (.int aa1), .val (.int aa2), .val (.int aa3), .val (.int aa4), .val (.int vv), .val (.ref ar), .val (.int (((((own_ab 0 0 aa0 vv) + (own_ab 0 1 aa1 vv)) + (own_ab 0 2 aa2 vv)) + (own_ab 0 3 aa3 vv)) + (own_ab 0 4 aa4 vv))), .unset] [])
    refine Go.step (fun _ k => XS.aload X44.here hx rfl (hb hby at_204) rfl rfl k) ?_
    show Go p e below _ T44 (mkF m 206 #[.val (.int i0), .val (.int i1), .val (.int i2), .val (.int i3), .val (.int (0 : Int32)), .val (.int aa0), .val (.int aa1), .val (.int aa2), .val (.int aa3), .val (.int aa4), .val (.int vv), .val (.ref ar), .val (.int (((((own_ab 0 0 aa0 vv) + (own_ab 0 1 aa1 vv)) + (own_ab 0 2 aa2 vv)) + (own_ab 0 3 aa3 vv)) + (own_ab 0 4 aa4 vv))), .unset] [(.ref ar)])
    refine Go.step (fun _ k => XS.iload X44.here hx rfl (hb hby at_206) rfl k) ?_
    show Go p e below _ T44 (mkF m 208 #[.val (.int i0), .val (.int i1), .val (.int i2), .val (.int i3), .val (.int (0 : Int32)), .val (.int aa0), .val (.int aa1), .val (.int aa2), .val (.int aa3), .val (.int aa4), .val (.int vv), .val (.ref ar), .val (.int (((((own_ab 0 0 aa0 vv) + (own_ab 0 1 aa1 vv)) + (own_ab 0 2 aa2 vv)) + (own_ab 0 3 aa3 vv)) + (own_ab 0 4 aa4 vv))), .unset] [(.int vv), (.ref ar)])
    refine Go.step (fun _ k => XS.i2dS X44.here hx rfl (hb hby at_208) rfl rfl k) ?_
    show Go p e below _ T44 (mkF m 209 #[.val (.int i0), .val (.int i1), .val (.int i2), .val (.int i3), .val (.int (0 : Int32)), .val (.int aa0), .val (.int aa1), .val (.int aa2), .val (.int aa3), .val (.int aa4), .val (.int vv), .val (.ref ar), .val (.int (((((own_ab 0 0 aa0 vv) + (own_ab 0 1 aa1 vv)) + (own_ab 0 2 aa2 vv)) + (own_ab 0 3 aa3 vv)) + (own_ab 0 4 aa4 vv))), .unset] [(.double (FP.i2d vv)), (.ref ar)])
    obtain ⟨_, _, ⟨T45, L45, k45, n45⟩, -, X45, ⟨Lc45, hQ45, l45, y45, z45⟩, st45⟩ := Jvm.LawKit.callS X44 hx (y := (⟨"com/example/bidkeel/bidkeel/Knapsack", "countUpTo", "([DD)I"⟩ : MethodName)) hown (mvT hZ (hw _ (List.mem_of_getElem? (i := 6) rfl))) (mvT hZ (hw _ (List.mem_of_getElem? (i := 7) rfl))) (mvT hZ (hw _ (List.mem_of_getElem? (i := 8) rfl))) (mvT hZ (hw _ (List.mem_of_getElem? (i := 9) rfl))) (by decide) (backOf (W := 0) (rmK0 l Z a0 hw [] ar (FP.i2d vv) k39 vv  h39 n0 Zn V_ar rfl) hZ (hw _ (List.mem_of_getElem? (i := 9) rfl)) (hw _ (List.mem_of_getElem? (i := 8) rfl)) (by decide) (by decide)) (g := (mkF m 209 #[.val (.int i0), .val (.int i1), .val (.int i2), .val (.int i3), .val (.int (0 : Int32)), .val (.int aa0), .val (.int aa1), .val (.int aa2), .val (.int aa3), .val (.int aa4), .val (.int vv), .val (.ref ar), .val (.int (((((own_ab 0 0 aa0 vv) + (own_ab 0 1 aa1 vv)) + (own_ab 0 2 aa2 vv)) + (own_ab 0 3 aa3 vv)) + (own_ab 0 4 aa4 vv))), .unset] [(.double (FP.i2d vv)), (.ref ar)])) rfl (by rw [hml]; rfl) (argsL := [(.ref ar), (.double (FP.i2d vv))]) (rest := []) (lenOf own_f43 rfl) rfl (by show 2 * 0 + _ ≤ _; exact Nat.le_of_eq rfl) (hb hby at_209) (fun _ _ => ⟨rfl, e44, (by dsimp only [Pt.cells, Pt.slots]; decide), (by dsimp only [Pt.cells, Pt.slots]; decide)⟩)
    dsimp only [Pt.U, Pt.locs, Pt.cells, Pt.slots] at X45 l45 y45 z45 st45 hQ45
    subst l45 y45 z45
    obtain ⟨rfl, N45q, e45⟩ := hQ45
    have N45 := Fr.app N44 N45q
    refine Go.step (st45) ?_
    show Go p e below _ T45 (mkF m 212 #[.val (.int i0), .val (.int i1), .val (.int i2), .val (.int i3), .val (.int (0 : Int32)), .val (.int aa0), .val (.int aa1), .val (.int aa2), .val (.int aa3), .val (.int aa4), .val (.int vv), .val (.ref ar), .val (.int (((((own_ab 0 0 aa0 vv) + (own_ab 0 1 aa1 vv)) + (own_ab 0 2 aa2 vv)) + (own_ab 0 3 aa3 vv)) + (own_ab 0 4 aa4 vv))), .unset] [(.int (own_c0 vv))])
    refine Go.step (fun _ k => XS.istore X45.here hx rfl (hb hby at_212) rfl (l' := #[.val (.int i0), .val (.int i1), .val (.int i2), .val (.int i3), .val (.int (0 : Int32)), .val (.int aa0), .val (.int aa1), .val (.int aa2), .val (.int aa3), .val (.int aa4), .val (.int vv), .val (.ref ar), .val (.int (((((own_ab 0 0 aa0 vv) + (own_ab 0 1 aa1 vv)) + (own_ab 0 2 aa2 vv)) + (own_ab 0 3 aa3 vv)) + (own_ab 0 4 aa4 vv))), .val (.int (own_c0 vv))]) rfl k) ?_
    show Go p e below _ T45 (mkF m 214 #[.val (.int i0), .val (.int i1), .val (.int i2), .val (.int i3), .val (.int (0 : Int32)), .val (.int aa0), .val (.int aa1), .val (.int aa2), .val (.int aa3), .val (.int aa4), .val (.int vv), .val (.ref ar), .val (.int (((((own_ab 0 0 aa0 vv) + (own_ab 0 1 aa1 vv)) + (own_ab 0 2 aa2 vv)) + (own_ab 0 3 aa3 vv)) + (own_ab 0 4 aa4 vv))), .val (.int (own_c0 vv))] [])
    refine Go.step (fun _ k => XS.iload X45.here hx rfl (hb hby at_214) rfl k) ?_
    show Go p e below _ T45 (mkF m 216 #[.val (.int i0), .val (.int i1), .val (.int i2), .val (.int i3), .val (.int (0 : Int32)), .val (.int aa0), .val (.int aa1), .val (.int aa2), .val (.int aa3), .val (.int aa4), .val (.int vv), .val (.ref ar), .val (.int (((((own_ab 0 0 aa0 vv) + (own_ab 0 1 aa1 vv)) + (own_ab 0 2 aa2 vv)) + (own_ab 0 3 aa3 vv)) + (own_ab 0 4 aa4 vv))), .val (.int (own_c0 vv))] [(.int (own_c0 vv))])
    refine Go.step (fun _ k => XS.iload X45.here hx rfl (hb hby at_216) rfl k) ?_
    show Go p e below _ T45 (mkF m 218 #[.val (.int i0), .val (.int i1), .val (.int i2), .val (.int i3), .val (.int (0 : Int32)), .val (.int aa0), .val (.int aa1), .val (.int aa2), .val (.int aa3), .val (.int aa4), .val (.int vv), .val (.ref ar), .val (.int (((((own_ab 0 0 aa0 vv) + (own_ab 0 1 aa1 vv)) + (own_ab 0 2 aa2 vv)) + (own_ab 0 3 aa3 vv)) + (own_ab 0 4 aa4 vv))), .val (.int (own_c0 vv))] [(.int (((((own_ab 0 0 aa0 vv) + (own_ab 0 1 aa1 vv)) + (own_ab 0 2 aa2 vv)) + (own_ab 0 3 aa3 vv)) + (own_ab 0 4 aa4 vv))), (.int (own_c0 vv))])
    refine Go.step (fun _ k => XS.icmpNo X45.here hx rfl (hb hby at_218) rfl (teq (own_s0 aa0 aa1 aa2 aa3 aa4 vv )).2 k) ?_
    show Go p e below _ T45 (mkF m 221 #[.val (.int i0), .val (.int i1), .val (.int i2), .val (.int i3), .val (.int (0 : Int32)), .val (.int aa0), .val (.int aa1), .val (.int aa2), .val (.int aa3), .val (.int aa4), .val (.int vv), .val (.ref ar), .val (.int (((((own_ab 0 0 aa0 vv) + (own_ab 0 1 aa1 vv)) + (own_ab 0 2 aa2 vv)) + (own_ab 0 3 aa3 vv)) + (own_ab 0 4 aa4 vv))), .val (.int (own_c0 vv))] [])
    refine Go.step (fun _ k => XS.iconst X45.here hx rfl (hb hby at_221) k) ?_
    show Go p e below _ T45 (mkF m 222 #[.val (.int i0), .val (.int i1), .val (.int i2), .val (.int i3), .val (.int (0 : Int32)), .val (.int aa0), .val (.int aa1), .val (.int aa2), .val (.int aa3), .val (.int aa4), .val (.int vv), .val (.ref ar), .val (.int (((((own_ab 0 0 aa0 vv) + (own_ab 0 1 aa1 vv)) + (own_ab 0 2 aa2 vv)) + (own_ab 0 3 aa3 vv)) + (own_ab 0 4 aa4 vv))), .val (.int (own_c0 vv))] [(.int (1 : Int32))])
    refine Go.step (fun _ k => XS.goto X45.here hx rfl (pc0 := 222) (pc' := 226) rfl (hb hby at_222) (by decide) (by decide) k) ?_
    show Go p e below _ T45 (mkF m 226 #[.val (.int i0), .val (.int i1), .val (.int i2), .val (.int i3), .val (.int (0 : Int32)), .val (.int aa0), .val (.int aa1), .val (.int aa2), .val (.int aa3), .val (.int aa4), .val (.int vv), .val (.ref ar), .val (.int (((((own_ab 0 0 aa0 vv) + (own_ab 0 1 aa1 vv)) + (own_ab 0 2 aa2 vv)) + (own_ab 0 3 aa3 vv)) + (own_ab 0 4 aa4 vv))), .val (.int (own_c0 vv))] [(.int (1 : Int32))])
    obtain ⟨fs, hr, hrun, hended, hW, hsame⟩ := X45.leave (v := some (.int (1 : Int32))) (fun h => by rw [Bd.returns] at h; cases h)
    refine Go.fin (retN X45 hx (t := .boolean) Bd.returns (by simp) (hb hby at_226) hr) hrun hended ?_
    refine ⟨_, _, rfl, ?_, ⟨_, rfl⟩, hW, hsame.mono (by decide) (by decide)⟩
    show Q0 Z i0 i1 i2 i3 h0 n0 _ T45.heap _
    rw [e45]
    exact ⟨rfl, N45⟩
  · show Go p e below _ s₁ (mkF m 80 #[.val (.int i0), .val (.int i1), .val (.int i2), .val (.int i3), .val (.int (1 : Int32)), .val (.int aa0), .val (.int aa1), .val (.int aa2), .val (.int aa3), .val (.int aa4), .val (.int vv), .unset, .unset, .unset] [(.int (1 : Int32))])
    obtain ⟨T46, h46, k46, X46, e46, E46, A46, st46⟩ := newP X0 hx hZ (hw _ (List.mem_of_getElem? (i := 1) rfl)) e0 (g := (mkF m 80 #[.val (.int i0), .val (.int i1), .val (.int i2), .val (.int i3), .val (.int (1 : Int32)), .val (.int aa0), .val (.int aa1), .val (.int aa2), .val (.int aa3), .val (.int aa4), .val (.int vv), .unset, .unset, .unset] [(.int (1 : Int32))])) rfl (hb hby at_80) rfl (by decide) (cap := 1) (by decide) (by decide) (by decide) (by decide)
    obtain ⟨ar, g46⟩ : ∃ z, z = h0.size := ⟨_, rfl⟩
    rw [← g46] at A46 st46
    have g_ar : n0 ≤ ar := Nat.le_trans Zn (Nat.le_of_eq g46.symm)
    have sz_ar : h0.size ≤ ar := Nat.le_trans K0.1 (Nat.le_of_eq g46.symm)
    replace Zn := Nat.le_trans Zn E46.1
    replace K0 := K0.ext E46
    have V_ar : Arv Z h46 ar k46 .double (1 : Int32) [(.double (FP.l2d 0))] (.double (FP.l2d 0)) := (Arv.newD A46 (by decide)).pad (pad_rep [] (.double (FP.l2d 0)) 1)
    refine Go.step st46 ?_
    show Go p e below _ T46 (mkF m 82 #[.val (.int i0), .val (.int i1), .val (.int i2), .val (.int i3), .val (.int (1 : Int32)), .val (.int aa0), .val (.int aa1), .val (.int aa2), .val (.int aa3), .val (.int aa4), .val (.int vv), .unset, .unset, .unset] [(.ref ar)])
    refine Go.step (fun _ k => XS.astore X46.here hx rfl (hb hby at_82) rfl rfl (l' := #[.val (.int i0), .val (.int i1), .val (.int i2), .val (.int i3), .val (.int (1 : Int32)), .val (.int aa0), .val (.int aa1), .val (.int aa2), .val (.int aa3), .val (.int aa4), .val (.int vv), .val (.ref ar), .unset, .unset]) rfl k) ?_
    show Go p e below _ T46 (mkF m 84 #[.val (.int i0), .val (.int i1), .val (.int i2), .val (.int i3), .val (.int (1 : Int32)), .val (.int aa0), .val (.int aa1), .val (.int aa2), .val (.int aa3), .val (.int aa4), .val (.int vv), .val (.ref ar), .unset, .unset] [])
    refine Go.step (fun _ k => XS.iload X46.here hx rfl (hb hby at_84) rfl k) ?_
    show Go p e below _ T46 (mkF m 86 #[.val (.int i0), .val (.int i1), .val (.int i2), .val (.int i3), .val (.int (1 : Int32)), .val (.int aa0), .val (.int aa1), .val (.int aa2), .val (.int aa3), .val (.int aa4), .val (.int vv), .val (.ref ar), .unset, .unset] [(.int (1 : Int32))])
    refine Go.step (fun _ k => XS.ifNo X46.here hx rfl (hb hby at_86) rfl ((if0 _ _).trans (tlt (by decide)).2.2.2) k) ?_
    show Go p e below _ T46 (mkF m 89 #[.val (.int i0), .val (.int i1), .val (.int i2), .val (.int i3), .val (.int (1 : Int32)), .val (.int aa0), .val (.int aa1), .val (.int aa2), .val (.int aa3), .val (.int aa4), .val (.int vv), .val (.ref ar), .unset, .unset] [])
    refine Go.step (fun _ k => XS.aload X46.here hx rfl (hb hby at_89) rfl rfl k) ?_
    show Go p e below _ T46 (mkF m 91 #[.val (.int i0), .val (.int i1), .val (.int i2), .val (.int i3), .val (.int (1 : Int32)), .val (.int aa0), .val (.int aa1), .val (.int aa2), .val (.int aa3), .val (.int aa4), .val (.int vv), .val (.ref ar), .unset, .unset] [(.ref ar)])
    refine Go.step (fun _ k => XS.iconst X46.here hx rfl (hb hby at_91) k) ?_
    show Go p e below _ T46 (mkF m 92 #[.val (.int i0), .val (.int i1), .val (.int i2), .val (.int i3), .val (.int (1 : Int32)), .val (.int aa0), .val (.int aa1), .val (.int aa2), .val (.int aa3), .val (.int aa4), .val (.int vv), .val (.ref ar), .unset, .unset] [(.int (0 : Int32)), (.ref ar)])
    refine Go.step (fun _ k => XS.iload X46.here hx rfl (hb hby at_92) rfl k) ?_
    show Go p e below _ T46 (mkF m 94 #[.val (.int i0), .val (.int i1), .val (.int i2), .val (.int i3), .val (.int (1 : Int32)), .val (.int aa0), .val (.int aa1), .val (.int aa2), .val (.int aa3), .val (.int aa4), .val (.int vv), .val (.ref ar), .unset, .unset] [(.int aa0), (.int (0 : Int32)), (.ref ar)])
    refine Go.step (fun _ k => XS.i2dS X46.here hx rfl (hb hby at_94) rfl rfl k) ?_
    show Go p e below _ T46 (mkF m 95 #[.val (.int i0), .val (.int i1), .val (.int i2), .val (.int i3), .val (.int (1 : Int32)), .val (.int aa0), .val (.int aa1), .val (.int aa2), .val (.int aa3), .val (.int aa4), .val (.int vv), .val (.ref ar), .unset, .unset] [(.double (FP.i2d aa0)), (.int (0 : Int32)), (.ref ar)])
    obtain ⟨cl47, Ar47, q47, S47, Nn47, H47, G47⟩ := V_ar
    have hin47 : ¬ ((0 : Int32) < 0 ∨ cl47.slots.size ≤ ((0 : Int32)).toNatClampNeg) := inb_of S47 ⟨by decide, by decide⟩
    obtain ⟨T47, h47, X47, e47, W47, st47⟩ := stD X46 hx hZ e46 Ar47 (j := (0 : Int32)) hin47 (g := (mkF m 95 #[.val (.int i0), .val (.int i1), .val (.int i2), .val (.int i3), .val (.int (1 : Int32)), .val (.int aa0), .val (.int aa1), .val (.int aa2), .val (.int aa3), .val (.int aa4), .val (.int vv), .val (.ref ar), .unset, .unset] [(.double (FP.i2d aa0)), (.int (0 : Int32)), (.ref ar)])) rfl rfl (hb hby at_95)
    have Vw47 : Arv Z h47 ar k46 .double (1 : Int32) [(.double (FP.i2d aa0))] (.double (FP.l2d 0)) := Arv.set Ar47 q47 S47 Nn47 H47 G47 rfl W47 0 rfl (Nat.le_of_ble_eq_true rfl)
    have V_ar := Vw47
    replace K0 := K0.wr W47 (Or.inr sz_ar)
    replace Zn := Nat.le_trans Zn (Nat.le_of_eq W47.size.symm)
    have N47 := Fr.snoc X47 N0 g_ar
    refine Go.step st47 ?_
    show Go p e below _ T47 (mkF m 96 #[.val (.int i0), .val (.int i1), .val (.int i2), .val (.int i3), .val (.int (1 : Int32)), .val (.int aa0), .val (.int aa1), .val (.int aa2), .val (.int aa3), .val (.int aa4), .val (.int vv), .val (.ref ar), .unset, .unset] [])
    refine Go.step (fun _ k => XS.iload X47.here hx rfl (hb hby at_96) rfl k) ?_
    show Go p e below _ T47 (mkF m 98 #[.val (.int i0), .val (.int i1), .val (.int i2), .val (.int i3), .val (.int (1 : Int32)), .val (.int aa0), .val (.int aa1), .val (.int aa2), .val (.int aa3), .val (.int aa4), .val (.int vv), .val (.ref ar), .unset, .unset] [(.int (1 : Int32))])
    refine Go.step (fun _ k => XS.iconst X47.here hx rfl (hb hby at_98) k) ?_
    show Go p e below _ T47 (mkF m 99 #[.val (.int i0), .val (.int i1), .val (.int i2), .val (.int i3), .val (.int (1 : Int32)), .val (.int aa0), .val (.int aa1), .val (.int aa2), .val (.int aa3), .val (.int aa4), .val (.int vv), .val (.ref ar), .unset, .unset] [(.int (1 : Int32)), (.int (1 : Int32))])
    refine Go.step (fun _ k => XS.icmpYes X47.here hx rfl (pc0 := 99) (pc' := 109) rfl (hb hby at_99) rfl (flt (by decide)).2.2.2 (by decide) (by decide) k) ?_
    show Go p e below _ T47 (mkF m 109 #[.val (.int i0), .val (.int i1), .val (.int i2), .val (.int i3), .val (.int (1 : Int32)), .val (.int aa0), .val (.int aa1), .val (.int aa2), .val (.int aa3), .val (.int aa4), .val (.int vv), .val (.ref ar), .unset, .unset] [])
    refine Go.step (fun _ k => XS.iload X47.here hx rfl (hb hby at_109) rfl k) ?_
    show Go p e below _ T47 (mkF m 111 #[.val (.int i0), .val (.int i1), .val (.int i2), .val (.int i3), .val (.int (1 : Int32)), .val (.int aa0), .val (.int aa1), .val (.int aa2), .val (.int aa3), .val (.int aa4), .val (.int vv), .val (.ref ar), .unset, .unset] [(.int (1 : Int32))])
    refine Go.step (fun _ k => XS.iconst X47.here hx rfl (hb hby at_111) k) ?_
    show Go p e below _ T47 (mkF m 112 #[.val (.int i0), .val (.int i1), .val (.int i2), .val (.int i3), .val (.int (1 : Int32)), .val (.int aa0), .val (.int aa1), .val (.int aa2), .val (.int aa3), .val (.int aa4), .val (.int vv), .val (.ref ar), .unset, .unset] [(.int (2 : Int32)), (.int (1 : Int32))])
    refine Go.step (fun _ k => XS.icmpYes X47.here hx rfl (pc0 := 112) (pc' := 122) rfl (hb hby at_112) rfl (flt (by decide)).2.2.2 (by decide) (by decide) k) ?_
    show Go p e below _ T47 (mkF m 122 #[.val (.int i0), .val (.int i1), .val (.int i2), .val (.int i3), .val (.int (1 : Int32)), .val (.int aa0), .val (.int aa1), .val (.int aa2), .val (.int aa3), .val (.int aa4), .val (.int vv), .val (.ref ar), .unset, .unset] [])
    refine Go.step (fun _ k => XS.iload X47.here hx rfl (hb hby at_122) rfl k) ?_
    show Go p e below _ T47 (mkF m 124 #[.val (.int i0), .val (.int i1), .val (.int i2), .val (.int i3), .val (.int (1 : Int32)), .val (.int aa0), .val (.int aa1), .val (.int aa2), .val (.int aa3), .val (.int aa4), .val (.int vv), .val (.ref ar), .unset, .unset] [(.int (1 : Int32))])
    refine Go.step (fun _ k => XS.iconst X47.here hx rfl (hb hby at_124) k) ?_
    show Go p e below _ T47 (mkF m 125 #[.val (.int i0), .val (.int i1), .val (.int i2), .val (.int i3), .val (.int (1 : Int32)), .val (.int aa0), .val (.int aa1), .val (.int aa2), .val (.int aa3), .val (.int aa4), .val (.int vv), .val (.ref ar), .unset, .unset] [(.int (3 : Int32)), (.int (1 : Int32))])
    refine Go.step (fun _ k => XS.icmpYes X47.here hx rfl (pc0 := 125) (pc' := 135) rfl (hb hby at_125) rfl (flt (by decide)).2.2.2 (by decide) (by decide) k) ?_
    show Go p e below _ T47 (mkF m 135 #[.val (.int i0), .val (.int i1), .val (.int i2), .val (.int i3), .val (.int (1 : Int32)), .val (.int aa0), .val (.int aa1), .val (.int aa2), .val (.int aa3), .val (.int aa4), .val (.int vv), .val (.ref ar), .unset, .unset] [])
    refine Go.step (fun _ k => XS.iload X47.here hx rfl (hb hby at_135) rfl k) ?_
    show Go p e below _ T47 (mkF m 137 #[.val (.int i0), .val (.int i1), .val (.int i2), .val (.int i3), .val (.int (1 : Int32)), .val (.int aa0), .val (.int aa1), .val (.int aa2), .val (.int aa3), .val (.int aa4), .val (.int vv), .val (.ref ar), .unset, .unset] [(.int (1 : Int32))])
    refine Go.step (fun _ k => XS.iconst X47.here hx rfl (hb hby at_137) k) ?_
    show Go p e below _ T47 (mkF m 138 #[.val (.int i0), .val (.int i1), .val (.int i2), .val (.int i3), .val (.int (1 : Int32)), .val (.int aa0), .val (.int aa1), .val (.int aa2), .val (.int aa3), .val (.int aa4), .val (.int vv), .val (.ref ar), .unset, .unset] [(.int (4 : Int32)), (.int (1 : Int32))])
    refine Go.step (fun _ k => XS.icmpYes X47.here hx rfl (pc0 := 138) (pc' := 148) rfl (hb hby at_138) rfl (flt (by decide)).2.2.2 (by decide) (by decide) k) ?_
    show Go p e below _ T47 (mkF m 148 #[.val (.int i0), .val (.int i1), .val (.int i2), .val (.int i3), .val (.int (1 : Int32)), .val (.int aa0), .val (.int aa1), .val (.int aa2), .val (.int aa3), .val (.int aa4), .val (.int vv), .val (.ref ar), .unset, .unset] [])
    refine Go.step (fun _ k => XS.iload X47.here hx rfl (hb hby at_148) rfl k) ?_
    show Go p e below _ T47 (mkF m 150 #[.val (.int i0), .val (.int i1), .val (.int i2), .val (.int i3), .val (.int (1 : Int32)), .val (.int aa0), .val (.int aa1), .val (.int aa2), .val (.int aa3), .val (.int aa4), .val (.int vv), .val (.ref ar), .unset, .unset] [(.int (1 : Int32))])
    refine Go.step (fun _ k => XS.iconst X47.here hx rfl (hb hby at_150) k) ?_
    show Go p e below _ T47 (mkF m 151 #[.val (.int i0), .val (.int i1), .val (.int i2), .val (.int i3), .val (.int (1 : Int32)), .val (.int aa0), .val (.int aa1), .val (.int aa2), .val (.int aa3), .val (.int aa4), .val (.int vv), .val (.ref ar), .unset, .unset] [(.int (0 : Int32)), (.int (1 : Int32))])
    refine Go.step (fun _ k => XS.iload X47.here hx rfl (hb hby at_151) rfl k) ?_
    show Go p e below _ T47 (mkF m 153 #[.val (.int i0), .val (.int i1), .val (.int i2), .val (.int i3), .val (.int (1 : Int32)), .val (.int aa0), .val (.int aa1), .val (.int aa2), .val (.int aa3), .val (.int aa4), .val (.int vv), .val (.ref ar), .unset, .unset] [(.int aa0), (.int (0 : Int32)), (.int (1 : Int32))])
    refine Go.step (fun _ k => XS.iload X47.here hx rfl (hb hby at_153) rfl k) ?_
    show Go p e below _ T47 (mkF m 155 #[.val (.int i0), .val (.int i1), .val (.int i2), .val (.int i3), .val (.int (1 : Int32)), .val (.int aa0), .val (.int aa1), .val (.int aa2), .val (.int aa3), .val (.int aa4), .val (.int vv), .val (.ref ar), .unset, .unset] [(.int vv), (.int aa0), (.int (0 : Int32)), (.int (1 : Int32))])
    obtain ⟨_, _, ⟨T48, L48, k48, n48⟩, -, X48, ⟨Lc48, hQ48, l48, y48, z48⟩, st48⟩ := Jvm.LawKit.callS X47 hx (y := (⟨"com/example/bidkeel/bidkeel/KnapsackCountUpToPinLaw", "atOrBelow", "(IIII)I"⟩ : MethodName)) hown (mvT hZ (hw _ (List.mem_of_getElem? (i := 2) rfl))) (mvT hZ (hw _ (List.mem_of_getElem? (i := 3) rfl))) (mvT hZ (hw _ (List.mem_of_getElem? (i := 4) rfl))) (mvT hZ (hw _ (List.mem_of_getElem? (i := 5) rfl))) (by decide) (backOf (W := 0) (rmA l Z a0 hw [] (1 : Int32) (0 : Int32) aa0 vv h47 n0 Zn) hZ (hw _ (List.mem_of_getElem? (i := 5) rfl)) (hw _ (List.mem_of_getElem? (i := 4) rfl)) (by decide) (by decide)) (g := (mkF m 155 #[.val (.int i0), .val (.int i1), .val (.int i2), .val (.int i3), .val (.int (1 : Int32)), .val (.int aa0), .val (.int aa1), .val (.int aa2), .val (.int aa3), .val (.int aa4), .val (.int vv), .val (.ref ar), .unset, .unset] [(.int vv), (.int aa0), (.int (0 : Int32)), (.int (1 : Int32))])) rfl (by rw [hml]; rfl) (argsL := [(.int (1 : Int32)), (.int (0 : Int32)), (.int aa0), (.int vv)]) (rest := []) (lenOf own_f42 rfl) rfl (by show 2 * 0 + _ ≤ _; exact Nat.le_of_eq rfl) (hb hby at_155) (fun _ _ => ⟨rfl, e47, (by dsimp only [Pt.cells, Pt.slots]; decide), (by dsimp only [Pt.cells, Pt.slots]; decide)⟩)
    dsimp only [Pt.U, Pt.locs, Pt.cells, Pt.slots] at X48 l48 y48 z48 st48 hQ48
    subst l48 y48 z48
    obtain ⟨rfl, N48q, e48⟩ := hQ48
    have N48 := Fr.app N47 N48q
    refine Go.step (st48) ?_
    show Go p e below _ T48 (mkF m 158 #[.val (.int i0), .val (.int i1), .val (.int i2), .val (.int i3), .val (.int (1 : Int32)), .val (.int aa0), .val (.int aa1), .val (.int aa2), .val (.int aa3), .val (.int aa4), .val (.int vv), .val (.ref ar), .unset, .unset] [(.int (own_ab 1 0 aa0 vv))])
    refine Go.step (fun _ k => XS.iload X48.here hx rfl (hb hby at_158) rfl k) ?_
    show Go p e below _ T48 (mkF m 160 #[.val (.int i0), .val (.int i1), .val (.int i2), .val (.int i3), .val (.int (1 : Int32)), .val (.int aa0), .val (.int aa1), .val (.int aa2), .val (.int aa3), .val (.int aa4), .val (.int vv), .val (.ref ar), .unset, .unset] [(.int (1 : Int32)), (.int (own_ab 1 0 aa0 vv))])
    refine Go.step (fun _ k => XS.iconst X48.here hx rfl (hb hby at_160) k) ?_
    show Go p e below _ T48 (mkF m 161 #[.val (.int i0), .val (.int i1), .val (.int i2), .val (.int i3), .val (.int (1 : Int32)), .val (.int aa0), .val (.int aa1), .val (.int aa2), .val (.int aa3), .val (.int aa4), .val (.int vv), .val (.ref ar), .unset, .unset] [(.int (1 : Int32)), (.int (1 : Int32)), (.int (own_ab 1 0 aa0 vv))])
    refine Go.step (fun _ k => XS.iload X48.here hx rfl (hb hby at_161) rfl k) ?_
    show Go p e below _ T48 (mkF m 163 #[.val (.int i0), .val (.int i1), .val (.int i2), .val (.int i3), .val (.int (1 : Int32)), .val (.int aa0), .val (.int aa1), .val (.int aa2), .val (.int aa3), .val (.int aa4), .val (.int vv), .val (.ref ar), .unset, .unset] [(.int aa1), (.int (1 : Int32)), (.int (1 : Int32)), (.int (own_ab 1 0 aa0 vv))])
    refine Go.step (fun _ k => XS.iload X48.here hx rfl (hb hby at_163) rfl k) ?_
    show Go p e below _ T48 (mkF m 165 #[.val (.int i0), .val (.int i1), .val (.int i2), .val (.int i3), .val (.int (1 : Int32)), .val (.int aa0), .val (.int aa1), .val (.int aa2), .val (.int aa3), .val (.int aa4), .val (.int vv), .val (.ref ar), .unset, .unset] [(.int vv), (.int aa1), (.int (1 : Int32)), (.int (1 : Int32)), (.int (own_ab 1 0 aa0 vv))])
    obtain ⟨_, _, ⟨T49, L49, k49, n49⟩, -, X49, ⟨Lc49, hQ49, l49, y49, z49⟩, st49⟩ := Jvm.LawKit.callS X48 hx (y := (⟨"com/example/bidkeel/bidkeel/KnapsackCountUpToPinLaw", "atOrBelow", "(IIII)I"⟩ : MethodName)) hown (mvT hZ (hw _ (List.mem_of_getElem? (i := 2) rfl))) (mvT hZ (hw _ (List.mem_of_getElem? (i := 3) rfl))) (mvT hZ (hw _ (List.mem_of_getElem? (i := 4) rfl))) (mvT hZ (hw _ (List.mem_of_getElem? (i := 5) rfl))) (by decide) (backOf (W := 1) (rmA l Z a0 hw [] (1 : Int32) (1 : Int32) aa1 vv h47 n0 Zn) hZ (hw _ (List.mem_of_getElem? (i := 5) rfl)) (hw _ (List.mem_of_getElem? (i := 4) rfl)) (by decide) (by decide)) (g := (mkF m 165 #[.val (.int i0), .val (.int i1), .val (.int i2), .val (.int i3), .val (.int (1 : Int32)), .val (.int aa0), .val (.int aa1), .val (.int aa2), .val (.int aa3), .val (.int aa4), .val (.int vv), .val (.ref ar), .unset, .unset] [(.int vv), (.int aa1), (.int (1 : Int32)), (.int (1 : Int32)), (.int (own_ab 1 0 aa0 vv))])) rfl (by rw [hml]; rfl) (argsL := [(.int (1 : Int32)), (.int (1 : Int32)), (.int aa1), (.int vv)]) (rest := [(.int (own_ab 1 0 aa0 vv))]) (lenOf own_f42 rfl) rfl (by show 2 * 0 + _ ≤ _; exact Nat.le_of_eq rfl) (hb hby at_165) (fun _ _ => ⟨rfl, e48, (by dsimp only [Pt.cells, Pt.slots]; decide), (by dsimp only [Pt.cells, Pt.slots]; decide)⟩)
    dsimp only [Pt.U, Pt.locs, Pt.cells, Pt.slots] at X49 l49 y49 z49 st49 hQ49
    subst l49 y49 z49
    obtain ⟨rfl, N49q, e49⟩ := hQ49
    have N49 := Fr.app N48 N49q
    refine Go.step (st49) ?_
    show Go p e below _ T49 (mkF m 168 #[.val (.int i0), .val (.int i1), .val (.int i2), .val (.int i3), .val (.int (1 : Int32)), .val (.int aa0), .val (.int aa1), .val (.int aa2), .val (.int aa3), .val (.int aa4), .val (.int vv), .val (.ref ar), .unset, .unset] [(.int (own_ab 1 1 aa1 vv)), (.int (own_ab 1 0 aa0 vv))])
    refine Go.step (fun _ k => XS.iadd X49.here hx rfl (hb hby at_168) rfl k) ?_
    show Go p e below _ T49 (mkF m 169 #[.val (.int i0), .val (.int i1), .val (.int i2), .val (.int i3), .val (.int (1 : Int32)), .val (.int aa0), .val (.int aa1), .val (.int aa2), .val (.int aa3), .val (.int aa4), .val (.int vv), .val (.ref ar), .unset, .unset] [(.int ((own_ab 1 0 aa0 vv) + (own_ab 1 1 aa1 vv)))])
    refine Go.step (fun _ k => XS.iload X49.here hx rfl (hb hby at_169) rfl k) ?_
    show Go p e below _ T49 (mkF m 171 #[.val (.int i0), .val (.int i1), .val (.int i2), .val (.int i3), .val (.int (1 : Int32)), .val (.int aa0), .val (.int aa1), .val (.int aa2), .val (.int aa3), .val (.int aa4), .val (.int vv), .val (.ref ar), .unset, .unset] [(.int (1 : Int32)), (.int ((own_ab 1 0 aa0 vv) + (own_ab 1 1 aa1 vv)))])
    refine Go.step (fun _ k => XS.iconst X49.here hx rfl (hb hby at_171) k) ?_
    show Go p e below _ T49 (mkF m 172 #[.val (.int i0), .val (.int i1), .val (.int i2), .val (.int i3), .val (.int (1 : Int32)), .val (.int aa0), .val (.int aa1), .val (.int aa2), .val (.int aa3), .val (.int aa4), .val (.int vv), .val (.ref ar), .unset, .unset] [(.int (2 : Int32)), (.int (1 : Int32)), (.int ((own_ab 1 0 aa0 vv) + (own_ab 1 1 aa1 vv)))])
    refine Go.step (fun _ k => XS.iload X49.here hx rfl (hb hby at_172) rfl k) ?_
    show Go p e below _ T49 (mkF m 174 #[.val (.int i0), .val (.int i1), .val (.int i2), .val (.int i3), .val (.int (1 : Int32)), .val (.int aa0), .val (.int aa1), .val (.int aa2), .val (.int aa3), .val (.int aa4), .val (.int vv), .val (.ref ar), .unset, .unset] [(.int aa2), (.int (2 : Int32)), (.int (1 : Int32)), (.int ((own_ab 1 0 aa0 vv) + (own_ab 1 1 aa1 vv)))])
    refine Go.step (fun _ k => XS.iload X49.here hx rfl (hb hby at_174) rfl k) ?_
    show Go p e below _ T49 (mkF m 176 #[.val (.int i0), .val (.int i1), .val (.int i2), .val (.int i3), .val (.int (1 : Int32)), .val (.int aa0), .val (.int aa1), .val (.int aa2), .val (.int aa3), .val (.int aa4), .val (.int vv), .val (.ref ar), .unset, .unset] [(.int vv), (.int aa2), (.int (2 : Int32)), (.int (1 : Int32)), (.int ((own_ab 1 0 aa0 vv) + (own_ab 1 1 aa1 vv)))])
    obtain ⟨_, _, ⟨T50, L50, k50, n50⟩, -, X50, ⟨Lc50, hQ50, l50, y50, z50⟩, st50⟩ := Jvm.LawKit.callS X49 hx (y := (⟨"com/example/bidkeel/bidkeel/KnapsackCountUpToPinLaw", "atOrBelow", "(IIII)I"⟩ : MethodName)) hown (mvT hZ (hw _ (List.mem_of_getElem? (i := 2) rfl))) (mvT hZ (hw _ (List.mem_of_getElem? (i := 3) rfl))) (mvT hZ (hw _ (List.mem_of_getElem? (i := 4) rfl))) (mvT hZ (hw _ (List.mem_of_getElem? (i := 5) rfl))) (by decide) (backOf (W := 1) (rmA l Z a0 hw [] (1 : Int32) (2 : Int32) aa2 vv h47 n0 Zn) hZ (hw _ (List.mem_of_getElem? (i := 5) rfl)) (hw _ (List.mem_of_getElem? (i := 4) rfl)) (by decide) (by decide)) (g := (mkF m 176 #[.val (.int i0), .val (.int i1), .val (.int i2), .val (.int i3), .val (.int (1 : Int32)), .val (.int aa0), .val (.int aa1), .val (.int aa2), .val (.int aa3), .val (.int aa4), .val (.int vv), .val (.ref ar), .unset, .unset] [(.int vv), (.int aa2), (.int (2 : Int32)), (.int (1 : Int32)), (.int ((own_ab 1 0 aa0 vv) + (own_ab 1 1 aa1 vv)))])) rfl (by rw [hml]; rfl) (argsL := [(.int (1 : Int32)), (.int (2 : Int32)), (.int aa2), (.int vv)]) (rest := [(.int ((own_ab 1 0 aa0 vv) + (own_ab 1 1 aa1 vv)))]) (lenOf own_f42 rfl) rfl (by show 2 * 0 + _ ≤ _; exact Nat.le_of_eq rfl) (hb hby at_176) (fun _ _ => ⟨rfl, e49, (by dsimp only [Pt.cells, Pt.slots]; decide), (by dsimp only [Pt.cells, Pt.slots]; decide)⟩)
    dsimp only [Pt.U, Pt.locs, Pt.cells, Pt.slots] at X50 l50 y50 z50 st50 hQ50
    subst l50 y50 z50
    obtain ⟨rfl, N50q, e50⟩ := hQ50
    have N50 := Fr.app N49 N50q
    refine Go.step (st50) ?_
    show Go p e below _ T50 (mkF m 179 #[.val (.int i0), .val (.int i1), .val (.int i2), .val (.int i3), .val (.int (1 : Int32)), .val (.int aa0), .val (.int aa1), .val (.int aa2), .val (.int aa3), .val (.int aa4), .val (.int vv), .val (.ref ar), .unset, .unset] [(.int (own_ab 1 2 aa2 vv)), (.int ((own_ab 1 0 aa0 vv) + (own_ab 1 1 aa1 vv)))])
    refine Go.step (fun _ k => XS.iadd X50.here hx rfl (hb hby at_179) rfl k) ?_
    show Go p e below _ T50 (mkF m 180 #[.val (.int i0), .val (.int i1), .val (.int i2), .val (.int i3), .val (.int (1 : Int32)), .val (.int aa0), .val (.int aa1), .val (.int aa2), .val (.int aa3), .val (.int aa4), .val (.int vv), .val (.ref ar), .unset, .unset] [(.int (((own_ab 1 0 aa0 vv) + (own_ab 1 1 aa1 vv)) + (own_ab 1 2 aa2 vv)))])
    refine Go.step (fun _ k => XS.iload X50.here hx rfl (hb hby at_180) rfl k) ?_
    show Go p e below _ T50 (mkF m 182 #[.val (.int i0), .val (.int i1), .val (.int i2), .val (.int i3), .val (.int (1 : Int32)), .val (.int aa0), .val (.int aa1), .val (.int aa2), .val (.int aa3), .val (.int aa4), .val (.int vv), .val (.ref ar), .unset, .unset] [(.int (1 : Int32)), (.int (((own_ab 1 0 aa0 vv) + (own_ab 1 1 aa1 vv)) + (own_ab 1 2 aa2 vv)))])
    refine Go.step (fun _ k => XS.iconst X50.here hx rfl (hb hby at_182) k) ?_
    show Go p e below _ T50 (mkF m 183 #[.val (.int i0), .val (.int i1), .val (.int i2), .val (.int i3), .val (.int (1 : Int32)), .val (.int aa0), .val (.int aa1), .val (.int aa2), .val (.int aa3), .val (.int aa4), .val (.int vv), .val (.ref ar), .unset, .unset] [(.int (3 : Int32)), (.int (1 : Int32)), (.int (((own_ab 1 0 aa0 vv) + (own_ab 1 1 aa1 vv)) + (own_ab 1 2 aa2 vv)))])
    refine Go.step (fun _ k => XS.iload X50.here hx rfl (hb hby at_183) rfl k) ?_
    show Go p e below _ T50 (mkF m 185 #[.val (.int i0), .val (.int i1), .val (.int i2), .val (.int i3), .val (.int (1 : Int32)), .val (.int aa0), .val (.int aa1), .val (.int aa2), .val (.int aa3), .val (.int aa4), .val (.int vv), .val (.ref ar), .unset, .unset] [(.int aa3), (.int (3 : Int32)), (.int (1 : Int32)), (.int (((own_ab 1 0 aa0 vv) + (own_ab 1 1 aa1 vv)) + (own_ab 1 2 aa2 vv)))])
    refine Go.step (fun _ k => XS.iload X50.here hx rfl (hb hby at_185) rfl k) ?_
    show Go p e below _ T50 (mkF m 187 #[.val (.int i0), .val (.int i1), .val (.int i2), .val (.int i3), .val (.int (1 : Int32)), .val (.int aa0), .val (.int aa1), .val (.int aa2), .val (.int aa3), .val (.int aa4), .val (.int vv), .val (.ref ar), .unset, .unset] [(.int vv), (.int aa3), (.int (3 : Int32)), (.int (1 : Int32)), (.int (((own_ab 1 0 aa0 vv) + (own_ab 1 1 aa1 vv)) + (own_ab 1 2 aa2 vv)))])
    obtain ⟨_, _, ⟨T51, L51, k51, n51⟩, -, X51, ⟨Lc51, hQ51, l51, y51, z51⟩, st51⟩ := Jvm.LawKit.callS X50 hx (y := (⟨"com/example/bidkeel/bidkeel/KnapsackCountUpToPinLaw", "atOrBelow", "(IIII)I"⟩ : MethodName)) hown (mvT hZ (hw _ (List.mem_of_getElem? (i := 2) rfl))) (mvT hZ (hw _ (List.mem_of_getElem? (i := 3) rfl))) (mvT hZ (hw _ (List.mem_of_getElem? (i := 4) rfl))) (mvT hZ (hw _ (List.mem_of_getElem? (i := 5) rfl))) (by decide) (backOf (W := 1) (rmA l Z a0 hw [] (1 : Int32) (3 : Int32) aa3 vv h47 n0 Zn) hZ (hw _ (List.mem_of_getElem? (i := 5) rfl)) (hw _ (List.mem_of_getElem? (i := 4) rfl)) (by decide) (by decide)) (g := (mkF m 187 #[.val (.int i0), .val (.int i1), .val (.int i2), .val (.int i3), .val (.int (1 : Int32)), .val (.int aa0), .val (.int aa1), .val (.int aa2), .val (.int aa3), .val (.int aa4), .val (.int vv), .val (.ref ar), .unset, .unset] [(.int vv), (.int aa3), (.int (3 : Int32)), (.int (1 : Int32)), (.int (((own_ab 1 0 aa0 vv) + (own_ab 1 1 aa1 vv)) + (own_ab 1 2 aa2 vv)))])) rfl (by rw [hml]; rfl) (argsL := [(.int (1 : Int32)), (.int (3 : Int32)), (.int aa3), (.int vv)]) (rest := [(.int (((own_ab 1 0 aa0 vv) + (own_ab 1 1 aa1 vv)) + (own_ab 1 2 aa2 vv)))]) (lenOf own_f42 rfl) rfl (by show 2 * 0 + _ ≤ _; exact Nat.le_of_eq rfl) (hb hby at_187) (fun _ _ => ⟨rfl, e50, (by dsimp only [Pt.cells, Pt.slots]; decide), (by dsimp only [Pt.cells, Pt.slots]; decide)⟩)
    dsimp only [Pt.U, Pt.locs, Pt.cells, Pt.slots] at X51 l51 y51 z51 st51 hQ51
    subst l51 y51 z51
    obtain ⟨rfl, N51q, e51⟩ := hQ51
    have N51 := Fr.app N50 N51q
    refine Go.step (st51) ?_
    show Go p e below _ T51 (mkF m 190 #[.val (.int i0), .val (.int i1), .val (.int i2), .val (.int i3), .val (.int (1 : Int32)), .val (.int aa0), .val (.int aa1), .val (.int aa2), .val (.int aa3), .val (.int aa4), .val (.int vv), .val (.ref ar), .unset, .unset] [(.int (own_ab 1 3 aa3 vv)), (.int (((own_ab 1 0 aa0 vv) + (own_ab 1 1 aa1 vv)) + (own_ab 1 2 aa2 vv)))])
    refine Go.step (fun _ k => XS.iadd X51.here hx rfl (hb hby at_190) rfl k) ?_
    show Go p e below _ T51 (mkF m 191 #[.val (.int i0), .val (.int i1), .val (.int i2), .val (.int i3), .val (.int (1 : Int32)), .val (.int aa0), .val (.int aa1), .val (.int aa2), .val (.int aa3), .val (.int aa4), .val (.int vv), .val (.ref ar), .unset, .unset] [(.int ((((own_ab 1 0 aa0 vv) + (own_ab 1 1 aa1 vv)) + (own_ab 1 2 aa2 vv)) + (own_ab 1 3 aa3 vv)))])
    refine Go.step (fun _ k => XS.iload X51.here hx rfl (hb hby at_191) rfl k) ?_
    show Go p e below _ T51 (mkF m 193 #[.val (.int i0), .val (.int i1), .val (.int i2), .val (.int i3), .val (.int (1 : Int32)), .val (.int aa0), .val (.int aa1), .val (.int aa2), .val (.int aa3), .val (.int aa4), .val (.int vv), .val (.ref ar), .unset, .unset] [(.int (1 : Int32)), (.int ((((own_ab 1 0 aa0 vv) + (own_ab 1 1 aa1 vv)) + (own_ab 1 2 aa2 vv)) + (own_ab 1 3 aa3 vv)))])
    refine Go.step (fun _ k => XS.iconst X51.here hx rfl (hb hby at_193) k) ?_
    show Go p e below _ T51 (mkF m 194 #[.val (.int i0), .val (.int i1), .val (.int i2), .val (.int i3), .val (.int (1 : Int32)), .val (.int aa0), .val (.int aa1), .val (.int aa2), .val (.int aa3), .val (.int aa4), .val (.int vv), .val (.ref ar), .unset, .unset] [(.int (4 : Int32)), (.int (1 : Int32)), (.int ((((own_ab 1 0 aa0 vv) + (own_ab 1 1 aa1 vv)) + (own_ab 1 2 aa2 vv)) + (own_ab 1 3 aa3 vv)))])
    refine Go.step (fun _ k => XS.iload X51.here hx rfl (hb hby at_194) rfl k) ?_
    show Go p e below _ T51 (mkF m 196 #[.val (.int i0), .val (.int i1), .val (.int i2), .val (.int i3), .val (.int (1 : Int32)), .val (.int aa0), .val (.int aa1), .val (.int aa2), .val (.int aa3), .val (.int aa4), .val (.int vv), .val (.ref ar), .unset, .unset] [(.int aa4), (.int (4 : Int32)), (.int (1 : Int32)), (.int ((((own_ab 1 0 aa0 vv) + (own_ab 1 1 aa1 vv)) + (own_ab 1 2 aa2 vv)) + (own_ab 1 3 aa3 vv)))])
    refine Go.step (fun _ k => XS.iload X51.here hx rfl (hb hby at_196) rfl k) ?_
    show Go p e below _ T51 (mkF m 198 #[.val (.int i0), .val (.int i1), .val (.int i2), .val (.int i3), .val (.int (1 : Int32)), .val (.int aa0), .val (.int aa1), .val (.int aa2), .val (.int aa3), .val (.int aa4), .val (.int vv), .val (.ref ar), .unset, .unset] [(.int vv), (.int aa4), (.int (4 : Int32)), (.int (1 : Int32)), (.int ((((own_ab 1 0 aa0 vv) + (own_ab 1 1 aa1 vv)) + (own_ab 1 2 aa2 vv)) + (own_ab 1 3 aa3 vv)))])
    obtain ⟨_, _, ⟨T52, L52, k52, n52⟩, -, X52, ⟨Lc52, hQ52, l52, y52, z52⟩, st52⟩ := Jvm.LawKit.callS X51 hx (y := (⟨"com/example/bidkeel/bidkeel/KnapsackCountUpToPinLaw", "atOrBelow", "(IIII)I"⟩ : MethodName)) hown (mvT hZ (hw _ (List.mem_of_getElem? (i := 2) rfl))) (mvT hZ (hw _ (List.mem_of_getElem? (i := 3) rfl))) (mvT hZ (hw _ (List.mem_of_getElem? (i := 4) rfl))) (mvT hZ (hw _ (List.mem_of_getElem? (i := 5) rfl))) (by decide) (backOf (W := 1) (rmA l Z a0 hw [] (1 : Int32) (4 : Int32) aa4 vv h47 n0 Zn) hZ (hw _ (List.mem_of_getElem? (i := 5) rfl)) (hw _ (List.mem_of_getElem? (i := 4) rfl)) (by decide) (by decide)) (g := (mkF m 198 #[.val (.int i0), .val (.int i1), .val (.int i2), .val (.int i3), .val (.int (1 : Int32)), .val (.int aa0), .val (.int aa1), .val (.int aa2), .val (.int aa3), .val (.int aa4), .val (.int vv), .val (.ref ar), .unset, .unset] [(.int vv), (.int aa4), (.int (4 : Int32)), (.int (1 : Int32)), (.int ((((own_ab 1 0 aa0 vv) + (own_ab 1 1 aa1 vv)) + (own_ab 1 2 aa2 vv)) + (own_ab 1 3 aa3 vv)))])) rfl (by rw [hml]; rfl) (argsL := [(.int (1 : Int32)), (.int (4 : Int32)), (.int aa4), (.int vv)]) (rest := [(.int ((((own_ab 1 0 aa0 vv) + (own_ab 1 1 aa1 vv)) + (own_ab 1 2 aa2 vv)) + (own_ab 1 3 aa3 vv)))]) (lenOf own_f42 rfl) rfl (by show 2 * 0 + _ ≤ _; exact Nat.le_of_eq rfl) (hb hby at_198) (fun _ _ => ⟨rfl, e51, (by dsimp only [Pt.cells, Pt.slots]; decide), (by dsimp only [Pt.cells, Pt.slots]; decide)⟩)
    dsimp only [Pt.U, Pt.locs, Pt.cells, Pt.slots] at X52 l52 y52 z52 st52 hQ52
    subst l52 y52 z52
    obtain ⟨rfl, N52q, e52⟩ := hQ52
    have N52 := Fr.app N51 N52q
    refine Go.step (st52) ?_
    show Go p e below _ T52 (mkF m 201 #[.val (.int i0), .val (.int i1), .val (.int i2), .val (.int i3), .val (.int (1 : Int32)), .val (.int aa0), .val (.int aa1), .val (.int aa2), .val (.int aa3), .val (.int aa4), .val (.int vv), .val (.ref ar), .unset, .unset] [(.int (own_ab 1 4 aa4 vv)), (.int ((((own_ab 1 0 aa0 vv) + (own_ab 1 1 aa1 vv)) + (own_ab 1 2 aa2 vv)) + (own_ab 1 3 aa3 vv)))])
    refine Go.step (fun _ k => XS.iadd X52.here hx rfl (hb hby at_201) rfl k) ?_
    show Go p e below _ T52 (mkF m 202 #[.val (.int i0), .val (.int i1), .val (.int i2), .val (.int i3), .val (.int (1 : Int32)), .val (.int aa0), .val (.int aa1), .val (.int aa2), .val (.int aa3), .val (.int aa4), .val (.int vv), .val (.ref ar), .unset, .unset] [(.int (((((own_ab 1 0 aa0 vv) + (own_ab 1 1 aa1 vv)) + (own_ab 1 2 aa2 vv)) + (own_ab 1 3 aa3 vv)) + (own_ab 1 4 aa4 vv)))])
    refine Go.step (fun _ k => XS.istore X52.here hx rfl (hb hby at_202) rfl (l' := #[.val (.int i0), .val (.int i1), .val (.int i2), .val (.int i3), .val (.int (1 : Int32)), .val (.int aa0), .val (.int aa1), .val (.int aa2), .val (.int aa3), .val (.int aa4), .val (.int vv), .val (.ref ar), .val (.int (((((own_ab 1 0 aa0 vv) + (own_ab 1 1 aa1 vv)) + (own_ab 1 2 aa2 vv)) + (own_ab 1 3 aa3 vv)) + (own_ab 1 4 aa4 vv))), .unset]) rfl k) ?_
    show Go p e below _ T52 (mkF m 204 #[.val (.int i0), .val (.int i1), .val (.int i2), .val (.int i3), .val (.int (1 : Int32)), .val (.int aa0), .val (.int aa1), .val (.int aa2), .val (.int aa3), .val (.int aa4), .val (.int vv), .val (.ref ar), .val (.int (((((own_ab 1 0 aa0 vv) + (own_ab 1 1 aa1 vv)) + (own_ab 1 2 aa2 vv)) + (own_ab 1 3 aa3 vv)) + (own_ab 1 4 aa4 vv))), .unset] [])
    refine Go.step (fun _ k => XS.aload X52.here hx rfl (hb hby at_204) rfl rfl k) ?_
    show Go p e below _ T52 (mkF m 206 #[.val (.int i0), .val (.int i1), .val (.int i2), .val (.int i3), .val (.int (1 : Int32)), .val (.int aa0), .val (.int aa1), .val (.int aa2), .val (.int aa3), .val (.int aa4), .val (.int vv), .val (.ref ar), .val (.int (((((own_ab 1 0 aa0 vv) + (own_ab 1 1 aa1 vv)) + (own_ab 1 2 aa2 vv)) + (own_ab 1 3 aa3 vv)) + (own_ab 1 4 aa4 vv))), .unset] [(.ref ar)])
    refine Go.step (fun _ k => XS.iload X52.here hx rfl (hb hby at_206) rfl k) ?_
    show Go p e below _ T52 (mkF m 208 #[.val (.int i0), .val (.int i1), .val (.int i2), .val (.int i3), .val (.int (1 : Int32)), .val (.int aa0), .val (.int aa1), .val (.int aa2), .val (.int aa3), .val (.int aa4), .val (.int vv), .val (.ref ar), .val (.int (((((own_ab 1 0 aa0 vv) + (own_ab 1 1 aa1 vv)) + (own_ab 1 2 aa2 vv)) + (own_ab 1 3 aa3 vv)) + (own_ab 1 4 aa4 vv))), .unset] [(.int vv), (.ref ar)])
    refine Go.step (fun _ k => XS.i2dS X52.here hx rfl (hb hby at_208) rfl rfl k) ?_
    show Go p e below _ T52 (mkF m 209 #[.val (.int i0), .val (.int i1), .val (.int i2), .val (.int i3), .val (.int (1 : Int32)), .val (.int aa0), .val (.int aa1), .val (.int aa2), .val (.int aa3), .val (.int aa4), .val (.int vv), .val (.ref ar), .val (.int (((((own_ab 1 0 aa0 vv) + (own_ab 1 1 aa1 vv)) + (own_ab 1 2 aa2 vv)) + (own_ab 1 3 aa3 vv)) + (own_ab 1 4 aa4 vv))), .unset] [(.double (FP.i2d vv)), (.ref ar)])
    obtain ⟨_, _, ⟨T53, L53, k53, n53⟩, -, X53, ⟨Lc53, hQ53, l53, y53, z53⟩, st53⟩ := Jvm.LawKit.callS X52 hx (y := (⟨"com/example/bidkeel/bidkeel/Knapsack", "countUpTo", "([DD)I"⟩ : MethodName)) hown (mvT hZ (hw _ (List.mem_of_getElem? (i := 6) rfl))) (mvT hZ (hw _ (List.mem_of_getElem? (i := 7) rfl))) (mvT hZ (hw _ (List.mem_of_getElem? (i := 8) rfl))) (mvT hZ (hw _ (List.mem_of_getElem? (i := 9) rfl))) (by decide) (backOf (W := 0) (rmK1 l Z a0 hw [] ar (FP.i2d vv) k46 vv aa0 h47 n0 Zn V_ar rfl) hZ (hw _ (List.mem_of_getElem? (i := 9) rfl)) (hw _ (List.mem_of_getElem? (i := 8) rfl)) (by decide) (by decide)) (g := (mkF m 209 #[.val (.int i0), .val (.int i1), .val (.int i2), .val (.int i3), .val (.int (1 : Int32)), .val (.int aa0), .val (.int aa1), .val (.int aa2), .val (.int aa3), .val (.int aa4), .val (.int vv), .val (.ref ar), .val (.int (((((own_ab 1 0 aa0 vv) + (own_ab 1 1 aa1 vv)) + (own_ab 1 2 aa2 vv)) + (own_ab 1 3 aa3 vv)) + (own_ab 1 4 aa4 vv))), .unset] [(.double (FP.i2d vv)), (.ref ar)])) rfl (by rw [hml]; rfl) (argsL := [(.ref ar), (.double (FP.i2d vv))]) (rest := []) (lenOf own_f43 rfl) rfl (by show 2 * 0 + _ ≤ _; exact Nat.le_of_eq rfl) (hb hby at_209) (fun _ _ => ⟨rfl, e52, (by dsimp only [Pt.cells, Pt.slots]; decide), (by dsimp only [Pt.cells, Pt.slots]; decide)⟩)
    dsimp only [Pt.U, Pt.locs, Pt.cells, Pt.slots] at X53 l53 y53 z53 st53 hQ53
    subst l53 y53 z53
    obtain ⟨rfl, N53q, e53⟩ := hQ53
    have N53 := Fr.app N52 N53q
    refine Go.step (st53) ?_
    show Go p e below _ T53 (mkF m 212 #[.val (.int i0), .val (.int i1), .val (.int i2), .val (.int i3), .val (.int (1 : Int32)), .val (.int aa0), .val (.int aa1), .val (.int aa2), .val (.int aa3), .val (.int aa4), .val (.int vv), .val (.ref ar), .val (.int (((((own_ab 1 0 aa0 vv) + (own_ab 1 1 aa1 vv)) + (own_ab 1 2 aa2 vv)) + (own_ab 1 3 aa3 vv)) + (own_ab 1 4 aa4 vv))), .unset] [(.int (own_c1 aa0 vv))])
    refine Go.step (fun _ k => XS.istore X53.here hx rfl (hb hby at_212) rfl (l' := #[.val (.int i0), .val (.int i1), .val (.int i2), .val (.int i3), .val (.int (1 : Int32)), .val (.int aa0), .val (.int aa1), .val (.int aa2), .val (.int aa3), .val (.int aa4), .val (.int vv), .val (.ref ar), .val (.int (((((own_ab 1 0 aa0 vv) + (own_ab 1 1 aa1 vv)) + (own_ab 1 2 aa2 vv)) + (own_ab 1 3 aa3 vv)) + (own_ab 1 4 aa4 vv))), .val (.int (own_c1 aa0 vv))]) rfl k) ?_
    show Go p e below _ T53 (mkF m 214 #[.val (.int i0), .val (.int i1), .val (.int i2), .val (.int i3), .val (.int (1 : Int32)), .val (.int aa0), .val (.int aa1), .val (.int aa2), .val (.int aa3), .val (.int aa4), .val (.int vv), .val (.ref ar), .val (.int (((((own_ab 1 0 aa0 vv) + (own_ab 1 1 aa1 vv)) + (own_ab 1 2 aa2 vv)) + (own_ab 1 3 aa3 vv)) + (own_ab 1 4 aa4 vv))), .val (.int (own_c1 aa0 vv))] [])
    refine Go.step (fun _ k => XS.iload X53.here hx rfl (hb hby at_214) rfl k) ?_
    show Go p e below _ T53 (mkF m 216 #[.val (.int i0), .val (.int i1), .val (.int i2), .val (.int i3), .val (.int (1 : Int32)), .val (.int aa0), .val (.int aa1), .val (.int aa2), .val (.int aa3), .val (.int aa4), .val (.int vv), .val (.ref ar), .val (.int (((((own_ab 1 0 aa0 vv) + (own_ab 1 1 aa1 vv)) + (own_ab 1 2 aa2 vv)) + (own_ab 1 3 aa3 vv)) + (own_ab 1 4 aa4 vv))), .val (.int (own_c1 aa0 vv))] [(.int (own_c1 aa0 vv))])
    refine Go.step (fun _ k => XS.iload X53.here hx rfl (hb hby at_216) rfl k) ?_
    show Go p e below _ T53 (mkF m 218 #[.val (.int i0), .val (.int i1), .val (.int i2), .val (.int i3), .val (.int (1 : Int32)), .val (.int aa0), .val (.int aa1), .val (.int aa2), .val (.int aa3), .val (.int aa4), .val (.int vv), .val (.ref ar), .val (.int (((((own_ab 1 0 aa0 vv) + (own_ab 1 1 aa1 vv)) + (own_ab 1 2 aa2 vv)) + (own_ab 1 3 aa3 vv)) + (own_ab 1 4 aa4 vv))), .val (.int (own_c1 aa0 vv))] [(.int (((((own_ab 1 0 aa0 vv) + (own_ab 1 1 aa1 vv)) + (own_ab 1 2 aa2 vv)) + (own_ab 1 3 aa3 vv)) + (own_ab 1 4 aa4 vv))), (.int (own_c1 aa0 vv))])
    refine Go.step (fun _ k => XS.icmpNo X53.here hx rfl (hb hby at_218) rfl (teq (own_s1 aa0 aa1 aa2 aa3 aa4 vv )).2 k) ?_
    show Go p e below _ T53 (mkF m 221 #[.val (.int i0), .val (.int i1), .val (.int i2), .val (.int i3), .val (.int (1 : Int32)), .val (.int aa0), .val (.int aa1), .val (.int aa2), .val (.int aa3), .val (.int aa4), .val (.int vv), .val (.ref ar), .val (.int (((((own_ab 1 0 aa0 vv) + (own_ab 1 1 aa1 vv)) + (own_ab 1 2 aa2 vv)) + (own_ab 1 3 aa3 vv)) + (own_ab 1 4 aa4 vv))), .val (.int (own_c1 aa0 vv))] [])
    refine Go.step (fun _ k => XS.iconst X53.here hx rfl (hb hby at_221) k) ?_
    show Go p e below _ T53 (mkF m 222 #[.val (.int i0), .val (.int i1), .val (.int i2), .val (.int i3), .val (.int (1 : Int32)), .val (.int aa0), .val (.int aa1), .val (.int aa2), .val (.int aa3), .val (.int aa4), .val (.int vv), .val (.ref ar), .val (.int (((((own_ab 1 0 aa0 vv) + (own_ab 1 1 aa1 vv)) + (own_ab 1 2 aa2 vv)) + (own_ab 1 3 aa3 vv)) + (own_ab 1 4 aa4 vv))), .val (.int (own_c1 aa0 vv))] [(.int (1 : Int32))])
    refine Go.step (fun _ k => XS.goto X53.here hx rfl (pc0 := 222) (pc' := 226) rfl (hb hby at_222) (by decide) (by decide) k) ?_
    show Go p e below _ T53 (mkF m 226 #[.val (.int i0), .val (.int i1), .val (.int i2), .val (.int i3), .val (.int (1 : Int32)), .val (.int aa0), .val (.int aa1), .val (.int aa2), .val (.int aa3), .val (.int aa4), .val (.int vv), .val (.ref ar), .val (.int (((((own_ab 1 0 aa0 vv) + (own_ab 1 1 aa1 vv)) + (own_ab 1 2 aa2 vv)) + (own_ab 1 3 aa3 vv)) + (own_ab 1 4 aa4 vv))), .val (.int (own_c1 aa0 vv))] [(.int (1 : Int32))])
    obtain ⟨fs, hr, hrun, hended, hW, hsame⟩ := X53.leave (v := some (.int (1 : Int32))) (fun h => by rw [Bd.returns] at h; cases h)
    refine Go.fin (retN X53 hx (t := .boolean) Bd.returns (by simp) (hb hby at_226) hr) hrun hended ?_
    refine ⟨_, _, rfl, ?_, ⟨_, rfl⟩, hW, hsame.mono (by decide) (by decide)⟩
    show Q0 Z i0 i1 i2 i3 h0 n0 _ T53.heap _
    rw [e53]
    exact ⟨rfl, N53⟩
  · show Go p e below _ s₁ (mkF m 80 #[.val (.int i0), .val (.int i1), .val (.int i2), .val (.int i3), .val (.int (2 : Int32)), .val (.int aa0), .val (.int aa1), .val (.int aa2), .val (.int aa3), .val (.int aa4), .val (.int vv), .unset, .unset, .unset] [(.int (2 : Int32))])
    obtain ⟨T54, h54, k54, X54, e54, E54, A54, st54⟩ := newP X0 hx hZ (hw _ (List.mem_of_getElem? (i := 1) rfl)) e0 (g := (mkF m 80 #[.val (.int i0), .val (.int i1), .val (.int i2), .val (.int i3), .val (.int (2 : Int32)), .val (.int aa0), .val (.int aa1), .val (.int aa2), .val (.int aa3), .val (.int aa4), .val (.int vv), .unset, .unset, .unset] [(.int (2 : Int32))])) rfl (hb hby at_80) rfl (by decide) (cap := 2) (by decide) (by decide) (by decide) (by decide)
    obtain ⟨ar, g54⟩ : ∃ z, z = h0.size := ⟨_, rfl⟩
    rw [← g54] at A54 st54
    have g_ar : n0 ≤ ar := Nat.le_trans Zn (Nat.le_of_eq g54.symm)
    have sz_ar : h0.size ≤ ar := Nat.le_trans K0.1 (Nat.le_of_eq g54.symm)
    replace Zn := Nat.le_trans Zn E54.1
    replace K0 := K0.ext E54
    have V_ar : Arv Z h54 ar k54 .double (2 : Int32) [(.double (FP.l2d 0)), (.double (FP.l2d 0))] (.double (FP.l2d 0)) := (Arv.newD A54 (by decide)).pad (pad_rep [] (.double (FP.l2d 0)) 2)
    refine Go.step st54 ?_
    show Go p e below _ T54 (mkF m 82 #[.val (.int i0), .val (.int i1), .val (.int i2), .val (.int i3), .val (.int (2 : Int32)), .val (.int aa0), .val (.int aa1), .val (.int aa2), .val (.int aa3), .val (.int aa4), .val (.int vv), .unset, .unset, .unset] [(.ref ar)])
    refine Go.step (fun _ k => XS.astore X54.here hx rfl (hb hby at_82) rfl rfl (l' := #[.val (.int i0), .val (.int i1), .val (.int i2), .val (.int i3), .val (.int (2 : Int32)), .val (.int aa0), .val (.int aa1), .val (.int aa2), .val (.int aa3), .val (.int aa4), .val (.int vv), .val (.ref ar), .unset, .unset]) rfl k) ?_
    show Go p e below _ T54 (mkF m 84 #[.val (.int i0), .val (.int i1), .val (.int i2), .val (.int i3), .val (.int (2 : Int32)), .val (.int aa0), .val (.int aa1), .val (.int aa2), .val (.int aa3), .val (.int aa4), .val (.int vv), .val (.ref ar), .unset, .unset] [])
    refine Go.step (fun _ k => XS.iload X54.here hx rfl (hb hby at_84) rfl k) ?_
    show Go p e below _ T54 (mkF m 86 #[.val (.int i0), .val (.int i1), .val (.int i2), .val (.int i3), .val (.int (2 : Int32)), .val (.int aa0), .val (.int aa1), .val (.int aa2), .val (.int aa3), .val (.int aa4), .val (.int vv), .val (.ref ar), .unset, .unset] [(.int (2 : Int32))])
    refine Go.step (fun _ k => XS.ifNo X54.here hx rfl (hb hby at_86) rfl ((if0 _ _).trans (tlt (by decide)).2.2.2) k) ?_
    show Go p e below _ T54 (mkF m 89 #[.val (.int i0), .val (.int i1), .val (.int i2), .val (.int i3), .val (.int (2 : Int32)), .val (.int aa0), .val (.int aa1), .val (.int aa2), .val (.int aa3), .val (.int aa4), .val (.int vv), .val (.ref ar), .unset, .unset] [])
    refine Go.step (fun _ k => XS.aload X54.here hx rfl (hb hby at_89) rfl rfl k) ?_
    show Go p e below _ T54 (mkF m 91 #[.val (.int i0), .val (.int i1), .val (.int i2), .val (.int i3), .val (.int (2 : Int32)), .val (.int aa0), .val (.int aa1), .val (.int aa2), .val (.int aa3), .val (.int aa4), .val (.int vv), .val (.ref ar), .unset, .unset] [(.ref ar)])
    refine Go.step (fun _ k => XS.iconst X54.here hx rfl (hb hby at_91) k) ?_
    show Go p e below _ T54 (mkF m 92 #[.val (.int i0), .val (.int i1), .val (.int i2), .val (.int i3), .val (.int (2 : Int32)), .val (.int aa0), .val (.int aa1), .val (.int aa2), .val (.int aa3), .val (.int aa4), .val (.int vv), .val (.ref ar), .unset, .unset] [(.int (0 : Int32)), (.ref ar)])
    refine Go.step (fun _ k => XS.iload X54.here hx rfl (hb hby at_92) rfl k) ?_
    show Go p e below _ T54 (mkF m 94 #[.val (.int i0), .val (.int i1), .val (.int i2), .val (.int i3), .val (.int (2 : Int32)), .val (.int aa0), .val (.int aa1), .val (.int aa2), .val (.int aa3), .val (.int aa4), .val (.int vv), .val (.ref ar), .unset, .unset] [(.int aa0), (.int (0 : Int32)), (.ref ar)])
    refine Go.step (fun _ k => XS.i2dS X54.here hx rfl (hb hby at_94) rfl rfl k) ?_
    show Go p e below _ T54 (mkF m 95 #[.val (.int i0), .val (.int i1), .val (.int i2), .val (.int i3), .val (.int (2 : Int32)), .val (.int aa0), .val (.int aa1), .val (.int aa2), .val (.int aa3), .val (.int aa4), .val (.int vv), .val (.ref ar), .unset, .unset] [(.double (FP.i2d aa0)), (.int (0 : Int32)), (.ref ar)])
    obtain ⟨cl55, Ar55, q55, S55, Nn55, H55, G55⟩ := V_ar
    have hin55 : ¬ ((0 : Int32) < 0 ∨ cl55.slots.size ≤ ((0 : Int32)).toNatClampNeg) := inb_of S55 ⟨by decide, by decide⟩
    obtain ⟨T55, h55, X55, e55, W55, st55⟩ := stD X54 hx hZ e54 Ar55 (j := (0 : Int32)) hin55 (g := (mkF m 95 #[.val (.int i0), .val (.int i1), .val (.int i2), .val (.int i3), .val (.int (2 : Int32)), .val (.int aa0), .val (.int aa1), .val (.int aa2), .val (.int aa3), .val (.int aa4), .val (.int vv), .val (.ref ar), .unset, .unset] [(.double (FP.i2d aa0)), (.int (0 : Int32)), (.ref ar)])) rfl rfl (hb hby at_95)
    have Vw55 : Arv Z h55 ar k54 .double (2 : Int32) [(.double (FP.i2d aa0)), (.double (FP.l2d 0))] (.double (FP.l2d 0)) := Arv.set Ar55 q55 S55 Nn55 H55 G55 rfl W55 0 rfl (Nat.le_of_ble_eq_true rfl)
    have V_ar := Vw55
    replace K0 := K0.wr W55 (Or.inr sz_ar)
    replace Zn := Nat.le_trans Zn (Nat.le_of_eq W55.size.symm)
    have N55 := Fr.snoc X55 N0 g_ar
    refine Go.step st55 ?_
    show Go p e below _ T55 (mkF m 96 #[.val (.int i0), .val (.int i1), .val (.int i2), .val (.int i3), .val (.int (2 : Int32)), .val (.int aa0), .val (.int aa1), .val (.int aa2), .val (.int aa3), .val (.int aa4), .val (.int vv), .val (.ref ar), .unset, .unset] [])
    refine Go.step (fun _ k => XS.iload X55.here hx rfl (hb hby at_96) rfl k) ?_
    show Go p e below _ T55 (mkF m 98 #[.val (.int i0), .val (.int i1), .val (.int i2), .val (.int i3), .val (.int (2 : Int32)), .val (.int aa0), .val (.int aa1), .val (.int aa2), .val (.int aa3), .val (.int aa4), .val (.int vv), .val (.ref ar), .unset, .unset] [(.int (2 : Int32))])
    refine Go.step (fun _ k => XS.iconst X55.here hx rfl (hb hby at_98) k) ?_
    show Go p e below _ T55 (mkF m 99 #[.val (.int i0), .val (.int i1), .val (.int i2), .val (.int i3), .val (.int (2 : Int32)), .val (.int aa0), .val (.int aa1), .val (.int aa2), .val (.int aa3), .val (.int aa4), .val (.int vv), .val (.ref ar), .unset, .unset] [(.int (1 : Int32)), (.int (2 : Int32))])
    refine Go.step (fun _ k => XS.icmpNo X55.here hx rfl (hb hby at_99) rfl (tlt (by decide)).2.2.2 k) ?_
    show Go p e below _ T55 (mkF m 102 #[.val (.int i0), .val (.int i1), .val (.int i2), .val (.int i3), .val (.int (2 : Int32)), .val (.int aa0), .val (.int aa1), .val (.int aa2), .val (.int aa3), .val (.int aa4), .val (.int vv), .val (.ref ar), .unset, .unset] [])
    refine Go.step (fun _ k => XS.aload X55.here hx rfl (hb hby at_102) rfl rfl k) ?_
    show Go p e below _ T55 (mkF m 104 #[.val (.int i0), .val (.int i1), .val (.int i2), .val (.int i3), .val (.int (2 : Int32)), .val (.int aa0), .val (.int aa1), .val (.int aa2), .val (.int aa3), .val (.int aa4), .val (.int vv), .val (.ref ar), .unset, .unset] [(.ref ar)])
    refine Go.step (fun _ k => XS.iconst X55.here hx rfl (hb hby at_104) k) ?_
    show Go p e below _ T55 (mkF m 105 #[.val (.int i0), .val (.int i1), .val (.int i2), .val (.int i3), .val (.int (2 : Int32)), .val (.int aa0), .val (.int aa1), .val (.int aa2), .val (.int aa3), .val (.int aa4), .val (.int vv), .val (.ref ar), .unset, .unset] [(.int (1 : Int32)), (.ref ar)])
    refine Go.step (fun _ k => XS.iload X55.here hx rfl (hb hby at_105) rfl k) ?_
    show Go p e below _ T55 (mkF m 107 #[.val (.int i0), .val (.int i1), .val (.int i2), .val (.int i3), .val (.int (2 : Int32)), .val (.int aa0), .val (.int aa1), .val (.int aa2), .val (.int aa3), .val (.int aa4), .val (.int vv), .val (.ref ar), .unset, .unset] [(.int aa1), (.int (1 : Int32)), (.ref ar)])
    refine Go.step (fun _ k => XS.i2dS X55.here hx rfl (hb hby at_107) rfl rfl k) ?_
    show Go p e below _ T55 (mkF m 108 #[.val (.int i0), .val (.int i1), .val (.int i2), .val (.int i3), .val (.int (2 : Int32)), .val (.int aa0), .val (.int aa1), .val (.int aa2), .val (.int aa3), .val (.int aa4), .val (.int vv), .val (.ref ar), .unset, .unset] [(.double (FP.i2d aa1)), (.int (1 : Int32)), (.ref ar)])
    obtain ⟨cl56, Ar56, q56, S56, Nn56, H56, G56⟩ := V_ar
    have hin56 : ¬ ((1 : Int32) < 0 ∨ cl56.slots.size ≤ ((1 : Int32)).toNatClampNeg) := inb_of S56 ⟨by decide, by decide⟩
    obtain ⟨T56, h56, X56, e56, W56, st56⟩ := stD X55 hx hZ e55 Ar56 (j := (1 : Int32)) hin56 (g := (mkF m 108 #[.val (.int i0), .val (.int i1), .val (.int i2), .val (.int i3), .val (.int (2 : Int32)), .val (.int aa0), .val (.int aa1), .val (.int aa2), .val (.int aa3), .val (.int aa4), .val (.int vv), .val (.ref ar), .unset, .unset] [(.double (FP.i2d aa1)), (.int (1 : Int32)), (.ref ar)])) rfl rfl (hb hby at_108)
    have Vw56 : Arv Z h56 ar k54 .double (2 : Int32) [(.double (FP.i2d aa0)), (.double (FP.i2d aa1))] (.double (FP.l2d 0)) := Arv.set Ar56 q56 S56 Nn56 H56 G56 rfl W56 1 rfl (Nat.le_of_ble_eq_true rfl)
    have V_ar := Vw56
    replace K0 := K0.wr W56 (Or.inr sz_ar)
    replace Zn := Nat.le_trans Zn (Nat.le_of_eq W56.size.symm)
    have N56 := Fr.snoc X56 N55 g_ar
    refine Go.step st56 ?_
    show Go p e below _ T56 (mkF m 109 #[.val (.int i0), .val (.int i1), .val (.int i2), .val (.int i3), .val (.int (2 : Int32)), .val (.int aa0), .val (.int aa1), .val (.int aa2), .val (.int aa3), .val (.int aa4), .val (.int vv), .val (.ref ar), .unset, .unset] [])
    refine Go.step (fun _ k => XS.iload X56.here hx rfl (hb hby at_109) rfl k) ?_
    show Go p e below _ T56 (mkF m 111 #[.val (.int i0), .val (.int i1), .val (.int i2), .val (.int i3), .val (.int (2 : Int32)), .val (.int aa0), .val (.int aa1), .val (.int aa2), .val (.int aa3), .val (.int aa4), .val (.int vv), .val (.ref ar), .unset, .unset] [(.int (2 : Int32))])
    refine Go.step (fun _ k => XS.iconst X56.here hx rfl (hb hby at_111) k) ?_
    show Go p e below _ T56 (mkF m 112 #[.val (.int i0), .val (.int i1), .val (.int i2), .val (.int i3), .val (.int (2 : Int32)), .val (.int aa0), .val (.int aa1), .val (.int aa2), .val (.int aa3), .val (.int aa4), .val (.int vv), .val (.ref ar), .unset, .unset] [(.int (2 : Int32)), (.int (2 : Int32))])
    refine Go.step (fun _ k => XS.icmpYes X56.here hx rfl (pc0 := 112) (pc' := 122) rfl (hb hby at_112) rfl (flt (by decide)).2.2.2 (by decide) (by decide) k) ?_
    show Go p e below _ T56 (mkF m 122 #[.val (.int i0), .val (.int i1), .val (.int i2), .val (.int i3), .val (.int (2 : Int32)), .val (.int aa0), .val (.int aa1), .val (.int aa2), .val (.int aa3), .val (.int aa4), .val (.int vv), .val (.ref ar), .unset, .unset] [])
    refine Go.step (fun _ k => XS.iload X56.here hx rfl (hb hby at_122) rfl k) ?_
    show Go p e below _ T56 (mkF m 124 #[.val (.int i0), .val (.int i1), .val (.int i2), .val (.int i3), .val (.int (2 : Int32)), .val (.int aa0), .val (.int aa1), .val (.int aa2), .val (.int aa3), .val (.int aa4), .val (.int vv), .val (.ref ar), .unset, .unset] [(.int (2 : Int32))])
    refine Go.step (fun _ k => XS.iconst X56.here hx rfl (hb hby at_124) k) ?_
    show Go p e below _ T56 (mkF m 125 #[.val (.int i0), .val (.int i1), .val (.int i2), .val (.int i3), .val (.int (2 : Int32)), .val (.int aa0), .val (.int aa1), .val (.int aa2), .val (.int aa3), .val (.int aa4), .val (.int vv), .val (.ref ar), .unset, .unset] [(.int (3 : Int32)), (.int (2 : Int32))])
    refine Go.step (fun _ k => XS.icmpYes X56.here hx rfl (pc0 := 125) (pc' := 135) rfl (hb hby at_125) rfl (flt (by decide)).2.2.2 (by decide) (by decide) k) ?_
    show Go p e below _ T56 (mkF m 135 #[.val (.int i0), .val (.int i1), .val (.int i2), .val (.int i3), .val (.int (2 : Int32)), .val (.int aa0), .val (.int aa1), .val (.int aa2), .val (.int aa3), .val (.int aa4), .val (.int vv), .val (.ref ar), .unset, .unset] [])
    refine Go.step (fun _ k => XS.iload X56.here hx rfl (hb hby at_135) rfl k) ?_
    show Go p e below _ T56 (mkF m 137 #[.val (.int i0), .val (.int i1), .val (.int i2), .val (.int i3), .val (.int (2 : Int32)), .val (.int aa0), .val (.int aa1), .val (.int aa2), .val (.int aa3), .val (.int aa4), .val (.int vv), .val (.ref ar), .unset, .unset] [(.int (2 : Int32))])
    refine Go.step (fun _ k => XS.iconst X56.here hx rfl (hb hby at_137) k) ?_
    show Go p e below _ T56 (mkF m 138 #[.val (.int i0), .val (.int i1), .val (.int i2), .val (.int i3), .val (.int (2 : Int32)), .val (.int aa0), .val (.int aa1), .val (.int aa2), .val (.int aa3), .val (.int aa4), .val (.int vv), .val (.ref ar), .unset, .unset] [(.int (4 : Int32)), (.int (2 : Int32))])
    refine Go.step (fun _ k => XS.icmpYes X56.here hx rfl (pc0 := 138) (pc' := 148) rfl (hb hby at_138) rfl (flt (by decide)).2.2.2 (by decide) (by decide) k) ?_
    show Go p e below _ T56 (mkF m 148 #[.val (.int i0), .val (.int i1), .val (.int i2), .val (.int i3), .val (.int (2 : Int32)), .val (.int aa0), .val (.int aa1), .val (.int aa2), .val (.int aa3), .val (.int aa4), .val (.int vv), .val (.ref ar), .unset, .unset] [])
    refine Go.step (fun _ k => XS.iload X56.here hx rfl (hb hby at_148) rfl k) ?_
    show Go p e below _ T56 (mkF m 150 #[.val (.int i0), .val (.int i1), .val (.int i2), .val (.int i3), .val (.int (2 : Int32)), .val (.int aa0), .val (.int aa1), .val (.int aa2), .val (.int aa3), .val (.int aa4), .val (.int vv), .val (.ref ar), .unset, .unset] [(.int (2 : Int32))])
    refine Go.step (fun _ k => XS.iconst X56.here hx rfl (hb hby at_150) k) ?_
    show Go p e below _ T56 (mkF m 151 #[.val (.int i0), .val (.int i1), .val (.int i2), .val (.int i3), .val (.int (2 : Int32)), .val (.int aa0), .val (.int aa1), .val (.int aa2), .val (.int aa3), .val (.int aa4), .val (.int vv), .val (.ref ar), .unset, .unset] [(.int (0 : Int32)), (.int (2 : Int32))])
    refine Go.step (fun _ k => XS.iload X56.here hx rfl (hb hby at_151) rfl k) ?_
    show Go p e below _ T56 (mkF m 153 #[.val (.int i0), .val (.int i1), .val (.int i2), .val (.int i3), .val (.int (2 : Int32)), .val (.int aa0), .val (.int aa1), .val (.int aa2), .val (.int aa3), .val (.int aa4), .val (.int vv), .val (.ref ar), .unset, .unset] [(.int aa0), (.int (0 : Int32)), (.int (2 : Int32))])
    refine Go.step (fun _ k => XS.iload X56.here hx rfl (hb hby at_153) rfl k) ?_
    show Go p e below _ T56 (mkF m 155 #[.val (.int i0), .val (.int i1), .val (.int i2), .val (.int i3), .val (.int (2 : Int32)), .val (.int aa0), .val (.int aa1), .val (.int aa2), .val (.int aa3), .val (.int aa4), .val (.int vv), .val (.ref ar), .unset, .unset] [(.int vv), (.int aa0), (.int (0 : Int32)), (.int (2 : Int32))])
    obtain ⟨_, _, ⟨T57, L57, k57, n57⟩, -, X57, ⟨Lc57, hQ57, l57, y57, z57⟩, st57⟩ := Jvm.LawKit.callS X56 hx (y := (⟨"com/example/bidkeel/bidkeel/KnapsackCountUpToPinLaw", "atOrBelow", "(IIII)I"⟩ : MethodName)) hown (mvT hZ (hw _ (List.mem_of_getElem? (i := 2) rfl))) (mvT hZ (hw _ (List.mem_of_getElem? (i := 3) rfl))) (mvT hZ (hw _ (List.mem_of_getElem? (i := 4) rfl))) (mvT hZ (hw _ (List.mem_of_getElem? (i := 5) rfl))) (by decide) (backOf (W := 0) (rmA l Z a0 hw [] (2 : Int32) (0 : Int32) aa0 vv h56 n0 Zn) hZ (hw _ (List.mem_of_getElem? (i := 5) rfl)) (hw _ (List.mem_of_getElem? (i := 4) rfl)) (by decide) (by decide)) (g := (mkF m 155 #[.val (.int i0), .val (.int i1), .val (.int i2), .val (.int i3), .val (.int (2 : Int32)), .val (.int aa0), .val (.int aa1), .val (.int aa2), .val (.int aa3), .val (.int aa4), .val (.int vv), .val (.ref ar), .unset, .unset] [(.int vv), (.int aa0), (.int (0 : Int32)), (.int (2 : Int32))])) rfl (by rw [hml]; rfl) (argsL := [(.int (2 : Int32)), (.int (0 : Int32)), (.int aa0), (.int vv)]) (rest := []) (lenOf own_f42 rfl) rfl (by show 2 * 0 + _ ≤ _; exact Nat.le_of_eq rfl) (hb hby at_155) (fun _ _ => ⟨rfl, e56, (by dsimp only [Pt.cells, Pt.slots]; decide), (by dsimp only [Pt.cells, Pt.slots]; decide)⟩)
    dsimp only [Pt.U, Pt.locs, Pt.cells, Pt.slots] at X57 l57 y57 z57 st57 hQ57
    subst l57 y57 z57
    obtain ⟨rfl, N57q, e57⟩ := hQ57
    have N57 := Fr.app N56 N57q
    refine Go.step (st57) ?_
    show Go p e below _ T57 (mkF m 158 #[.val (.int i0), .val (.int i1), .val (.int i2), .val (.int i3), .val (.int (2 : Int32)), .val (.int aa0), .val (.int aa1), .val (.int aa2), .val (.int aa3), .val (.int aa4), .val (.int vv), .val (.ref ar), .unset, .unset] [(.int (own_ab 2 0 aa0 vv))])
    refine Go.step (fun _ k => XS.iload X57.here hx rfl (hb hby at_158) rfl k) ?_
    show Go p e below _ T57 (mkF m 160 #[.val (.int i0), .val (.int i1), .val (.int i2), .val (.int i3), .val (.int (2 : Int32)), .val (.int aa0), .val (.int aa1), .val (.int aa2), .val (.int aa3), .val (.int aa4), .val (.int vv), .val (.ref ar), .unset, .unset] [(.int (2 : Int32)), (.int (own_ab 2 0 aa0 vv))])
    refine Go.step (fun _ k => XS.iconst X57.here hx rfl (hb hby at_160) k) ?_
    show Go p e below _ T57 (mkF m 161 #[.val (.int i0), .val (.int i1), .val (.int i2), .val (.int i3), .val (.int (2 : Int32)), .val (.int aa0), .val (.int aa1), .val (.int aa2), .val (.int aa3), .val (.int aa4), .val (.int vv), .val (.ref ar), .unset, .unset] [(.int (1 : Int32)), (.int (2 : Int32)), (.int (own_ab 2 0 aa0 vv))])
    refine Go.step (fun _ k => XS.iload X57.here hx rfl (hb hby at_161) rfl k) ?_
    show Go p e below _ T57 (mkF m 163 #[.val (.int i0), .val (.int i1), .val (.int i2), .val (.int i3), .val (.int (2 : Int32)), .val (.int aa0), .val (.int aa1), .val (.int aa2), .val (.int aa3), .val (.int aa4), .val (.int vv), .val (.ref ar), .unset, .unset] [(.int aa1), (.int (1 : Int32)), (.int (2 : Int32)), (.int (own_ab 2 0 aa0 vv))])
    refine Go.step (fun _ k => XS.iload X57.here hx rfl (hb hby at_163) rfl k) ?_
    show Go p e below _ T57 (mkF m 165 #[.val (.int i0), .val (.int i1), .val (.int i2), .val (.int i3), .val (.int (2 : Int32)), .val (.int aa0), .val (.int aa1), .val (.int aa2), .val (.int aa3), .val (.int aa4), .val (.int vv), .val (.ref ar), .unset, .unset] [(.int vv), (.int aa1), (.int (1 : Int32)), (.int (2 : Int32)), (.int (own_ab 2 0 aa0 vv))])
    obtain ⟨_, _, ⟨T58, L58, k58, n58⟩, -, X58, ⟨Lc58, hQ58, l58, y58, z58⟩, st58⟩ := Jvm.LawKit.callS X57 hx (y := (⟨"com/example/bidkeel/bidkeel/KnapsackCountUpToPinLaw", "atOrBelow", "(IIII)I"⟩ : MethodName)) hown (mvT hZ (hw _ (List.mem_of_getElem? (i := 2) rfl))) (mvT hZ (hw _ (List.mem_of_getElem? (i := 3) rfl))) (mvT hZ (hw _ (List.mem_of_getElem? (i := 4) rfl))) (mvT hZ (hw _ (List.mem_of_getElem? (i := 5) rfl))) (by decide) (backOf (W := 1) (rmA l Z a0 hw [] (2 : Int32) (1 : Int32) aa1 vv h56 n0 Zn) hZ (hw _ (List.mem_of_getElem? (i := 5) rfl)) (hw _ (List.mem_of_getElem? (i := 4) rfl)) (by decide) (by decide)) (g := (mkF m 165 #[.val (.int i0), .val (.int i1), .val (.int i2), .val (.int i3), .val (.int (2 : Int32)), .val (.int aa0), .val (.int aa1), .val (.int aa2), .val (.int aa3), .val (.int aa4), .val (.int vv), .val (.ref ar), .unset, .unset] [(.int vv), (.int aa1), (.int (1 : Int32)), (.int (2 : Int32)), (.int (own_ab 2 0 aa0 vv))])) rfl (by rw [hml]; rfl) (argsL := [(.int (2 : Int32)), (.int (1 : Int32)), (.int aa1), (.int vv)]) (rest := [(.int (own_ab 2 0 aa0 vv))]) (lenOf own_f42 rfl) rfl (by show 2 * 0 + _ ≤ _; exact Nat.le_of_eq rfl) (hb hby at_165) (fun _ _ => ⟨rfl, e57, (by dsimp only [Pt.cells, Pt.slots]; decide), (by dsimp only [Pt.cells, Pt.slots]; decide)⟩)
    dsimp only [Pt.U, Pt.locs, Pt.cells, Pt.slots] at X58 l58 y58 z58 st58 hQ58
    subst l58 y58 z58
    obtain ⟨rfl, N58q, e58⟩ := hQ58
    have N58 := Fr.app N57 N58q
    refine Go.step (st58) ?_
    show Go p e below _ T58 (mkF m 168 #[.val (.int i0), .val (.int i1), .val (.int i2), .val (.int i3), .val (.int (2 : Int32)), .val (.int aa0), .val (.int aa1), .val (.int aa2), .val (.int aa3), .val (.int aa4), .val (.int vv), .val (.ref ar), .unset, .unset] [(.int (own_ab 2 1 aa1 vv)), (.int (own_ab 2 0 aa0 vv))])
    refine Go.step (fun _ k => XS.iadd X58.here hx rfl (hb hby at_168) rfl k) ?_
    show Go p e below _ T58 (mkF m 169 #[.val (.int i0), .val (.int i1), .val (.int i2), .val (.int i3), .val (.int (2 : Int32)), .val (.int aa0), .val (.int aa1), .val (.int aa2), .val (.int aa3), .val (.int aa4), .val (.int vv), .val (.ref ar), .unset, .unset] [(.int ((own_ab 2 0 aa0 vv) + (own_ab 2 1 aa1 vv)))])
    refine Go.step (fun _ k => XS.iload X58.here hx rfl (hb hby at_169) rfl k) ?_
    show Go p e below _ T58 (mkF m 171 #[.val (.int i0), .val (.int i1), .val (.int i2), .val (.int i3), .val (.int (2 : Int32)), .val (.int aa0), .val (.int aa1), .val (.int aa2), .val (.int aa3), .val (.int aa4), .val (.int vv), .val (.ref ar), .unset, .unset] [(.int (2 : Int32)), (.int ((own_ab 2 0 aa0 vv) + (own_ab 2 1 aa1 vv)))])
    refine Go.step (fun _ k => XS.iconst X58.here hx rfl (hb hby at_171) k) ?_
    show Go p e below _ T58 (mkF m 172 #[.val (.int i0), .val (.int i1), .val (.int i2), .val (.int i3), .val (.int (2 : Int32)), .val (.int aa0), .val (.int aa1), .val (.int aa2), .val (.int aa3), .val (.int aa4), .val (.int vv), .val (.ref ar), .unset, .unset] [(.int (2 : Int32)), (.int (2 : Int32)), (.int ((own_ab 2 0 aa0 vv) + (own_ab 2 1 aa1 vv)))])
    refine Go.step (fun _ k => XS.iload X58.here hx rfl (hb hby at_172) rfl k) ?_
    show Go p e below _ T58 (mkF m 174 #[.val (.int i0), .val (.int i1), .val (.int i2), .val (.int i3), .val (.int (2 : Int32)), .val (.int aa0), .val (.int aa1), .val (.int aa2), .val (.int aa3), .val (.int aa4), .val (.int vv), .val (.ref ar), .unset, .unset] [(.int aa2), (.int (2 : Int32)), (.int (2 : Int32)), (.int ((own_ab 2 0 aa0 vv) + (own_ab 2 1 aa1 vv)))])
    refine Go.step (fun _ k => XS.iload X58.here hx rfl (hb hby at_174) rfl k) ?_
    show Go p e below _ T58 (mkF m 176 #[.val (.int i0), .val (.int i1), .val (.int i2), .val (.int i3), .val (.int (2 : Int32)), .val (.int aa0), .val (.int aa1), .val (.int aa2), .val (.int aa3), .val (.int aa4), .val (.int vv), .val (.ref ar), .unset, .unset] [(.int vv), (.int aa2), (.int (2 : Int32)), (.int (2 : Int32)), (.int ((own_ab 2 0 aa0 vv) + (own_ab 2 1 aa1 vv)))])
    obtain ⟨_, _, ⟨T59, L59, k59, n59⟩, -, X59, ⟨Lc59, hQ59, l59, y59, z59⟩, st59⟩ := Jvm.LawKit.callS X58 hx (y := (⟨"com/example/bidkeel/bidkeel/KnapsackCountUpToPinLaw", "atOrBelow", "(IIII)I"⟩ : MethodName)) hown (mvT hZ (hw _ (List.mem_of_getElem? (i := 2) rfl))) (mvT hZ (hw _ (List.mem_of_getElem? (i := 3) rfl))) (mvT hZ (hw _ (List.mem_of_getElem? (i := 4) rfl))) (mvT hZ (hw _ (List.mem_of_getElem? (i := 5) rfl))) (by decide) (backOf (W := 1) (rmA l Z a0 hw [] (2 : Int32) (2 : Int32) aa2 vv h56 n0 Zn) hZ (hw _ (List.mem_of_getElem? (i := 5) rfl)) (hw _ (List.mem_of_getElem? (i := 4) rfl)) (by decide) (by decide)) (g := (mkF m 176 #[.val (.int i0), .val (.int i1), .val (.int i2), .val (.int i3), .val (.int (2 : Int32)), .val (.int aa0), .val (.int aa1), .val (.int aa2), .val (.int aa3), .val (.int aa4), .val (.int vv), .val (.ref ar), .unset, .unset] [(.int vv), (.int aa2), (.int (2 : Int32)), (.int (2 : Int32)), (.int ((own_ab 2 0 aa0 vv) + (own_ab 2 1 aa1 vv)))])) rfl (by rw [hml]; rfl) (argsL := [(.int (2 : Int32)), (.int (2 : Int32)), (.int aa2), (.int vv)]) (rest := [(.int ((own_ab 2 0 aa0 vv) + (own_ab 2 1 aa1 vv)))]) (lenOf own_f42 rfl) rfl (by show 2 * 0 + _ ≤ _; exact Nat.le_of_eq rfl) (hb hby at_176) (fun _ _ => ⟨rfl, e58, (by dsimp only [Pt.cells, Pt.slots]; decide), (by dsimp only [Pt.cells, Pt.slots]; decide)⟩)
    dsimp only [Pt.U, Pt.locs, Pt.cells, Pt.slots] at X59 l59 y59 z59 st59 hQ59
    subst l59 y59 z59
    obtain ⟨rfl, N59q, e59⟩ := hQ59
    have N59 := Fr.app N58 N59q
    refine Go.step (st59) ?_
    show Go p e below _ T59 (mkF m 179 #[.val (.int i0), .val (.int i1), .val (.int i2), .val (.int i3), .val (.int (2 : Int32)), .val (.int aa0), .val (.int aa1), .val (.int aa2), .val (.int aa3), .val (.int aa4), .val (.int vv), .val (.ref ar), .unset, .unset] [(.int (own_ab 2 2 aa2 vv)), (.int ((own_ab 2 0 aa0 vv) + (own_ab 2 1 aa1 vv)))])
    refine Go.step (fun _ k => XS.iadd X59.here hx rfl (hb hby at_179) rfl k) ?_
    show Go p e below _ T59 (mkF m 180 #[.val (.int i0), .val (.int i1), .val (.int i2), .val (.int i3), .val (.int (2 : Int32)), .val (.int aa0), .val (.int aa1), .val (.int aa2), .val (.int aa3), .val (.int aa4), .val (.int vv), .val (.ref ar), .unset, .unset] [(.int (((own_ab 2 0 aa0 vv) + (own_ab 2 1 aa1 vv)) + (own_ab 2 2 aa2 vv)))])
    refine Go.step (fun _ k => XS.iload X59.here hx rfl (hb hby at_180) rfl k) ?_
    show Go p e below _ T59 (mkF m 182 #[.val (.int i0), .val (.int i1), .val (.int i2), .val (.int i3), .val (.int (2 : Int32)), .val (.int aa0), .val (.int aa1), .val (.int aa2), .val (.int aa3), .val (.int aa4), .val (.int vv), .val (.ref ar), .unset, .unset] [(.int (2 : Int32)), (.int (((own_ab 2 0 aa0 vv) + (own_ab 2 1 aa1 vv)) + (own_ab 2 2 aa2 vv)))])
    refine Go.step (fun _ k => XS.iconst X59.here hx rfl (hb hby at_182) k) ?_
    show Go p e below _ T59 (mkF m 183 #[.val (.int i0), .val (.int i1), .val (.int i2), .val (.int i3), .val (.int (2 : Int32)), .val (.int aa0), .val (.int aa1), .val (.int aa2), .val (.int aa3), .val (.int aa4), .val (.int vv), .val (.ref ar), .unset, .unset] [(.int (3 : Int32)), (.int (2 : Int32)), (.int (((own_ab 2 0 aa0 vv) + (own_ab 2 1 aa1 vv)) + (own_ab 2 2 aa2 vv)))])
    refine Go.step (fun _ k => XS.iload X59.here hx rfl (hb hby at_183) rfl k) ?_
    show Go p e below _ T59 (mkF m 185 #[.val (.int i0), .val (.int i1), .val (.int i2), .val (.int i3), .val (.int (2 : Int32)), .val (.int aa0), .val (.int aa1), .val (.int aa2), .val (.int aa3), .val (.int aa4), .val (.int vv), .val (.ref ar), .unset, .unset] [(.int aa3), (.int (3 : Int32)), (.int (2 : Int32)), (.int (((own_ab 2 0 aa0 vv) + (own_ab 2 1 aa1 vv)) + (own_ab 2 2 aa2 vv)))])
    refine Go.step (fun _ k => XS.iload X59.here hx rfl (hb hby at_185) rfl k) ?_
    show Go p e below _ T59 (mkF m 187 #[.val (.int i0), .val (.int i1), .val (.int i2), .val (.int i3), .val (.int (2 : Int32)), .val (.int aa0), .val (.int aa1), .val (.int aa2), .val (.int aa3), .val (.int aa4), .val (.int vv), .val (.ref ar), .unset, .unset] [(.int vv), (.int aa3), (.int (3 : Int32)), (.int (2 : Int32)), (.int (((own_ab 2 0 aa0 vv) + (own_ab 2 1 aa1 vv)) + (own_ab 2 2 aa2 vv)))])
    obtain ⟨_, _, ⟨T60, L60, k60, n60⟩, -, X60, ⟨Lc60, hQ60, l60, y60, z60⟩, st60⟩ := Jvm.LawKit.callS X59 hx (y := (⟨"com/example/bidkeel/bidkeel/KnapsackCountUpToPinLaw", "atOrBelow", "(IIII)I"⟩ : MethodName)) hown (mvT hZ (hw _ (List.mem_of_getElem? (i := 2) rfl))) (mvT hZ (hw _ (List.mem_of_getElem? (i := 3) rfl))) (mvT hZ (hw _ (List.mem_of_getElem? (i := 4) rfl))) (mvT hZ (hw _ (List.mem_of_getElem? (i := 5) rfl))) (by decide) (backOf (W := 1) (rmA l Z a0 hw [] (2 : Int32) (3 : Int32) aa3 vv h56 n0 Zn) hZ (hw _ (List.mem_of_getElem? (i := 5) rfl)) (hw _ (List.mem_of_getElem? (i := 4) rfl)) (by decide) (by decide)) (g := (mkF m 187 #[.val (.int i0), .val (.int i1), .val (.int i2), .val (.int i3), .val (.int (2 : Int32)), .val (.int aa0), .val (.int aa1), .val (.int aa2), .val (.int aa3), .val (.int aa4), .val (.int vv), .val (.ref ar), .unset, .unset] [(.int vv), (.int aa3), (.int (3 : Int32)), (.int (2 : Int32)), (.int (((own_ab 2 0 aa0 vv) + (own_ab 2 1 aa1 vv)) + (own_ab 2 2 aa2 vv)))])) rfl (by rw [hml]; rfl) (argsL := [(.int (2 : Int32)), (.int (3 : Int32)), (.int aa3), (.int vv)]) (rest := [(.int (((own_ab 2 0 aa0 vv) + (own_ab 2 1 aa1 vv)) + (own_ab 2 2 aa2 vv)))]) (lenOf own_f42 rfl) rfl (by show 2 * 0 + _ ≤ _; exact Nat.le_of_eq rfl) (hb hby at_187) (fun _ _ => ⟨rfl, e59, (by dsimp only [Pt.cells, Pt.slots]; decide), (by dsimp only [Pt.cells, Pt.slots]; decide)⟩)
    dsimp only [Pt.U, Pt.locs, Pt.cells, Pt.slots] at X60 l60 y60 z60 st60 hQ60
    subst l60 y60 z60
    obtain ⟨rfl, N60q, e60⟩ := hQ60
    have N60 := Fr.app N59 N60q
    refine Go.step (st60) ?_
    show Go p e below _ T60 (mkF m 190 #[.val (.int i0), .val (.int i1), .val (.int i2), .val (.int i3), .val (.int (2 : Int32)), .val (.int aa0), .val (.int aa1), .val (.int aa2), .val (.int aa3), .val (.int aa4), .val (.int vv), .val (.ref ar), .unset, .unset] [(.int (own_ab 2 3 aa3 vv)), (.int (((own_ab 2 0 aa0 vv) + (own_ab 2 1 aa1 vv)) + (own_ab 2 2 aa2 vv)))])
    refine Go.step (fun _ k => XS.iadd X60.here hx rfl (hb hby at_190) rfl k) ?_
    show Go p e below _ T60 (mkF m 191 #[.val (.int i0), .val (.int i1), .val (.int i2), .val (.int i3), .val (.int (2 : Int32)), .val (.int aa0), .val (.int aa1), .val (.int aa2), .val (.int aa3), .val (.int aa4), .val (.int vv), .val (.ref ar), .unset, .unset] [(.int ((((own_ab 2 0 aa0 vv) + (own_ab 2 1 aa1 vv)) + (own_ab 2 2 aa2 vv)) + (own_ab 2 3 aa3 vv)))])
    refine Go.step (fun _ k => XS.iload X60.here hx rfl (hb hby at_191) rfl k) ?_
    show Go p e below _ T60 (mkF m 193 #[.val (.int i0), .val (.int i1), .val (.int i2), .val (.int i3), .val (.int (2 : Int32)), .val (.int aa0), .val (.int aa1), .val (.int aa2), .val (.int aa3), .val (.int aa4), .val (.int vv), .val (.ref ar), .unset, .unset] [(.int (2 : Int32)), (.int ((((own_ab 2 0 aa0 vv) + (own_ab 2 1 aa1 vv)) + (own_ab 2 2 aa2 vv)) + (own_ab 2 3 aa3 vv)))])
    refine Go.step (fun _ k => XS.iconst X60.here hx rfl (hb hby at_193) k) ?_
    show Go p e below _ T60 (mkF m 194 #[.val (.int i0), .val (.int i1), .val (.int i2), .val (.int i3), .val (.int (2 : Int32)), .val (.int aa0), .val (.int aa1), .val (.int aa2), .val (.int aa3), .val (.int aa4), .val (.int vv), .val (.ref ar), .unset, .unset] [(.int (4 : Int32)), (.int (2 : Int32)), (.int ((((own_ab 2 0 aa0 vv) + (own_ab 2 1 aa1 vv)) + (own_ab 2 2 aa2 vv)) + (own_ab 2 3 aa3 vv)))])
    refine Go.step (fun _ k => XS.iload X60.here hx rfl (hb hby at_194) rfl k) ?_
    show Go p e below _ T60 (mkF m 196 #[.val (.int i0), .val (.int i1), .val (.int i2), .val (.int i3), .val (.int (2 : Int32)), .val (.int aa0), .val (.int aa1), .val (.int aa2), .val (.int aa3), .val (.int aa4), .val (.int vv), .val (.ref ar), .unset, .unset] [(.int aa4), (.int (4 : Int32)), (.int (2 : Int32)), (.int ((((own_ab 2 0 aa0 vv) + (own_ab 2 1 aa1 vv)) + (own_ab 2 2 aa2 vv)) + (own_ab 2 3 aa3 vv)))])
    refine Go.step (fun _ k => XS.iload X60.here hx rfl (hb hby at_196) rfl k) ?_
    show Go p e below _ T60 (mkF m 198 #[.val (.int i0), .val (.int i1), .val (.int i2), .val (.int i3), .val (.int (2 : Int32)), .val (.int aa0), .val (.int aa1), .val (.int aa2), .val (.int aa3), .val (.int aa4), .val (.int vv), .val (.ref ar), .unset, .unset] [(.int vv), (.int aa4), (.int (4 : Int32)), (.int (2 : Int32)), (.int ((((own_ab 2 0 aa0 vv) + (own_ab 2 1 aa1 vv)) + (own_ab 2 2 aa2 vv)) + (own_ab 2 3 aa3 vv)))])
    obtain ⟨_, _, ⟨T61, L61, k61, n61⟩, -, X61, ⟨Lc61, hQ61, l61, y61, z61⟩, st61⟩ := Jvm.LawKit.callS X60 hx (y := (⟨"com/example/bidkeel/bidkeel/KnapsackCountUpToPinLaw", "atOrBelow", "(IIII)I"⟩ : MethodName)) hown (mvT hZ (hw _ (List.mem_of_getElem? (i := 2) rfl))) (mvT hZ (hw _ (List.mem_of_getElem? (i := 3) rfl))) (mvT hZ (hw _ (List.mem_of_getElem? (i := 4) rfl))) (mvT hZ (hw _ (List.mem_of_getElem? (i := 5) rfl))) (by decide) (backOf (W := 1) (rmA l Z a0 hw [] (2 : Int32) (4 : Int32) aa4 vv h56 n0 Zn) hZ (hw _ (List.mem_of_getElem? (i := 5) rfl)) (hw _ (List.mem_of_getElem? (i := 4) rfl)) (by decide) (by decide)) (g := (mkF m 198 #[.val (.int i0), .val (.int i1), .val (.int i2), .val (.int i3), .val (.int (2 : Int32)), .val (.int aa0), .val (.int aa1), .val (.int aa2), .val (.int aa3), .val (.int aa4), .val (.int vv), .val (.ref ar), .unset, .unset] [(.int vv), (.int aa4), (.int (4 : Int32)), (.int (2 : Int32)), (.int ((((own_ab 2 0 aa0 vv) + (own_ab 2 1 aa1 vv)) + (own_ab 2 2 aa2 vv)) + (own_ab 2 3 aa3 vv)))])) rfl (by rw [hml]; rfl) (argsL := [(.int (2 : Int32)), (.int (4 : Int32)), (.int aa4), (.int vv)]) (rest := [(.int ((((own_ab 2 0 aa0 vv) + (own_ab 2 1 aa1 vv)) + (own_ab 2 2 aa2 vv)) + (own_ab 2 3 aa3 vv)))]) (lenOf own_f42 rfl) rfl (by show 2 * 0 + _ ≤ _; exact Nat.le_of_eq rfl) (hb hby at_198) (fun _ _ => ⟨rfl, e60, (by dsimp only [Pt.cells, Pt.slots]; decide), (by dsimp only [Pt.cells, Pt.slots]; decide)⟩)
    dsimp only [Pt.U, Pt.locs, Pt.cells, Pt.slots] at X61 l61 y61 z61 st61 hQ61
    subst l61 y61 z61
    obtain ⟨rfl, N61q, e61⟩ := hQ61
    have N61 := Fr.app N60 N61q
    refine Go.step (st61) ?_
    show Go p e below _ T61 (mkF m 201 #[.val (.int i0), .val (.int i1), .val (.int i2), .val (.int i3), .val (.int (2 : Int32)), .val (.int aa0), .val (.int aa1), .val (.int aa2), .val (.int aa3), .val (.int aa4), .val (.int vv), .val (.ref ar), .unset, .unset] [(.int (own_ab 2 4 aa4 vv)), (.int ((((own_ab 2 0 aa0 vv) + (own_ab 2 1 aa1 vv)) + (own_ab 2 2 aa2 vv)) + (own_ab 2 3 aa3 vv)))])
    refine Go.step (fun _ k => XS.iadd X61.here hx rfl (hb hby at_201) rfl k) ?_
    show Go p e below _ T61 (mkF m 202 #[.val (.int i0), .val (.int i1), .val (.int i2), .val (.int i3), .val (.int (2 : Int32)), .val (.int aa0), .val (.int aa1), .val (.int aa2), .val (.int aa3), .val (.int aa4), .val (.int vv), .val (.ref ar), .unset, .unset] [(.int (((((own_ab 2 0 aa0 vv) + (own_ab 2 1 aa1 vv)) + (own_ab 2 2 aa2 vv)) + (own_ab 2 3 aa3 vv)) + (own_ab 2 4 aa4 vv)))])
    refine Go.step (fun _ k => XS.istore X61.here hx rfl (hb hby at_202) rfl (l' := #[.val (.int i0), .val (.int i1), .val (.int i2), .val (.int i3), .val (.int (2 : Int32)), .val (.int aa0), .val (.int aa1), .val (.int aa2), .val (.int aa3), .val (.int aa4), .val (.int vv), .val (.ref ar), .val (.int (((((own_ab 2 0 aa0 vv) + (own_ab 2 1 aa1 vv)) + (own_ab 2 2 aa2 vv)) + (own_ab 2 3 aa3 vv)) + (own_ab 2 4 aa4 vv))), .unset]) rfl k) ?_
    show Go p e below _ T61 (mkF m 204 #[.val (.int i0), .val (.int i1), .val (.int i2), .val (.int i3), .val (.int (2 : Int32)), .val (.int aa0), .val (.int aa1), .val (.int aa2), .val (.int aa3), .val (.int aa4), .val (.int vv), .val (.ref ar), .val (.int (((((own_ab 2 0 aa0 vv) + (own_ab 2 1 aa1 vv)) + (own_ab 2 2 aa2 vv)) + (own_ab 2 3 aa3 vv)) + (own_ab 2 4 aa4 vv))), .unset] [])
    refine Go.step (fun _ k => XS.aload X61.here hx rfl (hb hby at_204) rfl rfl k) ?_
    show Go p e below _ T61 (mkF m 206 #[.val (.int i0), .val (.int i1), .val (.int i2), .val (.int i3), .val (.int (2 : Int32)), .val (.int aa0), .val (.int aa1), .val (.int aa2), .val (.int aa3), .val (.int aa4), .val (.int vv), .val (.ref ar), .val (.int (((((own_ab 2 0 aa0 vv) + (own_ab 2 1 aa1 vv)) + (own_ab 2 2 aa2 vv)) + (own_ab 2 3 aa3 vv)) + (own_ab 2 4 aa4 vv))), .unset] [(.ref ar)])
    refine Go.step (fun _ k => XS.iload X61.here hx rfl (hb hby at_206) rfl k) ?_
    show Go p e below _ T61 (mkF m 208 #[.val (.int i0), .val (.int i1), .val (.int i2), .val (.int i3), .val (.int (2 : Int32)), .val (.int aa0), .val (.int aa1), .val (.int aa2), .val (.int aa3), .val (.int aa4), .val (.int vv), .val (.ref ar), .val (.int (((((own_ab 2 0 aa0 vv) + (own_ab 2 1 aa1 vv)) + (own_ab 2 2 aa2 vv)) + (own_ab 2 3 aa3 vv)) + (own_ab 2 4 aa4 vv))), .unset] [(.int vv), (.ref ar)])
    refine Go.step (fun _ k => XS.i2dS X61.here hx rfl (hb hby at_208) rfl rfl k) ?_
    show Go p e below _ T61 (mkF m 209 #[.val (.int i0), .val (.int i1), .val (.int i2), .val (.int i3), .val (.int (2 : Int32)), .val (.int aa0), .val (.int aa1), .val (.int aa2), .val (.int aa3), .val (.int aa4), .val (.int vv), .val (.ref ar), .val (.int (((((own_ab 2 0 aa0 vv) + (own_ab 2 1 aa1 vv)) + (own_ab 2 2 aa2 vv)) + (own_ab 2 3 aa3 vv)) + (own_ab 2 4 aa4 vv))), .unset] [(.double (FP.i2d vv)), (.ref ar)])
    obtain ⟨_, _, ⟨T62, L62, k62, n62⟩, -, X62, ⟨Lc62, hQ62, l62, y62, z62⟩, st62⟩ := Jvm.LawKit.callS X61 hx (y := (⟨"com/example/bidkeel/bidkeel/Knapsack", "countUpTo", "([DD)I"⟩ : MethodName)) hown (mvT hZ (hw _ (List.mem_of_getElem? (i := 6) rfl))) (mvT hZ (hw _ (List.mem_of_getElem? (i := 7) rfl))) (mvT hZ (hw _ (List.mem_of_getElem? (i := 8) rfl))) (mvT hZ (hw _ (List.mem_of_getElem? (i := 9) rfl))) (by decide) (backOf (W := 0) (rmK2 l Z a0 hw [] ar (FP.i2d vv) k54 vv aa0 aa1 h56 n0 Zn V_ar rfl) hZ (hw _ (List.mem_of_getElem? (i := 9) rfl)) (hw _ (List.mem_of_getElem? (i := 8) rfl)) (by decide) (by decide)) (g := (mkF m 209 #[.val (.int i0), .val (.int i1), .val (.int i2), .val (.int i3), .val (.int (2 : Int32)), .val (.int aa0), .val (.int aa1), .val (.int aa2), .val (.int aa3), .val (.int aa4), .val (.int vv), .val (.ref ar), .val (.int (((((own_ab 2 0 aa0 vv) + (own_ab 2 1 aa1 vv)) + (own_ab 2 2 aa2 vv)) + (own_ab 2 3 aa3 vv)) + (own_ab 2 4 aa4 vv))), .unset] [(.double (FP.i2d vv)), (.ref ar)])) rfl (by rw [hml]; rfl) (argsL := [(.ref ar), (.double (FP.i2d vv))]) (rest := []) (lenOf own_f43 rfl) rfl (by show 2 * 0 + _ ≤ _; exact Nat.le_of_eq rfl) (hb hby at_209) (fun _ _ => ⟨rfl, e61, (by dsimp only [Pt.cells, Pt.slots]; decide), (by dsimp only [Pt.cells, Pt.slots]; decide)⟩)
    dsimp only [Pt.U, Pt.locs, Pt.cells, Pt.slots] at X62 l62 y62 z62 st62 hQ62
    subst l62 y62 z62
    obtain ⟨rfl, N62q, e62⟩ := hQ62
    have N62 := Fr.app N61 N62q
    refine Go.step (st62) ?_
    show Go p e below _ T62 (mkF m 212 #[.val (.int i0), .val (.int i1), .val (.int i2), .val (.int i3), .val (.int (2 : Int32)), .val (.int aa0), .val (.int aa1), .val (.int aa2), .val (.int aa3), .val (.int aa4), .val (.int vv), .val (.ref ar), .val (.int (((((own_ab 2 0 aa0 vv) + (own_ab 2 1 aa1 vv)) + (own_ab 2 2 aa2 vv)) + (own_ab 2 3 aa3 vv)) + (own_ab 2 4 aa4 vv))), .unset] [(.int (own_c2 aa0 aa1 vv))])
    refine Go.step (fun _ k => XS.istore X62.here hx rfl (hb hby at_212) rfl (l' := #[.val (.int i0), .val (.int i1), .val (.int i2), .val (.int i3), .val (.int (2 : Int32)), .val (.int aa0), .val (.int aa1), .val (.int aa2), .val (.int aa3), .val (.int aa4), .val (.int vv), .val (.ref ar), .val (.int (((((own_ab 2 0 aa0 vv) + (own_ab 2 1 aa1 vv)) + (own_ab 2 2 aa2 vv)) + (own_ab 2 3 aa3 vv)) + (own_ab 2 4 aa4 vv))), .val (.int (own_c2 aa0 aa1 vv))]) rfl k) ?_
    show Go p e below _ T62 (mkF m 214 #[.val (.int i0), .val (.int i1), .val (.int i2), .val (.int i3), .val (.int (2 : Int32)), .val (.int aa0), .val (.int aa1), .val (.int aa2), .val (.int aa3), .val (.int aa4), .val (.int vv), .val (.ref ar), .val (.int (((((own_ab 2 0 aa0 vv) + (own_ab 2 1 aa1 vv)) + (own_ab 2 2 aa2 vv)) + (own_ab 2 3 aa3 vv)) + (own_ab 2 4 aa4 vv))), .val (.int (own_c2 aa0 aa1 vv))] [])
    refine Go.step (fun _ k => XS.iload X62.here hx rfl (hb hby at_214) rfl k) ?_
    show Go p e below _ T62 (mkF m 216 #[.val (.int i0), .val (.int i1), .val (.int i2), .val (.int i3), .val (.int (2 : Int32)), .val (.int aa0), .val (.int aa1), .val (.int aa2), .val (.int aa3), .val (.int aa4), .val (.int vv), .val (.ref ar), .val (.int (((((own_ab 2 0 aa0 vv) + (own_ab 2 1 aa1 vv)) + (own_ab 2 2 aa2 vv)) + (own_ab 2 3 aa3 vv)) + (own_ab 2 4 aa4 vv))), .val (.int (own_c2 aa0 aa1 vv))] [(.int (own_c2 aa0 aa1 vv))])
    refine Go.step (fun _ k => XS.iload X62.here hx rfl (hb hby at_216) rfl k) ?_
    show Go p e below _ T62 (mkF m 218 #[.val (.int i0), .val (.int i1), .val (.int i2), .val (.int i3), .val (.int (2 : Int32)), .val (.int aa0), .val (.int aa1), .val (.int aa2), .val (.int aa3), .val (.int aa4), .val (.int vv), .val (.ref ar), .val (.int (((((own_ab 2 0 aa0 vv) + (own_ab 2 1 aa1 vv)) + (own_ab 2 2 aa2 vv)) + (own_ab 2 3 aa3 vv)) + (own_ab 2 4 aa4 vv))), .val (.int (own_c2 aa0 aa1 vv))] [(.int (((((own_ab 2 0 aa0 vv) + (own_ab 2 1 aa1 vv)) + (own_ab 2 2 aa2 vv)) + (own_ab 2 3 aa3 vv)) + (own_ab 2 4 aa4 vv))), (.int (own_c2 aa0 aa1 vv))])
    refine Go.step (fun _ k => XS.icmpNo X62.here hx rfl (hb hby at_218) rfl (teq (own_s2 aa0 aa1 aa2 aa3 aa4 vv hs.1)).2 k) ?_
    show Go p e below _ T62 (mkF m 221 #[.val (.int i0), .val (.int i1), .val (.int i2), .val (.int i3), .val (.int (2 : Int32)), .val (.int aa0), .val (.int aa1), .val (.int aa2), .val (.int aa3), .val (.int aa4), .val (.int vv), .val (.ref ar), .val (.int (((((own_ab 2 0 aa0 vv) + (own_ab 2 1 aa1 vv)) + (own_ab 2 2 aa2 vv)) + (own_ab 2 3 aa3 vv)) + (own_ab 2 4 aa4 vv))), .val (.int (own_c2 aa0 aa1 vv))] [])
    refine Go.step (fun _ k => XS.iconst X62.here hx rfl (hb hby at_221) k) ?_
    show Go p e below _ T62 (mkF m 222 #[.val (.int i0), .val (.int i1), .val (.int i2), .val (.int i3), .val (.int (2 : Int32)), .val (.int aa0), .val (.int aa1), .val (.int aa2), .val (.int aa3), .val (.int aa4), .val (.int vv), .val (.ref ar), .val (.int (((((own_ab 2 0 aa0 vv) + (own_ab 2 1 aa1 vv)) + (own_ab 2 2 aa2 vv)) + (own_ab 2 3 aa3 vv)) + (own_ab 2 4 aa4 vv))), .val (.int (own_c2 aa0 aa1 vv))] [(.int (1 : Int32))])
    refine Go.step (fun _ k => XS.goto X62.here hx rfl (pc0 := 222) (pc' := 226) rfl (hb hby at_222) (by decide) (by decide) k) ?_
    show Go p e below _ T62 (mkF m 226 #[.val (.int i0), .val (.int i1), .val (.int i2), .val (.int i3), .val (.int (2 : Int32)), .val (.int aa0), .val (.int aa1), .val (.int aa2), .val (.int aa3), .val (.int aa4), .val (.int vv), .val (.ref ar), .val (.int (((((own_ab 2 0 aa0 vv) + (own_ab 2 1 aa1 vv)) + (own_ab 2 2 aa2 vv)) + (own_ab 2 3 aa3 vv)) + (own_ab 2 4 aa4 vv))), .val (.int (own_c2 aa0 aa1 vv))] [(.int (1 : Int32))])
    obtain ⟨fs, hr, hrun, hended, hW, hsame⟩ := X62.leave (v := some (.int (1 : Int32))) (fun h => by rw [Bd.returns] at h; cases h)
    refine Go.fin (retN X62 hx (t := .boolean) Bd.returns (by simp) (hb hby at_226) hr) hrun hended ?_
    refine ⟨_, _, rfl, ?_, ⟨_, rfl⟩, hW, hsame.mono (by decide) (by decide)⟩
    show Q0 Z i0 i1 i2 i3 h0 n0 _ T62.heap _
    rw [e62]
    exact ⟨rfl, N62⟩
  · show Go p e below _ s₁ (mkF m 80 #[.val (.int i0), .val (.int i1), .val (.int i2), .val (.int i3), .val (.int (3 : Int32)), .val (.int aa0), .val (.int aa1), .val (.int aa2), .val (.int aa3), .val (.int aa4), .val (.int vv), .unset, .unset, .unset] [(.int (3 : Int32))])
    obtain ⟨T63, h63, k63, X63, e63, E63, A63, st63⟩ := newP X0 hx hZ (hw _ (List.mem_of_getElem? (i := 1) rfl)) e0 (g := (mkF m 80 #[.val (.int i0), .val (.int i1), .val (.int i2), .val (.int i3), .val (.int (3 : Int32)), .val (.int aa0), .val (.int aa1), .val (.int aa2), .val (.int aa3), .val (.int aa4), .val (.int vv), .unset, .unset, .unset] [(.int (3 : Int32))])) rfl (hb hby at_80) rfl (by decide) (cap := 3) (by decide) (by decide) (by decide) (by decide)
    obtain ⟨ar, g63⟩ : ∃ z, z = h0.size := ⟨_, rfl⟩
    rw [← g63] at A63 st63
    have g_ar : n0 ≤ ar := Nat.le_trans Zn (Nat.le_of_eq g63.symm)
    have sz_ar : h0.size ≤ ar := Nat.le_trans K0.1 (Nat.le_of_eq g63.symm)
    replace Zn := Nat.le_trans Zn E63.1
    replace K0 := K0.ext E63
    have V_ar : Arv Z h63 ar k63 .double (3 : Int32) [(.double (FP.l2d 0)), (.double (FP.l2d 0)), (.double (FP.l2d 0))] (.double (FP.l2d 0)) := (Arv.newD A63 (by decide)).pad (pad_rep [] (.double (FP.l2d 0)) 3)
    refine Go.step st63 ?_
    show Go p e below _ T63 (mkF m 82 #[.val (.int i0), .val (.int i1), .val (.int i2), .val (.int i3), .val (.int (3 : Int32)), .val (.int aa0), .val (.int aa1), .val (.int aa2), .val (.int aa3), .val (.int aa4), .val (.int vv), .unset, .unset, .unset] [(.ref ar)])
    refine Go.step (fun _ k => XS.astore X63.here hx rfl (hb hby at_82) rfl rfl (l' := #[.val (.int i0), .val (.int i1), .val (.int i2), .val (.int i3), .val (.int (3 : Int32)), .val (.int aa0), .val (.int aa1), .val (.int aa2), .val (.int aa3), .val (.int aa4), .val (.int vv), .val (.ref ar), .unset, .unset]) rfl k) ?_
    show Go p e below _ T63 (mkF m 84 #[.val (.int i0), .val (.int i1), .val (.int i2), .val (.int i3), .val (.int (3 : Int32)), .val (.int aa0), .val (.int aa1), .val (.int aa2), .val (.int aa3), .val (.int aa4), .val (.int vv), .val (.ref ar), .unset, .unset] [])
    refine Go.step (fun _ k => XS.iload X63.here hx rfl (hb hby at_84) rfl k) ?_
    show Go p e below _ T63 (mkF m 86 #[.val (.int i0), .val (.int i1), .val (.int i2), .val (.int i3), .val (.int (3 : Int32)), .val (.int aa0), .val (.int aa1), .val (.int aa2), .val (.int aa3), .val (.int aa4), .val (.int vv), .val (.ref ar), .unset, .unset] [(.int (3 : Int32))])
    refine Go.step (fun _ k => XS.ifNo X63.here hx rfl (hb hby at_86) rfl ((if0 _ _).trans (tlt (by decide)).2.2.2) k) ?_
    show Go p e below _ T63 (mkF m 89 #[.val (.int i0), .val (.int i1), .val (.int i2), .val (.int i3), .val (.int (3 : Int32)), .val (.int aa0), .val (.int aa1), .val (.int aa2), .val (.int aa3), .val (.int aa4), .val (.int vv), .val (.ref ar), .unset, .unset] [])
    refine Go.step (fun _ k => XS.aload X63.here hx rfl (hb hby at_89) rfl rfl k) ?_
    show Go p e below _ T63 (mkF m 91 #[.val (.int i0), .val (.int i1), .val (.int i2), .val (.int i3), .val (.int (3 : Int32)), .val (.int aa0), .val (.int aa1), .val (.int aa2), .val (.int aa3), .val (.int aa4), .val (.int vv), .val (.ref ar), .unset, .unset] [(.ref ar)])
    refine Go.step (fun _ k => XS.iconst X63.here hx rfl (hb hby at_91) k) ?_
    show Go p e below _ T63 (mkF m 92 #[.val (.int i0), .val (.int i1), .val (.int i2), .val (.int i3), .val (.int (3 : Int32)), .val (.int aa0), .val (.int aa1), .val (.int aa2), .val (.int aa3), .val (.int aa4), .val (.int vv), .val (.ref ar), .unset, .unset] [(.int (0 : Int32)), (.ref ar)])
    refine Go.step (fun _ k => XS.iload X63.here hx rfl (hb hby at_92) rfl k) ?_
    show Go p e below _ T63 (mkF m 94 #[.val (.int i0), .val (.int i1), .val (.int i2), .val (.int i3), .val (.int (3 : Int32)), .val (.int aa0), .val (.int aa1), .val (.int aa2), .val (.int aa3), .val (.int aa4), .val (.int vv), .val (.ref ar), .unset, .unset] [(.int aa0), (.int (0 : Int32)), (.ref ar)])
    refine Go.step (fun _ k => XS.i2dS X63.here hx rfl (hb hby at_94) rfl rfl k) ?_
    show Go p e below _ T63 (mkF m 95 #[.val (.int i0), .val (.int i1), .val (.int i2), .val (.int i3), .val (.int (3 : Int32)), .val (.int aa0), .val (.int aa1), .val (.int aa2), .val (.int aa3), .val (.int aa4), .val (.int vv), .val (.ref ar), .unset, .unset] [(.double (FP.i2d aa0)), (.int (0 : Int32)), (.ref ar)])
    obtain ⟨cl64, Ar64, q64, S64, Nn64, H64, G64⟩ := V_ar
    have hin64 : ¬ ((0 : Int32) < 0 ∨ cl64.slots.size ≤ ((0 : Int32)).toNatClampNeg) := inb_of S64 ⟨by decide, by decide⟩
    obtain ⟨T64, h64, X64, e64, W64, st64⟩ := stD X63 hx hZ e63 Ar64 (j := (0 : Int32)) hin64 (g := (mkF m 95 #[.val (.int i0), .val (.int i1), .val (.int i2), .val (.int i3), .val (.int (3 : Int32)), .val (.int aa0), .val (.int aa1), .val (.int aa2), .val (.int aa3), .val (.int aa4), .val (.int vv), .val (.ref ar), .unset, .unset] [(.double (FP.i2d aa0)), (.int (0 : Int32)), (.ref ar)])) rfl rfl (hb hby at_95)
    have Vw64 : Arv Z h64 ar k63 .double (3 : Int32) [(.double (FP.i2d aa0)), (.double (FP.l2d 0)), (.double (FP.l2d 0))] (.double (FP.l2d 0)) := Arv.set Ar64 q64 S64 Nn64 H64 G64 rfl W64 0 rfl (Nat.le_of_ble_eq_true rfl)
    have V_ar := Vw64
    replace K0 := K0.wr W64 (Or.inr sz_ar)
    replace Zn := Nat.le_trans Zn (Nat.le_of_eq W64.size.symm)
    have N64 := Fr.snoc X64 N0 g_ar
    refine Go.step st64 ?_
    show Go p e below _ T64 (mkF m 96 #[.val (.int i0), .val (.int i1), .val (.int i2), .val (.int i3), .val (.int (3 : Int32)), .val (.int aa0), .val (.int aa1), .val (.int aa2), .val (.int aa3), .val (.int aa4), .val (.int vv), .val (.ref ar), .unset, .unset] [])
    refine Go.step (fun _ k => XS.iload X64.here hx rfl (hb hby at_96) rfl k) ?_
    show Go p e below _ T64 (mkF m 98 #[.val (.int i0), .val (.int i1), .val (.int i2), .val (.int i3), .val (.int (3 : Int32)), .val (.int aa0), .val (.int aa1), .val (.int aa2), .val (.int aa3), .val (.int aa4), .val (.int vv), .val (.ref ar), .unset, .unset] [(.int (3 : Int32))])
    refine Go.step (fun _ k => XS.iconst X64.here hx rfl (hb hby at_98) k) ?_
    show Go p e below _ T64 (mkF m 99 #[.val (.int i0), .val (.int i1), .val (.int i2), .val (.int i3), .val (.int (3 : Int32)), .val (.int aa0), .val (.int aa1), .val (.int aa2), .val (.int aa3), .val (.int aa4), .val (.int vv), .val (.ref ar), .unset, .unset] [(.int (1 : Int32)), (.int (3 : Int32))])
    refine Go.step (fun _ k => XS.icmpNo X64.here hx rfl (hb hby at_99) rfl (tlt (by decide)).2.2.2 k) ?_
    show Go p e below _ T64 (mkF m 102 #[.val (.int i0), .val (.int i1), .val (.int i2), .val (.int i3), .val (.int (3 : Int32)), .val (.int aa0), .val (.int aa1), .val (.int aa2), .val (.int aa3), .val (.int aa4), .val (.int vv), .val (.ref ar), .unset, .unset] [])
    refine Go.step (fun _ k => XS.aload X64.here hx rfl (hb hby at_102) rfl rfl k) ?_
    show Go p e below _ T64 (mkF m 104 #[.val (.int i0), .val (.int i1), .val (.int i2), .val (.int i3), .val (.int (3 : Int32)), .val (.int aa0), .val (.int aa1), .val (.int aa2), .val (.int aa3), .val (.int aa4), .val (.int vv), .val (.ref ar), .unset, .unset] [(.ref ar)])
    refine Go.step (fun _ k => XS.iconst X64.here hx rfl (hb hby at_104) k) ?_
    show Go p e below _ T64 (mkF m 105 #[.val (.int i0), .val (.int i1), .val (.int i2), .val (.int i3), .val (.int (3 : Int32)), .val (.int aa0), .val (.int aa1), .val (.int aa2), .val (.int aa3), .val (.int aa4), .val (.int vv), .val (.ref ar), .unset, .unset] [(.int (1 : Int32)), (.ref ar)])
    refine Go.step (fun _ k => XS.iload X64.here hx rfl (hb hby at_105) rfl k) ?_
    show Go p e below _ T64 (mkF m 107 #[.val (.int i0), .val (.int i1), .val (.int i2), .val (.int i3), .val (.int (3 : Int32)), .val (.int aa0), .val (.int aa1), .val (.int aa2), .val (.int aa3), .val (.int aa4), .val (.int vv), .val (.ref ar), .unset, .unset] [(.int aa1), (.int (1 : Int32)), (.ref ar)])
    refine Go.step (fun _ k => XS.i2dS X64.here hx rfl (hb hby at_107) rfl rfl k) ?_
    show Go p e below _ T64 (mkF m 108 #[.val (.int i0), .val (.int i1), .val (.int i2), .val (.int i3), .val (.int (3 : Int32)), .val (.int aa0), .val (.int aa1), .val (.int aa2), .val (.int aa3), .val (.int aa4), .val (.int vv), .val (.ref ar), .unset, .unset] [(.double (FP.i2d aa1)), (.int (1 : Int32)), (.ref ar)])
    obtain ⟨cl65, Ar65, q65, S65, Nn65, H65, G65⟩ := V_ar
    have hin65 : ¬ ((1 : Int32) < 0 ∨ cl65.slots.size ≤ ((1 : Int32)).toNatClampNeg) := inb_of S65 ⟨by decide, by decide⟩
    obtain ⟨T65, h65, X65, e65, W65, st65⟩ := stD X64 hx hZ e64 Ar65 (j := (1 : Int32)) hin65 (g := (mkF m 108 #[.val (.int i0), .val (.int i1), .val (.int i2), .val (.int i3), .val (.int (3 : Int32)), .val (.int aa0), .val (.int aa1), .val (.int aa2), .val (.int aa3), .val (.int aa4), .val (.int vv), .val (.ref ar), .unset, .unset] [(.double (FP.i2d aa1)), (.int (1 : Int32)), (.ref ar)])) rfl rfl (hb hby at_108)
    have Vw65 : Arv Z h65 ar k63 .double (3 : Int32) [(.double (FP.i2d aa0)), (.double (FP.i2d aa1)), (.double (FP.l2d 0))] (.double (FP.l2d 0)) := Arv.set Ar65 q65 S65 Nn65 H65 G65 rfl W65 1 rfl (Nat.le_of_ble_eq_true rfl)
    have V_ar := Vw65
    replace K0 := K0.wr W65 (Or.inr sz_ar)
    replace Zn := Nat.le_trans Zn (Nat.le_of_eq W65.size.symm)
    have N65 := Fr.snoc X65 N64 g_ar
    refine Go.step st65 ?_
    show Go p e below _ T65 (mkF m 109 #[.val (.int i0), .val (.int i1), .val (.int i2), .val (.int i3), .val (.int (3 : Int32)), .val (.int aa0), .val (.int aa1), .val (.int aa2), .val (.int aa3), .val (.int aa4), .val (.int vv), .val (.ref ar), .unset, .unset] [])
    refine Go.step (fun _ k => XS.iload X65.here hx rfl (hb hby at_109) rfl k) ?_
    show Go p e below _ T65 (mkF m 111 #[.val (.int i0), .val (.int i1), .val (.int i2), .val (.int i3), .val (.int (3 : Int32)), .val (.int aa0), .val (.int aa1), .val (.int aa2), .val (.int aa3), .val (.int aa4), .val (.int vv), .val (.ref ar), .unset, .unset] [(.int (3 : Int32))])
    refine Go.step (fun _ k => XS.iconst X65.here hx rfl (hb hby at_111) k) ?_
    show Go p e below _ T65 (mkF m 112 #[.val (.int i0), .val (.int i1), .val (.int i2), .val (.int i3), .val (.int (3 : Int32)), .val (.int aa0), .val (.int aa1), .val (.int aa2), .val (.int aa3), .val (.int aa4), .val (.int vv), .val (.ref ar), .unset, .unset] [(.int (2 : Int32)), (.int (3 : Int32))])
    refine Go.step (fun _ k => XS.icmpNo X65.here hx rfl (hb hby at_112) rfl (tlt (by decide)).2.2.2 k) ?_
    show Go p e below _ T65 (mkF m 115 #[.val (.int i0), .val (.int i1), .val (.int i2), .val (.int i3), .val (.int (3 : Int32)), .val (.int aa0), .val (.int aa1), .val (.int aa2), .val (.int aa3), .val (.int aa4), .val (.int vv), .val (.ref ar), .unset, .unset] [])
    refine Go.step (fun _ k => XS.aload X65.here hx rfl (hb hby at_115) rfl rfl k) ?_
    show Go p e below _ T65 (mkF m 117 #[.val (.int i0), .val (.int i1), .val (.int i2), .val (.int i3), .val (.int (3 : Int32)), .val (.int aa0), .val (.int aa1), .val (.int aa2), .val (.int aa3), .val (.int aa4), .val (.int vv), .val (.ref ar), .unset, .unset] [(.ref ar)])
    refine Go.step (fun _ k => XS.iconst X65.here hx rfl (hb hby at_117) k) ?_
    show Go p e below _ T65 (mkF m 118 #[.val (.int i0), .val (.int i1), .val (.int i2), .val (.int i3), .val (.int (3 : Int32)), .val (.int aa0), .val (.int aa1), .val (.int aa2), .val (.int aa3), .val (.int aa4), .val (.int vv), .val (.ref ar), .unset, .unset] [(.int (2 : Int32)), (.ref ar)])
    refine Go.step (fun _ k => XS.iload X65.here hx rfl (hb hby at_118) rfl k) ?_
    show Go p e below _ T65 (mkF m 120 #[.val (.int i0), .val (.int i1), .val (.int i2), .val (.int i3), .val (.int (3 : Int32)), .val (.int aa0), .val (.int aa1), .val (.int aa2), .val (.int aa3), .val (.int aa4), .val (.int vv), .val (.ref ar), .unset, .unset] [(.int aa2), (.int (2 : Int32)), (.ref ar)])
    refine Go.step (fun _ k => XS.i2dS X65.here hx rfl (hb hby at_120) rfl rfl k) ?_
    show Go p e below _ T65 (mkF m 121 #[.val (.int i0), .val (.int i1), .val (.int i2), .val (.int i3), .val (.int (3 : Int32)), .val (.int aa0), .val (.int aa1), .val (.int aa2), .val (.int aa3), .val (.int aa4), .val (.int vv), .val (.ref ar), .unset, .unset] [(.double (FP.i2d aa2)), (.int (2 : Int32)), (.ref ar)])
    obtain ⟨cl66, Ar66, q66, S66, Nn66, H66, G66⟩ := V_ar
    have hin66 : ¬ ((2 : Int32) < 0 ∨ cl66.slots.size ≤ ((2 : Int32)).toNatClampNeg) := inb_of S66 ⟨by decide, by decide⟩
    obtain ⟨T66, h66, X66, e66, W66, st66⟩ := stD X65 hx hZ e65 Ar66 (j := (2 : Int32)) hin66 (g := (mkF m 121 #[.val (.int i0), .val (.int i1), .val (.int i2), .val (.int i3), .val (.int (3 : Int32)), .val (.int aa0), .val (.int aa1), .val (.int aa2), .val (.int aa3), .val (.int aa4), .val (.int vv), .val (.ref ar), .unset, .unset] [(.double (FP.i2d aa2)), (.int (2 : Int32)), (.ref ar)])) rfl rfl (hb hby at_121)
    have Vw66 : Arv Z h66 ar k63 .double (3 : Int32) [(.double (FP.i2d aa0)), (.double (FP.i2d aa1)), (.double (FP.i2d aa2))] (.double (FP.l2d 0)) := Arv.set Ar66 q66 S66 Nn66 H66 G66 rfl W66 2 rfl (Nat.le_of_ble_eq_true rfl)
    have V_ar := Vw66
    replace K0 := K0.wr W66 (Or.inr sz_ar)
    replace Zn := Nat.le_trans Zn (Nat.le_of_eq W66.size.symm)
    have N66 := Fr.snoc X66 N65 g_ar
    refine Go.step st66 ?_
    show Go p e below _ T66 (mkF m 122 #[.val (.int i0), .val (.int i1), .val (.int i2), .val (.int i3), .val (.int (3 : Int32)), .val (.int aa0), .val (.int aa1), .val (.int aa2), .val (.int aa3), .val (.int aa4), .val (.int vv), .val (.ref ar), .unset, .unset] [])
    refine Go.step (fun _ k => XS.iload X66.here hx rfl (hb hby at_122) rfl k) ?_
    show Go p e below _ T66 (mkF m 124 #[.val (.int i0), .val (.int i1), .val (.int i2), .val (.int i3), .val (.int (3 : Int32)), .val (.int aa0), .val (.int aa1), .val (.int aa2), .val (.int aa3), .val (.int aa4), .val (.int vv), .val (.ref ar), .unset, .unset] [(.int (3 : Int32))])
    refine Go.step (fun _ k => XS.iconst X66.here hx rfl (hb hby at_124) k) ?_
    show Go p e below _ T66 (mkF m 125 #[.val (.int i0), .val (.int i1), .val (.int i2), .val (.int i3), .val (.int (3 : Int32)), .val (.int aa0), .val (.int aa1), .val (.int aa2), .val (.int aa3), .val (.int aa4), .val (.int vv), .val (.ref ar), .unset, .unset] [(.int (3 : Int32)), (.int (3 : Int32))])
    refine Go.step (fun _ k => XS.icmpYes X66.here hx rfl (pc0 := 125) (pc' := 135) rfl (hb hby at_125) rfl (flt (by decide)).2.2.2 (by decide) (by decide) k) ?_
    show Go p e below _ T66 (mkF m 135 #[.val (.int i0), .val (.int i1), .val (.int i2), .val (.int i3), .val (.int (3 : Int32)), .val (.int aa0), .val (.int aa1), .val (.int aa2), .val (.int aa3), .val (.int aa4), .val (.int vv), .val (.ref ar), .unset, .unset] [])
    refine Go.step (fun _ k => XS.iload X66.here hx rfl (hb hby at_135) rfl k) ?_
    show Go p e below _ T66 (mkF m 137 #[.val (.int i0), .val (.int i1), .val (.int i2), .val (.int i3), .val (.int (3 : Int32)), .val (.int aa0), .val (.int aa1), .val (.int aa2), .val (.int aa3), .val (.int aa4), .val (.int vv), .val (.ref ar), .unset, .unset] [(.int (3 : Int32))])
    refine Go.step (fun _ k => XS.iconst X66.here hx rfl (hb hby at_137) k) ?_
    show Go p e below _ T66 (mkF m 138 #[.val (.int i0), .val (.int i1), .val (.int i2), .val (.int i3), .val (.int (3 : Int32)), .val (.int aa0), .val (.int aa1), .val (.int aa2), .val (.int aa3), .val (.int aa4), .val (.int vv), .val (.ref ar), .unset, .unset] [(.int (4 : Int32)), (.int (3 : Int32))])
    refine Go.step (fun _ k => XS.icmpYes X66.here hx rfl (pc0 := 138) (pc' := 148) rfl (hb hby at_138) rfl (flt (by decide)).2.2.2 (by decide) (by decide) k) ?_
    show Go p e below _ T66 (mkF m 148 #[.val (.int i0), .val (.int i1), .val (.int i2), .val (.int i3), .val (.int (3 : Int32)), .val (.int aa0), .val (.int aa1), .val (.int aa2), .val (.int aa3), .val (.int aa4), .val (.int vv), .val (.ref ar), .unset, .unset] [])
    refine Go.step (fun _ k => XS.iload X66.here hx rfl (hb hby at_148) rfl k) ?_
    show Go p e below _ T66 (mkF m 150 #[.val (.int i0), .val (.int i1), .val (.int i2), .val (.int i3), .val (.int (3 : Int32)), .val (.int aa0), .val (.int aa1), .val (.int aa2), .val (.int aa3), .val (.int aa4), .val (.int vv), .val (.ref ar), .unset, .unset] [(.int (3 : Int32))])
    refine Go.step (fun _ k => XS.iconst X66.here hx rfl (hb hby at_150) k) ?_
    show Go p e below _ T66 (mkF m 151 #[.val (.int i0), .val (.int i1), .val (.int i2), .val (.int i3), .val (.int (3 : Int32)), .val (.int aa0), .val (.int aa1), .val (.int aa2), .val (.int aa3), .val (.int aa4), .val (.int vv), .val (.ref ar), .unset, .unset] [(.int (0 : Int32)), (.int (3 : Int32))])
    refine Go.step (fun _ k => XS.iload X66.here hx rfl (hb hby at_151) rfl k) ?_
    show Go p e below _ T66 (mkF m 153 #[.val (.int i0), .val (.int i1), .val (.int i2), .val (.int i3), .val (.int (3 : Int32)), .val (.int aa0), .val (.int aa1), .val (.int aa2), .val (.int aa3), .val (.int aa4), .val (.int vv), .val (.ref ar), .unset, .unset] [(.int aa0), (.int (0 : Int32)), (.int (3 : Int32))])
    refine Go.step (fun _ k => XS.iload X66.here hx rfl (hb hby at_153) rfl k) ?_
    show Go p e below _ T66 (mkF m 155 #[.val (.int i0), .val (.int i1), .val (.int i2), .val (.int i3), .val (.int (3 : Int32)), .val (.int aa0), .val (.int aa1), .val (.int aa2), .val (.int aa3), .val (.int aa4), .val (.int vv), .val (.ref ar), .unset, .unset] [(.int vv), (.int aa0), (.int (0 : Int32)), (.int (3 : Int32))])
    obtain ⟨_, _, ⟨T67, L67, k67, n67⟩, -, X67, ⟨Lc67, hQ67, l67, y67, z67⟩, st67⟩ := Jvm.LawKit.callS X66 hx (y := (⟨"com/example/bidkeel/bidkeel/KnapsackCountUpToPinLaw", "atOrBelow", "(IIII)I"⟩ : MethodName)) hown (mvT hZ (hw _ (List.mem_of_getElem? (i := 2) rfl))) (mvT hZ (hw _ (List.mem_of_getElem? (i := 3) rfl))) (mvT hZ (hw _ (List.mem_of_getElem? (i := 4) rfl))) (mvT hZ (hw _ (List.mem_of_getElem? (i := 5) rfl))) (by decide) (backOf (W := 0) (rmA l Z a0 hw [] (3 : Int32) (0 : Int32) aa0 vv h66 n0 Zn) hZ (hw _ (List.mem_of_getElem? (i := 5) rfl)) (hw _ (List.mem_of_getElem? (i := 4) rfl)) (by decide) (by decide)) (g := (mkF m 155 #[.val (.int i0), .val (.int i1), .val (.int i2), .val (.int i3), .val (.int (3 : Int32)), .val (.int aa0), .val (.int aa1), .val (.int aa2), .val (.int aa3), .val (.int aa4), .val (.int vv), .val (.ref ar), .unset, .unset] [(.int vv), (.int aa0), (.int (0 : Int32)), (.int (3 : Int32))])) rfl (by rw [hml]; rfl) (argsL := [(.int (3 : Int32)), (.int (0 : Int32)), (.int aa0), (.int vv)]) (rest := []) (lenOf own_f42 rfl) rfl (by show 2 * 0 + _ ≤ _; exact Nat.le_of_eq rfl) (hb hby at_155) (fun _ _ => ⟨rfl, e66, (by dsimp only [Pt.cells, Pt.slots]; decide), (by dsimp only [Pt.cells, Pt.slots]; decide)⟩)
    dsimp only [Pt.U, Pt.locs, Pt.cells, Pt.slots] at X67 l67 y67 z67 st67 hQ67
    subst l67 y67 z67
    obtain ⟨rfl, N67q, e67⟩ := hQ67
    have N67 := Fr.app N66 N67q
    refine Go.step (st67) ?_
    show Go p e below _ T67 (mkF m 158 #[.val (.int i0), .val (.int i1), .val (.int i2), .val (.int i3), .val (.int (3 : Int32)), .val (.int aa0), .val (.int aa1), .val (.int aa2), .val (.int aa3), .val (.int aa4), .val (.int vv), .val (.ref ar), .unset, .unset] [(.int (own_ab 3 0 aa0 vv))])
    refine Go.step (fun _ k => XS.iload X67.here hx rfl (hb hby at_158) rfl k) ?_
    show Go p e below _ T67 (mkF m 160 #[.val (.int i0), .val (.int i1), .val (.int i2), .val (.int i3), .val (.int (3 : Int32)), .val (.int aa0), .val (.int aa1), .val (.int aa2), .val (.int aa3), .val (.int aa4), .val (.int vv), .val (.ref ar), .unset, .unset] [(.int (3 : Int32)), (.int (own_ab 3 0 aa0 vv))])
    refine Go.step (fun _ k => XS.iconst X67.here hx rfl (hb hby at_160) k) ?_
    show Go p e below _ T67 (mkF m 161 #[.val (.int i0), .val (.int i1), .val (.int i2), .val (.int i3), .val (.int (3 : Int32)), .val (.int aa0), .val (.int aa1), .val (.int aa2), .val (.int aa3), .val (.int aa4), .val (.int vv), .val (.ref ar), .unset, .unset] [(.int (1 : Int32)), (.int (3 : Int32)), (.int (own_ab 3 0 aa0 vv))])
    refine Go.step (fun _ k => XS.iload X67.here hx rfl (hb hby at_161) rfl k) ?_
    show Go p e below _ T67 (mkF m 163 #[.val (.int i0), .val (.int i1), .val (.int i2), .val (.int i3), .val (.int (3 : Int32)), .val (.int aa0), .val (.int aa1), .val (.int aa2), .val (.int aa3), .val (.int aa4), .val (.int vv), .val (.ref ar), .unset, .unset] [(.int aa1), (.int (1 : Int32)), (.int (3 : Int32)), (.int (own_ab 3 0 aa0 vv))])
    refine Go.step (fun _ k => XS.iload X67.here hx rfl (hb hby at_163) rfl k) ?_
    show Go p e below _ T67 (mkF m 165 #[.val (.int i0), .val (.int i1), .val (.int i2), .val (.int i3), .val (.int (3 : Int32)), .val (.int aa0), .val (.int aa1), .val (.int aa2), .val (.int aa3), .val (.int aa4), .val (.int vv), .val (.ref ar), .unset, .unset] [(.int vv), (.int aa1), (.int (1 : Int32)), (.int (3 : Int32)), (.int (own_ab 3 0 aa0 vv))])
    obtain ⟨_, _, ⟨T68, L68, k68, n68⟩, -, X68, ⟨Lc68, hQ68, l68, y68, z68⟩, st68⟩ := Jvm.LawKit.callS X67 hx (y := (⟨"com/example/bidkeel/bidkeel/KnapsackCountUpToPinLaw", "atOrBelow", "(IIII)I"⟩ : MethodName)) hown (mvT hZ (hw _ (List.mem_of_getElem? (i := 2) rfl))) (mvT hZ (hw _ (List.mem_of_getElem? (i := 3) rfl))) (mvT hZ (hw _ (List.mem_of_getElem? (i := 4) rfl))) (mvT hZ (hw _ (List.mem_of_getElem? (i := 5) rfl))) (by decide) (backOf (W := 1) (rmA l Z a0 hw [] (3 : Int32) (1 : Int32) aa1 vv h66 n0 Zn) hZ (hw _ (List.mem_of_getElem? (i := 5) rfl)) (hw _ (List.mem_of_getElem? (i := 4) rfl)) (by decide) (by decide)) (g := (mkF m 165 #[.val (.int i0), .val (.int i1), .val (.int i2), .val (.int i3), .val (.int (3 : Int32)), .val (.int aa0), .val (.int aa1), .val (.int aa2), .val (.int aa3), .val (.int aa4), .val (.int vv), .val (.ref ar), .unset, .unset] [(.int vv), (.int aa1), (.int (1 : Int32)), (.int (3 : Int32)), (.int (own_ab 3 0 aa0 vv))])) rfl (by rw [hml]; rfl) (argsL := [(.int (3 : Int32)), (.int (1 : Int32)), (.int aa1), (.int vv)]) (rest := [(.int (own_ab 3 0 aa0 vv))]) (lenOf own_f42 rfl) rfl (by show 2 * 0 + _ ≤ _; exact Nat.le_of_eq rfl) (hb hby at_165) (fun _ _ => ⟨rfl, e67, (by dsimp only [Pt.cells, Pt.slots]; decide), (by dsimp only [Pt.cells, Pt.slots]; decide)⟩)
    dsimp only [Pt.U, Pt.locs, Pt.cells, Pt.slots] at X68 l68 y68 z68 st68 hQ68
    subst l68 y68 z68
    obtain ⟨rfl, N68q, e68⟩ := hQ68
    have N68 := Fr.app N67 N68q
    refine Go.step (st68) ?_
    show Go p e below _ T68 (mkF m 168 #[.val (.int i0), .val (.int i1), .val (.int i2), .val (.int i3), .val (.int (3 : Int32)), .val (.int aa0), .val (.int aa1), .val (.int aa2), .val (.int aa3), .val (.int aa4), .val (.int vv), .val (.ref ar), .unset, .unset] [(.int (own_ab 3 1 aa1 vv)), (.int (own_ab 3 0 aa0 vv))])
    refine Go.step (fun _ k => XS.iadd X68.here hx rfl (hb hby at_168) rfl k) ?_
    show Go p e below _ T68 (mkF m 169 #[.val (.int i0), .val (.int i1), .val (.int i2), .val (.int i3), .val (.int (3 : Int32)), .val (.int aa0), .val (.int aa1), .val (.int aa2), .val (.int aa3), .val (.int aa4), .val (.int vv), .val (.ref ar), .unset, .unset] [(.int ((own_ab 3 0 aa0 vv) + (own_ab 3 1 aa1 vv)))])
    refine Go.step (fun _ k => XS.iload X68.here hx rfl (hb hby at_169) rfl k) ?_
    show Go p e below _ T68 (mkF m 171 #[.val (.int i0), .val (.int i1), .val (.int i2), .val (.int i3), .val (.int (3 : Int32)), .val (.int aa0), .val (.int aa1), .val (.int aa2), .val (.int aa3), .val (.int aa4), .val (.int vv), .val (.ref ar), .unset, .unset] [(.int (3 : Int32)), (.int ((own_ab 3 0 aa0 vv) + (own_ab 3 1 aa1 vv)))])
    refine Go.step (fun _ k => XS.iconst X68.here hx rfl (hb hby at_171) k) ?_
    show Go p e below _ T68 (mkF m 172 #[.val (.int i0), .val (.int i1), .val (.int i2), .val (.int i3), .val (.int (3 : Int32)), .val (.int aa0), .val (.int aa1), .val (.int aa2), .val (.int aa3), .val (.int aa4), .val (.int vv), .val (.ref ar), .unset, .unset] [(.int (2 : Int32)), (.int (3 : Int32)), (.int ((own_ab 3 0 aa0 vv) + (own_ab 3 1 aa1 vv)))])
    refine Go.step (fun _ k => XS.iload X68.here hx rfl (hb hby at_172) rfl k) ?_
    show Go p e below _ T68 (mkF m 174 #[.val (.int i0), .val (.int i1), .val (.int i2), .val (.int i3), .val (.int (3 : Int32)), .val (.int aa0), .val (.int aa1), .val (.int aa2), .val (.int aa3), .val (.int aa4), .val (.int vv), .val (.ref ar), .unset, .unset] [(.int aa2), (.int (2 : Int32)), (.int (3 : Int32)), (.int ((own_ab 3 0 aa0 vv) + (own_ab 3 1 aa1 vv)))])
    refine Go.step (fun _ k => XS.iload X68.here hx rfl (hb hby at_174) rfl k) ?_
    show Go p e below _ T68 (mkF m 176 #[.val (.int i0), .val (.int i1), .val (.int i2), .val (.int i3), .val (.int (3 : Int32)), .val (.int aa0), .val (.int aa1), .val (.int aa2), .val (.int aa3), .val (.int aa4), .val (.int vv), .val (.ref ar), .unset, .unset] [(.int vv), (.int aa2), (.int (2 : Int32)), (.int (3 : Int32)), (.int ((own_ab 3 0 aa0 vv) + (own_ab 3 1 aa1 vv)))])
    obtain ⟨_, _, ⟨T69, L69, k69, n69⟩, -, X69, ⟨Lc69, hQ69, l69, y69, z69⟩, st69⟩ := Jvm.LawKit.callS X68 hx (y := (⟨"com/example/bidkeel/bidkeel/KnapsackCountUpToPinLaw", "atOrBelow", "(IIII)I"⟩ : MethodName)) hown (mvT hZ (hw _ (List.mem_of_getElem? (i := 2) rfl))) (mvT hZ (hw _ (List.mem_of_getElem? (i := 3) rfl))) (mvT hZ (hw _ (List.mem_of_getElem? (i := 4) rfl))) (mvT hZ (hw _ (List.mem_of_getElem? (i := 5) rfl))) (by decide) (backOf (W := 1) (rmA l Z a0 hw [] (3 : Int32) (2 : Int32) aa2 vv h66 n0 Zn) hZ (hw _ (List.mem_of_getElem? (i := 5) rfl)) (hw _ (List.mem_of_getElem? (i := 4) rfl)) (by decide) (by decide)) (g := (mkF m 176 #[.val (.int i0), .val (.int i1), .val (.int i2), .val (.int i3), .val (.int (3 : Int32)), .val (.int aa0), .val (.int aa1), .val (.int aa2), .val (.int aa3), .val (.int aa4), .val (.int vv), .val (.ref ar), .unset, .unset] [(.int vv), (.int aa2), (.int (2 : Int32)), (.int (3 : Int32)), (.int ((own_ab 3 0 aa0 vv) + (own_ab 3 1 aa1 vv)))])) rfl (by rw [hml]; rfl) (argsL := [(.int (3 : Int32)), (.int (2 : Int32)), (.int aa2), (.int vv)]) (rest := [(.int ((own_ab 3 0 aa0 vv) + (own_ab 3 1 aa1 vv)))]) (lenOf own_f42 rfl) rfl (by show 2 * 0 + _ ≤ _; exact Nat.le_of_eq rfl) (hb hby at_176) (fun _ _ => ⟨rfl, e68, (by dsimp only [Pt.cells, Pt.slots]; decide), (by dsimp only [Pt.cells, Pt.slots]; decide)⟩)
    dsimp only [Pt.U, Pt.locs, Pt.cells, Pt.slots] at X69 l69 y69 z69 st69 hQ69
    subst l69 y69 z69
    obtain ⟨rfl, N69q, e69⟩ := hQ69
    have N69 := Fr.app N68 N69q
    refine Go.step (st69) ?_
    show Go p e below _ T69 (mkF m 179 #[.val (.int i0), .val (.int i1), .val (.int i2), .val (.int i3), .val (.int (3 : Int32)), .val (.int aa0), .val (.int aa1), .val (.int aa2), .val (.int aa3), .val (.int aa4), .val (.int vv), .val (.ref ar), .unset, .unset] [(.int (own_ab 3 2 aa2 vv)), (.int ((own_ab 3 0 aa0 vv) + (own_ab 3 1 aa1 vv)))])
    refine Go.step (fun _ k => XS.iadd X69.here hx rfl (hb hby at_179) rfl k) ?_
    show Go p e below _ T69 (mkF m 180 #[.val (.int i0), .val (.int i1), .val (.int i2), .val (.int i3), .val (.int (3 : Int32)), .val (.int aa0), .val (.int aa1), .val (.int aa2), .val (.int aa3), .val (.int aa4), .val (.int vv), .val (.ref ar), .unset, .unset] [(.int (((own_ab 3 0 aa0 vv) + (own_ab 3 1 aa1 vv)) + (own_ab 3 2 aa2 vv)))])
    refine Go.step (fun _ k => XS.iload X69.here hx rfl (hb hby at_180) rfl k) ?_
    show Go p e below _ T69 (mkF m 182 #[.val (.int i0), .val (.int i1), .val (.int i2), .val (.int i3), .val (.int (3 : Int32)), .val (.int aa0), .val (.int aa1), .val (.int aa2), .val (.int aa3), .val (.int aa4), .val (.int vv), .val (.ref ar), .unset, .unset] [(.int (3 : Int32)), (.int (((own_ab 3 0 aa0 vv) + (own_ab 3 1 aa1 vv)) + (own_ab 3 2 aa2 vv)))])
    refine Go.step (fun _ k => XS.iconst X69.here hx rfl (hb hby at_182) k) ?_
    show Go p e below _ T69 (mkF m 183 #[.val (.int i0), .val (.int i1), .val (.int i2), .val (.int i3), .val (.int (3 : Int32)), .val (.int aa0), .val (.int aa1), .val (.int aa2), .val (.int aa3), .val (.int aa4), .val (.int vv), .val (.ref ar), .unset, .unset] [(.int (3 : Int32)), (.int (3 : Int32)), (.int (((own_ab 3 0 aa0 vv) + (own_ab 3 1 aa1 vv)) + (own_ab 3 2 aa2 vv)))])
    refine Go.step (fun _ k => XS.iload X69.here hx rfl (hb hby at_183) rfl k) ?_
    show Go p e below _ T69 (mkF m 185 #[.val (.int i0), .val (.int i1), .val (.int i2), .val (.int i3), .val (.int (3 : Int32)), .val (.int aa0), .val (.int aa1), .val (.int aa2), .val (.int aa3), .val (.int aa4), .val (.int vv), .val (.ref ar), .unset, .unset] [(.int aa3), (.int (3 : Int32)), (.int (3 : Int32)), (.int (((own_ab 3 0 aa0 vv) + (own_ab 3 1 aa1 vv)) + (own_ab 3 2 aa2 vv)))])
    refine Go.step (fun _ k => XS.iload X69.here hx rfl (hb hby at_185) rfl k) ?_
    show Go p e below _ T69 (mkF m 187 #[.val (.int i0), .val (.int i1), .val (.int i2), .val (.int i3), .val (.int (3 : Int32)), .val (.int aa0), .val (.int aa1), .val (.int aa2), .val (.int aa3), .val (.int aa4), .val (.int vv), .val (.ref ar), .unset, .unset] [(.int vv), (.int aa3), (.int (3 : Int32)), (.int (3 : Int32)), (.int (((own_ab 3 0 aa0 vv) + (own_ab 3 1 aa1 vv)) + (own_ab 3 2 aa2 vv)))])
    obtain ⟨_, _, ⟨T70, L70, k70, n70⟩, -, X70, ⟨Lc70, hQ70, l70, y70, z70⟩, st70⟩ := Jvm.LawKit.callS X69 hx (y := (⟨"com/example/bidkeel/bidkeel/KnapsackCountUpToPinLaw", "atOrBelow", "(IIII)I"⟩ : MethodName)) hown (mvT hZ (hw _ (List.mem_of_getElem? (i := 2) rfl))) (mvT hZ (hw _ (List.mem_of_getElem? (i := 3) rfl))) (mvT hZ (hw _ (List.mem_of_getElem? (i := 4) rfl))) (mvT hZ (hw _ (List.mem_of_getElem? (i := 5) rfl))) (by decide) (backOf (W := 1) (rmA l Z a0 hw [] (3 : Int32) (3 : Int32) aa3 vv h66 n0 Zn) hZ (hw _ (List.mem_of_getElem? (i := 5) rfl)) (hw _ (List.mem_of_getElem? (i := 4) rfl)) (by decide) (by decide)) (g := (mkF m 187 #[.val (.int i0), .val (.int i1), .val (.int i2), .val (.int i3), .val (.int (3 : Int32)), .val (.int aa0), .val (.int aa1), .val (.int aa2), .val (.int aa3), .val (.int aa4), .val (.int vv), .val (.ref ar), .unset, .unset] [(.int vv), (.int aa3), (.int (3 : Int32)), (.int (3 : Int32)), (.int (((own_ab 3 0 aa0 vv) + (own_ab 3 1 aa1 vv)) + (own_ab 3 2 aa2 vv)))])) rfl (by rw [hml]; rfl) (argsL := [(.int (3 : Int32)), (.int (3 : Int32)), (.int aa3), (.int vv)]) (rest := [(.int (((own_ab 3 0 aa0 vv) + (own_ab 3 1 aa1 vv)) + (own_ab 3 2 aa2 vv)))]) (lenOf own_f42 rfl) rfl (by show 2 * 0 + _ ≤ _; exact Nat.le_of_eq rfl) (hb hby at_187) (fun _ _ => ⟨rfl, e69, (by dsimp only [Pt.cells, Pt.slots]; decide), (by dsimp only [Pt.cells, Pt.slots]; decide)⟩)
    dsimp only [Pt.U, Pt.locs, Pt.cells, Pt.slots] at X70 l70 y70 z70 st70 hQ70
    subst l70 y70 z70
    obtain ⟨rfl, N70q, e70⟩ := hQ70
    have N70 := Fr.app N69 N70q
    refine Go.step (st70) ?_
    show Go p e below _ T70 (mkF m 190 #[.val (.int i0), .val (.int i1), .val (.int i2), .val (.int i3), .val (.int (3 : Int32)), .val (.int aa0), .val (.int aa1), .val (.int aa2), .val (.int aa3), .val (.int aa4), .val (.int vv), .val (.ref ar), .unset, .unset] [(.int (own_ab 3 3 aa3 vv)), (.int (((own_ab 3 0 aa0 vv) + (own_ab 3 1 aa1 vv)) + (own_ab 3 2 aa2 vv)))])
    refine Go.step (fun _ k => XS.iadd X70.here hx rfl (hb hby at_190) rfl k) ?_
    show Go p e below _ T70 (mkF m 191 #[.val (.int i0), .val (.int i1), .val (.int i2), .val (.int i3), .val (.int (3 : Int32)), .val (.int aa0), .val (.int aa1), .val (.int aa2), .val (.int aa3), .val (.int aa4), .val (.int vv), .val (.ref ar), .unset, .unset] [(.int ((((own_ab 3 0 aa0 vv) + (own_ab 3 1 aa1 vv)) + (own_ab 3 2 aa2 vv)) + (own_ab 3 3 aa3 vv)))])
    refine Go.step (fun _ k => XS.iload X70.here hx rfl (hb hby at_191) rfl k) ?_
    show Go p e below _ T70 (mkF m 193 #[.val (.int i0), .val (.int i1), .val (.int i2), .val (.int i3), .val (.int (3 : Int32)), .val (.int aa0), .val (.int aa1), .val (.int aa2), .val (.int aa3), .val (.int aa4), .val (.int vv), .val (.ref ar), .unset, .unset] [(.int (3 : Int32)), (.int ((((own_ab 3 0 aa0 vv) + (own_ab 3 1 aa1 vv)) + (own_ab 3 2 aa2 vv)) + (own_ab 3 3 aa3 vv)))])
    refine Go.step (fun _ k => XS.iconst X70.here hx rfl (hb hby at_193) k) ?_
    show Go p e below _ T70 (mkF m 194 #[.val (.int i0), .val (.int i1), .val (.int i2), .val (.int i3), .val (.int (3 : Int32)), .val (.int aa0), .val (.int aa1), .val (.int aa2), .val (.int aa3), .val (.int aa4), .val (.int vv), .val (.ref ar), .unset, .unset] [(.int (4 : Int32)), (.int (3 : Int32)), (.int ((((own_ab 3 0 aa0 vv) + (own_ab 3 1 aa1 vv)) + (own_ab 3 2 aa2 vv)) + (own_ab 3 3 aa3 vv)))])
    refine Go.step (fun _ k => XS.iload X70.here hx rfl (hb hby at_194) rfl k) ?_
    show Go p e below _ T70 (mkF m 196 #[.val (.int i0), .val (.int i1), .val (.int i2), .val (.int i3), .val (.int (3 : Int32)), .val (.int aa0), .val (.int aa1), .val (.int aa2), .val (.int aa3), .val (.int aa4), .val (.int vv), .val (.ref ar), .unset, .unset] [(.int aa4), (.int (4 : Int32)), (.int (3 : Int32)), (.int ((((own_ab 3 0 aa0 vv) + (own_ab 3 1 aa1 vv)) + (own_ab 3 2 aa2 vv)) + (own_ab 3 3 aa3 vv)))])
    refine Go.step (fun _ k => XS.iload X70.here hx rfl (hb hby at_196) rfl k) ?_
    show Go p e below _ T70 (mkF m 198 #[.val (.int i0), .val (.int i1), .val (.int i2), .val (.int i3), .val (.int (3 : Int32)), .val (.int aa0), .val (.int aa1), .val (.int aa2), .val (.int aa3), .val (.int aa4), .val (.int vv), .val (.ref ar), .unset, .unset] [(.int vv), (.int aa4), (.int (4 : Int32)), (.int (3 : Int32)), (.int ((((own_ab 3 0 aa0 vv) + (own_ab 3 1 aa1 vv)) + (own_ab 3 2 aa2 vv)) + (own_ab 3 3 aa3 vv)))])
    obtain ⟨_, _, ⟨T71, L71, k71, n71⟩, -, X71, ⟨Lc71, hQ71, l71, y71, z71⟩, st71⟩ := Jvm.LawKit.callS X70 hx (y := (⟨"com/example/bidkeel/bidkeel/KnapsackCountUpToPinLaw", "atOrBelow", "(IIII)I"⟩ : MethodName)) hown (mvT hZ (hw _ (List.mem_of_getElem? (i := 2) rfl))) (mvT hZ (hw _ (List.mem_of_getElem? (i := 3) rfl))) (mvT hZ (hw _ (List.mem_of_getElem? (i := 4) rfl))) (mvT hZ (hw _ (List.mem_of_getElem? (i := 5) rfl))) (by decide) (backOf (W := 1) (rmA l Z a0 hw [] (3 : Int32) (4 : Int32) aa4 vv h66 n0 Zn) hZ (hw _ (List.mem_of_getElem? (i := 5) rfl)) (hw _ (List.mem_of_getElem? (i := 4) rfl)) (by decide) (by decide)) (g := (mkF m 198 #[.val (.int i0), .val (.int i1), .val (.int i2), .val (.int i3), .val (.int (3 : Int32)), .val (.int aa0), .val (.int aa1), .val (.int aa2), .val (.int aa3), .val (.int aa4), .val (.int vv), .val (.ref ar), .unset, .unset] [(.int vv), (.int aa4), (.int (4 : Int32)), (.int (3 : Int32)), (.int ((((own_ab 3 0 aa0 vv) + (own_ab 3 1 aa1 vv)) + (own_ab 3 2 aa2 vv)) + (own_ab 3 3 aa3 vv)))])) rfl (by rw [hml]; rfl) (argsL := [(.int (3 : Int32)), (.int (4 : Int32)), (.int aa4), (.int vv)]) (rest := [(.int ((((own_ab 3 0 aa0 vv) + (own_ab 3 1 aa1 vv)) + (own_ab 3 2 aa2 vv)) + (own_ab 3 3 aa3 vv)))]) (lenOf own_f42 rfl) rfl (by show 2 * 0 + _ ≤ _; exact Nat.le_of_eq rfl) (hb hby at_198) (fun _ _ => ⟨rfl, e70, (by dsimp only [Pt.cells, Pt.slots]; decide), (by dsimp only [Pt.cells, Pt.slots]; decide)⟩)
    dsimp only [Pt.U, Pt.locs, Pt.cells, Pt.slots] at X71 l71 y71 z71 st71 hQ71
    subst l71 y71 z71
    obtain ⟨rfl, N71q, e71⟩ := hQ71
    have N71 := Fr.app N70 N71q
    refine Go.step (st71) ?_
    show Go p e below _ T71 (mkF m 201 #[.val (.int i0), .val (.int i1), .val (.int i2), .val (.int i3), .val (.int (3 : Int32)), .val (.int aa0), .val (.int aa1), .val (.int aa2), .val (.int aa3), .val (.int aa4), .val (.int vv), .val (.ref ar), .unset, .unset] [(.int (own_ab 3 4 aa4 vv)), (.int ((((own_ab 3 0 aa0 vv) + (own_ab 3 1 aa1 vv)) + (own_ab 3 2 aa2 vv)) + (own_ab 3 3 aa3 vv)))])
    refine Go.step (fun _ k => XS.iadd X71.here hx rfl (hb hby at_201) rfl k) ?_
    show Go p e below _ T71 (mkF m 202 #[.val (.int i0), .val (.int i1), .val (.int i2), .val (.int i3), .val (.int (3 : Int32)), .val (.int aa0), .val (.int aa1), .val (.int aa2), .val (.int aa3), .val (.int aa4), .val (.int vv), .val (.ref ar), .unset, .unset] [(.int (((((own_ab 3 0 aa0 vv) + (own_ab 3 1 aa1 vv)) + (own_ab 3 2 aa2 vv)) + (own_ab 3 3 aa3 vv)) + (own_ab 3 4 aa4 vv)))])
    refine Go.step (fun _ k => XS.istore X71.here hx rfl (hb hby at_202) rfl (l' := #[.val (.int i0), .val (.int i1), .val (.int i2), .val (.int i3), .val (.int (3 : Int32)), .val (.int aa0), .val (.int aa1), .val (.int aa2), .val (.int aa3), .val (.int aa4), .val (.int vv), .val (.ref ar), .val (.int (((((own_ab 3 0 aa0 vv) + (own_ab 3 1 aa1 vv)) + (own_ab 3 2 aa2 vv)) + (own_ab 3 3 aa3 vv)) + (own_ab 3 4 aa4 vv))), .unset]) rfl k) ?_
    show Go p e below _ T71 (mkF m 204 #[.val (.int i0), .val (.int i1), .val (.int i2), .val (.int i3), .val (.int (3 : Int32)), .val (.int aa0), .val (.int aa1), .val (.int aa2), .val (.int aa3), .val (.int aa4), .val (.int vv), .val (.ref ar), .val (.int (((((own_ab 3 0 aa0 vv) + (own_ab 3 1 aa1 vv)) + (own_ab 3 2 aa2 vv)) + (own_ab 3 3 aa3 vv)) + (own_ab 3 4 aa4 vv))), .unset] [])
    refine Go.step (fun _ k => XS.aload X71.here hx rfl (hb hby at_204) rfl rfl k) ?_
    show Go p e below _ T71 (mkF m 206 #[.val (.int i0), .val (.int i1), .val (.int i2), .val (.int i3), .val (.int (3 : Int32)), .val (.int aa0), .val (.int aa1), .val (.int aa2), .val (.int aa3), .val (.int aa4), .val (.int vv), .val (.ref ar), .val (.int (((((own_ab 3 0 aa0 vv) + (own_ab 3 1 aa1 vv)) + (own_ab 3 2 aa2 vv)) + (own_ab 3 3 aa3 vv)) + (own_ab 3 4 aa4 vv))), .unset] [(.ref ar)])
    refine Go.step (fun _ k => XS.iload X71.here hx rfl (hb hby at_206) rfl k) ?_
    show Go p e below _ T71 (mkF m 208 #[.val (.int i0), .val (.int i1), .val (.int i2), .val (.int i3), .val (.int (3 : Int32)), .val (.int aa0), .val (.int aa1), .val (.int aa2), .val (.int aa3), .val (.int aa4), .val (.int vv), .val (.ref ar), .val (.int (((((own_ab 3 0 aa0 vv) + (own_ab 3 1 aa1 vv)) + (own_ab 3 2 aa2 vv)) + (own_ab 3 3 aa3 vv)) + (own_ab 3 4 aa4 vv))), .unset] [(.int vv), (.ref ar)])
    refine Go.step (fun _ k => XS.i2dS X71.here hx rfl (hb hby at_208) rfl rfl k) ?_
    show Go p e below _ T71 (mkF m 209 #[.val (.int i0), .val (.int i1), .val (.int i2), .val (.int i3), .val (.int (3 : Int32)), .val (.int aa0), .val (.int aa1), .val (.int aa2), .val (.int aa3), .val (.int aa4), .val (.int vv), .val (.ref ar), .val (.int (((((own_ab 3 0 aa0 vv) + (own_ab 3 1 aa1 vv)) + (own_ab 3 2 aa2 vv)) + (own_ab 3 3 aa3 vv)) + (own_ab 3 4 aa4 vv))), .unset] [(.double (FP.i2d vv)), (.ref ar)])
    obtain ⟨_, _, ⟨T72, L72, k72, n72⟩, -, X72, ⟨Lc72, hQ72, l72, y72, z72⟩, st72⟩ := Jvm.LawKit.callS X71 hx (y := (⟨"com/example/bidkeel/bidkeel/Knapsack", "countUpTo", "([DD)I"⟩ : MethodName)) hown (mvT hZ (hw _ (List.mem_of_getElem? (i := 6) rfl))) (mvT hZ (hw _ (List.mem_of_getElem? (i := 7) rfl))) (mvT hZ (hw _ (List.mem_of_getElem? (i := 8) rfl))) (mvT hZ (hw _ (List.mem_of_getElem? (i := 9) rfl))) (by decide) (backOf (W := 0) (rmK3 l Z a0 hw [] ar (FP.i2d vv) k63 vv aa0 aa1 aa2 h66 n0 Zn V_ar rfl) hZ (hw _ (List.mem_of_getElem? (i := 9) rfl)) (hw _ (List.mem_of_getElem? (i := 8) rfl)) (by decide) (by decide)) (g := (mkF m 209 #[.val (.int i0), .val (.int i1), .val (.int i2), .val (.int i3), .val (.int (3 : Int32)), .val (.int aa0), .val (.int aa1), .val (.int aa2), .val (.int aa3), .val (.int aa4), .val (.int vv), .val (.ref ar), .val (.int (((((own_ab 3 0 aa0 vv) + (own_ab 3 1 aa1 vv)) + (own_ab 3 2 aa2 vv)) + (own_ab 3 3 aa3 vv)) + (own_ab 3 4 aa4 vv))), .unset] [(.double (FP.i2d vv)), (.ref ar)])) rfl (by rw [hml]; rfl) (argsL := [(.ref ar), (.double (FP.i2d vv))]) (rest := []) (lenOf own_f43 rfl) rfl (by show 2 * 0 + _ ≤ _; exact Nat.le_of_eq rfl) (hb hby at_209) (fun _ _ => ⟨rfl, e71, (by dsimp only [Pt.cells, Pt.slots]; decide), (by dsimp only [Pt.cells, Pt.slots]; decide)⟩)
    dsimp only [Pt.U, Pt.locs, Pt.cells, Pt.slots] at X72 l72 y72 z72 st72 hQ72
    subst l72 y72 z72
    obtain ⟨rfl, N72q, e72⟩ := hQ72
    have N72 := Fr.app N71 N72q
    refine Go.step (st72) ?_
    show Go p e below _ T72 (mkF m 212 #[.val (.int i0), .val (.int i1), .val (.int i2), .val (.int i3), .val (.int (3 : Int32)), .val (.int aa0), .val (.int aa1), .val (.int aa2), .val (.int aa3), .val (.int aa4), .val (.int vv), .val (.ref ar), .val (.int (((((own_ab 3 0 aa0 vv) + (own_ab 3 1 aa1 vv)) + (own_ab 3 2 aa2 vv)) + (own_ab 3 3 aa3 vv)) + (own_ab 3 4 aa4 vv))), .unset] [(.int (own_c3 aa0 aa1 aa2 vv))])
    refine Go.step (fun _ k => XS.istore X72.here hx rfl (hb hby at_212) rfl (l' := #[.val (.int i0), .val (.int i1), .val (.int i2), .val (.int i3), .val (.int (3 : Int32)), .val (.int aa0), .val (.int aa1), .val (.int aa2), .val (.int aa3), .val (.int aa4), .val (.int vv), .val (.ref ar), .val (.int (((((own_ab 3 0 aa0 vv) + (own_ab 3 1 aa1 vv)) + (own_ab 3 2 aa2 vv)) + (own_ab 3 3 aa3 vv)) + (own_ab 3 4 aa4 vv))), .val (.int (own_c3 aa0 aa1 aa2 vv))]) rfl k) ?_
    show Go p e below _ T72 (mkF m 214 #[.val (.int i0), .val (.int i1), .val (.int i2), .val (.int i3), .val (.int (3 : Int32)), .val (.int aa0), .val (.int aa1), .val (.int aa2), .val (.int aa3), .val (.int aa4), .val (.int vv), .val (.ref ar), .val (.int (((((own_ab 3 0 aa0 vv) + (own_ab 3 1 aa1 vv)) + (own_ab 3 2 aa2 vv)) + (own_ab 3 3 aa3 vv)) + (own_ab 3 4 aa4 vv))), .val (.int (own_c3 aa0 aa1 aa2 vv))] [])
    refine Go.step (fun _ k => XS.iload X72.here hx rfl (hb hby at_214) rfl k) ?_
    show Go p e below _ T72 (mkF m 216 #[.val (.int i0), .val (.int i1), .val (.int i2), .val (.int i3), .val (.int (3 : Int32)), .val (.int aa0), .val (.int aa1), .val (.int aa2), .val (.int aa3), .val (.int aa4), .val (.int vv), .val (.ref ar), .val (.int (((((own_ab 3 0 aa0 vv) + (own_ab 3 1 aa1 vv)) + (own_ab 3 2 aa2 vv)) + (own_ab 3 3 aa3 vv)) + (own_ab 3 4 aa4 vv))), .val (.int (own_c3 aa0 aa1 aa2 vv))] [(.int (own_c3 aa0 aa1 aa2 vv))])
    refine Go.step (fun _ k => XS.iload X72.here hx rfl (hb hby at_216) rfl k) ?_
    show Go p e below _ T72 (mkF m 218 #[.val (.int i0), .val (.int i1), .val (.int i2), .val (.int i3), .val (.int (3 : Int32)), .val (.int aa0), .val (.int aa1), .val (.int aa2), .val (.int aa3), .val (.int aa4), .val (.int vv), .val (.ref ar), .val (.int (((((own_ab 3 0 aa0 vv) + (own_ab 3 1 aa1 vv)) + (own_ab 3 2 aa2 vv)) + (own_ab 3 3 aa3 vv)) + (own_ab 3 4 aa4 vv))), .val (.int (own_c3 aa0 aa1 aa2 vv))] [(.int (((((own_ab 3 0 aa0 vv) + (own_ab 3 1 aa1 vv)) + (own_ab 3 2 aa2 vv)) + (own_ab 3 3 aa3 vv)) + (own_ab 3 4 aa4 vv))), (.int (own_c3 aa0 aa1 aa2 vv))])
    refine Go.step (fun _ k => XS.icmpNo X72.here hx rfl (hb hby at_218) rfl (teq (own_s3 aa0 aa1 aa2 aa3 aa4 vv hs.1 hs.2.1)).2 k) ?_
    show Go p e below _ T72 (mkF m 221 #[.val (.int i0), .val (.int i1), .val (.int i2), .val (.int i3), .val (.int (3 : Int32)), .val (.int aa0), .val (.int aa1), .val (.int aa2), .val (.int aa3), .val (.int aa4), .val (.int vv), .val (.ref ar), .val (.int (((((own_ab 3 0 aa0 vv) + (own_ab 3 1 aa1 vv)) + (own_ab 3 2 aa2 vv)) + (own_ab 3 3 aa3 vv)) + (own_ab 3 4 aa4 vv))), .val (.int (own_c3 aa0 aa1 aa2 vv))] [])
    refine Go.step (fun _ k => XS.iconst X72.here hx rfl (hb hby at_221) k) ?_
    show Go p e below _ T72 (mkF m 222 #[.val (.int i0), .val (.int i1), .val (.int i2), .val (.int i3), .val (.int (3 : Int32)), .val (.int aa0), .val (.int aa1), .val (.int aa2), .val (.int aa3), .val (.int aa4), .val (.int vv), .val (.ref ar), .val (.int (((((own_ab 3 0 aa0 vv) + (own_ab 3 1 aa1 vv)) + (own_ab 3 2 aa2 vv)) + (own_ab 3 3 aa3 vv)) + (own_ab 3 4 aa4 vv))), .val (.int (own_c3 aa0 aa1 aa2 vv))] [(.int (1 : Int32))])
    refine Go.step (fun _ k => XS.goto X72.here hx rfl (pc0 := 222) (pc' := 226) rfl (hb hby at_222) (by decide) (by decide) k) ?_
    show Go p e below _ T72 (mkF m 226 #[.val (.int i0), .val (.int i1), .val (.int i2), .val (.int i3), .val (.int (3 : Int32)), .val (.int aa0), .val (.int aa1), .val (.int aa2), .val (.int aa3), .val (.int aa4), .val (.int vv), .val (.ref ar), .val (.int (((((own_ab 3 0 aa0 vv) + (own_ab 3 1 aa1 vv)) + (own_ab 3 2 aa2 vv)) + (own_ab 3 3 aa3 vv)) + (own_ab 3 4 aa4 vv))), .val (.int (own_c3 aa0 aa1 aa2 vv))] [(.int (1 : Int32))])
    obtain ⟨fs, hr, hrun, hended, hW, hsame⟩ := X72.leave (v := some (.int (1 : Int32))) (fun h => by rw [Bd.returns] at h; cases h)
    refine Go.fin (retN X72 hx (t := .boolean) Bd.returns (by simp) (hb hby at_226) hr) hrun hended ?_
    refine ⟨_, _, rfl, ?_, ⟨_, rfl⟩, hW, hsame.mono (by decide) (by decide)⟩
    show Q0 Z i0 i1 i2 i3 h0 n0 _ T72.heap _
    rw [e72]
    exact ⟨rfl, N72⟩
  · show Go p e below _ s₁ (mkF m 80 #[.val (.int i0), .val (.int i1), .val (.int i2), .val (.int i3), .val (.int (4 : Int32)), .val (.int aa0), .val (.int aa1), .val (.int aa2), .val (.int aa3), .val (.int aa4), .val (.int vv), .unset, .unset, .unset] [(.int (4 : Int32))])
    obtain ⟨T73, h73, k73, X73, e73, E73, A73, st73⟩ := newP X0 hx hZ (hw _ (List.mem_of_getElem? (i := 1) rfl)) e0 (g := (mkF m 80 #[.val (.int i0), .val (.int i1), .val (.int i2), .val (.int i3), .val (.int (4 : Int32)), .val (.int aa0), .val (.int aa1), .val (.int aa2), .val (.int aa3), .val (.int aa4), .val (.int vv), .unset, .unset, .unset] [(.int (4 : Int32))])) rfl (hb hby at_80) rfl (by decide) (cap := 4) (by decide) (by decide) (by decide) (by decide)
    obtain ⟨ar, g73⟩ : ∃ z, z = h0.size := ⟨_, rfl⟩
    rw [← g73] at A73 st73
    have g_ar : n0 ≤ ar := Nat.le_trans Zn (Nat.le_of_eq g73.symm)
    have sz_ar : h0.size ≤ ar := Nat.le_trans K0.1 (Nat.le_of_eq g73.symm)
    replace Zn := Nat.le_trans Zn E73.1
    replace K0 := K0.ext E73
    have V_ar : Arv Z h73 ar k73 .double (4 : Int32) [(.double (FP.l2d 0)), (.double (FP.l2d 0)), (.double (FP.l2d 0)), (.double (FP.l2d 0))] (.double (FP.l2d 0)) := (Arv.newD A73 (by decide)).pad (pad_rep [] (.double (FP.l2d 0)) 4)
    refine Go.step st73 ?_
    show Go p e below _ T73 (mkF m 82 #[.val (.int i0), .val (.int i1), .val (.int i2), .val (.int i3), .val (.int (4 : Int32)), .val (.int aa0), .val (.int aa1), .val (.int aa2), .val (.int aa3), .val (.int aa4), .val (.int vv), .unset, .unset, .unset] [(.ref ar)])
    refine Go.step (fun _ k => XS.astore X73.here hx rfl (hb hby at_82) rfl rfl (l' := #[.val (.int i0), .val (.int i1), .val (.int i2), .val (.int i3), .val (.int (4 : Int32)), .val (.int aa0), .val (.int aa1), .val (.int aa2), .val (.int aa3), .val (.int aa4), .val (.int vv), .val (.ref ar), .unset, .unset]) rfl k) ?_
    show Go p e below _ T73 (mkF m 84 #[.val (.int i0), .val (.int i1), .val (.int i2), .val (.int i3), .val (.int (4 : Int32)), .val (.int aa0), .val (.int aa1), .val (.int aa2), .val (.int aa3), .val (.int aa4), .val (.int vv), .val (.ref ar), .unset, .unset] [])
    refine Go.step (fun _ k => XS.iload X73.here hx rfl (hb hby at_84) rfl k) ?_
    show Go p e below _ T73 (mkF m 86 #[.val (.int i0), .val (.int i1), .val (.int i2), .val (.int i3), .val (.int (4 : Int32)), .val (.int aa0), .val (.int aa1), .val (.int aa2), .val (.int aa3), .val (.int aa4), .val (.int vv), .val (.ref ar), .unset, .unset] [(.int (4 : Int32))])
    refine Go.step (fun _ k => XS.ifNo X73.here hx rfl (hb hby at_86) rfl ((if0 _ _).trans (tlt (by decide)).2.2.2) k) ?_
    show Go p e below _ T73 (mkF m 89 #[.val (.int i0), .val (.int i1), .val (.int i2), .val (.int i3), .val (.int (4 : Int32)), .val (.int aa0), .val (.int aa1), .val (.int aa2), .val (.int aa3), .val (.int aa4), .val (.int vv), .val (.ref ar), .unset, .unset] [])
    refine Go.step (fun _ k => XS.aload X73.here hx rfl (hb hby at_89) rfl rfl k) ?_
    show Go p e below _ T73 (mkF m 91 #[.val (.int i0), .val (.int i1), .val (.int i2), .val (.int i3), .val (.int (4 : Int32)), .val (.int aa0), .val (.int aa1), .val (.int aa2), .val (.int aa3), .val (.int aa4), .val (.int vv), .val (.ref ar), .unset, .unset] [(.ref ar)])
    refine Go.step (fun _ k => XS.iconst X73.here hx rfl (hb hby at_91) k) ?_
    show Go p e below _ T73 (mkF m 92 #[.val (.int i0), .val (.int i1), .val (.int i2), .val (.int i3), .val (.int (4 : Int32)), .val (.int aa0), .val (.int aa1), .val (.int aa2), .val (.int aa3), .val (.int aa4), .val (.int vv), .val (.ref ar), .unset, .unset] [(.int (0 : Int32)), (.ref ar)])
    refine Go.step (fun _ k => XS.iload X73.here hx rfl (hb hby at_92) rfl k) ?_
    show Go p e below _ T73 (mkF m 94 #[.val (.int i0), .val (.int i1), .val (.int i2), .val (.int i3), .val (.int (4 : Int32)), .val (.int aa0), .val (.int aa1), .val (.int aa2), .val (.int aa3), .val (.int aa4), .val (.int vv), .val (.ref ar), .unset, .unset] [(.int aa0), (.int (0 : Int32)), (.ref ar)])
    refine Go.step (fun _ k => XS.i2dS X73.here hx rfl (hb hby at_94) rfl rfl k) ?_
    show Go p e below _ T73 (mkF m 95 #[.val (.int i0), .val (.int i1), .val (.int i2), .val (.int i3), .val (.int (4 : Int32)), .val (.int aa0), .val (.int aa1), .val (.int aa2), .val (.int aa3), .val (.int aa4), .val (.int vv), .val (.ref ar), .unset, .unset] [(.double (FP.i2d aa0)), (.int (0 : Int32)), (.ref ar)])
    obtain ⟨cl74, Ar74, q74, S74, Nn74, H74, G74⟩ := V_ar
    have hin74 : ¬ ((0 : Int32) < 0 ∨ cl74.slots.size ≤ ((0 : Int32)).toNatClampNeg) := inb_of S74 ⟨by decide, by decide⟩
    obtain ⟨T74, h74, X74, e74, W74, st74⟩ := stD X73 hx hZ e73 Ar74 (j := (0 : Int32)) hin74 (g := (mkF m 95 #[.val (.int i0), .val (.int i1), .val (.int i2), .val (.int i3), .val (.int (4 : Int32)), .val (.int aa0), .val (.int aa1), .val (.int aa2), .val (.int aa3), .val (.int aa4), .val (.int vv), .val (.ref ar), .unset, .unset] [(.double (FP.i2d aa0)), (.int (0 : Int32)), (.ref ar)])) rfl rfl (hb hby at_95)
    have Vw74 : Arv Z h74 ar k73 .double (4 : Int32) [(.double (FP.i2d aa0)), (.double (FP.l2d 0)), (.double (FP.l2d 0)), (.double (FP.l2d 0))] (.double (FP.l2d 0)) := Arv.set Ar74 q74 S74 Nn74 H74 G74 rfl W74 0 rfl (Nat.le_of_ble_eq_true rfl)
    have V_ar := Vw74
    replace K0 := K0.wr W74 (Or.inr sz_ar)
    replace Zn := Nat.le_trans Zn (Nat.le_of_eq W74.size.symm)
    have N74 := Fr.snoc X74 N0 g_ar
    refine Go.step st74 ?_
    show Go p e below _ T74 (mkF m 96 #[.val (.int i0), .val (.int i1), .val (.int i2), .val (.int i3), .val (.int (4 : Int32)), .val (.int aa0), .val (.int aa1), .val (.int aa2), .val (.int aa3), .val (.int aa4), .val (.int vv), .val (.ref ar), .unset, .unset] [])
    refine Go.step (fun _ k => XS.iload X74.here hx rfl (hb hby at_96) rfl k) ?_
    show Go p e below _ T74 (mkF m 98 #[.val (.int i0), .val (.int i1), .val (.int i2), .val (.int i3), .val (.int (4 : Int32)), .val (.int aa0), .val (.int aa1), .val (.int aa2), .val (.int aa3), .val (.int aa4), .val (.int vv), .val (.ref ar), .unset, .unset] [(.int (4 : Int32))])
    refine Go.step (fun _ k => XS.iconst X74.here hx rfl (hb hby at_98) k) ?_
    show Go p e below _ T74 (mkF m 99 #[.val (.int i0), .val (.int i1), .val (.int i2), .val (.int i3), .val (.int (4 : Int32)), .val (.int aa0), .val (.int aa1), .val (.int aa2), .val (.int aa3), .val (.int aa4), .val (.int vv), .val (.ref ar), .unset, .unset] [(.int (1 : Int32)), (.int (4 : Int32))])
    refine Go.step (fun _ k => XS.icmpNo X74.here hx rfl (hb hby at_99) rfl (tlt (by decide)).2.2.2 k) ?_
    show Go p e below _ T74 (mkF m 102 #[.val (.int i0), .val (.int i1), .val (.int i2), .val (.int i3), .val (.int (4 : Int32)), .val (.int aa0), .val (.int aa1), .val (.int aa2), .val (.int aa3), .val (.int aa4), .val (.int vv), .val (.ref ar), .unset, .unset] [])
    refine Go.step (fun _ k => XS.aload X74.here hx rfl (hb hby at_102) rfl rfl k) ?_
    show Go p e below _ T74 (mkF m 104 #[.val (.int i0), .val (.int i1), .val (.int i2), .val (.int i3), .val (.int (4 : Int32)), .val (.int aa0), .val (.int aa1), .val (.int aa2), .val (.int aa3), .val (.int aa4), .val (.int vv), .val (.ref ar), .unset, .unset] [(.ref ar)])
    refine Go.step (fun _ k => XS.iconst X74.here hx rfl (hb hby at_104) k) ?_
    show Go p e below _ T74 (mkF m 105 #[.val (.int i0), .val (.int i1), .val (.int i2), .val (.int i3), .val (.int (4 : Int32)), .val (.int aa0), .val (.int aa1), .val (.int aa2), .val (.int aa3), .val (.int aa4), .val (.int vv), .val (.ref ar), .unset, .unset] [(.int (1 : Int32)), (.ref ar)])
    refine Go.step (fun _ k => XS.iload X74.here hx rfl (hb hby at_105) rfl k) ?_
    show Go p e below _ T74 (mkF m 107 #[.val (.int i0), .val (.int i1), .val (.int i2), .val (.int i3), .val (.int (4 : Int32)), .val (.int aa0), .val (.int aa1), .val (.int aa2), .val (.int aa3), .val (.int aa4), .val (.int vv), .val (.ref ar), .unset, .unset] [(.int aa1), (.int (1 : Int32)), (.ref ar)])
    refine Go.step (fun _ k => XS.i2dS X74.here hx rfl (hb hby at_107) rfl rfl k) ?_
    show Go p e below _ T74 (mkF m 108 #[.val (.int i0), .val (.int i1), .val (.int i2), .val (.int i3), .val (.int (4 : Int32)), .val (.int aa0), .val (.int aa1), .val (.int aa2), .val (.int aa3), .val (.int aa4), .val (.int vv), .val (.ref ar), .unset, .unset] [(.double (FP.i2d aa1)), (.int (1 : Int32)), (.ref ar)])
    obtain ⟨cl75, Ar75, q75, S75, Nn75, H75, G75⟩ := V_ar
    have hin75 : ¬ ((1 : Int32) < 0 ∨ cl75.slots.size ≤ ((1 : Int32)).toNatClampNeg) := inb_of S75 ⟨by decide, by decide⟩
    obtain ⟨T75, h75, X75, e75, W75, st75⟩ := stD X74 hx hZ e74 Ar75 (j := (1 : Int32)) hin75 (g := (mkF m 108 #[.val (.int i0), .val (.int i1), .val (.int i2), .val (.int i3), .val (.int (4 : Int32)), .val (.int aa0), .val (.int aa1), .val (.int aa2), .val (.int aa3), .val (.int aa4), .val (.int vv), .val (.ref ar), .unset, .unset] [(.double (FP.i2d aa1)), (.int (1 : Int32)), (.ref ar)])) rfl rfl (hb hby at_108)
    have Vw75 : Arv Z h75 ar k73 .double (4 : Int32) [(.double (FP.i2d aa0)), (.double (FP.i2d aa1)), (.double (FP.l2d 0)), (.double (FP.l2d 0))] (.double (FP.l2d 0)) := Arv.set Ar75 q75 S75 Nn75 H75 G75 rfl W75 1 rfl (Nat.le_of_ble_eq_true rfl)
    have V_ar := Vw75
    replace K0 := K0.wr W75 (Or.inr sz_ar)
    replace Zn := Nat.le_trans Zn (Nat.le_of_eq W75.size.symm)
    have N75 := Fr.snoc X75 N74 g_ar
    refine Go.step st75 ?_
    show Go p e below _ T75 (mkF m 109 #[.val (.int i0), .val (.int i1), .val (.int i2), .val (.int i3), .val (.int (4 : Int32)), .val (.int aa0), .val (.int aa1), .val (.int aa2), .val (.int aa3), .val (.int aa4), .val (.int vv), .val (.ref ar), .unset, .unset] [])
    refine Go.step (fun _ k => XS.iload X75.here hx rfl (hb hby at_109) rfl k) ?_
    show Go p e below _ T75 (mkF m 111 #[.val (.int i0), .val (.int i1), .val (.int i2), .val (.int i3), .val (.int (4 : Int32)), .val (.int aa0), .val (.int aa1), .val (.int aa2), .val (.int aa3), .val (.int aa4), .val (.int vv), .val (.ref ar), .unset, .unset] [(.int (4 : Int32))])
    refine Go.step (fun _ k => XS.iconst X75.here hx rfl (hb hby at_111) k) ?_
    show Go p e below _ T75 (mkF m 112 #[.val (.int i0), .val (.int i1), .val (.int i2), .val (.int i3), .val (.int (4 : Int32)), .val (.int aa0), .val (.int aa1), .val (.int aa2), .val (.int aa3), .val (.int aa4), .val (.int vv), .val (.ref ar), .unset, .unset] [(.int (2 : Int32)), (.int (4 : Int32))])
    refine Go.step (fun _ k => XS.icmpNo X75.here hx rfl (hb hby at_112) rfl (tlt (by decide)).2.2.2 k) ?_
    show Go p e below _ T75 (mkF m 115 #[.val (.int i0), .val (.int i1), .val (.int i2), .val (.int i3), .val (.int (4 : Int32)), .val (.int aa0), .val (.int aa1), .val (.int aa2), .val (.int aa3), .val (.int aa4), .val (.int vv), .val (.ref ar), .unset, .unset] [])
    refine Go.step (fun _ k => XS.aload X75.here hx rfl (hb hby at_115) rfl rfl k) ?_
    show Go p e below _ T75 (mkF m 117 #[.val (.int i0), .val (.int i1), .val (.int i2), .val (.int i3), .val (.int (4 : Int32)), .val (.int aa0), .val (.int aa1), .val (.int aa2), .val (.int aa3), .val (.int aa4), .val (.int vv), .val (.ref ar), .unset, .unset] [(.ref ar)])
    refine Go.step (fun _ k => XS.iconst X75.here hx rfl (hb hby at_117) k) ?_
    show Go p e below _ T75 (mkF m 118 #[.val (.int i0), .val (.int i1), .val (.int i2), .val (.int i3), .val (.int (4 : Int32)), .val (.int aa0), .val (.int aa1), .val (.int aa2), .val (.int aa3), .val (.int aa4), .val (.int vv), .val (.ref ar), .unset, .unset] [(.int (2 : Int32)), (.ref ar)])
    refine Go.step (fun _ k => XS.iload X75.here hx rfl (hb hby at_118) rfl k) ?_
    show Go p e below _ T75 (mkF m 120 #[.val (.int i0), .val (.int i1), .val (.int i2), .val (.int i3), .val (.int (4 : Int32)), .val (.int aa0), .val (.int aa1), .val (.int aa2), .val (.int aa3), .val (.int aa4), .val (.int vv), .val (.ref ar), .unset, .unset] [(.int aa2), (.int (2 : Int32)), (.ref ar)])
    refine Go.step (fun _ k => XS.i2dS X75.here hx rfl (hb hby at_120) rfl rfl k) ?_
    show Go p e below _ T75 (mkF m 121 #[.val (.int i0), .val (.int i1), .val (.int i2), .val (.int i3), .val (.int (4 : Int32)), .val (.int aa0), .val (.int aa1), .val (.int aa2), .val (.int aa3), .val (.int aa4), .val (.int vv), .val (.ref ar), .unset, .unset] [(.double (FP.i2d aa2)), (.int (2 : Int32)), (.ref ar)])
    obtain ⟨cl76, Ar76, q76, S76, Nn76, H76, G76⟩ := V_ar
    have hin76 : ¬ ((2 : Int32) < 0 ∨ cl76.slots.size ≤ ((2 : Int32)).toNatClampNeg) := inb_of S76 ⟨by decide, by decide⟩
    obtain ⟨T76, h76, X76, e76, W76, st76⟩ := stD X75 hx hZ e75 Ar76 (j := (2 : Int32)) hin76 (g := (mkF m 121 #[.val (.int i0), .val (.int i1), .val (.int i2), .val (.int i3), .val (.int (4 : Int32)), .val (.int aa0), .val (.int aa1), .val (.int aa2), .val (.int aa3), .val (.int aa4), .val (.int vv), .val (.ref ar), .unset, .unset] [(.double (FP.i2d aa2)), (.int (2 : Int32)), (.ref ar)])) rfl rfl (hb hby at_121)
    have Vw76 : Arv Z h76 ar k73 .double (4 : Int32) [(.double (FP.i2d aa0)), (.double (FP.i2d aa1)), (.double (FP.i2d aa2)), (.double (FP.l2d 0))] (.double (FP.l2d 0)) := Arv.set Ar76 q76 S76 Nn76 H76 G76 rfl W76 2 rfl (Nat.le_of_ble_eq_true rfl)
    have V_ar := Vw76
    replace K0 := K0.wr W76 (Or.inr sz_ar)
    replace Zn := Nat.le_trans Zn (Nat.le_of_eq W76.size.symm)
    have N76 := Fr.snoc X76 N75 g_ar
    refine Go.step st76 ?_
    show Go p e below _ T76 (mkF m 122 #[.val (.int i0), .val (.int i1), .val (.int i2), .val (.int i3), .val (.int (4 : Int32)), .val (.int aa0), .val (.int aa1), .val (.int aa2), .val (.int aa3), .val (.int aa4), .val (.int vv), .val (.ref ar), .unset, .unset] [])
    refine Go.step (fun _ k => XS.iload X76.here hx rfl (hb hby at_122) rfl k) ?_
    show Go p e below _ T76 (mkF m 124 #[.val (.int i0), .val (.int i1), .val (.int i2), .val (.int i3), .val (.int (4 : Int32)), .val (.int aa0), .val (.int aa1), .val (.int aa2), .val (.int aa3), .val (.int aa4), .val (.int vv), .val (.ref ar), .unset, .unset] [(.int (4 : Int32))])
    refine Go.step (fun _ k => XS.iconst X76.here hx rfl (hb hby at_124) k) ?_
    show Go p e below _ T76 (mkF m 125 #[.val (.int i0), .val (.int i1), .val (.int i2), .val (.int i3), .val (.int (4 : Int32)), .val (.int aa0), .val (.int aa1), .val (.int aa2), .val (.int aa3), .val (.int aa4), .val (.int vv), .val (.ref ar), .unset, .unset] [(.int (3 : Int32)), (.int (4 : Int32))])
    refine Go.step (fun _ k => XS.icmpNo X76.here hx rfl (hb hby at_125) rfl (tlt (by decide)).2.2.2 k) ?_
    show Go p e below _ T76 (mkF m 128 #[.val (.int i0), .val (.int i1), .val (.int i2), .val (.int i3), .val (.int (4 : Int32)), .val (.int aa0), .val (.int aa1), .val (.int aa2), .val (.int aa3), .val (.int aa4), .val (.int vv), .val (.ref ar), .unset, .unset] [])
    refine Go.step (fun _ k => XS.aload X76.here hx rfl (hb hby at_128) rfl rfl k) ?_
    show Go p e below _ T76 (mkF m 130 #[.val (.int i0), .val (.int i1), .val (.int i2), .val (.int i3), .val (.int (4 : Int32)), .val (.int aa0), .val (.int aa1), .val (.int aa2), .val (.int aa3), .val (.int aa4), .val (.int vv), .val (.ref ar), .unset, .unset] [(.ref ar)])
    refine Go.step (fun _ k => XS.iconst X76.here hx rfl (hb hby at_130) k) ?_
    show Go p e below _ T76 (mkF m 131 #[.val (.int i0), .val (.int i1), .val (.int i2), .val (.int i3), .val (.int (4 : Int32)), .val (.int aa0), .val (.int aa1), .val (.int aa2), .val (.int aa3), .val (.int aa4), .val (.int vv), .val (.ref ar), .unset, .unset] [(.int (3 : Int32)), (.ref ar)])
    refine Go.step (fun _ k => XS.iload X76.here hx rfl (hb hby at_131) rfl k) ?_
    show Go p e below _ T76 (mkF m 133 #[.val (.int i0), .val (.int i1), .val (.int i2), .val (.int i3), .val (.int (4 : Int32)), .val (.int aa0), .val (.int aa1), .val (.int aa2), .val (.int aa3), .val (.int aa4), .val (.int vv), .val (.ref ar), .unset, .unset] [(.int aa3), (.int (3 : Int32)), (.ref ar)])
    refine Go.step (fun _ k => XS.i2dS X76.here hx rfl (hb hby at_133) rfl rfl k) ?_
    show Go p e below _ T76 (mkF m 134 #[.val (.int i0), .val (.int i1), .val (.int i2), .val (.int i3), .val (.int (4 : Int32)), .val (.int aa0), .val (.int aa1), .val (.int aa2), .val (.int aa3), .val (.int aa4), .val (.int vv), .val (.ref ar), .unset, .unset] [(.double (FP.i2d aa3)), (.int (3 : Int32)), (.ref ar)])
    obtain ⟨cl77, Ar77, q77, S77, Nn77, H77, G77⟩ := V_ar
    have hin77 : ¬ ((3 : Int32) < 0 ∨ cl77.slots.size ≤ ((3 : Int32)).toNatClampNeg) := inb_of S77 ⟨by decide, by decide⟩
    obtain ⟨T77, h77, X77, e77, W77, st77⟩ := stD X76 hx hZ e76 Ar77 (j := (3 : Int32)) hin77 (g := (mkF m 134 #[.val (.int i0), .val (.int i1), .val (.int i2), .val (.int i3), .val (.int (4 : Int32)), .val (.int aa0), .val (.int aa1), .val (.int aa2), .val (.int aa3), .val (.int aa4), .val (.int vv), .val (.ref ar), .unset, .unset] [(.double (FP.i2d aa3)), (.int (3 : Int32)), (.ref ar)])) rfl rfl (hb hby at_134)
    have Vw77 : Arv Z h77 ar k73 .double (4 : Int32) [(.double (FP.i2d aa0)), (.double (FP.i2d aa1)), (.double (FP.i2d aa2)), (.double (FP.i2d aa3))] (.double (FP.l2d 0)) := Arv.set Ar77 q77 S77 Nn77 H77 G77 rfl W77 3 rfl (Nat.le_of_ble_eq_true rfl)
    have V_ar := Vw77
    replace K0 := K0.wr W77 (Or.inr sz_ar)
    replace Zn := Nat.le_trans Zn (Nat.le_of_eq W77.size.symm)
    have N77 := Fr.snoc X77 N76 g_ar
    refine Go.step st77 ?_
    show Go p e below _ T77 (mkF m 135 #[.val (.int i0), .val (.int i1), .val (.int i2), .val (.int i3), .val (.int (4 : Int32)), .val (.int aa0), .val (.int aa1), .val (.int aa2), .val (.int aa3), .val (.int aa4), .val (.int vv), .val (.ref ar), .unset, .unset] [])
    refine Go.step (fun _ k => XS.iload X77.here hx rfl (hb hby at_135) rfl k) ?_
    show Go p e below _ T77 (mkF m 137 #[.val (.int i0), .val (.int i1), .val (.int i2), .val (.int i3), .val (.int (4 : Int32)), .val (.int aa0), .val (.int aa1), .val (.int aa2), .val (.int aa3), .val (.int aa4), .val (.int vv), .val (.ref ar), .unset, .unset] [(.int (4 : Int32))])
    refine Go.step (fun _ k => XS.iconst X77.here hx rfl (hb hby at_137) k) ?_
    show Go p e below _ T77 (mkF m 138 #[.val (.int i0), .val (.int i1), .val (.int i2), .val (.int i3), .val (.int (4 : Int32)), .val (.int aa0), .val (.int aa1), .val (.int aa2), .val (.int aa3), .val (.int aa4), .val (.int vv), .val (.ref ar), .unset, .unset] [(.int (4 : Int32)), (.int (4 : Int32))])
    refine Go.step (fun _ k => XS.icmpYes X77.here hx rfl (pc0 := 138) (pc' := 148) rfl (hb hby at_138) rfl (flt (by decide)).2.2.2 (by decide) (by decide) k) ?_
    show Go p e below _ T77 (mkF m 148 #[.val (.int i0), .val (.int i1), .val (.int i2), .val (.int i3), .val (.int (4 : Int32)), .val (.int aa0), .val (.int aa1), .val (.int aa2), .val (.int aa3), .val (.int aa4), .val (.int vv), .val (.ref ar), .unset, .unset] [])
    refine Go.step (fun _ k => XS.iload X77.here hx rfl (hb hby at_148) rfl k) ?_
    show Go p e below _ T77 (mkF m 150 #[.val (.int i0), .val (.int i1), .val (.int i2), .val (.int i3), .val (.int (4 : Int32)), .val (.int aa0), .val (.int aa1), .val (.int aa2), .val (.int aa3), .val (.int aa4), .val (.int vv), .val (.ref ar), .unset, .unset] [(.int (4 : Int32))])
    refine Go.step (fun _ k => XS.iconst X77.here hx rfl (hb hby at_150) k) ?_
    show Go p e below _ T77 (mkF m 151 #[.val (.int i0), .val (.int i1), .val (.int i2), .val (.int i3), .val (.int (4 : Int32)), .val (.int aa0), .val (.int aa1), .val (.int aa2), .val (.int aa3), .val (.int aa4), .val (.int vv), .val (.ref ar), .unset, .unset] [(.int (0 : Int32)), (.int (4 : Int32))])
    refine Go.step (fun _ k => XS.iload X77.here hx rfl (hb hby at_151) rfl k) ?_
    show Go p e below _ T77 (mkF m 153 #[.val (.int i0), .val (.int i1), .val (.int i2), .val (.int i3), .val (.int (4 : Int32)), .val (.int aa0), .val (.int aa1), .val (.int aa2), .val (.int aa3), .val (.int aa4), .val (.int vv), .val (.ref ar), .unset, .unset] [(.int aa0), (.int (0 : Int32)), (.int (4 : Int32))])
    refine Go.step (fun _ k => XS.iload X77.here hx rfl (hb hby at_153) rfl k) ?_
    show Go p e below _ T77 (mkF m 155 #[.val (.int i0), .val (.int i1), .val (.int i2), .val (.int i3), .val (.int (4 : Int32)), .val (.int aa0), .val (.int aa1), .val (.int aa2), .val (.int aa3), .val (.int aa4), .val (.int vv), .val (.ref ar), .unset, .unset] [(.int vv), (.int aa0), (.int (0 : Int32)), (.int (4 : Int32))])
    obtain ⟨_, _, ⟨T78, L78, k78, n78⟩, -, X78, ⟨Lc78, hQ78, l78, y78, z78⟩, st78⟩ := Jvm.LawKit.callS X77 hx (y := (⟨"com/example/bidkeel/bidkeel/KnapsackCountUpToPinLaw", "atOrBelow", "(IIII)I"⟩ : MethodName)) hown (mvT hZ (hw _ (List.mem_of_getElem? (i := 2) rfl))) (mvT hZ (hw _ (List.mem_of_getElem? (i := 3) rfl))) (mvT hZ (hw _ (List.mem_of_getElem? (i := 4) rfl))) (mvT hZ (hw _ (List.mem_of_getElem? (i := 5) rfl))) (by decide) (backOf (W := 0) (rmA l Z a0 hw [] (4 : Int32) (0 : Int32) aa0 vv h77 n0 Zn) hZ (hw _ (List.mem_of_getElem? (i := 5) rfl)) (hw _ (List.mem_of_getElem? (i := 4) rfl)) (by decide) (by decide)) (g := (mkF m 155 #[.val (.int i0), .val (.int i1), .val (.int i2), .val (.int i3), .val (.int (4 : Int32)), .val (.int aa0), .val (.int aa1), .val (.int aa2), .val (.int aa3), .val (.int aa4), .val (.int vv), .val (.ref ar), .unset, .unset] [(.int vv), (.int aa0), (.int (0 : Int32)), (.int (4 : Int32))])) rfl (by rw [hml]; rfl) (argsL := [(.int (4 : Int32)), (.int (0 : Int32)), (.int aa0), (.int vv)]) (rest := []) (lenOf own_f42 rfl) rfl (by show 2 * 0 + _ ≤ _; exact Nat.le_of_eq rfl) (hb hby at_155) (fun _ _ => ⟨rfl, e77, (by dsimp only [Pt.cells, Pt.slots]; decide), (by dsimp only [Pt.cells, Pt.slots]; decide)⟩)
    dsimp only [Pt.U, Pt.locs, Pt.cells, Pt.slots] at X78 l78 y78 z78 st78 hQ78
    subst l78 y78 z78
    obtain ⟨rfl, N78q, e78⟩ := hQ78
    have N78 := Fr.app N77 N78q
    refine Go.step (st78) ?_
    show Go p e below _ T78 (mkF m 158 #[.val (.int i0), .val (.int i1), .val (.int i2), .val (.int i3), .val (.int (4 : Int32)), .val (.int aa0), .val (.int aa1), .val (.int aa2), .val (.int aa3), .val (.int aa4), .val (.int vv), .val (.ref ar), .unset, .unset] [(.int (own_ab 4 0 aa0 vv))])
    refine Go.step (fun _ k => XS.iload X78.here hx rfl (hb hby at_158) rfl k) ?_
    show Go p e below _ T78 (mkF m 160 #[.val (.int i0), .val (.int i1), .val (.int i2), .val (.int i3), .val (.int (4 : Int32)), .val (.int aa0), .val (.int aa1), .val (.int aa2), .val (.int aa3), .val (.int aa4), .val (.int vv), .val (.ref ar), .unset, .unset] [(.int (4 : Int32)), (.int (own_ab 4 0 aa0 vv))])
    refine Go.step (fun _ k => XS.iconst X78.here hx rfl (hb hby at_160) k) ?_
    show Go p e below _ T78 (mkF m 161 #[.val (.int i0), .val (.int i1), .val (.int i2), .val (.int i3), .val (.int (4 : Int32)), .val (.int aa0), .val (.int aa1), .val (.int aa2), .val (.int aa3), .val (.int aa4), .val (.int vv), .val (.ref ar), .unset, .unset] [(.int (1 : Int32)), (.int (4 : Int32)), (.int (own_ab 4 0 aa0 vv))])
    refine Go.step (fun _ k => XS.iload X78.here hx rfl (hb hby at_161) rfl k) ?_
    show Go p e below _ T78 (mkF m 163 #[.val (.int i0), .val (.int i1), .val (.int i2), .val (.int i3), .val (.int (4 : Int32)), .val (.int aa0), .val (.int aa1), .val (.int aa2), .val (.int aa3), .val (.int aa4), .val (.int vv), .val (.ref ar), .unset, .unset] [(.int aa1), (.int (1 : Int32)), (.int (4 : Int32)), (.int (own_ab 4 0 aa0 vv))])
    refine Go.step (fun _ k => XS.iload X78.here hx rfl (hb hby at_163) rfl k) ?_
    show Go p e below _ T78 (mkF m 165 #[.val (.int i0), .val (.int i1), .val (.int i2), .val (.int i3), .val (.int (4 : Int32)), .val (.int aa0), .val (.int aa1), .val (.int aa2), .val (.int aa3), .val (.int aa4), .val (.int vv), .val (.ref ar), .unset, .unset] [(.int vv), (.int aa1), (.int (1 : Int32)), (.int (4 : Int32)), (.int (own_ab 4 0 aa0 vv))])
    obtain ⟨_, _, ⟨T79, L79, k79, n79⟩, -, X79, ⟨Lc79, hQ79, l79, y79, z79⟩, st79⟩ := Jvm.LawKit.callS X78 hx (y := (⟨"com/example/bidkeel/bidkeel/KnapsackCountUpToPinLaw", "atOrBelow", "(IIII)I"⟩ : MethodName)) hown (mvT hZ (hw _ (List.mem_of_getElem? (i := 2) rfl))) (mvT hZ (hw _ (List.mem_of_getElem? (i := 3) rfl))) (mvT hZ (hw _ (List.mem_of_getElem? (i := 4) rfl))) (mvT hZ (hw _ (List.mem_of_getElem? (i := 5) rfl))) (by decide) (backOf (W := 1) (rmA l Z a0 hw [] (4 : Int32) (1 : Int32) aa1 vv h77 n0 Zn) hZ (hw _ (List.mem_of_getElem? (i := 5) rfl)) (hw _ (List.mem_of_getElem? (i := 4) rfl)) (by decide) (by decide)) (g := (mkF m 165 #[.val (.int i0), .val (.int i1), .val (.int i2), .val (.int i3), .val (.int (4 : Int32)), .val (.int aa0), .val (.int aa1), .val (.int aa2), .val (.int aa3), .val (.int aa4), .val (.int vv), .val (.ref ar), .unset, .unset] [(.int vv), (.int aa1), (.int (1 : Int32)), (.int (4 : Int32)), (.int (own_ab 4 0 aa0 vv))])) rfl (by rw [hml]; rfl) (argsL := [(.int (4 : Int32)), (.int (1 : Int32)), (.int aa1), (.int vv)]) (rest := [(.int (own_ab 4 0 aa0 vv))]) (lenOf own_f42 rfl) rfl (by show 2 * 0 + _ ≤ _; exact Nat.le_of_eq rfl) (hb hby at_165) (fun _ _ => ⟨rfl, e78, (by dsimp only [Pt.cells, Pt.slots]; decide), (by dsimp only [Pt.cells, Pt.slots]; decide)⟩)
    dsimp only [Pt.U, Pt.locs, Pt.cells, Pt.slots] at X79 l79 y79 z79 st79 hQ79
    subst l79 y79 z79
    obtain ⟨rfl, N79q, e79⟩ := hQ79
    have N79 := Fr.app N78 N79q
    refine Go.step (st79) ?_
    show Go p e below _ T79 (mkF m 168 #[.val (.int i0), .val (.int i1), .val (.int i2), .val (.int i3), .val (.int (4 : Int32)), .val (.int aa0), .val (.int aa1), .val (.int aa2), .val (.int aa3), .val (.int aa4), .val (.int vv), .val (.ref ar), .unset, .unset] [(.int (own_ab 4 1 aa1 vv)), (.int (own_ab 4 0 aa0 vv))])
    refine Go.step (fun _ k => XS.iadd X79.here hx rfl (hb hby at_168) rfl k) ?_
    show Go p e below _ T79 (mkF m 169 #[.val (.int i0), .val (.int i1), .val (.int i2), .val (.int i3), .val (.int (4 : Int32)), .val (.int aa0), .val (.int aa1), .val (.int aa2), .val (.int aa3), .val (.int aa4), .val (.int vv), .val (.ref ar), .unset, .unset] [(.int ((own_ab 4 0 aa0 vv) + (own_ab 4 1 aa1 vv)))])
    refine Go.step (fun _ k => XS.iload X79.here hx rfl (hb hby at_169) rfl k) ?_
    show Go p e below _ T79 (mkF m 171 #[.val (.int i0), .val (.int i1), .val (.int i2), .val (.int i3), .val (.int (4 : Int32)), .val (.int aa0), .val (.int aa1), .val (.int aa2), .val (.int aa3), .val (.int aa4), .val (.int vv), .val (.ref ar), .unset, .unset] [(.int (4 : Int32)), (.int ((own_ab 4 0 aa0 vv) + (own_ab 4 1 aa1 vv)))])
    refine Go.step (fun _ k => XS.iconst X79.here hx rfl (hb hby at_171) k) ?_
    show Go p e below _ T79 (mkF m 172 #[.val (.int i0), .val (.int i1), .val (.int i2), .val (.int i3), .val (.int (4 : Int32)), .val (.int aa0), .val (.int aa1), .val (.int aa2), .val (.int aa3), .val (.int aa4), .val (.int vv), .val (.ref ar), .unset, .unset] [(.int (2 : Int32)), (.int (4 : Int32)), (.int ((own_ab 4 0 aa0 vv) + (own_ab 4 1 aa1 vv)))])
    refine Go.step (fun _ k => XS.iload X79.here hx rfl (hb hby at_172) rfl k) ?_
    show Go p e below _ T79 (mkF m 174 #[.val (.int i0), .val (.int i1), .val (.int i2), .val (.int i3), .val (.int (4 : Int32)), .val (.int aa0), .val (.int aa1), .val (.int aa2), .val (.int aa3), .val (.int aa4), .val (.int vv), .val (.ref ar), .unset, .unset] [(.int aa2), (.int (2 : Int32)), (.int (4 : Int32)), (.int ((own_ab 4 0 aa0 vv) + (own_ab 4 1 aa1 vv)))])
    refine Go.step (fun _ k => XS.iload X79.here hx rfl (hb hby at_174) rfl k) ?_
    show Go p e below _ T79 (mkF m 176 #[.val (.int i0), .val (.int i1), .val (.int i2), .val (.int i3), .val (.int (4 : Int32)), .val (.int aa0), .val (.int aa1), .val (.int aa2), .val (.int aa3), .val (.int aa4), .val (.int vv), .val (.ref ar), .unset, .unset] [(.int vv), (.int aa2), (.int (2 : Int32)), (.int (4 : Int32)), (.int ((own_ab 4 0 aa0 vv) + (own_ab 4 1 aa1 vv)))])
    obtain ⟨_, _, ⟨T80, L80, k80, n80⟩, -, X80, ⟨Lc80, hQ80, l80, y80, z80⟩, st80⟩ := Jvm.LawKit.callS X79 hx (y := (⟨"com/example/bidkeel/bidkeel/KnapsackCountUpToPinLaw", "atOrBelow", "(IIII)I"⟩ : MethodName)) hown (mvT hZ (hw _ (List.mem_of_getElem? (i := 2) rfl))) (mvT hZ (hw _ (List.mem_of_getElem? (i := 3) rfl))) (mvT hZ (hw _ (List.mem_of_getElem? (i := 4) rfl))) (mvT hZ (hw _ (List.mem_of_getElem? (i := 5) rfl))) (by decide) (backOf (W := 1) (rmA l Z a0 hw [] (4 : Int32) (2 : Int32) aa2 vv h77 n0 Zn) hZ (hw _ (List.mem_of_getElem? (i := 5) rfl)) (hw _ (List.mem_of_getElem? (i := 4) rfl)) (by decide) (by decide)) (g := (mkF m 176 #[.val (.int i0), .val (.int i1), .val (.int i2), .val (.int i3), .val (.int (4 : Int32)), .val (.int aa0), .val (.int aa1), .val (.int aa2), .val (.int aa3), .val (.int aa4), .val (.int vv), .val (.ref ar), .unset, .unset] [(.int vv), (.int aa2), (.int (2 : Int32)), (.int (4 : Int32)), (.int ((own_ab 4 0 aa0 vv) + (own_ab 4 1 aa1 vv)))])) rfl (by rw [hml]; rfl) (argsL := [(.int (4 : Int32)), (.int (2 : Int32)), (.int aa2), (.int vv)]) (rest := [(.int ((own_ab 4 0 aa0 vv) + (own_ab 4 1 aa1 vv)))]) (lenOf own_f42 rfl) rfl (by show 2 * 0 + _ ≤ _; exact Nat.le_of_eq rfl) (hb hby at_176) (fun _ _ => ⟨rfl, e79, (by dsimp only [Pt.cells, Pt.slots]; decide), (by dsimp only [Pt.cells, Pt.slots]; decide)⟩)
    dsimp only [Pt.U, Pt.locs, Pt.cells, Pt.slots] at X80 l80 y80 z80 st80 hQ80
    subst l80 y80 z80
    obtain ⟨rfl, N80q, e80⟩ := hQ80
    have N80 := Fr.app N79 N80q
    refine Go.step (st80) ?_
    show Go p e below _ T80 (mkF m 179 #[.val (.int i0), .val (.int i1), .val (.int i2), .val (.int i3), .val (.int (4 : Int32)), .val (.int aa0), .val (.int aa1), .val (.int aa2), .val (.int aa3), .val (.int aa4), .val (.int vv), .val (.ref ar), .unset, .unset] [(.int (own_ab 4 2 aa2 vv)), (.int ((own_ab 4 0 aa0 vv) + (own_ab 4 1 aa1 vv)))])
    refine Go.step (fun _ k => XS.iadd X80.here hx rfl (hb hby at_179) rfl k) ?_
    show Go p e below _ T80 (mkF m 180 #[.val (.int i0), .val (.int i1), .val (.int i2), .val (.int i3), .val (.int (4 : Int32)), .val (.int aa0), .val (.int aa1), .val (.int aa2), .val (.int aa3), .val (.int aa4), .val (.int vv), .val (.ref ar), .unset, .unset] [(.int (((own_ab 4 0 aa0 vv) + (own_ab 4 1 aa1 vv)) + (own_ab 4 2 aa2 vv)))])
    refine Go.step (fun _ k => XS.iload X80.here hx rfl (hb hby at_180) rfl k) ?_
    show Go p e below _ T80 (mkF m 182 #[.val (.int i0), .val (.int i1), .val (.int i2), .val (.int i3), .val (.int (4 : Int32)), .val (.int aa0), .val (.int aa1), .val (.int aa2), .val (.int aa3), .val (.int aa4), .val (.int vv), .val (.ref ar), .unset, .unset] [(.int (4 : Int32)), (.int (((own_ab 4 0 aa0 vv) + (own_ab 4 1 aa1 vv)) + (own_ab 4 2 aa2 vv)))])
    refine Go.step (fun _ k => XS.iconst X80.here hx rfl (hb hby at_182) k) ?_
    show Go p e below _ T80 (mkF m 183 #[.val (.int i0), .val (.int i1), .val (.int i2), .val (.int i3), .val (.int (4 : Int32)), .val (.int aa0), .val (.int aa1), .val (.int aa2), .val (.int aa3), .val (.int aa4), .val (.int vv), .val (.ref ar), .unset, .unset] [(.int (3 : Int32)), (.int (4 : Int32)), (.int (((own_ab 4 0 aa0 vv) + (own_ab 4 1 aa1 vv)) + (own_ab 4 2 aa2 vv)))])
    refine Go.step (fun _ k => XS.iload X80.here hx rfl (hb hby at_183) rfl k) ?_
    show Go p e below _ T80 (mkF m 185 #[.val (.int i0), .val (.int i1), .val (.int i2), .val (.int i3), .val (.int (4 : Int32)), .val (.int aa0), .val (.int aa1), .val (.int aa2), .val (.int aa3), .val (.int aa4), .val (.int vv), .val (.ref ar), .unset, .unset] [(.int aa3), (.int (3 : Int32)), (.int (4 : Int32)), (.int (((own_ab 4 0 aa0 vv) + (own_ab 4 1 aa1 vv)) + (own_ab 4 2 aa2 vv)))])
    refine Go.step (fun _ k => XS.iload X80.here hx rfl (hb hby at_185) rfl k) ?_
    show Go p e below _ T80 (mkF m 187 #[.val (.int i0), .val (.int i1), .val (.int i2), .val (.int i3), .val (.int (4 : Int32)), .val (.int aa0), .val (.int aa1), .val (.int aa2), .val (.int aa3), .val (.int aa4), .val (.int vv), .val (.ref ar), .unset, .unset] [(.int vv), (.int aa3), (.int (3 : Int32)), (.int (4 : Int32)), (.int (((own_ab 4 0 aa0 vv) + (own_ab 4 1 aa1 vv)) + (own_ab 4 2 aa2 vv)))])
    obtain ⟨_, _, ⟨T81, L81, k81, n81⟩, -, X81, ⟨Lc81, hQ81, l81, y81, z81⟩, st81⟩ := Jvm.LawKit.callS X80 hx (y := (⟨"com/example/bidkeel/bidkeel/KnapsackCountUpToPinLaw", "atOrBelow", "(IIII)I"⟩ : MethodName)) hown (mvT hZ (hw _ (List.mem_of_getElem? (i := 2) rfl))) (mvT hZ (hw _ (List.mem_of_getElem? (i := 3) rfl))) (mvT hZ (hw _ (List.mem_of_getElem? (i := 4) rfl))) (mvT hZ (hw _ (List.mem_of_getElem? (i := 5) rfl))) (by decide) (backOf (W := 1) (rmA l Z a0 hw [] (4 : Int32) (3 : Int32) aa3 vv h77 n0 Zn) hZ (hw _ (List.mem_of_getElem? (i := 5) rfl)) (hw _ (List.mem_of_getElem? (i := 4) rfl)) (by decide) (by decide)) (g := (mkF m 187 #[.val (.int i0), .val (.int i1), .val (.int i2), .val (.int i3), .val (.int (4 : Int32)), .val (.int aa0), .val (.int aa1), .val (.int aa2), .val (.int aa3), .val (.int aa4), .val (.int vv), .val (.ref ar), .unset, .unset] [(.int vv), (.int aa3), (.int (3 : Int32)), (.int (4 : Int32)), (.int (((own_ab 4 0 aa0 vv) + (own_ab 4 1 aa1 vv)) + (own_ab 4 2 aa2 vv)))])) rfl (by rw [hml]; rfl) (argsL := [(.int (4 : Int32)), (.int (3 : Int32)), (.int aa3), (.int vv)]) (rest := [(.int (((own_ab 4 0 aa0 vv) + (own_ab 4 1 aa1 vv)) + (own_ab 4 2 aa2 vv)))]) (lenOf own_f42 rfl) rfl (by show 2 * 0 + _ ≤ _; exact Nat.le_of_eq rfl) (hb hby at_187) (fun _ _ => ⟨rfl, e80, (by dsimp only [Pt.cells, Pt.slots]; decide), (by dsimp only [Pt.cells, Pt.slots]; decide)⟩)
    dsimp only [Pt.U, Pt.locs, Pt.cells, Pt.slots] at X81 l81 y81 z81 st81 hQ81
    subst l81 y81 z81
    obtain ⟨rfl, N81q, e81⟩ := hQ81
    have N81 := Fr.app N80 N81q
    refine Go.step (st81) ?_
    show Go p e below _ T81 (mkF m 190 #[.val (.int i0), .val (.int i1), .val (.int i2), .val (.int i3), .val (.int (4 : Int32)), .val (.int aa0), .val (.int aa1), .val (.int aa2), .val (.int aa3), .val (.int aa4), .val (.int vv), .val (.ref ar), .unset, .unset] [(.int (own_ab 4 3 aa3 vv)), (.int (((own_ab 4 0 aa0 vv) + (own_ab 4 1 aa1 vv)) + (own_ab 4 2 aa2 vv)))])
    refine Go.step (fun _ k => XS.iadd X81.here hx rfl (hb hby at_190) rfl k) ?_
    show Go p e below _ T81 (mkF m 191 #[.val (.int i0), .val (.int i1), .val (.int i2), .val (.int i3), .val (.int (4 : Int32)), .val (.int aa0), .val (.int aa1), .val (.int aa2), .val (.int aa3), .val (.int aa4), .val (.int vv), .val (.ref ar), .unset, .unset] [(.int ((((own_ab 4 0 aa0 vv) + (own_ab 4 1 aa1 vv)) + (own_ab 4 2 aa2 vv)) + (own_ab 4 3 aa3 vv)))])
    refine Go.step (fun _ k => XS.iload X81.here hx rfl (hb hby at_191) rfl k) ?_
    show Go p e below _ T81 (mkF m 193 #[.val (.int i0), .val (.int i1), .val (.int i2), .val (.int i3), .val (.int (4 : Int32)), .val (.int aa0), .val (.int aa1), .val (.int aa2), .val (.int aa3), .val (.int aa4), .val (.int vv), .val (.ref ar), .unset, .unset] [(.int (4 : Int32)), (.int ((((own_ab 4 0 aa0 vv) + (own_ab 4 1 aa1 vv)) + (own_ab 4 2 aa2 vv)) + (own_ab 4 3 aa3 vv)))])
    refine Go.step (fun _ k => XS.iconst X81.here hx rfl (hb hby at_193) k) ?_
    show Go p e below _ T81 (mkF m 194 #[.val (.int i0), .val (.int i1), .val (.int i2), .val (.int i3), .val (.int (4 : Int32)), .val (.int aa0), .val (.int aa1), .val (.int aa2), .val (.int aa3), .val (.int aa4), .val (.int vv), .val (.ref ar), .unset, .unset] [(.int (4 : Int32)), (.int (4 : Int32)), (.int ((((own_ab 4 0 aa0 vv) + (own_ab 4 1 aa1 vv)) + (own_ab 4 2 aa2 vv)) + (own_ab 4 3 aa3 vv)))])
    refine Go.step (fun _ k => XS.iload X81.here hx rfl (hb hby at_194) rfl k) ?_
    show Go p e below _ T81 (mkF m 196 #[.val (.int i0), .val (.int i1), .val (.int i2), .val (.int i3), .val (.int (4 : Int32)), .val (.int aa0), .val (.int aa1), .val (.int aa2), .val (.int aa3), .val (.int aa4), .val (.int vv), .val (.ref ar), .unset, .unset] [(.int aa4), (.int (4 : Int32)), (.int (4 : Int32)), (.int ((((own_ab 4 0 aa0 vv) + (own_ab 4 1 aa1 vv)) + (own_ab 4 2 aa2 vv)) + (own_ab 4 3 aa3 vv)))])
    refine Go.step (fun _ k => XS.iload X81.here hx rfl (hb hby at_196) rfl k) ?_
    show Go p e below _ T81 (mkF m 198 #[.val (.int i0), .val (.int i1), .val (.int i2), .val (.int i3), .val (.int (4 : Int32)), .val (.int aa0), .val (.int aa1), .val (.int aa2), .val (.int aa3), .val (.int aa4), .val (.int vv), .val (.ref ar), .unset, .unset] [(.int vv), (.int aa4), (.int (4 : Int32)), (.int (4 : Int32)), (.int ((((own_ab 4 0 aa0 vv) + (own_ab 4 1 aa1 vv)) + (own_ab 4 2 aa2 vv)) + (own_ab 4 3 aa3 vv)))])
    obtain ⟨_, _, ⟨T82, L82, k82, n82⟩, -, X82, ⟨Lc82, hQ82, l82, y82, z82⟩, st82⟩ := Jvm.LawKit.callS X81 hx (y := (⟨"com/example/bidkeel/bidkeel/KnapsackCountUpToPinLaw", "atOrBelow", "(IIII)I"⟩ : MethodName)) hown (mvT hZ (hw _ (List.mem_of_getElem? (i := 2) rfl))) (mvT hZ (hw _ (List.mem_of_getElem? (i := 3) rfl))) (mvT hZ (hw _ (List.mem_of_getElem? (i := 4) rfl))) (mvT hZ (hw _ (List.mem_of_getElem? (i := 5) rfl))) (by decide) (backOf (W := 1) (rmA l Z a0 hw [] (4 : Int32) (4 : Int32) aa4 vv h77 n0 Zn) hZ (hw _ (List.mem_of_getElem? (i := 5) rfl)) (hw _ (List.mem_of_getElem? (i := 4) rfl)) (by decide) (by decide)) (g := (mkF m 198 #[.val (.int i0), .val (.int i1), .val (.int i2), .val (.int i3), .val (.int (4 : Int32)), .val (.int aa0), .val (.int aa1), .val (.int aa2), .val (.int aa3), .val (.int aa4), .val (.int vv), .val (.ref ar), .unset, .unset] [(.int vv), (.int aa4), (.int (4 : Int32)), (.int (4 : Int32)), (.int ((((own_ab 4 0 aa0 vv) + (own_ab 4 1 aa1 vv)) + (own_ab 4 2 aa2 vv)) + (own_ab 4 3 aa3 vv)))])) rfl (by rw [hml]; rfl) (argsL := [(.int (4 : Int32)), (.int (4 : Int32)), (.int aa4), (.int vv)]) (rest := [(.int ((((own_ab 4 0 aa0 vv) + (own_ab 4 1 aa1 vv)) + (own_ab 4 2 aa2 vv)) + (own_ab 4 3 aa3 vv)))]) (lenOf own_f42 rfl) rfl (by show 2 * 0 + _ ≤ _; exact Nat.le_of_eq rfl) (hb hby at_198) (fun _ _ => ⟨rfl, e81, (by dsimp only [Pt.cells, Pt.slots]; decide), (by dsimp only [Pt.cells, Pt.slots]; decide)⟩)
    dsimp only [Pt.U, Pt.locs, Pt.cells, Pt.slots] at X82 l82 y82 z82 st82 hQ82
    subst l82 y82 z82
    obtain ⟨rfl, N82q, e82⟩ := hQ82
    have N82 := Fr.app N81 N82q
    refine Go.step (st82) ?_
    show Go p e below _ T82 (mkF m 201 #[.val (.int i0), .val (.int i1), .val (.int i2), .val (.int i3), .val (.int (4 : Int32)), .val (.int aa0), .val (.int aa1), .val (.int aa2), .val (.int aa3), .val (.int aa4), .val (.int vv), .val (.ref ar), .unset, .unset] [(.int (own_ab 4 4 aa4 vv)), (.int ((((own_ab 4 0 aa0 vv) + (own_ab 4 1 aa1 vv)) + (own_ab 4 2 aa2 vv)) + (own_ab 4 3 aa3 vv)))])
    refine Go.step (fun _ k => XS.iadd X82.here hx rfl (hb hby at_201) rfl k) ?_
    show Go p e below _ T82 (mkF m 202 #[.val (.int i0), .val (.int i1), .val (.int i2), .val (.int i3), .val (.int (4 : Int32)), .val (.int aa0), .val (.int aa1), .val (.int aa2), .val (.int aa3), .val (.int aa4), .val (.int vv), .val (.ref ar), .unset, .unset] [(.int (((((own_ab 4 0 aa0 vv) + (own_ab 4 1 aa1 vv)) + (own_ab 4 2 aa2 vv)) + (own_ab 4 3 aa3 vv)) + (own_ab 4 4 aa4 vv)))])
    refine Go.step (fun _ k => XS.istore X82.here hx rfl (hb hby at_202) rfl (l' := #[.val (.int i0), .val (.int i1), .val (.int i2), .val (.int i3), .val (.int (4 : Int32)), .val (.int aa0), .val (.int aa1), .val (.int aa2), .val (.int aa3), .val (.int aa4), .val (.int vv), .val (.ref ar), .val (.int (((((own_ab 4 0 aa0 vv) + (own_ab 4 1 aa1 vv)) + (own_ab 4 2 aa2 vv)) + (own_ab 4 3 aa3 vv)) + (own_ab 4 4 aa4 vv))), .unset]) rfl k) ?_
    show Go p e below _ T82 (mkF m 204 #[.val (.int i0), .val (.int i1), .val (.int i2), .val (.int i3), .val (.int (4 : Int32)), .val (.int aa0), .val (.int aa1), .val (.int aa2), .val (.int aa3), .val (.int aa4), .val (.int vv), .val (.ref ar), .val (.int (((((own_ab 4 0 aa0 vv) + (own_ab 4 1 aa1 vv)) + (own_ab 4 2 aa2 vv)) + (own_ab 4 3 aa3 vv)) + (own_ab 4 4 aa4 vv))), .unset] [])
    refine Go.step (fun _ k => XS.aload X82.here hx rfl (hb hby at_204) rfl rfl k) ?_
    show Go p e below _ T82 (mkF m 206 #[.val (.int i0), .val (.int i1), .val (.int i2), .val (.int i3), .val (.int (4 : Int32)), .val (.int aa0), .val (.int aa1), .val (.int aa2), .val (.int aa3), .val (.int aa4), .val (.int vv), .val (.ref ar), .val (.int (((((own_ab 4 0 aa0 vv) + (own_ab 4 1 aa1 vv)) + (own_ab 4 2 aa2 vv)) + (own_ab 4 3 aa3 vv)) + (own_ab 4 4 aa4 vv))), .unset] [(.ref ar)])
    refine Go.step (fun _ k => XS.iload X82.here hx rfl (hb hby at_206) rfl k) ?_
    show Go p e below _ T82 (mkF m 208 #[.val (.int i0), .val (.int i1), .val (.int i2), .val (.int i3), .val (.int (4 : Int32)), .val (.int aa0), .val (.int aa1), .val (.int aa2), .val (.int aa3), .val (.int aa4), .val (.int vv), .val (.ref ar), .val (.int (((((own_ab 4 0 aa0 vv) + (own_ab 4 1 aa1 vv)) + (own_ab 4 2 aa2 vv)) + (own_ab 4 3 aa3 vv)) + (own_ab 4 4 aa4 vv))), .unset] [(.int vv), (.ref ar)])
    refine Go.step (fun _ k => XS.i2dS X82.here hx rfl (hb hby at_208) rfl rfl k) ?_
    show Go p e below _ T82 (mkF m 209 #[.val (.int i0), .val (.int i1), .val (.int i2), .val (.int i3), .val (.int (4 : Int32)), .val (.int aa0), .val (.int aa1), .val (.int aa2), .val (.int aa3), .val (.int aa4), .val (.int vv), .val (.ref ar), .val (.int (((((own_ab 4 0 aa0 vv) + (own_ab 4 1 aa1 vv)) + (own_ab 4 2 aa2 vv)) + (own_ab 4 3 aa3 vv)) + (own_ab 4 4 aa4 vv))), .unset] [(.double (FP.i2d vv)), (.ref ar)])
    obtain ⟨_, _, ⟨T83, L83, k83, n83⟩, -, X83, ⟨Lc83, hQ83, l83, y83, z83⟩, st83⟩ := Jvm.LawKit.callS X82 hx (y := (⟨"com/example/bidkeel/bidkeel/Knapsack", "countUpTo", "([DD)I"⟩ : MethodName)) hown (mvT hZ (hw _ (List.mem_of_getElem? (i := 6) rfl))) (mvT hZ (hw _ (List.mem_of_getElem? (i := 7) rfl))) (mvT hZ (hw _ (List.mem_of_getElem? (i := 8) rfl))) (mvT hZ (hw _ (List.mem_of_getElem? (i := 9) rfl))) (by decide) (backOf (W := 0) (rmK4 l Z a0 hw [] ar (FP.i2d vv) k73 vv aa0 aa1 aa2 aa3 h77 n0 Zn V_ar rfl) hZ (hw _ (List.mem_of_getElem? (i := 9) rfl)) (hw _ (List.mem_of_getElem? (i := 8) rfl)) (by decide) (by decide)) (g := (mkF m 209 #[.val (.int i0), .val (.int i1), .val (.int i2), .val (.int i3), .val (.int (4 : Int32)), .val (.int aa0), .val (.int aa1), .val (.int aa2), .val (.int aa3), .val (.int aa4), .val (.int vv), .val (.ref ar), .val (.int (((((own_ab 4 0 aa0 vv) + (own_ab 4 1 aa1 vv)) + (own_ab 4 2 aa2 vv)) + (own_ab 4 3 aa3 vv)) + (own_ab 4 4 aa4 vv))), .unset] [(.double (FP.i2d vv)), (.ref ar)])) rfl (by rw [hml]; rfl) (argsL := [(.ref ar), (.double (FP.i2d vv))]) (rest := []) (lenOf own_f43 rfl) rfl (by show 2 * 0 + _ ≤ _; exact Nat.le_of_eq rfl) (hb hby at_209) (fun _ _ => ⟨rfl, e82, (by dsimp only [Pt.cells, Pt.slots]; decide), (by dsimp only [Pt.cells, Pt.slots]; decide)⟩)
    dsimp only [Pt.U, Pt.locs, Pt.cells, Pt.slots] at X83 l83 y83 z83 st83 hQ83
    subst l83 y83 z83
    obtain ⟨rfl, N83q, e83⟩ := hQ83
    have N83 := Fr.app N82 N83q
    refine Go.step (st83) ?_
    show Go p e below _ T83 (mkF m 212 #[.val (.int i0), .val (.int i1), .val (.int i2), .val (.int i3), .val (.int (4 : Int32)), .val (.int aa0), .val (.int aa1), .val (.int aa2), .val (.int aa3), .val (.int aa4), .val (.int vv), .val (.ref ar), .val (.int (((((own_ab 4 0 aa0 vv) + (own_ab 4 1 aa1 vv)) + (own_ab 4 2 aa2 vv)) + (own_ab 4 3 aa3 vv)) + (own_ab 4 4 aa4 vv))), .unset] [(.int (own_c4 aa0 aa1 aa2 aa3 vv))])
    refine Go.step (fun _ k => XS.istore X83.here hx rfl (hb hby at_212) rfl (l' := #[.val (.int i0), .val (.int i1), .val (.int i2), .val (.int i3), .val (.int (4 : Int32)), .val (.int aa0), .val (.int aa1), .val (.int aa2), .val (.int aa3), .val (.int aa4), .val (.int vv), .val (.ref ar), .val (.int (((((own_ab 4 0 aa0 vv) + (own_ab 4 1 aa1 vv)) + (own_ab 4 2 aa2 vv)) + (own_ab 4 3 aa3 vv)) + (own_ab 4 4 aa4 vv))), .val (.int (own_c4 aa0 aa1 aa2 aa3 vv))]) rfl k) ?_
    show Go p e below _ T83 (mkF m 214 #[.val (.int i0), .val (.int i1), .val (.int i2), .val (.int i3), .val (.int (4 : Int32)), .val (.int aa0), .val (.int aa1), .val (.int aa2), .val (.int aa3), .val (.int aa4), .val (.int vv), .val (.ref ar), .val (.int (((((own_ab 4 0 aa0 vv) + (own_ab 4 1 aa1 vv)) + (own_ab 4 2 aa2 vv)) + (own_ab 4 3 aa3 vv)) + (own_ab 4 4 aa4 vv))), .val (.int (own_c4 aa0 aa1 aa2 aa3 vv))] [])
    refine Go.step (fun _ k => XS.iload X83.here hx rfl (hb hby at_214) rfl k) ?_
    show Go p e below _ T83 (mkF m 216 #[.val (.int i0), .val (.int i1), .val (.int i2), .val (.int i3), .val (.int (4 : Int32)), .val (.int aa0), .val (.int aa1), .val (.int aa2), .val (.int aa3), .val (.int aa4), .val (.int vv), .val (.ref ar), .val (.int (((((own_ab 4 0 aa0 vv) + (own_ab 4 1 aa1 vv)) + (own_ab 4 2 aa2 vv)) + (own_ab 4 3 aa3 vv)) + (own_ab 4 4 aa4 vv))), .val (.int (own_c4 aa0 aa1 aa2 aa3 vv))] [(.int (own_c4 aa0 aa1 aa2 aa3 vv))])
    refine Go.step (fun _ k => XS.iload X83.here hx rfl (hb hby at_216) rfl k) ?_
    show Go p e below _ T83 (mkF m 218 #[.val (.int i0), .val (.int i1), .val (.int i2), .val (.int i3), .val (.int (4 : Int32)), .val (.int aa0), .val (.int aa1), .val (.int aa2), .val (.int aa3), .val (.int aa4), .val (.int vv), .val (.ref ar), .val (.int (((((own_ab 4 0 aa0 vv) + (own_ab 4 1 aa1 vv)) + (own_ab 4 2 aa2 vv)) + (own_ab 4 3 aa3 vv)) + (own_ab 4 4 aa4 vv))), .val (.int (own_c4 aa0 aa1 aa2 aa3 vv))] [(.int (((((own_ab 4 0 aa0 vv) + (own_ab 4 1 aa1 vv)) + (own_ab 4 2 aa2 vv)) + (own_ab 4 3 aa3 vv)) + (own_ab 4 4 aa4 vv))), (.int (own_c4 aa0 aa1 aa2 aa3 vv))])
    refine Go.step (fun _ k => XS.icmpNo X83.here hx rfl (hb hby at_218) rfl (teq (own_s4 aa0 aa1 aa2 aa3 aa4 vv hs.1 hs.2.1 hs.2.2.1)).2 k) ?_
    show Go p e below _ T83 (mkF m 221 #[.val (.int i0), .val (.int i1), .val (.int i2), .val (.int i3), .val (.int (4 : Int32)), .val (.int aa0), .val (.int aa1), .val (.int aa2), .val (.int aa3), .val (.int aa4), .val (.int vv), .val (.ref ar), .val (.int (((((own_ab 4 0 aa0 vv) + (own_ab 4 1 aa1 vv)) + (own_ab 4 2 aa2 vv)) + (own_ab 4 3 aa3 vv)) + (own_ab 4 4 aa4 vv))), .val (.int (own_c4 aa0 aa1 aa2 aa3 vv))] [])
    refine Go.step (fun _ k => XS.iconst X83.here hx rfl (hb hby at_221) k) ?_
    show Go p e below _ T83 (mkF m 222 #[.val (.int i0), .val (.int i1), .val (.int i2), .val (.int i3), .val (.int (4 : Int32)), .val (.int aa0), .val (.int aa1), .val (.int aa2), .val (.int aa3), .val (.int aa4), .val (.int vv), .val (.ref ar), .val (.int (((((own_ab 4 0 aa0 vv) + (own_ab 4 1 aa1 vv)) + (own_ab 4 2 aa2 vv)) + (own_ab 4 3 aa3 vv)) + (own_ab 4 4 aa4 vv))), .val (.int (own_c4 aa0 aa1 aa2 aa3 vv))] [(.int (1 : Int32))])
    refine Go.step (fun _ k => XS.goto X83.here hx rfl (pc0 := 222) (pc' := 226) rfl (hb hby at_222) (by decide) (by decide) k) ?_
    show Go p e below _ T83 (mkF m 226 #[.val (.int i0), .val (.int i1), .val (.int i2), .val (.int i3), .val (.int (4 : Int32)), .val (.int aa0), .val (.int aa1), .val (.int aa2), .val (.int aa3), .val (.int aa4), .val (.int vv), .val (.ref ar), .val (.int (((((own_ab 4 0 aa0 vv) + (own_ab 4 1 aa1 vv)) + (own_ab 4 2 aa2 vv)) + (own_ab 4 3 aa3 vv)) + (own_ab 4 4 aa4 vv))), .val (.int (own_c4 aa0 aa1 aa2 aa3 vv))] [(.int (1 : Int32))])
    obtain ⟨fs, hr, hrun, hended, hW, hsame⟩ := X83.leave (v := some (.int (1 : Int32))) (fun h => by rw [Bd.returns] at h; cases h)
    refine Go.fin (retN X83 hx (t := .boolean) Bd.returns (by simp) (hb hby at_226) hr) hrun hended ?_
    refine ⟨_, _, rfl, ?_, ⟨_, rfl⟩, hW, hsame.mono (by decide) (by decide)⟩
    show Q0 Z i0 i1 i2 i3 h0 n0 _ T83.heap _
    rw [e83]
    exact ⟨rfl, N83⟩
  · show Go p e below _ s₁ (mkF m 80 #[.val (.int i0), .val (.int i1), .val (.int i2), .val (.int i3), .val (.int (5 : Int32)), .val (.int aa0), .val (.int aa1), .val (.int aa2), .val (.int aa3), .val (.int aa4), .val (.int vv), .unset, .unset, .unset] [(.int (5 : Int32))])
    obtain ⟨T84, h84, k84, X84, e84, E84, A84, st84⟩ := newP X0 hx hZ (hw _ (List.mem_of_getElem? (i := 1) rfl)) e0 (g := (mkF m 80 #[.val (.int i0), .val (.int i1), .val (.int i2), .val (.int i3), .val (.int (5 : Int32)), .val (.int aa0), .val (.int aa1), .val (.int aa2), .val (.int aa3), .val (.int aa4), .val (.int vv), .unset, .unset, .unset] [(.int (5 : Int32))])) rfl (hb hby at_80) rfl (by decide) (cap := 5) (by decide) (by decide) (by decide) (by decide)
    obtain ⟨ar, g84⟩ : ∃ z, z = h0.size := ⟨_, rfl⟩
    rw [← g84] at A84 st84
    have g_ar : n0 ≤ ar := Nat.le_trans Zn (Nat.le_of_eq g84.symm)
    have sz_ar : h0.size ≤ ar := Nat.le_trans K0.1 (Nat.le_of_eq g84.symm)
    replace Zn := Nat.le_trans Zn E84.1
    replace K0 := K0.ext E84
    have V_ar : Arv Z h84 ar k84 .double (5 : Int32) [(.double (FP.l2d 0)), (.double (FP.l2d 0)), (.double (FP.l2d 0)), (.double (FP.l2d 0)), (.double (FP.l2d 0))] (.double (FP.l2d 0)) := (Arv.newD A84 (by decide)).pad (pad_rep [] (.double (FP.l2d 0)) 5)
    refine Go.step st84 ?_
    show Go p e below _ T84 (mkF m 82 #[.val (.int i0), .val (.int i1), .val (.int i2), .val (.int i3), .val (.int (5 : Int32)), .val (.int aa0), .val (.int aa1), .val (.int aa2), .val (.int aa3), .val (.int aa4), .val (.int vv), .unset, .unset, .unset] [(.ref ar)])
    refine Go.step (fun _ k => XS.astore X84.here hx rfl (hb hby at_82) rfl rfl (l' := #[.val (.int i0), .val (.int i1), .val (.int i2), .val (.int i3), .val (.int (5 : Int32)), .val (.int aa0), .val (.int aa1), .val (.int aa2), .val (.int aa3), .val (.int aa4), .val (.int vv), .val (.ref ar), .unset, .unset]) rfl k) ?_
    show Go p e below _ T84 (mkF m 84 #[.val (.int i0), .val (.int i1), .val (.int i2), .val (.int i3), .val (.int (5 : Int32)), .val (.int aa0), .val (.int aa1), .val (.int aa2), .val (.int aa3), .val (.int aa4), .val (.int vv), .val (.ref ar), .unset, .unset] [])
    refine Go.step (fun _ k => XS.iload X84.here hx rfl (hb hby at_84) rfl k) ?_
    show Go p e below _ T84 (mkF m 86 #[.val (.int i0), .val (.int i1), .val (.int i2), .val (.int i3), .val (.int (5 : Int32)), .val (.int aa0), .val (.int aa1), .val (.int aa2), .val (.int aa3), .val (.int aa4), .val (.int vv), .val (.ref ar), .unset, .unset] [(.int (5 : Int32))])
    refine Go.step (fun _ k => XS.ifNo X84.here hx rfl (hb hby at_86) rfl ((if0 _ _).trans (tlt (by decide)).2.2.2) k) ?_
    show Go p e below _ T84 (mkF m 89 #[.val (.int i0), .val (.int i1), .val (.int i2), .val (.int i3), .val (.int (5 : Int32)), .val (.int aa0), .val (.int aa1), .val (.int aa2), .val (.int aa3), .val (.int aa4), .val (.int vv), .val (.ref ar), .unset, .unset] [])
    refine Go.step (fun _ k => XS.aload X84.here hx rfl (hb hby at_89) rfl rfl k) ?_
    show Go p e below _ T84 (mkF m 91 #[.val (.int i0), .val (.int i1), .val (.int i2), .val (.int i3), .val (.int (5 : Int32)), .val (.int aa0), .val (.int aa1), .val (.int aa2), .val (.int aa3), .val (.int aa4), .val (.int vv), .val (.ref ar), .unset, .unset] [(.ref ar)])
    refine Go.step (fun _ k => XS.iconst X84.here hx rfl (hb hby at_91) k) ?_
    show Go p e below _ T84 (mkF m 92 #[.val (.int i0), .val (.int i1), .val (.int i2), .val (.int i3), .val (.int (5 : Int32)), .val (.int aa0), .val (.int aa1), .val (.int aa2), .val (.int aa3), .val (.int aa4), .val (.int vv), .val (.ref ar), .unset, .unset] [(.int (0 : Int32)), (.ref ar)])
    refine Go.step (fun _ k => XS.iload X84.here hx rfl (hb hby at_92) rfl k) ?_
    show Go p e below _ T84 (mkF m 94 #[.val (.int i0), .val (.int i1), .val (.int i2), .val (.int i3), .val (.int (5 : Int32)), .val (.int aa0), .val (.int aa1), .val (.int aa2), .val (.int aa3), .val (.int aa4), .val (.int vv), .val (.ref ar), .unset, .unset] [(.int aa0), (.int (0 : Int32)), (.ref ar)])
    refine Go.step (fun _ k => XS.i2dS X84.here hx rfl (hb hby at_94) rfl rfl k) ?_
    show Go p e below _ T84 (mkF m 95 #[.val (.int i0), .val (.int i1), .val (.int i2), .val (.int i3), .val (.int (5 : Int32)), .val (.int aa0), .val (.int aa1), .val (.int aa2), .val (.int aa3), .val (.int aa4), .val (.int vv), .val (.ref ar), .unset, .unset] [(.double (FP.i2d aa0)), (.int (0 : Int32)), (.ref ar)])
    obtain ⟨cl85, Ar85, q85, S85, Nn85, H85, G85⟩ := V_ar
    have hin85 : ¬ ((0 : Int32) < 0 ∨ cl85.slots.size ≤ ((0 : Int32)).toNatClampNeg) := inb_of S85 ⟨by decide, by decide⟩
    obtain ⟨T85, h85, X85, e85, W85, st85⟩ := stD X84 hx hZ e84 Ar85 (j := (0 : Int32)) hin85 (g := (mkF m 95 #[.val (.int i0), .val (.int i1), .val (.int i2), .val (.int i3), .val (.int (5 : Int32)), .val (.int aa0), .val (.int aa1), .val (.int aa2), .val (.int aa3), .val (.int aa4), .val (.int vv), .val (.ref ar), .unset, .unset] [(.double (FP.i2d aa0)), (.int (0 : Int32)), (.ref ar)])) rfl rfl (hb hby at_95)
    have Vw85 : Arv Z h85 ar k84 .double (5 : Int32) [(.double (FP.i2d aa0)), (.double (FP.l2d 0)), (.double (FP.l2d 0)), (.double (FP.l2d 0)), (.double (FP.l2d 0))] (.double (FP.l2d 0)) := Arv.set Ar85 q85 S85 Nn85 H85 G85 rfl W85 0 rfl (Nat.le_of_ble_eq_true rfl)
    have V_ar := Vw85
    replace K0 := K0.wr W85 (Or.inr sz_ar)
    replace Zn := Nat.le_trans Zn (Nat.le_of_eq W85.size.symm)
    have N85 := Fr.snoc X85 N0 g_ar
    refine Go.step st85 ?_
    show Go p e below _ T85 (mkF m 96 #[.val (.int i0), .val (.int i1), .val (.int i2), .val (.int i3), .val (.int (5 : Int32)), .val (.int aa0), .val (.int aa1), .val (.int aa2), .val (.int aa3), .val (.int aa4), .val (.int vv), .val (.ref ar), .unset, .unset] [])
    refine Go.step (fun _ k => XS.iload X85.here hx rfl (hb hby at_96) rfl k) ?_
    show Go p e below _ T85 (mkF m 98 #[.val (.int i0), .val (.int i1), .val (.int i2), .val (.int i3), .val (.int (5 : Int32)), .val (.int aa0), .val (.int aa1), .val (.int aa2), .val (.int aa3), .val (.int aa4), .val (.int vv), .val (.ref ar), .unset, .unset] [(.int (5 : Int32))])
    refine Go.step (fun _ k => XS.iconst X85.here hx rfl (hb hby at_98) k) ?_
    show Go p e below _ T85 (mkF m 99 #[.val (.int i0), .val (.int i1), .val (.int i2), .val (.int i3), .val (.int (5 : Int32)), .val (.int aa0), .val (.int aa1), .val (.int aa2), .val (.int aa3), .val (.int aa4), .val (.int vv), .val (.ref ar), .unset, .unset] [(.int (1 : Int32)), (.int (5 : Int32))])
    refine Go.step (fun _ k => XS.icmpNo X85.here hx rfl (hb hby at_99) rfl (tlt (by decide)).2.2.2 k) ?_
    show Go p e below _ T85 (mkF m 102 #[.val (.int i0), .val (.int i1), .val (.int i2), .val (.int i3), .val (.int (5 : Int32)), .val (.int aa0), .val (.int aa1), .val (.int aa2), .val (.int aa3), .val (.int aa4), .val (.int vv), .val (.ref ar), .unset, .unset] [])
    refine Go.step (fun _ k => XS.aload X85.here hx rfl (hb hby at_102) rfl rfl k) ?_
    show Go p e below _ T85 (mkF m 104 #[.val (.int i0), .val (.int i1), .val (.int i2), .val (.int i3), .val (.int (5 : Int32)), .val (.int aa0), .val (.int aa1), .val (.int aa2), .val (.int aa3), .val (.int aa4), .val (.int vv), .val (.ref ar), .unset, .unset] [(.ref ar)])
    refine Go.step (fun _ k => XS.iconst X85.here hx rfl (hb hby at_104) k) ?_
    show Go p e below _ T85 (mkF m 105 #[.val (.int i0), .val (.int i1), .val (.int i2), .val (.int i3), .val (.int (5 : Int32)), .val (.int aa0), .val (.int aa1), .val (.int aa2), .val (.int aa3), .val (.int aa4), .val (.int vv), .val (.ref ar), .unset, .unset] [(.int (1 : Int32)), (.ref ar)])
    refine Go.step (fun _ k => XS.iload X85.here hx rfl (hb hby at_105) rfl k) ?_
    show Go p e below _ T85 (mkF m 107 #[.val (.int i0), .val (.int i1), .val (.int i2), .val (.int i3), .val (.int (5 : Int32)), .val (.int aa0), .val (.int aa1), .val (.int aa2), .val (.int aa3), .val (.int aa4), .val (.int vv), .val (.ref ar), .unset, .unset] [(.int aa1), (.int (1 : Int32)), (.ref ar)])
    refine Go.step (fun _ k => XS.i2dS X85.here hx rfl (hb hby at_107) rfl rfl k) ?_
    show Go p e below _ T85 (mkF m 108 #[.val (.int i0), .val (.int i1), .val (.int i2), .val (.int i3), .val (.int (5 : Int32)), .val (.int aa0), .val (.int aa1), .val (.int aa2), .val (.int aa3), .val (.int aa4), .val (.int vv), .val (.ref ar), .unset, .unset] [(.double (FP.i2d aa1)), (.int (1 : Int32)), (.ref ar)])
    obtain ⟨cl86, Ar86, q86, S86, Nn86, H86, G86⟩ := V_ar
    have hin86 : ¬ ((1 : Int32) < 0 ∨ cl86.slots.size ≤ ((1 : Int32)).toNatClampNeg) := inb_of S86 ⟨by decide, by decide⟩
    obtain ⟨T86, h86, X86, e86, W86, st86⟩ := stD X85 hx hZ e85 Ar86 (j := (1 : Int32)) hin86 (g := (mkF m 108 #[.val (.int i0), .val (.int i1), .val (.int i2), .val (.int i3), .val (.int (5 : Int32)), .val (.int aa0), .val (.int aa1), .val (.int aa2), .val (.int aa3), .val (.int aa4), .val (.int vv), .val (.ref ar), .unset, .unset] [(.double (FP.i2d aa1)), (.int (1 : Int32)), (.ref ar)])) rfl rfl (hb hby at_108)
    have Vw86 : Arv Z h86 ar k84 .double (5 : Int32) [(.double (FP.i2d aa0)), (.double (FP.i2d aa1)), (.double (FP.l2d 0)), (.double (FP.l2d 0)), (.double (FP.l2d 0))] (.double (FP.l2d 0)) := Arv.set Ar86 q86 S86 Nn86 H86 G86 rfl W86 1 rfl (Nat.le_of_ble_eq_true rfl)
    have V_ar := Vw86
    replace K0 := K0.wr W86 (Or.inr sz_ar)
    replace Zn := Nat.le_trans Zn (Nat.le_of_eq W86.size.symm)
    have N86 := Fr.snoc X86 N85 g_ar
    refine Go.step st86 ?_
    show Go p e below _ T86 (mkF m 109 #[.val (.int i0), .val (.int i1), .val (.int i2), .val (.int i3), .val (.int (5 : Int32)), .val (.int aa0), .val (.int aa1), .val (.int aa2), .val (.int aa3), .val (.int aa4), .val (.int vv), .val (.ref ar), .unset, .unset] [])
    refine Go.step (fun _ k => XS.iload X86.here hx rfl (hb hby at_109) rfl k) ?_
    show Go p e below _ T86 (mkF m 111 #[.val (.int i0), .val (.int i1), .val (.int i2), .val (.int i3), .val (.int (5 : Int32)), .val (.int aa0), .val (.int aa1), .val (.int aa2), .val (.int aa3), .val (.int aa4), .val (.int vv), .val (.ref ar), .unset, .unset] [(.int (5 : Int32))])
    refine Go.step (fun _ k => XS.iconst X86.here hx rfl (hb hby at_111) k) ?_
    show Go p e below _ T86 (mkF m 112 #[.val (.int i0), .val (.int i1), .val (.int i2), .val (.int i3), .val (.int (5 : Int32)), .val (.int aa0), .val (.int aa1), .val (.int aa2), .val (.int aa3), .val (.int aa4), .val (.int vv), .val (.ref ar), .unset, .unset] [(.int (2 : Int32)), (.int (5 : Int32))])
    refine Go.step (fun _ k => XS.icmpNo X86.here hx rfl (hb hby at_112) rfl (tlt (by decide)).2.2.2 k) ?_
    show Go p e below _ T86 (mkF m 115 #[.val (.int i0), .val (.int i1), .val (.int i2), .val (.int i3), .val (.int (5 : Int32)), .val (.int aa0), .val (.int aa1), .val (.int aa2), .val (.int aa3), .val (.int aa4), .val (.int vv), .val (.ref ar), .unset, .unset] [])
    refine Go.step (fun _ k => XS.aload X86.here hx rfl (hb hby at_115) rfl rfl k) ?_
    show Go p e below _ T86 (mkF m 117 #[.val (.int i0), .val (.int i1), .val (.int i2), .val (.int i3), .val (.int (5 : Int32)), .val (.int aa0), .val (.int aa1), .val (.int aa2), .val (.int aa3), .val (.int aa4), .val (.int vv), .val (.ref ar), .unset, .unset] [(.ref ar)])
    refine Go.step (fun _ k => XS.iconst X86.here hx rfl (hb hby at_117) k) ?_
    show Go p e below _ T86 (mkF m 118 #[.val (.int i0), .val (.int i1), .val (.int i2), .val (.int i3), .val (.int (5 : Int32)), .val (.int aa0), .val (.int aa1), .val (.int aa2), .val (.int aa3), .val (.int aa4), .val (.int vv), .val (.ref ar), .unset, .unset] [(.int (2 : Int32)), (.ref ar)])
    refine Go.step (fun _ k => XS.iload X86.here hx rfl (hb hby at_118) rfl k) ?_
    show Go p e below _ T86 (mkF m 120 #[.val (.int i0), .val (.int i1), .val (.int i2), .val (.int i3), .val (.int (5 : Int32)), .val (.int aa0), .val (.int aa1), .val (.int aa2), .val (.int aa3), .val (.int aa4), .val (.int vv), .val (.ref ar), .unset, .unset] [(.int aa2), (.int (2 : Int32)), (.ref ar)])
    refine Go.step (fun _ k => XS.i2dS X86.here hx rfl (hb hby at_120) rfl rfl k) ?_
    show Go p e below _ T86 (mkF m 121 #[.val (.int i0), .val (.int i1), .val (.int i2), .val (.int i3), .val (.int (5 : Int32)), .val (.int aa0), .val (.int aa1), .val (.int aa2), .val (.int aa3), .val (.int aa4), .val (.int vv), .val (.ref ar), .unset, .unset] [(.double (FP.i2d aa2)), (.int (2 : Int32)), (.ref ar)])
    obtain ⟨cl87, Ar87, q87, S87, Nn87, H87, G87⟩ := V_ar
    have hin87 : ¬ ((2 : Int32) < 0 ∨ cl87.slots.size ≤ ((2 : Int32)).toNatClampNeg) := inb_of S87 ⟨by decide, by decide⟩
    obtain ⟨T87, h87, X87, e87, W87, st87⟩ := stD X86 hx hZ e86 Ar87 (j := (2 : Int32)) hin87 (g := (mkF m 121 #[.val (.int i0), .val (.int i1), .val (.int i2), .val (.int i3), .val (.int (5 : Int32)), .val (.int aa0), .val (.int aa1), .val (.int aa2), .val (.int aa3), .val (.int aa4), .val (.int vv), .val (.ref ar), .unset, .unset] [(.double (FP.i2d aa2)), (.int (2 : Int32)), (.ref ar)])) rfl rfl (hb hby at_121)
    have Vw87 : Arv Z h87 ar k84 .double (5 : Int32) [(.double (FP.i2d aa0)), (.double (FP.i2d aa1)), (.double (FP.i2d aa2)), (.double (FP.l2d 0)), (.double (FP.l2d 0))] (.double (FP.l2d 0)) := Arv.set Ar87 q87 S87 Nn87 H87 G87 rfl W87 2 rfl (Nat.le_of_ble_eq_true rfl)
    have V_ar := Vw87
    replace K0 := K0.wr W87 (Or.inr sz_ar)
    replace Zn := Nat.le_trans Zn (Nat.le_of_eq W87.size.symm)
    have N87 := Fr.snoc X87 N86 g_ar
    refine Go.step st87 ?_
    show Go p e below _ T87 (mkF m 122 #[.val (.int i0), .val (.int i1), .val (.int i2), .val (.int i3), .val (.int (5 : Int32)), .val (.int aa0), .val (.int aa1), .val (.int aa2), .val (.int aa3), .val (.int aa4), .val (.int vv), .val (.ref ar), .unset, .unset] [])
    refine Go.step (fun _ k => XS.iload X87.here hx rfl (hb hby at_122) rfl k) ?_
    show Go p e below _ T87 (mkF m 124 #[.val (.int i0), .val (.int i1), .val (.int i2), .val (.int i3), .val (.int (5 : Int32)), .val (.int aa0), .val (.int aa1), .val (.int aa2), .val (.int aa3), .val (.int aa4), .val (.int vv), .val (.ref ar), .unset, .unset] [(.int (5 : Int32))])
    refine Go.step (fun _ k => XS.iconst X87.here hx rfl (hb hby at_124) k) ?_
    show Go p e below _ T87 (mkF m 125 #[.val (.int i0), .val (.int i1), .val (.int i2), .val (.int i3), .val (.int (5 : Int32)), .val (.int aa0), .val (.int aa1), .val (.int aa2), .val (.int aa3), .val (.int aa4), .val (.int vv), .val (.ref ar), .unset, .unset] [(.int (3 : Int32)), (.int (5 : Int32))])
    refine Go.step (fun _ k => XS.icmpNo X87.here hx rfl (hb hby at_125) rfl (tlt (by decide)).2.2.2 k) ?_
    show Go p e below _ T87 (mkF m 128 #[.val (.int i0), .val (.int i1), .val (.int i2), .val (.int i3), .val (.int (5 : Int32)), .val (.int aa0), .val (.int aa1), .val (.int aa2), .val (.int aa3), .val (.int aa4), .val (.int vv), .val (.ref ar), .unset, .unset] [])
    refine Go.step (fun _ k => XS.aload X87.here hx rfl (hb hby at_128) rfl rfl k) ?_
    show Go p e below _ T87 (mkF m 130 #[.val (.int i0), .val (.int i1), .val (.int i2), .val (.int i3), .val (.int (5 : Int32)), .val (.int aa0), .val (.int aa1), .val (.int aa2), .val (.int aa3), .val (.int aa4), .val (.int vv), .val (.ref ar), .unset, .unset] [(.ref ar)])
    refine Go.step (fun _ k => XS.iconst X87.here hx rfl (hb hby at_130) k) ?_
    show Go p e below _ T87 (mkF m 131 #[.val (.int i0), .val (.int i1), .val (.int i2), .val (.int i3), .val (.int (5 : Int32)), .val (.int aa0), .val (.int aa1), .val (.int aa2), .val (.int aa3), .val (.int aa4), .val (.int vv), .val (.ref ar), .unset, .unset] [(.int (3 : Int32)), (.ref ar)])
    refine Go.step (fun _ k => XS.iload X87.here hx rfl (hb hby at_131) rfl k) ?_
    show Go p e below _ T87 (mkF m 133 #[.val (.int i0), .val (.int i1), .val (.int i2), .val (.int i3), .val (.int (5 : Int32)), .val (.int aa0), .val (.int aa1), .val (.int aa2), .val (.int aa3), .val (.int aa4), .val (.int vv), .val (.ref ar), .unset, .unset] [(.int aa3), (.int (3 : Int32)), (.ref ar)])
    refine Go.step (fun _ k => XS.i2dS X87.here hx rfl (hb hby at_133) rfl rfl k) ?_
    show Go p e below _ T87 (mkF m 134 #[.val (.int i0), .val (.int i1), .val (.int i2), .val (.int i3), .val (.int (5 : Int32)), .val (.int aa0), .val (.int aa1), .val (.int aa2), .val (.int aa3), .val (.int aa4), .val (.int vv), .val (.ref ar), .unset, .unset] [(.double (FP.i2d aa3)), (.int (3 : Int32)), (.ref ar)])
    obtain ⟨cl88, Ar88, q88, S88, Nn88, H88, G88⟩ := V_ar
    have hin88 : ¬ ((3 : Int32) < 0 ∨ cl88.slots.size ≤ ((3 : Int32)).toNatClampNeg) := inb_of S88 ⟨by decide, by decide⟩
    obtain ⟨T88, h88, X88, e88, W88, st88⟩ := stD X87 hx hZ e87 Ar88 (j := (3 : Int32)) hin88 (g := (mkF m 134 #[.val (.int i0), .val (.int i1), .val (.int i2), .val (.int i3), .val (.int (5 : Int32)), .val (.int aa0), .val (.int aa1), .val (.int aa2), .val (.int aa3), .val (.int aa4), .val (.int vv), .val (.ref ar), .unset, .unset] [(.double (FP.i2d aa3)), (.int (3 : Int32)), (.ref ar)])) rfl rfl (hb hby at_134)
    have Vw88 : Arv Z h88 ar k84 .double (5 : Int32) [(.double (FP.i2d aa0)), (.double (FP.i2d aa1)), (.double (FP.i2d aa2)), (.double (FP.i2d aa3)), (.double (FP.l2d 0))] (.double (FP.l2d 0)) := Arv.set Ar88 q88 S88 Nn88 H88 G88 rfl W88 3 rfl (Nat.le_of_ble_eq_true rfl)
    have V_ar := Vw88
    replace K0 := K0.wr W88 (Or.inr sz_ar)
    replace Zn := Nat.le_trans Zn (Nat.le_of_eq W88.size.symm)
    have N88 := Fr.snoc X88 N87 g_ar
    refine Go.step st88 ?_
    show Go p e below _ T88 (mkF m 135 #[.val (.int i0), .val (.int i1), .val (.int i2), .val (.int i3), .val (.int (5 : Int32)), .val (.int aa0), .val (.int aa1), .val (.int aa2), .val (.int aa3), .val (.int aa4), .val (.int vv), .val (.ref ar), .unset, .unset] [])
    refine Go.step (fun _ k => XS.iload X88.here hx rfl (hb hby at_135) rfl k) ?_
    show Go p e below _ T88 (mkF m 137 #[.val (.int i0), .val (.int i1), .val (.int i2), .val (.int i3), .val (.int (5 : Int32)), .val (.int aa0), .val (.int aa1), .val (.int aa2), .val (.int aa3), .val (.int aa4), .val (.int vv), .val (.ref ar), .unset, .unset] [(.int (5 : Int32))])
    refine Go.step (fun _ k => XS.iconst X88.here hx rfl (hb hby at_137) k) ?_
    show Go p e below _ T88 (mkF m 138 #[.val (.int i0), .val (.int i1), .val (.int i2), .val (.int i3), .val (.int (5 : Int32)), .val (.int aa0), .val (.int aa1), .val (.int aa2), .val (.int aa3), .val (.int aa4), .val (.int vv), .val (.ref ar), .unset, .unset] [(.int (4 : Int32)), (.int (5 : Int32))])
    refine Go.step (fun _ k => XS.icmpNo X88.here hx rfl (hb hby at_138) rfl (tlt (by decide)).2.2.2 k) ?_
    show Go p e below _ T88 (mkF m 141 #[.val (.int i0), .val (.int i1), .val (.int i2), .val (.int i3), .val (.int (5 : Int32)), .val (.int aa0), .val (.int aa1), .val (.int aa2), .val (.int aa3), .val (.int aa4), .val (.int vv), .val (.ref ar), .unset, .unset] [])
    refine Go.step (fun _ k => XS.aload X88.here hx rfl (hb hby at_141) rfl rfl k) ?_
    show Go p e below _ T88 (mkF m 143 #[.val (.int i0), .val (.int i1), .val (.int i2), .val (.int i3), .val (.int (5 : Int32)), .val (.int aa0), .val (.int aa1), .val (.int aa2), .val (.int aa3), .val (.int aa4), .val (.int vv), .val (.ref ar), .unset, .unset] [(.ref ar)])
    refine Go.step (fun _ k => XS.iconst X88.here hx rfl (hb hby at_143) k) ?_
    show Go p e below _ T88 (mkF m 144 #[.val (.int i0), .val (.int i1), .val (.int i2), .val (.int i3), .val (.int (5 : Int32)), .val (.int aa0), .val (.int aa1), .val (.int aa2), .val (.int aa3), .val (.int aa4), .val (.int vv), .val (.ref ar), .unset, .unset] [(.int (4 : Int32)), (.ref ar)])
    refine Go.step (fun _ k => XS.iload X88.here hx rfl (hb hby at_144) rfl k) ?_
    show Go p e below _ T88 (mkF m 146 #[.val (.int i0), .val (.int i1), .val (.int i2), .val (.int i3), .val (.int (5 : Int32)), .val (.int aa0), .val (.int aa1), .val (.int aa2), .val (.int aa3), .val (.int aa4), .val (.int vv), .val (.ref ar), .unset, .unset] [(.int aa4), (.int (4 : Int32)), (.ref ar)])
    refine Go.step (fun _ k => XS.i2dS X88.here hx rfl (hb hby at_146) rfl rfl k) ?_
    show Go p e below _ T88 (mkF m 147 #[.val (.int i0), .val (.int i1), .val (.int i2), .val (.int i3), .val (.int (5 : Int32)), .val (.int aa0), .val (.int aa1), .val (.int aa2), .val (.int aa3), .val (.int aa4), .val (.int vv), .val (.ref ar), .unset, .unset] [(.double (FP.i2d aa4)), (.int (4 : Int32)), (.ref ar)])
    obtain ⟨cl89, Ar89, q89, S89, Nn89, H89, G89⟩ := V_ar
    have hin89 : ¬ ((4 : Int32) < 0 ∨ cl89.slots.size ≤ ((4 : Int32)).toNatClampNeg) := inb_of S89 ⟨by decide, by decide⟩
    obtain ⟨T89, h89, X89, e89, W89, st89⟩ := stD X88 hx hZ e88 Ar89 (j := (4 : Int32)) hin89 (g := (mkF m 147 #[.val (.int i0), .val (.int i1), .val (.int i2), .val (.int i3), .val (.int (5 : Int32)), .val (.int aa0), .val (.int aa1), .val (.int aa2), .val (.int aa3), .val (.int aa4), .val (.int vv), .val (.ref ar), .unset, .unset] [(.double (FP.i2d aa4)), (.int (4 : Int32)), (.ref ar)])) rfl rfl (hb hby at_147)
    have Vw89 : Arv Z h89 ar k84 .double (5 : Int32) [(.double (FP.i2d aa0)), (.double (FP.i2d aa1)), (.double (FP.i2d aa2)), (.double (FP.i2d aa3)), (.double (FP.i2d aa4))] (.double (FP.l2d 0)) := Arv.set Ar89 q89 S89 Nn89 H89 G89 rfl W89 4 rfl (Nat.le_of_ble_eq_true rfl)
    have V_ar := Vw89
    replace K0 := K0.wr W89 (Or.inr sz_ar)
    replace Zn := Nat.le_trans Zn (Nat.le_of_eq W89.size.symm)
    have N89 := Fr.snoc X89 N88 g_ar
    refine Go.step st89 ?_
    show Go p e below _ T89 (mkF m 148 #[.val (.int i0), .val (.int i1), .val (.int i2), .val (.int i3), .val (.int (5 : Int32)), .val (.int aa0), .val (.int aa1), .val (.int aa2), .val (.int aa3), .val (.int aa4), .val (.int vv), .val (.ref ar), .unset, .unset] [])
    refine Go.step (fun _ k => XS.iload X89.here hx rfl (hb hby at_148) rfl k) ?_
    show Go p e below _ T89 (mkF m 150 #[.val (.int i0), .val (.int i1), .val (.int i2), .val (.int i3), .val (.int (5 : Int32)), .val (.int aa0), .val (.int aa1), .val (.int aa2), .val (.int aa3), .val (.int aa4), .val (.int vv), .val (.ref ar), .unset, .unset] [(.int (5 : Int32))])
    refine Go.step (fun _ k => XS.iconst X89.here hx rfl (hb hby at_150) k) ?_
    show Go p e below _ T89 (mkF m 151 #[.val (.int i0), .val (.int i1), .val (.int i2), .val (.int i3), .val (.int (5 : Int32)), .val (.int aa0), .val (.int aa1), .val (.int aa2), .val (.int aa3), .val (.int aa4), .val (.int vv), .val (.ref ar), .unset, .unset] [(.int (0 : Int32)), (.int (5 : Int32))])
    refine Go.step (fun _ k => XS.iload X89.here hx rfl (hb hby at_151) rfl k) ?_
    show Go p e below _ T89 (mkF m 153 #[.val (.int i0), .val (.int i1), .val (.int i2), .val (.int i3), .val (.int (5 : Int32)), .val (.int aa0), .val (.int aa1), .val (.int aa2), .val (.int aa3), .val (.int aa4), .val (.int vv), .val (.ref ar), .unset, .unset] [(.int aa0), (.int (0 : Int32)), (.int (5 : Int32))])
    refine Go.step (fun _ k => XS.iload X89.here hx rfl (hb hby at_153) rfl k) ?_
    show Go p e below _ T89 (mkF m 155 #[.val (.int i0), .val (.int i1), .val (.int i2), .val (.int i3), .val (.int (5 : Int32)), .val (.int aa0), .val (.int aa1), .val (.int aa2), .val (.int aa3), .val (.int aa4), .val (.int vv), .val (.ref ar), .unset, .unset] [(.int vv), (.int aa0), (.int (0 : Int32)), (.int (5 : Int32))])
    obtain ⟨_, _, ⟨T90, L90, k90, n90⟩, -, X90, ⟨Lc90, hQ90, l90, y90, z90⟩, st90⟩ := Jvm.LawKit.callS X89 hx (y := (⟨"com/example/bidkeel/bidkeel/KnapsackCountUpToPinLaw", "atOrBelow", "(IIII)I"⟩ : MethodName)) hown (mvT hZ (hw _ (List.mem_of_getElem? (i := 2) rfl))) (mvT hZ (hw _ (List.mem_of_getElem? (i := 3) rfl))) (mvT hZ (hw _ (List.mem_of_getElem? (i := 4) rfl))) (mvT hZ (hw _ (List.mem_of_getElem? (i := 5) rfl))) (by decide) (backOf (W := 0) (rmA l Z a0 hw [] (5 : Int32) (0 : Int32) aa0 vv h89 n0 Zn) hZ (hw _ (List.mem_of_getElem? (i := 5) rfl)) (hw _ (List.mem_of_getElem? (i := 4) rfl)) (by decide) (by decide)) (g := (mkF m 155 #[.val (.int i0), .val (.int i1), .val (.int i2), .val (.int i3), .val (.int (5 : Int32)), .val (.int aa0), .val (.int aa1), .val (.int aa2), .val (.int aa3), .val (.int aa4), .val (.int vv), .val (.ref ar), .unset, .unset] [(.int vv), (.int aa0), (.int (0 : Int32)), (.int (5 : Int32))])) rfl (by rw [hml]; rfl) (argsL := [(.int (5 : Int32)), (.int (0 : Int32)), (.int aa0), (.int vv)]) (rest := []) (lenOf own_f42 rfl) rfl (by show 2 * 0 + _ ≤ _; exact Nat.le_of_eq rfl) (hb hby at_155) (fun _ _ => ⟨rfl, e89, (by dsimp only [Pt.cells, Pt.slots]; decide), (by dsimp only [Pt.cells, Pt.slots]; decide)⟩)
    dsimp only [Pt.U, Pt.locs, Pt.cells, Pt.slots] at X90 l90 y90 z90 st90 hQ90
    subst l90 y90 z90
    obtain ⟨rfl, N90q, e90⟩ := hQ90
    have N90 := Fr.app N89 N90q
    refine Go.step (st90) ?_
    show Go p e below _ T90 (mkF m 158 #[.val (.int i0), .val (.int i1), .val (.int i2), .val (.int i3), .val (.int (5 : Int32)), .val (.int aa0), .val (.int aa1), .val (.int aa2), .val (.int aa3), .val (.int aa4), .val (.int vv), .val (.ref ar), .unset, .unset] [(.int (own_ab 5 0 aa0 vv))])
    refine Go.step (fun _ k => XS.iload X90.here hx rfl (hb hby at_158) rfl k) ?_
    show Go p e below _ T90 (mkF m 160 #[.val (.int i0), .val (.int i1), .val (.int i2), .val (.int i3), .val (.int (5 : Int32)), .val (.int aa0), .val (.int aa1), .val (.int aa2), .val (.int aa3), .val (.int aa4), .val (.int vv), .val (.ref ar), .unset, .unset] [(.int (5 : Int32)), (.int (own_ab 5 0 aa0 vv))])
    refine Go.step (fun _ k => XS.iconst X90.here hx rfl (hb hby at_160) k) ?_
    show Go p e below _ T90 (mkF m 161 #[.val (.int i0), .val (.int i1), .val (.int i2), .val (.int i3), .val (.int (5 : Int32)), .val (.int aa0), .val (.int aa1), .val (.int aa2), .val (.int aa3), .val (.int aa4), .val (.int vv), .val (.ref ar), .unset, .unset] [(.int (1 : Int32)), (.int (5 : Int32)), (.int (own_ab 5 0 aa0 vv))])
    refine Go.step (fun _ k => XS.iload X90.here hx rfl (hb hby at_161) rfl k) ?_
    show Go p e below _ T90 (mkF m 163 #[.val (.int i0), .val (.int i1), .val (.int i2), .val (.int i3), .val (.int (5 : Int32)), .val (.int aa0), .val (.int aa1), .val (.int aa2), .val (.int aa3), .val (.int aa4), .val (.int vv), .val (.ref ar), .unset, .unset] [(.int aa1), (.int (1 : Int32)), (.int (5 : Int32)), (.int (own_ab 5 0 aa0 vv))])
    refine Go.step (fun _ k => XS.iload X90.here hx rfl (hb hby at_163) rfl k) ?_
    show Go p e below _ T90 (mkF m 165 #[.val (.int i0), .val (.int i1), .val (.int i2), .val (.int i3), .val (.int (5 : Int32)), .val (.int aa0), .val (.int aa1), .val (.int aa2), .val (.int aa3), .val (.int aa4), .val (.int vv), .val (.ref ar), .unset, .unset] [(.int vv), (.int aa1), (.int (1 : Int32)), (.int (5 : Int32)), (.int (own_ab 5 0 aa0 vv))])
    obtain ⟨_, _, ⟨T91, L91, k91, n91⟩, -, X91, ⟨Lc91, hQ91, l91, y91, z91⟩, st91⟩ := Jvm.LawKit.callS X90 hx (y := (⟨"com/example/bidkeel/bidkeel/KnapsackCountUpToPinLaw", "atOrBelow", "(IIII)I"⟩ : MethodName)) hown (mvT hZ (hw _ (List.mem_of_getElem? (i := 2) rfl))) (mvT hZ (hw _ (List.mem_of_getElem? (i := 3) rfl))) (mvT hZ (hw _ (List.mem_of_getElem? (i := 4) rfl))) (mvT hZ (hw _ (List.mem_of_getElem? (i := 5) rfl))) (by decide) (backOf (W := 1) (rmA l Z a0 hw [] (5 : Int32) (1 : Int32) aa1 vv h89 n0 Zn) hZ (hw _ (List.mem_of_getElem? (i := 5) rfl)) (hw _ (List.mem_of_getElem? (i := 4) rfl)) (by decide) (by decide)) (g := (mkF m 165 #[.val (.int i0), .val (.int i1), .val (.int i2), .val (.int i3), .val (.int (5 : Int32)), .val (.int aa0), .val (.int aa1), .val (.int aa2), .val (.int aa3), .val (.int aa4), .val (.int vv), .val (.ref ar), .unset, .unset] [(.int vv), (.int aa1), (.int (1 : Int32)), (.int (5 : Int32)), (.int (own_ab 5 0 aa0 vv))])) rfl (by rw [hml]; rfl) (argsL := [(.int (5 : Int32)), (.int (1 : Int32)), (.int aa1), (.int vv)]) (rest := [(.int (own_ab 5 0 aa0 vv))]) (lenOf own_f42 rfl) rfl (by show 2 * 0 + _ ≤ _; exact Nat.le_of_eq rfl) (hb hby at_165) (fun _ _ => ⟨rfl, e90, (by dsimp only [Pt.cells, Pt.slots]; decide), (by dsimp only [Pt.cells, Pt.slots]; decide)⟩)
    dsimp only [Pt.U, Pt.locs, Pt.cells, Pt.slots] at X91 l91 y91 z91 st91 hQ91
    subst l91 y91 z91
    obtain ⟨rfl, N91q, e91⟩ := hQ91
    have N91 := Fr.app N90 N91q
    refine Go.step (st91) ?_
    show Go p e below _ T91 (mkF m 168 #[.val (.int i0), .val (.int i1), .val (.int i2), .val (.int i3), .val (.int (5 : Int32)), .val (.int aa0), .val (.int aa1), .val (.int aa2), .val (.int aa3), .val (.int aa4), .val (.int vv), .val (.ref ar), .unset, .unset] [(.int (own_ab 5 1 aa1 vv)), (.int (own_ab 5 0 aa0 vv))])
    refine Go.step (fun _ k => XS.iadd X91.here hx rfl (hb hby at_168) rfl k) ?_
    show Go p e below _ T91 (mkF m 169 #[.val (.int i0), .val (.int i1), .val (.int i2), .val (.int i3), .val (.int (5 : Int32)), .val (.int aa0), .val (.int aa1), .val (.int aa2), .val (.int aa3), .val (.int aa4), .val (.int vv), .val (.ref ar), .unset, .unset] [(.int ((own_ab 5 0 aa0 vv) + (own_ab 5 1 aa1 vv)))])
    refine Go.step (fun _ k => XS.iload X91.here hx rfl (hb hby at_169) rfl k) ?_
    show Go p e below _ T91 (mkF m 171 #[.val (.int i0), .val (.int i1), .val (.int i2), .val (.int i3), .val (.int (5 : Int32)), .val (.int aa0), .val (.int aa1), .val (.int aa2), .val (.int aa3), .val (.int aa4), .val (.int vv), .val (.ref ar), .unset, .unset] [(.int (5 : Int32)), (.int ((own_ab 5 0 aa0 vv) + (own_ab 5 1 aa1 vv)))])
    refine Go.step (fun _ k => XS.iconst X91.here hx rfl (hb hby at_171) k) ?_
    show Go p e below _ T91 (mkF m 172 #[.val (.int i0), .val (.int i1), .val (.int i2), .val (.int i3), .val (.int (5 : Int32)), .val (.int aa0), .val (.int aa1), .val (.int aa2), .val (.int aa3), .val (.int aa4), .val (.int vv), .val (.ref ar), .unset, .unset] [(.int (2 : Int32)), (.int (5 : Int32)), (.int ((own_ab 5 0 aa0 vv) + (own_ab 5 1 aa1 vv)))])
    refine Go.step (fun _ k => XS.iload X91.here hx rfl (hb hby at_172) rfl k) ?_
    show Go p e below _ T91 (mkF m 174 #[.val (.int i0), .val (.int i1), .val (.int i2), .val (.int i3), .val (.int (5 : Int32)), .val (.int aa0), .val (.int aa1), .val (.int aa2), .val (.int aa3), .val (.int aa4), .val (.int vv), .val (.ref ar), .unset, .unset] [(.int aa2), (.int (2 : Int32)), (.int (5 : Int32)), (.int ((own_ab 5 0 aa0 vv) + (own_ab 5 1 aa1 vv)))])
    refine Go.step (fun _ k => XS.iload X91.here hx rfl (hb hby at_174) rfl k) ?_
    show Go p e below _ T91 (mkF m 176 #[.val (.int i0), .val (.int i1), .val (.int i2), .val (.int i3), .val (.int (5 : Int32)), .val (.int aa0), .val (.int aa1), .val (.int aa2), .val (.int aa3), .val (.int aa4), .val (.int vv), .val (.ref ar), .unset, .unset] [(.int vv), (.int aa2), (.int (2 : Int32)), (.int (5 : Int32)), (.int ((own_ab 5 0 aa0 vv) + (own_ab 5 1 aa1 vv)))])
    obtain ⟨_, _, ⟨T92, L92, k92, n92⟩, -, X92, ⟨Lc92, hQ92, l92, y92, z92⟩, st92⟩ := Jvm.LawKit.callS X91 hx (y := (⟨"com/example/bidkeel/bidkeel/KnapsackCountUpToPinLaw", "atOrBelow", "(IIII)I"⟩ : MethodName)) hown (mvT hZ (hw _ (List.mem_of_getElem? (i := 2) rfl))) (mvT hZ (hw _ (List.mem_of_getElem? (i := 3) rfl))) (mvT hZ (hw _ (List.mem_of_getElem? (i := 4) rfl))) (mvT hZ (hw _ (List.mem_of_getElem? (i := 5) rfl))) (by decide) (backOf (W := 1) (rmA l Z a0 hw [] (5 : Int32) (2 : Int32) aa2 vv h89 n0 Zn) hZ (hw _ (List.mem_of_getElem? (i := 5) rfl)) (hw _ (List.mem_of_getElem? (i := 4) rfl)) (by decide) (by decide)) (g := (mkF m 176 #[.val (.int i0), .val (.int i1), .val (.int i2), .val (.int i3), .val (.int (5 : Int32)), .val (.int aa0), .val (.int aa1), .val (.int aa2), .val (.int aa3), .val (.int aa4), .val (.int vv), .val (.ref ar), .unset, .unset] [(.int vv), (.int aa2), (.int (2 : Int32)), (.int (5 : Int32)), (.int ((own_ab 5 0 aa0 vv) + (own_ab 5 1 aa1 vv)))])) rfl (by rw [hml]; rfl) (argsL := [(.int (5 : Int32)), (.int (2 : Int32)), (.int aa2), (.int vv)]) (rest := [(.int ((own_ab 5 0 aa0 vv) + (own_ab 5 1 aa1 vv)))]) (lenOf own_f42 rfl) rfl (by show 2 * 0 + _ ≤ _; exact Nat.le_of_eq rfl) (hb hby at_176) (fun _ _ => ⟨rfl, e91, (by dsimp only [Pt.cells, Pt.slots]; decide), (by dsimp only [Pt.cells, Pt.slots]; decide)⟩)
    dsimp only [Pt.U, Pt.locs, Pt.cells, Pt.slots] at X92 l92 y92 z92 st92 hQ92
    subst l92 y92 z92
    obtain ⟨rfl, N92q, e92⟩ := hQ92
    have N92 := Fr.app N91 N92q
    refine Go.step (st92) ?_
    show Go p e below _ T92 (mkF m 179 #[.val (.int i0), .val (.int i1), .val (.int i2), .val (.int i3), .val (.int (5 : Int32)), .val (.int aa0), .val (.int aa1), .val (.int aa2), .val (.int aa3), .val (.int aa4), .val (.int vv), .val (.ref ar), .unset, .unset] [(.int (own_ab 5 2 aa2 vv)), (.int ((own_ab 5 0 aa0 vv) + (own_ab 5 1 aa1 vv)))])
    refine Go.step (fun _ k => XS.iadd X92.here hx rfl (hb hby at_179) rfl k) ?_
    show Go p e below _ T92 (mkF m 180 #[.val (.int i0), .val (.int i1), .val (.int i2), .val (.int i3), .val (.int (5 : Int32)), .val (.int aa0), .val (.int aa1), .val (.int aa2), .val (.int aa3), .val (.int aa4), .val (.int vv), .val (.ref ar), .unset, .unset] [(.int (((own_ab 5 0 aa0 vv) + (own_ab 5 1 aa1 vv)) + (own_ab 5 2 aa2 vv)))])
    refine Go.step (fun _ k => XS.iload X92.here hx rfl (hb hby at_180) rfl k) ?_
    show Go p e below _ T92 (mkF m 182 #[.val (.int i0), .val (.int i1), .val (.int i2), .val (.int i3), .val (.int (5 : Int32)), .val (.int aa0), .val (.int aa1), .val (.int aa2), .val (.int aa3), .val (.int aa4), .val (.int vv), .val (.ref ar), .unset, .unset] [(.int (5 : Int32)), (.int (((own_ab 5 0 aa0 vv) + (own_ab 5 1 aa1 vv)) + (own_ab 5 2 aa2 vv)))])
    refine Go.step (fun _ k => XS.iconst X92.here hx rfl (hb hby at_182) k) ?_
    show Go p e below _ T92 (mkF m 183 #[.val (.int i0), .val (.int i1), .val (.int i2), .val (.int i3), .val (.int (5 : Int32)), .val (.int aa0), .val (.int aa1), .val (.int aa2), .val (.int aa3), .val (.int aa4), .val (.int vv), .val (.ref ar), .unset, .unset] [(.int (3 : Int32)), (.int (5 : Int32)), (.int (((own_ab 5 0 aa0 vv) + (own_ab 5 1 aa1 vv)) + (own_ab 5 2 aa2 vv)))])
    refine Go.step (fun _ k => XS.iload X92.here hx rfl (hb hby at_183) rfl k) ?_
    show Go p e below _ T92 (mkF m 185 #[.val (.int i0), .val (.int i1), .val (.int i2), .val (.int i3), .val (.int (5 : Int32)), .val (.int aa0), .val (.int aa1), .val (.int aa2), .val (.int aa3), .val (.int aa4), .val (.int vv), .val (.ref ar), .unset, .unset] [(.int aa3), (.int (3 : Int32)), (.int (5 : Int32)), (.int (((own_ab 5 0 aa0 vv) + (own_ab 5 1 aa1 vv)) + (own_ab 5 2 aa2 vv)))])
    refine Go.step (fun _ k => XS.iload X92.here hx rfl (hb hby at_185) rfl k) ?_
    show Go p e below _ T92 (mkF m 187 #[.val (.int i0), .val (.int i1), .val (.int i2), .val (.int i3), .val (.int (5 : Int32)), .val (.int aa0), .val (.int aa1), .val (.int aa2), .val (.int aa3), .val (.int aa4), .val (.int vv), .val (.ref ar), .unset, .unset] [(.int vv), (.int aa3), (.int (3 : Int32)), (.int (5 : Int32)), (.int (((own_ab 5 0 aa0 vv) + (own_ab 5 1 aa1 vv)) + (own_ab 5 2 aa2 vv)))])
    obtain ⟨_, _, ⟨T93, L93, k93, n93⟩, -, X93, ⟨Lc93, hQ93, l93, y93, z93⟩, st93⟩ := Jvm.LawKit.callS X92 hx (y := (⟨"com/example/bidkeel/bidkeel/KnapsackCountUpToPinLaw", "atOrBelow", "(IIII)I"⟩ : MethodName)) hown (mvT hZ (hw _ (List.mem_of_getElem? (i := 2) rfl))) (mvT hZ (hw _ (List.mem_of_getElem? (i := 3) rfl))) (mvT hZ (hw _ (List.mem_of_getElem? (i := 4) rfl))) (mvT hZ (hw _ (List.mem_of_getElem? (i := 5) rfl))) (by decide) (backOf (W := 1) (rmA l Z a0 hw [] (5 : Int32) (3 : Int32) aa3 vv h89 n0 Zn) hZ (hw _ (List.mem_of_getElem? (i := 5) rfl)) (hw _ (List.mem_of_getElem? (i := 4) rfl)) (by decide) (by decide)) (g := (mkF m 187 #[.val (.int i0), .val (.int i1), .val (.int i2), .val (.int i3), .val (.int (5 : Int32)), .val (.int aa0), .val (.int aa1), .val (.int aa2), .val (.int aa3), .val (.int aa4), .val (.int vv), .val (.ref ar), .unset, .unset] [(.int vv), (.int aa3), (.int (3 : Int32)), (.int (5 : Int32)), (.int (((own_ab 5 0 aa0 vv) + (own_ab 5 1 aa1 vv)) + (own_ab 5 2 aa2 vv)))])) rfl (by rw [hml]; rfl) (argsL := [(.int (5 : Int32)), (.int (3 : Int32)), (.int aa3), (.int vv)]) (rest := [(.int (((own_ab 5 0 aa0 vv) + (own_ab 5 1 aa1 vv)) + (own_ab 5 2 aa2 vv)))]) (lenOf own_f42 rfl) rfl (by show 2 * 0 + _ ≤ _; exact Nat.le_of_eq rfl) (hb hby at_187) (fun _ _ => ⟨rfl, e92, (by dsimp only [Pt.cells, Pt.slots]; decide), (by dsimp only [Pt.cells, Pt.slots]; decide)⟩)
    dsimp only [Pt.U, Pt.locs, Pt.cells, Pt.slots] at X93 l93 y93 z93 st93 hQ93
    subst l93 y93 z93
    obtain ⟨rfl, N93q, e93⟩ := hQ93
    have N93 := Fr.app N92 N93q
    refine Go.step (st93) ?_
    show Go p e below _ T93 (mkF m 190 #[.val (.int i0), .val (.int i1), .val (.int i2), .val (.int i3), .val (.int (5 : Int32)), .val (.int aa0), .val (.int aa1), .val (.int aa2), .val (.int aa3), .val (.int aa4), .val (.int vv), .val (.ref ar), .unset, .unset] [(.int (own_ab 5 3 aa3 vv)), (.int (((own_ab 5 0 aa0 vv) + (own_ab 5 1 aa1 vv)) + (own_ab 5 2 aa2 vv)))])
    refine Go.step (fun _ k => XS.iadd X93.here hx rfl (hb hby at_190) rfl k) ?_
    show Go p e below _ T93 (mkF m 191 #[.val (.int i0), .val (.int i1), .val (.int i2), .val (.int i3), .val (.int (5 : Int32)), .val (.int aa0), .val (.int aa1), .val (.int aa2), .val (.int aa3), .val (.int aa4), .val (.int vv), .val (.ref ar), .unset, .unset] [(.int ((((own_ab 5 0 aa0 vv) + (own_ab 5 1 aa1 vv)) + (own_ab 5 2 aa2 vv)) + (own_ab 5 3 aa3 vv)))])
    refine Go.step (fun _ k => XS.iload X93.here hx rfl (hb hby at_191) rfl k) ?_
    show Go p e below _ T93 (mkF m 193 #[.val (.int i0), .val (.int i1), .val (.int i2), .val (.int i3), .val (.int (5 : Int32)), .val (.int aa0), .val (.int aa1), .val (.int aa2), .val (.int aa3), .val (.int aa4), .val (.int vv), .val (.ref ar), .unset, .unset] [(.int (5 : Int32)), (.int ((((own_ab 5 0 aa0 vv) + (own_ab 5 1 aa1 vv)) + (own_ab 5 2 aa2 vv)) + (own_ab 5 3 aa3 vv)))])
    refine Go.step (fun _ k => XS.iconst X93.here hx rfl (hb hby at_193) k) ?_
    show Go p e below _ T93 (mkF m 194 #[.val (.int i0), .val (.int i1), .val (.int i2), .val (.int i3), .val (.int (5 : Int32)), .val (.int aa0), .val (.int aa1), .val (.int aa2), .val (.int aa3), .val (.int aa4), .val (.int vv), .val (.ref ar), .unset, .unset] [(.int (4 : Int32)), (.int (5 : Int32)), (.int ((((own_ab 5 0 aa0 vv) + (own_ab 5 1 aa1 vv)) + (own_ab 5 2 aa2 vv)) + (own_ab 5 3 aa3 vv)))])
    refine Go.step (fun _ k => XS.iload X93.here hx rfl (hb hby at_194) rfl k) ?_
    show Go p e below _ T93 (mkF m 196 #[.val (.int i0), .val (.int i1), .val (.int i2), .val (.int i3), .val (.int (5 : Int32)), .val (.int aa0), .val (.int aa1), .val (.int aa2), .val (.int aa3), .val (.int aa4), .val (.int vv), .val (.ref ar), .unset, .unset] [(.int aa4), (.int (4 : Int32)), (.int (5 : Int32)), (.int ((((own_ab 5 0 aa0 vv) + (own_ab 5 1 aa1 vv)) + (own_ab 5 2 aa2 vv)) + (own_ab 5 3 aa3 vv)))])
    refine Go.step (fun _ k => XS.iload X93.here hx rfl (hb hby at_196) rfl k) ?_
    show Go p e below _ T93 (mkF m 198 #[.val (.int i0), .val (.int i1), .val (.int i2), .val (.int i3), .val (.int (5 : Int32)), .val (.int aa0), .val (.int aa1), .val (.int aa2), .val (.int aa3), .val (.int aa4), .val (.int vv), .val (.ref ar), .unset, .unset] [(.int vv), (.int aa4), (.int (4 : Int32)), (.int (5 : Int32)), (.int ((((own_ab 5 0 aa0 vv) + (own_ab 5 1 aa1 vv)) + (own_ab 5 2 aa2 vv)) + (own_ab 5 3 aa3 vv)))])
    obtain ⟨_, _, ⟨T94, L94, k94, n94⟩, -, X94, ⟨Lc94, hQ94, l94, y94, z94⟩, st94⟩ := Jvm.LawKit.callS X93 hx (y := (⟨"com/example/bidkeel/bidkeel/KnapsackCountUpToPinLaw", "atOrBelow", "(IIII)I"⟩ : MethodName)) hown (mvT hZ (hw _ (List.mem_of_getElem? (i := 2) rfl))) (mvT hZ (hw _ (List.mem_of_getElem? (i := 3) rfl))) (mvT hZ (hw _ (List.mem_of_getElem? (i := 4) rfl))) (mvT hZ (hw _ (List.mem_of_getElem? (i := 5) rfl))) (by decide) (backOf (W := 1) (rmA l Z a0 hw [] (5 : Int32) (4 : Int32) aa4 vv h89 n0 Zn) hZ (hw _ (List.mem_of_getElem? (i := 5) rfl)) (hw _ (List.mem_of_getElem? (i := 4) rfl)) (by decide) (by decide)) (g := (mkF m 198 #[.val (.int i0), .val (.int i1), .val (.int i2), .val (.int i3), .val (.int (5 : Int32)), .val (.int aa0), .val (.int aa1), .val (.int aa2), .val (.int aa3), .val (.int aa4), .val (.int vv), .val (.ref ar), .unset, .unset] [(.int vv), (.int aa4), (.int (4 : Int32)), (.int (5 : Int32)), (.int ((((own_ab 5 0 aa0 vv) + (own_ab 5 1 aa1 vv)) + (own_ab 5 2 aa2 vv)) + (own_ab 5 3 aa3 vv)))])) rfl (by rw [hml]; rfl) (argsL := [(.int (5 : Int32)), (.int (4 : Int32)), (.int aa4), (.int vv)]) (rest := [(.int ((((own_ab 5 0 aa0 vv) + (own_ab 5 1 aa1 vv)) + (own_ab 5 2 aa2 vv)) + (own_ab 5 3 aa3 vv)))]) (lenOf own_f42 rfl) rfl (by show 2 * 0 + _ ≤ _; exact Nat.le_of_eq rfl) (hb hby at_198) (fun _ _ => ⟨rfl, e93, (by dsimp only [Pt.cells, Pt.slots]; decide), (by dsimp only [Pt.cells, Pt.slots]; decide)⟩)
    dsimp only [Pt.U, Pt.locs, Pt.cells, Pt.slots] at X94 l94 y94 z94 st94 hQ94
    subst l94 y94 z94
    obtain ⟨rfl, N94q, e94⟩ := hQ94
    have N94 := Fr.app N93 N94q
    refine Go.step (st94) ?_
    show Go p e below _ T94 (mkF m 201 #[.val (.int i0), .val (.int i1), .val (.int i2), .val (.int i3), .val (.int (5 : Int32)), .val (.int aa0), .val (.int aa1), .val (.int aa2), .val (.int aa3), .val (.int aa4), .val (.int vv), .val (.ref ar), .unset, .unset] [(.int (own_ab 5 4 aa4 vv)), (.int ((((own_ab 5 0 aa0 vv) + (own_ab 5 1 aa1 vv)) + (own_ab 5 2 aa2 vv)) + (own_ab 5 3 aa3 vv)))])
    refine Go.step (fun _ k => XS.iadd X94.here hx rfl (hb hby at_201) rfl k) ?_
    show Go p e below _ T94 (mkF m 202 #[.val (.int i0), .val (.int i1), .val (.int i2), .val (.int i3), .val (.int (5 : Int32)), .val (.int aa0), .val (.int aa1), .val (.int aa2), .val (.int aa3), .val (.int aa4), .val (.int vv), .val (.ref ar), .unset, .unset] [(.int (((((own_ab 5 0 aa0 vv) + (own_ab 5 1 aa1 vv)) + (own_ab 5 2 aa2 vv)) + (own_ab 5 3 aa3 vv)) + (own_ab 5 4 aa4 vv)))])
    refine Go.step (fun _ k => XS.istore X94.here hx rfl (hb hby at_202) rfl (l' := #[.val (.int i0), .val (.int i1), .val (.int i2), .val (.int i3), .val (.int (5 : Int32)), .val (.int aa0), .val (.int aa1), .val (.int aa2), .val (.int aa3), .val (.int aa4), .val (.int vv), .val (.ref ar), .val (.int (((((own_ab 5 0 aa0 vv) + (own_ab 5 1 aa1 vv)) + (own_ab 5 2 aa2 vv)) + (own_ab 5 3 aa3 vv)) + (own_ab 5 4 aa4 vv))), .unset]) rfl k) ?_
    show Go p e below _ T94 (mkF m 204 #[.val (.int i0), .val (.int i1), .val (.int i2), .val (.int i3), .val (.int (5 : Int32)), .val (.int aa0), .val (.int aa1), .val (.int aa2), .val (.int aa3), .val (.int aa4), .val (.int vv), .val (.ref ar), .val (.int (((((own_ab 5 0 aa0 vv) + (own_ab 5 1 aa1 vv)) + (own_ab 5 2 aa2 vv)) + (own_ab 5 3 aa3 vv)) + (own_ab 5 4 aa4 vv))), .unset] [])
    refine Go.step (fun _ k => XS.aload X94.here hx rfl (hb hby at_204) rfl rfl k) ?_
    show Go p e below _ T94 (mkF m 206 #[.val (.int i0), .val (.int i1), .val (.int i2), .val (.int i3), .val (.int (5 : Int32)), .val (.int aa0), .val (.int aa1), .val (.int aa2), .val (.int aa3), .val (.int aa4), .val (.int vv), .val (.ref ar), .val (.int (((((own_ab 5 0 aa0 vv) + (own_ab 5 1 aa1 vv)) + (own_ab 5 2 aa2 vv)) + (own_ab 5 3 aa3 vv)) + (own_ab 5 4 aa4 vv))), .unset] [(.ref ar)])
    refine Go.step (fun _ k => XS.iload X94.here hx rfl (hb hby at_206) rfl k) ?_
    show Go p e below _ T94 (mkF m 208 #[.val (.int i0), .val (.int i1), .val (.int i2), .val (.int i3), .val (.int (5 : Int32)), .val (.int aa0), .val (.int aa1), .val (.int aa2), .val (.int aa3), .val (.int aa4), .val (.int vv), .val (.ref ar), .val (.int (((((own_ab 5 0 aa0 vv) + (own_ab 5 1 aa1 vv)) + (own_ab 5 2 aa2 vv)) + (own_ab 5 3 aa3 vv)) + (own_ab 5 4 aa4 vv))), .unset] [(.int vv), (.ref ar)])
    refine Go.step (fun _ k => XS.i2dS X94.here hx rfl (hb hby at_208) rfl rfl k) ?_
    show Go p e below _ T94 (mkF m 209 #[.val (.int i0), .val (.int i1), .val (.int i2), .val (.int i3), .val (.int (5 : Int32)), .val (.int aa0), .val (.int aa1), .val (.int aa2), .val (.int aa3), .val (.int aa4), .val (.int vv), .val (.ref ar), .val (.int (((((own_ab 5 0 aa0 vv) + (own_ab 5 1 aa1 vv)) + (own_ab 5 2 aa2 vv)) + (own_ab 5 3 aa3 vv)) + (own_ab 5 4 aa4 vv))), .unset] [(.double (FP.i2d vv)), (.ref ar)])
    obtain ⟨_, _, ⟨T95, L95, k95, n95⟩, -, X95, ⟨Lc95, hQ95, l95, y95, z95⟩, st95⟩ := Jvm.LawKit.callS X94 hx (y := (⟨"com/example/bidkeel/bidkeel/Knapsack", "countUpTo", "([DD)I"⟩ : MethodName)) hown (mvT hZ (hw _ (List.mem_of_getElem? (i := 6) rfl))) (mvT hZ (hw _ (List.mem_of_getElem? (i := 7) rfl))) (mvT hZ (hw _ (List.mem_of_getElem? (i := 8) rfl))) (mvT hZ (hw _ (List.mem_of_getElem? (i := 9) rfl))) (by decide) (backOf (W := 0) (rmK5 l Z a0 hw [] ar (FP.i2d vv) k84 vv aa0 aa1 aa2 aa3 aa4 h89 n0 Zn V_ar rfl) hZ (hw _ (List.mem_of_getElem? (i := 9) rfl)) (hw _ (List.mem_of_getElem? (i := 8) rfl)) (by decide) (by decide)) (g := (mkF m 209 #[.val (.int i0), .val (.int i1), .val (.int i2), .val (.int i3), .val (.int (5 : Int32)), .val (.int aa0), .val (.int aa1), .val (.int aa2), .val (.int aa3), .val (.int aa4), .val (.int vv), .val (.ref ar), .val (.int (((((own_ab 5 0 aa0 vv) + (own_ab 5 1 aa1 vv)) + (own_ab 5 2 aa2 vv)) + (own_ab 5 3 aa3 vv)) + (own_ab 5 4 aa4 vv))), .unset] [(.double (FP.i2d vv)), (.ref ar)])) rfl (by rw [hml]; rfl) (argsL := [(.ref ar), (.double (FP.i2d vv))]) (rest := []) (lenOf own_f43 rfl) rfl (by show 2 * 0 + _ ≤ _; exact Nat.le_of_eq rfl) (hb hby at_209) (fun _ _ => ⟨rfl, e94, (by dsimp only [Pt.cells, Pt.slots]; decide), (by dsimp only [Pt.cells, Pt.slots]; decide)⟩)
    dsimp only [Pt.U, Pt.locs, Pt.cells, Pt.slots] at X95 l95 y95 z95 st95 hQ95
    subst l95 y95 z95
    obtain ⟨rfl, N95q, e95⟩ := hQ95
    have N95 := Fr.app N94 N95q
    refine Go.step (st95) ?_
    show Go p e below _ T95 (mkF m 212 #[.val (.int i0), .val (.int i1), .val (.int i2), .val (.int i3), .val (.int (5 : Int32)), .val (.int aa0), .val (.int aa1), .val (.int aa2), .val (.int aa3), .val (.int aa4), .val (.int vv), .val (.ref ar), .val (.int (((((own_ab 5 0 aa0 vv) + (own_ab 5 1 aa1 vv)) + (own_ab 5 2 aa2 vv)) + (own_ab 5 3 aa3 vv)) + (own_ab 5 4 aa4 vv))), .unset] [(.int (own_c5 aa0 aa1 aa2 aa3 aa4 vv))])
    refine Go.step (fun _ k => XS.istore X95.here hx rfl (hb hby at_212) rfl (l' := #[.val (.int i0), .val (.int i1), .val (.int i2), .val (.int i3), .val (.int (5 : Int32)), .val (.int aa0), .val (.int aa1), .val (.int aa2), .val (.int aa3), .val (.int aa4), .val (.int vv), .val (.ref ar), .val (.int (((((own_ab 5 0 aa0 vv) + (own_ab 5 1 aa1 vv)) + (own_ab 5 2 aa2 vv)) + (own_ab 5 3 aa3 vv)) + (own_ab 5 4 aa4 vv))), .val (.int (own_c5 aa0 aa1 aa2 aa3 aa4 vv))]) rfl k) ?_
    show Go p e below _ T95 (mkF m 214 #[.val (.int i0), .val (.int i1), .val (.int i2), .val (.int i3), .val (.int (5 : Int32)), .val (.int aa0), .val (.int aa1), .val (.int aa2), .val (.int aa3), .val (.int aa4), .val (.int vv), .val (.ref ar), .val (.int (((((own_ab 5 0 aa0 vv) + (own_ab 5 1 aa1 vv)) + (own_ab 5 2 aa2 vv)) + (own_ab 5 3 aa3 vv)) + (own_ab 5 4 aa4 vv))), .val (.int (own_c5 aa0 aa1 aa2 aa3 aa4 vv))] [])
    refine Go.step (fun _ k => XS.iload X95.here hx rfl (hb hby at_214) rfl k) ?_
    show Go p e below _ T95 (mkF m 216 #[.val (.int i0), .val (.int i1), .val (.int i2), .val (.int i3), .val (.int (5 : Int32)), .val (.int aa0), .val (.int aa1), .val (.int aa2), .val (.int aa3), .val (.int aa4), .val (.int vv), .val (.ref ar), .val (.int (((((own_ab 5 0 aa0 vv) + (own_ab 5 1 aa1 vv)) + (own_ab 5 2 aa2 vv)) + (own_ab 5 3 aa3 vv)) + (own_ab 5 4 aa4 vv))), .val (.int (own_c5 aa0 aa1 aa2 aa3 aa4 vv))] [(.int (own_c5 aa0 aa1 aa2 aa3 aa4 vv))])
    refine Go.step (fun _ k => XS.iload X95.here hx rfl (hb hby at_216) rfl k) ?_
    show Go p e below _ T95 (mkF m 218 #[.val (.int i0), .val (.int i1), .val (.int i2), .val (.int i3), .val (.int (5 : Int32)), .val (.int aa0), .val (.int aa1), .val (.int aa2), .val (.int aa3), .val (.int aa4), .val (.int vv), .val (.ref ar), .val (.int (((((own_ab 5 0 aa0 vv) + (own_ab 5 1 aa1 vv)) + (own_ab 5 2 aa2 vv)) + (own_ab 5 3 aa3 vv)) + (own_ab 5 4 aa4 vv))), .val (.int (own_c5 aa0 aa1 aa2 aa3 aa4 vv))] [(.int (((((own_ab 5 0 aa0 vv) + (own_ab 5 1 aa1 vv)) + (own_ab 5 2 aa2 vv)) + (own_ab 5 3 aa3 vv)) + (own_ab 5 4 aa4 vv))), (.int (own_c5 aa0 aa1 aa2 aa3 aa4 vv))])
    refine Go.step (fun _ k => XS.icmpNo X95.here hx rfl (hb hby at_218) rfl (teq (own_s5 aa0 aa1 aa2 aa3 aa4 vv hs.1 hs.2.1 hs.2.2.1 hs.2.2.2)).2 k) ?_
    show Go p e below _ T95 (mkF m 221 #[.val (.int i0), .val (.int i1), .val (.int i2), .val (.int i3), .val (.int (5 : Int32)), .val (.int aa0), .val (.int aa1), .val (.int aa2), .val (.int aa3), .val (.int aa4), .val (.int vv), .val (.ref ar), .val (.int (((((own_ab 5 0 aa0 vv) + (own_ab 5 1 aa1 vv)) + (own_ab 5 2 aa2 vv)) + (own_ab 5 3 aa3 vv)) + (own_ab 5 4 aa4 vv))), .val (.int (own_c5 aa0 aa1 aa2 aa3 aa4 vv))] [])
    refine Go.step (fun _ k => XS.iconst X95.here hx rfl (hb hby at_221) k) ?_
    show Go p e below _ T95 (mkF m 222 #[.val (.int i0), .val (.int i1), .val (.int i2), .val (.int i3), .val (.int (5 : Int32)), .val (.int aa0), .val (.int aa1), .val (.int aa2), .val (.int aa3), .val (.int aa4), .val (.int vv), .val (.ref ar), .val (.int (((((own_ab 5 0 aa0 vv) + (own_ab 5 1 aa1 vv)) + (own_ab 5 2 aa2 vv)) + (own_ab 5 3 aa3 vv)) + (own_ab 5 4 aa4 vv))), .val (.int (own_c5 aa0 aa1 aa2 aa3 aa4 vv))] [(.int (1 : Int32))])
    refine Go.step (fun _ k => XS.goto X95.here hx rfl (pc0 := 222) (pc' := 226) rfl (hb hby at_222) (by decide) (by decide) k) ?_
    show Go p e below _ T95 (mkF m 226 #[.val (.int i0), .val (.int i1), .val (.int i2), .val (.int i3), .val (.int (5 : Int32)), .val (.int aa0), .val (.int aa1), .val (.int aa2), .val (.int aa3), .val (.int aa4), .val (.int vv), .val (.ref ar), .val (.int (((((own_ab 5 0 aa0 vv) + (own_ab 5 1 aa1 vv)) + (own_ab 5 2 aa2 vv)) + (own_ab 5 3 aa3 vv)) + (own_ab 5 4 aa4 vv))), .val (.int (own_c5 aa0 aa1 aa2 aa3 aa4 vv))] [(.int (1 : Int32))])
    obtain ⟨fs, hr, hrun, hended, hW, hsame⟩ := X95.leave (v := some (.int (1 : Int32))) (fun h => by rw [Bd.returns] at h; cases h)
    refine Go.fin (retN X95 hx (t := .boolean) Bd.returns (by simp) (hb hby at_226) hr) hrun hended ?_
    refine ⟨_, _, rfl, ?_, ⟨_, rfl⟩, hW, hsame.mono (by decide) (by decide)⟩
    show Q0 Z i0 i1 i2 i3 h0 n0 _ T95.heap _
    rw [e95]
    exact ⟨rfl, N95⟩
set_option maxRecDepth 65536 in
set_option maxHeartbeats 40000000 in
theorem comes_1 {Post : Tables → Env → Array Value → State → Outcome → State → Prop} (hpost : ∀ tb e args s v u, (limb_1_1.after args s (.returned v) u = true ∧ limb_1_2.after args s (.returned v) u = true ∧ True) → FrameEnd s (.returned v) u (Jvm.fieldLocs frame_1_writes args s ++ Jvm.arrayLocs frame_1_arrays args s ++ Jvm.staticLocs frame_1_statics s) 16 128 → Post tb e args s (.returned v) u) :
    ArmFor flags0 classFile x code maxLocals ret World_1 tables_1 room_1 Calls_1 rest_1 Pre_1 Post := by
  intro l hfl _ _ p e ha hc hk s m args below hf hA hF happ hP
  obtain ⟨hcalls, hrest, hpre⟩ := hP
  obtain ⟨-, -, -, hnamed, -, -, -, hat⟩ := (Spec.applies_iff hf).mp happ
  obtain ⟨hg, hn⟩ := and_e (Cond.before_iff.mp (show (Jvm.Cond.and given_1 narrow_1).before args s = true from hpre))
  obtain ⟨hg1, hg2⟩ := and_e hg
  obtain ⟨hg3, hg4⟩ := and_e hg2
  obtain ⟨hg5, hg6⟩ := and_e hg4
  obtain ⟨hg7, hg8⟩ := and_e hg6
  obtain ⟨w0, w1, w2, w3, rfl⟩ : ∃ w0 w1 w2 w3 : Value, args = #[w0, w1, w2, w3] := by
    have hs : args.size = 4 := by simpa [Cond.value, given_1] using hg1
    obtain ⟨L⟩ := args
    match L, hs with
    | [w0, w1, w2, w3], _ => exact ⟨w0, w1, w2, w3, rfl⟩
  have hw := fun d (hd : d ∈ tables_1) => atoms_spec (ws := Jvm.Cond.code x code maxLocals ret :: tables_1) hat d (List.mem_cons_of_mem _ hd)
  have hfit : Fit s := fun {y c} hc i hi => by
    obtain ⟨ha, rfl⟩ := Array.getElem?_eq_some_iff.mp hc
    have q := List.all_eq_true.mp ((Array.all_eq_true_iff_forall_mem.mp hF) _ (Array.getElem_mem ha)) i (List.mem_range.mpr hi)
    simpa [Array.getElem?_eq_getElem hi] using q
  obtain ⟨i0, ei0⟩ := is_v hg3
  obtain rfl : w0 = (.int i0) := Option.some.inj ei0
  obtain ⟨i1, ei1⟩ := is_v hg5
  obtain rfl : w1 = (.int i1) := Option.some.inj ei1
  obtain ⟨i2, ei2⟩ := is_v hg7
  obtain rfl : w2 = (.int i2) := Option.some.inj ei2
  obtain ⟨i3, ei3⟩ := is_v hg8
  obtain rfl : w3 = (.int i3) := Option.some.inj ei3
  obtain ⟨n, o, h1, h2, h3, _, L, rfl, ⟨rfl, N⟩, hq⟩ := rm0 l s _ hw tables_1 i0 i1 i2 i3 s.heap s.heap.size (Nat.le_refl _)  p e ha hc hk s m _ below hf ((Spec.applies_iff_loose hf).mp happ).1 ⟨rfl, State.Warmed39.refl s, rfl⟩ trivial
  refine ⟨n, _, h1, h2, h3, hpost _ _ _ _ _ _ ⟨Cond.after_iff.mpr rfl, Cond.after_iff.mpr (eq_i res_at (Term.int_eval (1)) rfl), trivial⟩ ⟨hq.1, hq.2.1, (hq.2.2.sift fun y hy => Or.inr (N y hy)).mono (by decide) (by decide)⟩⟩
theorem main_1_1 : Claimed_1_1 := comes_1 fun _ _ _ _ _ _ h hF => ⟨h.1, hF⟩
theorem main_1_2 : Claimed_1_2 := comes_1 fun _ _ _ _ _ _ h hF => ⟨h.2.1, hF⟩
end Jvm.Pilot.@@N@@
namespace Jvm.Pilot.@@N@@
open Jvm Jvm.ClassFile Sem Op Lib Jvm.Free Jvm.Stand Jvm.Pilot.@@N@@.Jvm.D
/-! MADE BY PROGRAM (witnessworld.py) out of the Statement's table words and the real class files: 9 classes; the members and pool entries that the words name. The judged class is class 1, her method 1. -/
namespace start1
open Jvm.ClassFile
def u (s : String) : CpInfo := .utf8 (stringToUtf16 s)
/-- a pool by its gaps: so many unusable entries, then the entry; so many at the end -/
def gap : Nat → List CpInfo → List CpInfo
  | 0, r => r
  | n + 1, r => .unusable :: gap n r
def poolList (es : List (Nat × CpInfo)) (last : Nat) : List CpInfo := es.foldr (fun e r => gap e.1 (e.2 :: r)) (gap last [])
def pool (es : List (Nat × CpInfo)) (last : Nat) : Array CpInfo := ⟨poolList es last⟩
def fileOf (pool : Array CpInfo) (this : Nat) (attrs : Array Attribute := #[]) (ms : Array MethodInfo := #[]) (fl : Nat := 33) (sup : Nat := 0) (ifs : Array Nat := #[]) (fds : Array FieldInfo := #[]) : ClassFile where
  minorVersion := 0
  majorVersion := 65
  constantPool := pool
  accessFlags := fl
  thisClass := this
  superClass := sup
  interfaces := ifs
  fields := fds
  methods := ms
  attributes := attrs
def plain (name : String) (sup : Option ClassId) : Class where
  name := name
  kind := .ordinary
  loader := none
  accessFlags := 33
  super := sup
  interfaces := #[]
  cf := none
  fields := #[]
  methods := #[]
  instanceTypes := #[]
  staticTypes := #[]
  resolved := #[]
  callSites := []
  init := .initialized
  statics := none
  mirror := none

def pool0 : Array CpInfo := pool [(5, u "<init>"), (0, u "()V"), (1, .class_ 10), (1, u "java/lang/Object")] 113

def k0m0 : Method := { name := "<init>", desc := "()V", sig := { parameters := [], returnType := none }, accessFlags := 1, code := none }
/-- java/lang/Object -/
def k0 : Class := { plain "java/lang/Object" none with
  accessFlags := 33
  interfaces := #[]
  cf := some (fileOf pool0 8 #[] #[{ accessFlags := 1, nameIndex := 5, descriptorIndex := 6, attributes := #[] }] 33 0 #[] #[])
  fields := #[]
  methods := #[k0m0]
  instanceTypes := #[]
  staticTypes := #[]
  resolved := Array.replicate 124 none
  statics := none }

def pool1 : Array CpInfo := pool [(2, .class_ 4), (1, u "java/lang/Object"), (0, u "<init>"), (0, u "()V"), (0, .integer 2147483647), (0, .methodref 9 10), (0, .class_ 11), (0, .nameAndType 12 13), (0, u "com/example/bidkeel/bidkeel/KnapsackCountUpToPinLaw"), (0, u "atOrBelow"), (0, u "(IIII)I"), (0, .methodref 15 16), (0, .class_ 17), (0, .nameAndType 18 19), (0, u "com/example/bidkeel/bidkeel/Knapsack"), (0, u "countUpTo"), (0, u "([DD)I"), (2, u "law"), (0, u "(IIII)Z")] 5

def k1m0 : Method := { name := "<init>", desc := "()V", sig := { parameters := [], returnType := none }, accessFlags := 2, code := none }
def k1c1 : Code := { maxStack := 5, maxLocals := 14, code := code, exceptionTable := #[], attributes := #[] }
def k1m1 : Method := { name := "law", desc := "(IIII)Z", sig := { parameters := [.int, .int, .int, .int], returnType := some .boolean }, accessFlags := 9, code := some k1c1 }
def k1c2 : Code := { maxStack := 2, maxLocals := 4, code := method_3_code, exceptionTable := #[], attributes := #[] }
def k1m2 : Method := { name := "atOrBelow", desc := "(IIII)I", sig := { parameters := [.int, .int, .int, .int], returnType := some .int }, accessFlags := 10, code := some k1c2 }
/-- com/example/bidkeel/bidkeel/KnapsackCountUpToPinLaw -/
def k1 : Class := { plain "com/example/bidkeel/bidkeel/KnapsackCountUpToPinLaw" (some 0) with
  accessFlags := 49
  interfaces := #[]
  cf := some (fileOf pool1 9 #[] #[{ accessFlags := 2, nameIndex := 5, descriptorIndex := 6, attributes := #[] }, { accessFlags := 9, nameIndex := 22, descriptorIndex := 23, attributes := #[] }, { accessFlags := 10, nameIndex := 12, descriptorIndex := 13, attributes := #[] }] 49 2 #[] #[])
  fields := #[]
  methods := #[k1m0, k1m1, k1m2]
  instanceTypes := #[]
  staticTypes := #[]
  resolved := Array.replicate 29 none
  statics := none }

def pool2 : Array CpInfo := pool [(2, .class_ 4), (1, u "java/lang/Object"), (0, u "<init>"), (0, u "()V"), (16, .class_ 25), (1, u "com/example/bidkeel/bidkeel/Knapsack"), (2, .class_ 29), (0, u "com/example/bidkeel/bidkeel/Knapsack$Ranking"), (3, .class_ 34), (0, u "com/example/bidkeel/bidkeel/Knapsack$Search"), (11, .class_ 48), (1, u "com/example/bidkeel/bidkeel/Knapsack$Classes"), (22, .class_ 72), (0, u "com/example/bidkeel/bidkeel/Knapsack$Solution"), (5, u "countUpTo"), (0, u "([DD)I"), (9, .class_ 90), (0, u "com/example/bidkeel/bidkeel/Knapsack$Lattice"), (3, .class_ 95), (0, u "com/example/bidkeel/bidkeel/Knapsack$StateSpace"), (0, .class_ 97), (0, u "com/example/bidkeel/bidkeel/Knapsack$Best"), (0, .class_ 99), (0, u "com/example/bidkeel/bidkeel/Knapsack$BreakSolution"), (0, .class_ 101), (0, u "com/example/bidkeel/bidkeel/Knapsack$States"), (0, .class_ 103), (0, u "com/example/bidkeel/bidkeel/Knapsack$Change"), (0, .class_ 105), (0, u "com/example/bidkeel/bidkeel/Knapsack$Increments"), (0, .class_ 107), (0, u "com/example/bidkeel/bidkeel/Knapsack$Classes$1")] 12

def k2m0 : Method := { name := "<init>", desc := "()V", sig := { parameters := [], returnType := none }, accessFlags := 2, code := none }
def k2c1 : Code := { maxStack := 4, maxLocals := 6, code := prog_27_method_2_code, exceptionTable := #[], attributes := #[] }
def k2m1 : Method := { name := "countUpTo", desc := "([DD)I", sig := { parameters := [(.array .double), .double], returnType := some .int }, accessFlags := 8, code := some k2c1 }
/-- com/example/bidkeel/bidkeel/Knapsack -/
def k2 : Class := { plain "com/example/bidkeel/bidkeel/Knapsack" (some 0) with
  accessFlags := 48
  interfaces := #[]
  cf := some (fileOf pool2 23 #[.nestMembers #[33, 94, 96, 98, 100, 102, 104, 28, 46, 106, 71, 89]] #[{ accessFlags := 2, nameIndex := 5, descriptorIndex := 6, attributes := #[] }, { accessFlags := 8, nameIndex := 78, descriptorIndex := 79, attributes := #[] }] 48 2 #[] #[])
  fields := #[]
  methods := #[k2m0, k2m1]
  instanceTypes := #[]
  staticTypes := #[]
  resolved := Array.replicate 120 none
  statics := none }

def pool3 : Array CpInfo := pool [(1, u "java/lang/Cloneable"), (0, .class_ 1), (0, u "java/lang/Object"), (0, .class_ 3)] 3

/-- java/lang/Cloneable -/
def k3 : Class := { plain "java/lang/Cloneable" (some 0) with
  accessFlags := 1537
  interfaces := #[]
  cf := some (fileOf pool3 2 #[] #[] 1537 4 #[] #[])
  fields := #[]
  methods := #[]
  instanceTypes := #[]
  staticTypes := #[]
  resolved := Array.replicate 8 none
  statics := none }

def pool4 : Array CpInfo := pool [(1, u "java/io/Serializable"), (0, .class_ 1), (0, u "java/lang/Object"), (0, .class_ 3)] 3

/-- java/io/Serializable -/
def k4 : Class := { plain "java/io/Serializable" (some 0) with
  accessFlags := 1537
  interfaces := #[]
  cf := some (fileOf pool4 2 #[] #[] 1537 4 #[] #[])
  fields := #[]
  methods := #[]
  instanceTypes := #[]
  staticTypes := #[]
  resolved := Array.replicate 8 none
  statics := none }

/-- the primitive byte -/
def k5 : Class := { plain "byte" none with kind := .primitive 'B', accessFlags := 0x411 }
/-- [B -/
def k6 : Class := { plain "[B" (some 0) with kind := .array 5 .byte, interfaces := #[3, 4], accessFlags := 1041 }

/-- the primitive int -/
def k7 : Class := { plain "int" none with kind := .primitive 'I', accessFlags := 0x411 }
/-- [I -/
def k8 : Class := { plain "[I" (some 0) with kind := .array 7 .int, interfaces := #[3, 4], accessFlags := 1041 }

/-- the primitive double -/
def k9 : Class := { plain "double" none with kind := .primitive 'D', accessFlags := 0x411 }
/-- [D -/
def k10 : Class := { plain "[D" (some 0) with kind := .array 9 .double, interfaces := #[3, 4], accessFlags := 1041 }
def heap : Heap := #[]
def classes : Array Class := #[k0, k1, k2, k3, k4, k5, k6, k7, k8, k9, k10]
def interned : List (Array UInt16 × Addr) := []
def slotsUsed : Nat := 0
def theMethod : MethodId := ⟨1, 1⟩
def args0 : Array Value := #[.int 5, .int 7, .int 1, .int 2]
def aboutOver (below : List Frame) : State where
  vm := { classes := classes, interned := interned.toArray }
  heap := heap
  slotsUsed := slotsUsed
  threads := #[{ frames := .invoking theMethod args0 :: below }]
def below0 : List Frame := [.native { method := ⟨0, 0⟩, args := #[] }]
def about1 : State := aboutOver below0
def p0 : Program := .bare "" "" ""
def e0 : Env := launch0.env 0 0 0
theorem w_frames : about1.frames = Frame.invoking theMethod args0 :: below0 := rfl
set_option maxRecDepth 65536 in
theorem w_args : argsFit about1.vm theMethod args0 = true := by decide +kernel
set_option maxRecDepth 65536 in
theorem w_heap : heapFits about1 = true := by decide +kernel
set_option maxRecDepth 65536 in
theorem w_runnable : about1.curStatus? = some .runnable := by decide +kernel
set_option maxRecDepth 65536 in
theorem w_alone : about1.alone = true := by decide +kernel
set_option maxRecDepth 65536 in
theorem w_named : about1.methodNamed? x = some theMethod := by decide +kernel
set_option maxRecDepth 65536 in
theorem w_hears : about1.hears theMethod below0 = true := by decide +kernel
set_option maxRecDepth 65536 in
theorem w_ripe : about1.ripe theMethod args0 below0 = true := by decide +kernel
theorem w_running : about1.status = .running := rfl
set_option maxRecDepth 65536 in
theorem w_room : about1.hasRoom e0.platform room_1 = true :=
  launch0.hasRoom_least _ room_1 (by decide +kernel) (by decide +kernel) (by decide +kernel) (by decide +kernel) (by decide +kernel) (by decide +kernel)
theorem allAtoms_all (ts : List Jvm.Cond) (a : Array Jvm.Value) (st : Jvm.State) : (allAtoms ts).before a st = ts.all (fun c => c.before a st) := by
  induction ts with
  | nil => rfl
  | cons c t ih =>
    show (Jvm.Cond.and c (allAtoms t)).before a st = _
    rw [Jvm.Cond.before_and, ih, List.all_cons]
def words1 : List Jvm.Cond := Jvm.Cond.code x code maxLocals ret :: tables_1
/-- a 'code' word, met by the world's own term for the bytes: nothing is compared byte by byte -/
theorem code_word {y : MethodName} {bytes : ByteArray} {mx : Nat} {rt : Option FieldType} {a : Array Value} {s : State} {m : MethodId} {meth : Method} {c : Code} (h1 : s.methodNamed? y = some m) (h2 : s.vm.method? m = some meth) (h3 : meth.code = some c) (h4 : c.code = bytes)
    (h5 : (c.maxLocals == mx && c.exceptionTable.isEmpty && decide (c.maxStack ≤ mostOperands) && decide (meth.sig.returnType = rt) && !meth.locks && decide (parseMethodDescriptor y.desc = some meth.sig)) = true) : (Jvm.Cond.code y bytes mx rt).before a s = true := by
  simp only [Bool.and_eq_true, beq_iff_eq, Bool.not_eq_true', decide_eq_true_eq] at h5
  obtain ⟨⟨⟨⟨⟨g1, g2⟩, g3⟩, g4⟩, g5⟩, g6⟩ := h5
  simp [Cond.before, Cond.holds, Cond.value, h1, h2, h3, h4, g1, g2, g3, g4, g5, g6]
def isCode : Jvm.Cond → Bool
  | .code _ _ _ _ => true
  | _ => false
theorem all_split {L : List Jvm.Cond} {P : Jvm.Cond → Bool} (h1 : L.all (fun c => isCode c || P c) = true) (h2 : ∀ c ∈ L.filter isCode, P c = true) : L.all P = true := by
  refine List.all_eq_true.mpr fun c hc => ?_
  have h := List.all_eq_true.mp h1 c hc
  rcases Bool.eq_false_or_eq_true (isCode c) with hi | hi
  · exact h2 c (List.mem_filter.mpr ⟨hc, hi⟩)
  · simpa [hi] using h
set_option maxRecDepth 65536 in
theorem w_c0 : (Jvm.Cond.code x code maxLocals ret).before args0 about1 = true := code_word (m := ⟨1, 1⟩) (meth := k1m1) (c := k1c1) (by decide +kernel) rfl rfl rfl (by decide +kernel)
set_option maxRecDepth 65536 in
theorem w_c1 : (Jvm.Cond.code ({ cls := "com/example/bidkeel/bidkeel/KnapsackCountUpToPinLaw", name := "atOrBelow", desc := "(IIII)I" } : Jvm.MethodName) method_3_code (4 : Nat) (Option.some Jvm.ClassFile.FieldType.int)).before args0 about1 = true := code_word (m := ⟨1, 2⟩) (meth := k1m2) (c := k1c2) (by decide +kernel) rfl rfl rfl (by decide +kernel)
set_option maxRecDepth 65536 in
theorem w_c2 : (Jvm.Cond.code ({ cls := "com/example/bidkeel/bidkeel/Knapsack", name := "countUpTo", desc := "([DD)I" } : Jvm.MethodName) prog_27_method_2_code (6 : Nat) (Option.some Jvm.ClassFile.FieldType.int)).before args0 about1 = true := code_word (m := ⟨2, 1⟩) (meth := k2m1) (c := k2c1) (by decide +kernel) rfl rfl rfl (by decide +kernel)
def codes1 : List Jvm.Cond := [Jvm.Cond.code x code maxLocals ret, Jvm.Cond.code ({ cls := "com/example/bidkeel/bidkeel/KnapsackCountUpToPinLaw", name := "atOrBelow", desc := "(IIII)I" } : Jvm.MethodName) method_3_code (4 : Nat) (Option.some Jvm.ClassFile.FieldType.int), Jvm.Cond.code ({ cls := "com/example/bidkeel/bidkeel/Knapsack", name := "countUpTo", desc := "([DD)I" } : Jvm.MethodName) prog_27_method_2_code (6 : Nat) (Option.some Jvm.ClassFile.FieldType.int)]
set_option maxRecDepth 65536 in
theorem codes_eq : words1.filter isCode = codes1 := rfl
theorem w_codes : ∀ c ∈ words1.filter isCode, c.before args0 about1 = true := by
  rw [codes_eq]
  intro c hc
  simp only [codes1, List.mem_cons, List.not_mem_nil, or_false] at hc
  rcases hc with rfl | rfl | rfl
  · exact w_c0
  · exact w_c1
  · exact w_c2
set_option maxRecDepth 65536 in
theorem w_t1 : words1.all (fun c => isCode c || c.before args0 about1) = true := by decide +kernel
theorem w_tables : (allAtoms (Jvm.Cond.code x code maxLocals ret :: tables_1)).before args0 about1 = true := by
  rw [allAtoms_all]
  show words1.all (fun c => c.before args0 about1) = true
  refine all_split ?_ w_codes
  rw [w_t1]
set_option maxRecDepth 65536 in
theorem w_case : (Jvm.Cond.and given_1 narrow_1).before args0 about1 = true := by decide +kernel
theorem w_applies : (headSpec (Jvm.Cond.code x code maxLocals ret :: tables_1) room_1).applies x e0.platform about1 = true :=
  (Spec.applies_iff w_frames).mpr ⟨w_running, w_runnable, w_alone, w_named, w_hears, w_ripe, w_room, w_tables⟩
theorem atStart : AtStart classFile x code maxLocals ret World_1 tables_1 room_1 Calls_1 rest_1 Pre_1 launch0 p0 e0 about1 theMethod args0 below0 :=
  ⟨lists_1, trivial, launch0.admits_env _ _ _, launch0.least_env, fairChoices_fair.cas, fairChoices_fair.clock, w_frames, w_args, w_heap, w_applies, trivial, trivial, w_case⟩
end start1
theorem witness_1 : WitnessClaimed_1 := ⟨start1.p0, start1.e0, start1.about1, start1.theMethod, start1.args0, start1.below0, start1.atStart⟩
end Jvm.Pilot.@@N@@
