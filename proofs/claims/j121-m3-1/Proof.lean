import JvmDerived
import JvmDerived.Pilot.@@N@@Statement
import JvmDerived.Pilot.@@N@@Code
set_option linter.unusedVariables false
set_option linter.unusedSimpArgs false
@@BLOCK:NumsL.lean.txt@@
namespace Jvm.RoadKit
open Sem ClassFile Op Lib Jvm.Stand Jvm.Free Jvm.LawKit
/-- from the frame f over T the run ends as R says -/
def Go (p : Program) (e : Env) (below : List Frame) (R : State → Outcome → Prop) (T : State) (f : JFrame) : Prop := ∃ s₂ o, Steps p.tables e below (T.setTop f) s₂ ∧ s₂.status = .running ∧ Ended s₂ below o ∧ R s₂ o
section New
variable {p : Program} {l : Launch} {e : Env} {R : Room} {s : State} {m : MethodId} {args : Array Value} {below : List Frame} {meth : Method} {c : Code} {T T' : State} {locs : List Loc} {cells slots : Nat} {K : State → Outcome → Prop} {f f' : JFrame}
theorem Go.start (q : f = f') (k : Go p e below K T f') : ∃ s₂ o, Steps p.tables e below (T.setTop f) s₂ ∧ s₂.status = .running ∧ Ended s₂ below o ∧ K s₂ o := q ▸ k
theorem Go.step (h : ∀ t, Steps p.tables e below (T'.setTop f') t → Steps p.tables e below (T.setTop f) t) (k : Go p e below K T' f') : Go p e below K T f := by
  obtain ⟨s₂, o, h1, h2⟩ := k
  exact ⟨s₂, o, h _ h1, h2⟩
theorem Go.fin {S2 : State} {o : Outcome} (hs : Steps p.tables e below (T.setTop f) S2) (h1 : S2.status = .running) (h2 : Ended S2 below o) (h3 : K S2 o) : Go p e below K T f := ⟨_, _, hs, h1, h2, h3⟩
theorem retI (X : Stand p l e R s m args below meth c T locs cells slots) (hx : p.tables.exec = Jvm.exec) {pc : Nat} {Ls : Array Slot} {z : Int32} {rest : List Value} (hret : meth.sig.returnType = some .int) (hd : decode c.code pc = .ok (.ireturn, 1)) {fs : List Frame}
    (hl : ∀ (f : JFrame) (acts : List Action), f.method = m → f.locked = none → f.entered = [] → (doReturn e (T.setTop f) acts (some (.int z))).1 = T.setFrames fs) : Steps p.tables e below (T.setTop (mkF m pc Ls (.int z :: rest))) (T.setFrames fs) := by
  have hm' : T.vm.method? m = some meth := X.method'
  have hn : narrow .int (.int z) = .int z := rfl
  show Steps p.tables e below (T.setTop { method := m, pc := pc, locals := Ls, stack := _ :: rest, locked := none }) _
  jvm_step X.here [X.here.top, hx, hd, hm', hret, hn]
  first | (intro acts; rw [hl _ acts rfl rfl rfl]) | rw [hl _ _ rfl rfl rfl]
  exact Steps.refl _
end New
end Jvm.RoadKit
namespace Jvm.Pilot.@@N@@
open Jvm Jvm.ClassFile Sem Op Lib Jvm.Free Jvm.Stand Jvm.LawKit Jvm.RoadKit Bundle Jvm.Pilot.@@N@@.Jvm.D
def own_in (a b c : Int32) : Int32 := if c < a then 0 else if b < c then 0 else 1
def own_c0 (c : Int32) : Int32 := 0
def own_c1 (a b c : Int32) : Int32 := if c < a then 0 else if b < c then 0 else 1
def own_c2 (a b d f c : Int32) : Int32 := if c < a then 0 else if b < c then (if c < d then 0 else if f < c then 0 else 1) else 1
def own_c3 (a b d f g k c : Int32) : Int32 := if c < a then 0 else if b < c then (if c < d then 0 else if f < c then (if c < g then 0 else if k < c then 0 else 1) else 1) else 1
theorem own_l1 (a b c : Int32) : own_c1 a b c = if own_in a b c = 0 then 0 else 1 := by
  unfold own_c1 own_in
  (repeat' split) <;> first | rfl | (simp_all; done)
set_option maxHeartbeats 4000000 in
theorem own_l2 {a b d f : Int32} (c : Int32) (h1 : a.toInt ≤ b.toInt) (h2 : b.toInt < d.toInt) (h3 : d.toInt ≤ f.toInt) : own_c2 a b d f c = if own_in a b c = 0 then (if own_in d f c = 0 then 0 else 1) else 1 := by
  have i0 : ∀ a b : Int32, own_in a b c = 0 ↔ (c.toInt < a.toInt ∨ b.toInt < c.toInt) := fun a b => by
    unfold own_in; simp only [Int32.lt_iff_toInt_lt]
    (repeat' split) <;> first | (simp_all; done) | (simp; omega)
  unfold own_c2
  simp only [i0, Int32.lt_iff_toInt_lt]
  (repeat' split) <;> first | rfl | (exfalso; omega)
set_option maxHeartbeats 4000000 in
theorem own_l3 {a b d f g k : Int32} (c : Int32) (h1 : a.toInt ≤ b.toInt) (h2 : b.toInt < d.toInt) (h3 : d.toInt ≤ f.toInt) (h4 : f.toInt < g.toInt) (h5 : g.toInt ≤ k.toInt) : own_c3 a b d f g k c = if own_in a b c = 0 then (if own_in d f c = 0 then (if own_in g k c = 0 then 0 else 1) else 1) else 1 := by
  have i0 : ∀ a b : Int32, own_in a b c = 0 ↔ (c.toInt < a.toInt ∨ b.toInt < c.toInt) := fun a b => by
    unfold own_in; simp only [Int32.lt_iff_toInt_lt]
    (repeat' split) <;> first | (simp_all; done) | (simp; omega)
  unfold own_c3
  simp only [i0, Int32.lt_iff_toInt_lt]
  (repeat' split) <;> first | rfl | (exfalso; omega)
theorem own_mk (x : Int64) : 0 ≤ ((x &&& (268435455 : Int64)).toInt32).toInt ∧ ((x &&& (268435455 : Int64)).toInt32).toInt < 268435456 := by
  have e := Jvm.Kit.i64_mask x 268435455 (k := 28) (by decide) (by decide)
  have e2 : ((x &&& (268435455 : Int64)).toInt32).toInt = (x &&& (268435455 : Int64)).toInt := Jvm.Kit.i32_of_i64 (by omega) (by omega)
  omega
theorem own_k3 (x : Int32) : (x &&& (3 : Int32)) = 0 ∨ (x &&& (3 : Int32)) = 1 ∨ (x &&& (3 : Int32)) = 2 ∨ (x &&& (3 : Int32)) = 3 := by
  have e := Jvm.Kit.i32_mask x 3 (k := 2) (by decide) (by decide)
  have e0 : (0 : Int32).toInt = 0 := by decide
  have e1 : (1 : Int32).toInt = 1 := by decide
  have e2 : (2 : Int32).toInt = 2 := by decide
  have e3 : (3 : Int32).toInt = 3 := by decide
  simp only [← Int32.toInt_inj, e0, e1, e2, e3]; omega
theorem own_add2 {a m : Int32} {lo hi : Int} (h1 : lo ≤ a.toInt) (h2 : a.toInt < hi) (hlo : -2 ^ 31 ≤ lo) (hhi : hi + 268435456 ≤ 2 ^ 31) (m1 : 0 ≤ m.toInt) (m2 : m.toInt < 268435456) : (a + m).toInt = a.toInt + m.toInt := Jvm.Kit.i32_add (by omega) (by omega)
theorem own_sorted {q0 q1 q2 : Int64} {s0 s1 s2 : Int64} {a0 b0 a1 b1 a2 b2 : Int32} (e1 : a0 = (q0.toInt32 >>> ((3 : Int32) &&& 31))) (e2 : b0 = a0 + ((s0 &&& (268435455 : Int64)).toInt32)) (e3 : a1 = (b0 + (2 : Int32)) + ((q1 &&& (268435455 : Int64)).toInt32)) (e4 : b1 = a1 + ((s1 &&& (268435455 : Int64)).toInt32)) (e5 : a2 = (b1 + (2 : Int32)) + ((q2 &&& (268435455 : Int64)).toInt32)) (e6 : b2 = a2 + ((s2 &&& (268435455 : Int64)).toInt32)) :
    a0.toInt ≤ b0.toInt ∧ b0.toInt < a1.toInt ∧ a1.toInt ≤ b1.toInt ∧ b1.toInt < a2.toInt ∧ a2.toInt ≤ b2.toInt := by
  have t2 : (2 : Int32).toInt = 2 := by decide
  have f1 : a0.toInt = q0.toInt32.toInt / 2 ^ 3 := by rw [e1]; exact Jvm.Kit.i32_shr _ _ (by decide)
  have r1 := q0.toInt32.toInt_lt
  have r2 := q0.toInt32.le_toInt
  have m0 := own_mk s0
  have n1 := own_mk q1
  have m1 := own_mk s1
  have n2 := own_mk q2
  have m2 := own_mk s2
  have f2 : b0.toInt = a0.toInt + ((s0 &&& (268435455 : Int64)).toInt32).toInt := by rw [e2]; exact Jvm.Kit.i32_add (by omega) (by omega)
  have f3 : (b0 + (2 : Int32)).toInt = b0.toInt + 2 := by rw [Jvm.Kit.i32_add (by omega) (by omega), t2]
  have f4 : a1.toInt = (b0.toInt + 2) + ((q1 &&& (268435455 : Int64)).toInt32).toInt := by rw [e3, Jvm.Kit.i32_add (by omega) (by omega), f3]
  have f5 : b1.toInt = a1.toInt + ((s1 &&& (268435455 : Int64)).toInt32).toInt := by rw [e4]; exact Jvm.Kit.i32_add (by omega) (by omega)
  have f6 : (b1 + (2 : Int32)).toInt = b1.toInt + 2 := by rw [Jvm.Kit.i32_add (by omega) (by omega), t2]
  have f7 : a2.toInt = (b1.toInt + 2) + ((q2 &&& (268435455 : Int64)).toInt32).toInt := by rw [e5, Jvm.Kit.i32_add (by omega) (by omega), f6]
  have f8 : b2.toInt = a2.toInt + ((s2 &&& (268435455 : Int64)).toInt32).toInt := by rw [e6]; exact Jvm.Kit.i32_add (by omega) (by omega)
  omega

theorem own_f0 : decode method_2_code 0 = .ok (.iload_n 0, 1) := by decide +kernel
theorem own_f1 : decode method_2_code 1 = .ok (.iload_n 2, 1) := by decide +kernel
theorem own_f2 : decode method_2_code 2 = .ok (.if_icmp .gt 12, 3) := by decide +kernel
theorem own_f3 : decode method_2_code 14 = .ok (.iconst 0, 1) := by decide +kernel
theorem own_f4 : decode method_2_code 15 = .ok (.ireturn, 1) := by decide +kernel
theorem own_f5 : decode method_2_code 5 = .ok (.iload_n 2, 1) := by decide +kernel
theorem own_f6 : decode method_2_code 6 = .ok (.iload_n 1, 1) := by decide +kernel
theorem own_f7 : decode method_2_code 7 = .ok (.if_icmp .gt 7, 3) := by decide +kernel
theorem own_f8 : decode method_2_code 10 = .ok (.iconst 1, 1) := by decide +kernel
theorem own_f9 : decode method_2_code 11 = .ok (.goto 4, 3) := by decide +kernel
theorem own_f10 : plainName "com/example/seriate/seriate/engine/pattern/CountsContainsPinLaw" = true := by first | (simp [plainName, overriddenIn]; done) | decide +kernel
theorem own_ef_I (m : MethodId) (p1 : Int32) (p2 : Int32) (p3 : Int32) : entryFrame m #[(.int p1), (.int p2), (.int p3)] 3 = mkF m 0 #[.val (.int p1), .val (.int p2), .val (.int p3)] [] := by first | (simp [entryFrame, mkF, argsToLocals, Value.category]; done) | rfl
def QI (Z : State) (p1 : Int32) (p2 : Int32) (p3 : Int32) (h0 : Heap) (n0 : Nat) (v : Option Value) (h : Heap) (L : List Loc) : Prop := v = some (.int (own_in p1 p2 p3)) ∧ Fr n0 L ∧ h = h0
set_option maxRecDepth 65536 in
set_option maxHeartbeats 40000000 in
theorem rmI (l : Launch) (Z : State) (a0 : Array Value) (hw : ∀ d ∈ tables_1, d.before a0 Z = true) (ws : List Jvm.Cond) (p1 : Int32) (p2 : Int32) (p3 : Int32) (h0 : Heap) (n0 : Nat) (Z0 : n0 ≤ h0.size)  :
    MetFree l (⟨"com/example/seriate/seriate/engine/pattern/CountsContainsPinLaw", "in", "(III)Z"⟩ : MethodName) (head1 (Jvm.Cond.code (⟨"com/example/seriate/seriate/engine/pattern/CountsContainsPinLaw", "in", "(III)Z"⟩ : MethodName) method_2_code 3 (some .boolean) :: ws) ({ frames := 0, cells := 0, slots := 0, locals := 0 } : Room)) (fun a U => a = #[(.int p1), (.int p2), (.int p3)] ∧ Z.Warmed39 U.vm ∧ U.heap = h0) (fun _ _ _ _ _ => True) (fun _ U o U' => ∃ v L, o = .returned v ∧ QI Z p1 p2 p3 h0 n0 v U'.heap L ∧ FrameEnd U o U' L ({ frames := 0, cells := 0, slots := 0, locals := 0 } : Room).cells ({ frames := 0, cells := 0, slots := 0, locals := 0 } : Room).slots) := by
  refine MetFree.of_bodySF (plainFor_of_name own_f10) hisR ?_
  intro p e s m args below meth c s₁ Bd hml0 hP hK
  obtain ⟨rfl, hZ, hh⟩ := hP
  have hx := Bd.exec
  have hby := Bd.bytes
  have hml : c.maxLocals = 3 := hml0
  have hown : s.vm.findClass "com/example/seriate/seriate/engine/pattern/CountsContainsPinLaw" = some m.cls := findClass_of_methodNamed Bd.named
  have hnm := (name_of_methodNamed Bd.named Bd.method).1
  have X0 : Stand p l e ({ frames := 0, cells := 0, slots := 0, locals := 0 } : Room) s m #[(.int p1), (.int p2), (.int p3)] below meth c s₁ [] 0 0 := Stand.of_body Bd
  have e0 : s₁.heap = h0 := by rw [← hh, Bd.state]; rfl
  have N0 := Fr.nil n0
  refine Go.start (own_ef_I m p1 p2 p3) ?_
  show Go p e below _ s₁ (mkF m 0 #[.val (.int p1), .val (.int p2), .val (.int p3)] [])
  refine Go.step (fun _ k => XS.iloadN X0.here hx rfl (hb hby own_f0) rfl k) ?_
  show Go p e below _ s₁ (mkF m 1 #[.val (.int p1), .val (.int p2), .val (.int p3)] [(.int p1)])
  refine Go.step (fun _ k => XS.iloadN X0.here hx rfl (hb hby own_f1) rfl k) ?_
  show Go p e below _ s₁ (mkF m 2 #[.val (.int p1), .val (.int p2), .val (.int p3)] [(.int p3), (.int p1)])
  by_cases hc2_1 : p3 < p1
  · show Go p e below _ s₁ (mkF m 2 #[.val (.int p1), .val (.int p2), .val (.int p3)] [(.int p3), (.int p1)])
    refine Go.step (fun _ k => XS.icmpYes X0.here hx rfl (pc0 := 2) (pc' := 14) rfl (hb hby own_f2) rfl (tlt hc2_1).2.2.1 (by decide) (by decide) k) ?_
    show Go p e below _ s₁ (mkF m 14 #[.val (.int p1), .val (.int p2), .val (.int p3)] [])
    refine Go.step (fun _ k => XS.iconst X0.here hx rfl (hb hby own_f3) k) ?_
    show Go p e below _ s₁ (mkF m 15 #[.val (.int p1), .val (.int p2), .val (.int p3)] [(.int (0 : Int32))])
    have er : (own_in p1 p2 p3) = (0 : Int32) := by simp [own_in, hc2_1]
    obtain ⟨fs, hr, hrun, hended, hW, hsame⟩ := X0.leave (v := some (.int (0 : Int32))) (fun h => by rw [Bd.returns] at h; cases h)
    refine Go.fin (retN X0 hx (t := .boolean) Bd.returns (by simp) (hb hby own_f4) hr) hrun hended ?_
    refine ⟨_, _, rfl, ?_, ⟨_, rfl⟩, hW, hsame.mono (by decide) (by decide)⟩
    show QI Z p1 p2 p3 h0 n0 _ s₁.heap _
    rw [e0]
    exact ⟨by rw [er], N0, rfl⟩
  · show Go p e below _ s₁ (mkF m 2 #[.val (.int p1), .val (.int p2), .val (.int p3)] [(.int p3), (.int p1)])
    refine Go.step (fun _ k => XS.icmpNo X0.here hx rfl (hb hby own_f2) rfl (flt hc2_1).2.2.1 k) ?_
    show Go p e below _ s₁ (mkF m 5 #[.val (.int p1), .val (.int p2), .val (.int p3)] [])
    refine Go.step (fun _ k => XS.iloadN X0.here hx rfl (hb hby own_f5) rfl k) ?_
    show Go p e below _ s₁ (mkF m 6 #[.val (.int p1), .val (.int p2), .val (.int p3)] [(.int p3)])
    refine Go.step (fun _ k => XS.iloadN X0.here hx rfl (hb hby own_f6) rfl k) ?_
    show Go p e below _ s₁ (mkF m 7 #[.val (.int p1), .val (.int p2), .val (.int p3)] [(.int p2), (.int p3)])
    by_cases hc7_2 : p2 < p3
    · show Go p e below _ s₁ (mkF m 7 #[.val (.int p1), .val (.int p2), .val (.int p3)] [(.int p2), (.int p3)])
      refine Go.step (fun _ k => XS.icmpYes X0.here hx rfl (pc0 := 7) (pc' := 14) rfl (hb hby own_f7) rfl (tlt hc7_2).2.2.1 (by decide) (by decide) k) ?_
      show Go p e below _ s₁ (mkF m 14 #[.val (.int p1), .val (.int p2), .val (.int p3)] [])
      refine Go.step (fun _ k => XS.iconst X0.here hx rfl (hb hby own_f3) k) ?_
      show Go p e below _ s₁ (mkF m 15 #[.val (.int p1), .val (.int p2), .val (.int p3)] [(.int (0 : Int32))])
      have er : (own_in p1 p2 p3) = (0 : Int32) := by simp [own_in, hc2_1, hc7_2]
      obtain ⟨fs, hr, hrun, hended, hW, hsame⟩ := X0.leave (v := some (.int (0 : Int32))) (fun h => by rw [Bd.returns] at h; cases h)
      refine Go.fin (retN X0 hx (t := .boolean) Bd.returns (by simp) (hb hby own_f4) hr) hrun hended ?_
      refine ⟨_, _, rfl, ?_, ⟨_, rfl⟩, hW, hsame.mono (by decide) (by decide)⟩
      show QI Z p1 p2 p3 h0 n0 _ s₁.heap _
      rw [e0]
      exact ⟨by rw [er], N0, rfl⟩
    · show Go p e below _ s₁ (mkF m 7 #[.val (.int p1), .val (.int p2), .val (.int p3)] [(.int p2), (.int p3)])
      refine Go.step (fun _ k => XS.icmpNo X0.here hx rfl (hb hby own_f7) rfl (flt hc7_2).2.2.1 k) ?_
      show Go p e below _ s₁ (mkF m 10 #[.val (.int p1), .val (.int p2), .val (.int p3)] [])
      refine Go.step (fun _ k => XS.iconst X0.here hx rfl (hb hby own_f8) k) ?_
      show Go p e below _ s₁ (mkF m 11 #[.val (.int p1), .val (.int p2), .val (.int p3)] [(.int (1 : Int32))])
      refine Go.step (fun _ k => XS.goto X0.here hx rfl (pc0 := 11) (pc' := 15) rfl (hb hby own_f9) (by decide) (by decide) k) ?_
      show Go p e below _ s₁ (mkF m 15 #[.val (.int p1), .val (.int p2), .val (.int p3)] [(.int (1 : Int32))])
      have er : (own_in p1 p2 p3) = (1 : Int32) := by simp [own_in, hc2_1, hc7_2]
      obtain ⟨fs, hr, hrun, hended, hW, hsame⟩ := X0.leave (v := some (.int (1 : Int32))) (fun h => by rw [Bd.returns] at h; cases h)
      refine Go.fin (retN X0 hx (t := .boolean) Bd.returns (by simp) (hb hby own_f4) hr) hrun hended ?_
      refine ⟨_, _, rfl, ?_, ⟨_, rfl⟩, hW, hsame.mono (by decide) (by decide)⟩
      show QI Z p1 p2 p3 h0 n0 _ s₁.heap _
      rw [e0]
      exact ⟨by rw [er], N0, rfl⟩
theorem own_f11 : decode prog_66_method_3_code 0 = .ok (.iconst 0, 1) := by decide +kernel
theorem own_f12 : decode prog_66_method_3_code 1 = .ok (.istore_n 2, 1) := by decide +kernel
theorem own_f13 : decode prog_66_method_3_code 2 = .ok (.iload_n 2, 1) := by decide +kernel
theorem own_f14 : decode prog_66_method_3_code 3 = .ok (.aload_n 0, 1) := by decide +kernel
theorem own_f15 : decode prog_66_method_3_code 4 = .ok (.arraylength, 1) := by decide +kernel
theorem own_f16 : decode prog_66_method_3_code 5 = .ok (.if_icmp .ge 27, 3) := by decide +kernel
theorem own_f17 : decode prog_66_method_3_code 32 = .ok (.iconst 0, 1) := by decide +kernel
theorem own_f18 : decode prog_66_method_3_code 33 = .ok (.ireturn, 1) := by decide +kernel
theorem own_f19 : plainName "com/example/seriate/seriate/engine/pattern/Counts" = true := by first | (simp [plainName, overriddenIn]; done) | decide +kernel
theorem own_ef_C0 (m : MethodId) (a1 : Addr) (p1 : Int32) : entryFrame m #[(.ref a1), (.int p1)] 3 = mkF m 0 #[.val (.ref a1), .val (.int p1), .unset] [] := by first | (simp [entryFrame, mkF, argsToLocals, Value.category]; done) | rfl
def QC0 (Z : State) (a1 : Addr) (p1 : Int32) (kk : ClassId)  (h0 : Heap) (n0 : Nat) (v : Option Value) (h : Heap) (L : List Loc) : Prop := v = some (.int (own_c0 p1)) ∧ Fr n0 L ∧ h = h0
set_option maxRecDepth 65536 in
set_option maxHeartbeats 40000000 in
theorem rmC0 (l : Launch) (Z : State) (a0 : Array Value) (hw : ∀ d ∈ tables_1, d.before a0 Z = true) (ws : List Jvm.Cond) (a1 : Addr) (p1 : Int32) (kk : ClassId)  (h0 : Heap) (n0 : Nat) (Z0 : n0 ≤ h0.size) (V_a1 : Arv Z h0 a1 kk .int (0 : Int32) [] (.int (0 : Int32))) :
    MetFree l (⟨"com/example/seriate/seriate/engine/pattern/Counts", "contains", "([II)Z"⟩ : MethodName) (head1 (Jvm.Cond.code (⟨"com/example/seriate/seriate/engine/pattern/Counts", "contains", "([II)Z"⟩ : MethodName) prog_66_method_3_code 3 (some .boolean) :: ws) ({ frames := 0, cells := 0, slots := 0, locals := 0 } : Room)) (fun a U => a = #[(.ref a1), (.int p1)] ∧ Z.Warmed39 U.vm ∧ U.heap = h0) (fun _ _ _ _ _ => True) (fun _ U o U' => ∃ v L, o = .returned v ∧ QC0 Z a1 p1 kk h0 n0 v U'.heap L ∧ FrameEnd U o U' L ({ frames := 0, cells := 0, slots := 0, locals := 0 } : Room).cells ({ frames := 0, cells := 0, slots := 0, locals := 0 } : Room).slots) := by
  refine MetFree.of_bodySF (plainFor_of_name own_f19) hisR ?_
  intro p e s m args below meth c s₁ Bd hml0 hP hK
  obtain ⟨rfl, hZ, hh⟩ := hP
  have hx := Bd.exec
  have hby := Bd.bytes
  have hml : c.maxLocals = 3 := hml0
  have hown : s.vm.findClass "com/example/seriate/seriate/engine/pattern/Counts" = some m.cls := findClass_of_methodNamed Bd.named
  have hnm := (name_of_methodNamed Bd.named Bd.method).1
  have X0 : Stand p l e ({ frames := 0, cells := 0, slots := 0, locals := 0 } : Room) s m #[(.ref a1), (.int p1)] below meth c s₁ [] 0 0 := Stand.of_body Bd
  have e0 : s₁.heap = h0 := by rw [← hh, Bd.state]; rfl
  have N0 := Fr.nil n0
  refine Go.start (own_ef_C0 m a1 p1) ?_
  show Go p e below _ s₁ (mkF m 0 #[.val (.ref a1), .val (.int p1), .unset] [])
  refine Go.step (fun _ k => XS.iconst X0.here hx rfl (hb hby own_f11) k) ?_
  show Go p e below _ s₁ (mkF m 1 #[.val (.ref a1), .val (.int p1), .unset] [(.int (0 : Int32))])
  refine Go.step (fun _ k => XS.istoreN X0.here hx rfl (hb hby own_f12) rfl (l' := #[.val (.ref a1), .val (.int p1), .val (.int (0 : Int32))]) rfl k) ?_
  show Go p e below _ s₁ (mkF m 2 #[.val (.ref a1), .val (.int p1), .val (.int (0 : Int32))] [])
  refine Go.step (fun _ k => XS.iloadN X0.here hx rfl (hb hby own_f13) rfl k) ?_
  show Go p e below _ s₁ (mkF m 3 #[.val (.ref a1), .val (.int p1), .val (.int (0 : Int32))] [(.int (0 : Int32))])
  refine Go.step (fun _ k => XS.aloadN X0.here hx rfl (hb hby own_f14) rfl rfl k) ?_
  show Go p e below _ s₁ (mkF m 4 #[.val (.ref a1), .val (.int p1), .val (.int (0 : Int32))] [(.ref a1), (.int (0 : Int32))])
  obtain ⟨cl3, Ar3, q3, S3, Nn3, H3, G3⟩ := V_a1
  have V_a1 : Arv Z h0 a1 kk .int (0 : Int32) [] (.int (0 : Int32)) := ⟨cl3, Ar3, q3, S3, Nn3, H3, G3⟩
  refine Go.step (X0.arraylength hx (by rw [e0]; exact Ar3.1) (State.isArrayOf_alike hZ.alike Ar3.2.1) (g := (mkF m 4 #[.val (.ref a1), .val (.int p1), .val (.int (0 : Int32))] [(.ref a1), (.int (0 : Int32))])) rfl rfl (hb hby own_f15)) ?_
  rw [len_of S3 Nn3]
  show Go p e below _ s₁ (mkF m 5 #[.val (.ref a1), .val (.int p1), .val (.int (0 : Int32))] [(.int (0 : Int32)), (.int (0 : Int32))])
  refine Go.step (fun _ k => XS.icmpYes X0.here hx rfl (pc0 := 5) (pc' := 32) rfl (hb hby own_f16) rfl (flt (by decide)).2.1 (by decide) (by decide) k) ?_
  show Go p e below _ s₁ (mkF m 32 #[.val (.ref a1), .val (.int p1), .val (.int (0 : Int32))] [])
  refine Go.step (fun _ k => XS.iconst X0.here hx rfl (hb hby own_f17) k) ?_
  show Go p e below _ s₁ (mkF m 33 #[.val (.ref a1), .val (.int p1), .val (.int (0 : Int32))] [(.int (0 : Int32))])
  have er : (own_c0 p1) = (0 : Int32) := by simp [own_c0, Int32.lt_iff_toInt_lt]
  obtain ⟨fs, hr, hrun, hended, hW, hsame⟩ := X0.leave (v := some (.int (0 : Int32))) (fun h => by rw [Bd.returns] at h; cases h)
  refine Go.fin (retN X0 hx (t := .boolean) Bd.returns (by simp) (hb hby own_f18) hr) hrun hended ?_
  refine ⟨_, _, rfl, ?_, ⟨_, rfl⟩, hW, hsame.mono (by decide) (by decide)⟩
  show QC0 Z a1 p1 kk h0 n0 _ s₁.heap _
  rw [e0]
  exact ⟨by rw [er], N0, rfl⟩
theorem own_f20 : decode prog_66_method_3_code 8 = .ok (.aload_n 0, 1) := by decide +kernel
theorem own_f21 : decode prog_66_method_3_code 9 = .ok (.iload_n 2, 1) := by decide +kernel
theorem own_f22 : decode prog_66_method_3_code 10 = .ok (.iaload, 1) := by decide +kernel
theorem own_f23 : decode prog_66_method_3_code 11 = .ok (.iload_n 1, 1) := by decide +kernel
theorem own_f24 : decode prog_66_method_3_code 12 = .ok (.if_icmp .gt 20, 3) := by decide +kernel
theorem own_f25 : decode prog_66_method_3_code 15 = .ok (.iload_n 1, 1) := by decide +kernel
theorem own_f26 : decode prog_66_method_3_code 16 = .ok (.aload_n 0, 1) := by decide +kernel
theorem own_f27 : decode prog_66_method_3_code 17 = .ok (.iload_n 2, 1) := by decide +kernel
theorem own_f28 : decode prog_66_method_3_code 18 = .ok (.iconst 1, 1) := by decide +kernel
theorem own_f29 : decode prog_66_method_3_code 19 = .ok (.iadd, 1) := by decide +kernel
theorem own_f30 : decode prog_66_method_3_code 20 = .ok (.iaload, 1) := by decide +kernel
theorem own_f31 : decode prog_66_method_3_code 21 = .ok (.if_icmp .gt 5, 3) := by decide +kernel
theorem own_f32 : decode prog_66_method_3_code 26 = .ok (.iinc 2 2, 3) := by decide +kernel
theorem own_f33 : decode prog_66_method_3_code 29 = .ok (.goto (-27), 3) := by decide +kernel
theorem own_f34 : decode prog_66_method_3_code 24 = .ok (.iconst 1, 1) := by decide +kernel
theorem own_f35 : decode prog_66_method_3_code 25 = .ok (.ireturn, 1) := by decide +kernel
theorem own_ef_C1 (m : MethodId) (a1 : Addr) (p1 : Int32) : entryFrame m #[(.ref a1), (.int p1)] 3 = mkF m 0 #[.val (.ref a1), .val (.int p1), .unset] [] := by first | (simp [entryFrame, mkF, argsToLocals, Value.category]; done) | rfl
def QC1 (Z : State) (a1 : Addr) (p1 : Int32) (kk : ClassId) (u0 : Int32) (u1 : Int32) (h0 : Heap) (n0 : Nat) (v : Option Value) (h : Heap) (L : List Loc) : Prop := v = some (.int (own_c1 u0 u1 p1)) ∧ Fr n0 L ∧ h = h0
set_option maxRecDepth 65536 in
set_option maxHeartbeats 40000000 in
theorem rmC1 (l : Launch) (Z : State) (a0 : Array Value) (hw : ∀ d ∈ tables_1, d.before a0 Z = true) (ws : List Jvm.Cond) (a1 : Addr) (p1 : Int32) (kk : ClassId) (u0 : Int32) (u1 : Int32) (h0 : Heap) (n0 : Nat) (Z0 : n0 ≤ h0.size) (V_a1 : Arv Z h0 a1 kk .int (2 : Int32) [(.int u0), (.int u1)] (.int (0 : Int32))) :
    MetFree l (⟨"com/example/seriate/seriate/engine/pattern/Counts", "contains", "([II)Z"⟩ : MethodName) (head1 (Jvm.Cond.code (⟨"com/example/seriate/seriate/engine/pattern/Counts", "contains", "([II)Z"⟩ : MethodName) prog_66_method_3_code 3 (some .boolean) :: ws) ({ frames := 0, cells := 0, slots := 0, locals := 0 } : Room)) (fun a U => a = #[(.ref a1), (.int p1)] ∧ Z.Warmed39 U.vm ∧ U.heap = h0) (fun _ _ _ _ _ => True) (fun _ U o U' => ∃ v L, o = .returned v ∧ QC1 Z a1 p1 kk u0 u1 h0 n0 v U'.heap L ∧ FrameEnd U o U' L ({ frames := 0, cells := 0, slots := 0, locals := 0 } : Room).cells ({ frames := 0, cells := 0, slots := 0, locals := 0 } : Room).slots) := by
  refine MetFree.of_bodySF (plainFor_of_name own_f19) hisR ?_
  intro p e s m args below meth c s₁ Bd hml0 hP hK
  obtain ⟨rfl, hZ, hh⟩ := hP
  have hx := Bd.exec
  have hby := Bd.bytes
  have hml : c.maxLocals = 3 := hml0
  have hown : s.vm.findClass "com/example/seriate/seriate/engine/pattern/Counts" = some m.cls := findClass_of_methodNamed Bd.named
  have hnm := (name_of_methodNamed Bd.named Bd.method).1
  have X0 : Stand p l e ({ frames := 0, cells := 0, slots := 0, locals := 0 } : Room) s m #[(.ref a1), (.int p1)] below meth c s₁ [] 0 0 := Stand.of_body Bd
  have e0 : s₁.heap = h0 := by rw [← hh, Bd.state]; rfl
  have N0 := Fr.nil n0
  refine Go.start (own_ef_C1 m a1 p1) ?_
  show Go p e below _ s₁ (mkF m 0 #[.val (.ref a1), .val (.int p1), .unset] [])
  refine Go.step (fun _ k => XS.iconst X0.here hx rfl (hb hby own_f11) k) ?_
  show Go p e below _ s₁ (mkF m 1 #[.val (.ref a1), .val (.int p1), .unset] [(.int (0 : Int32))])
  refine Go.step (fun _ k => XS.istoreN X0.here hx rfl (hb hby own_f12) rfl (l' := #[.val (.ref a1), .val (.int p1), .val (.int (0 : Int32))]) rfl k) ?_
  show Go p e below _ s₁ (mkF m 2 #[.val (.ref a1), .val (.int p1), .val (.int (0 : Int32))] [])
  refine Go.step (fun _ k => XS.iloadN X0.here hx rfl (hb hby own_f13) rfl k) ?_
  show Go p e below _ s₁ (mkF m 3 #[.val (.ref a1), .val (.int p1), .val (.int (0 : Int32))] [(.int (0 : Int32))])
  refine Go.step (fun _ k => XS.aloadN X0.here hx rfl (hb hby own_f14) rfl rfl k) ?_
  show Go p e below _ s₁ (mkF m 4 #[.val (.ref a1), .val (.int p1), .val (.int (0 : Int32))] [(.ref a1), (.int (0 : Int32))])
  obtain ⟨cl4, Ar4, q4, S4, Nn4, H4, G4⟩ := V_a1
  have V_a1 : Arv Z h0 a1 kk .int (2 : Int32) [(.int u0), (.int u1)] (.int (0 : Int32)) := ⟨cl4, Ar4, q4, S4, Nn4, H4, G4⟩
  refine Go.step (X0.arraylength hx (by rw [e0]; exact Ar4.1) (State.isArrayOf_alike hZ.alike Ar4.2.1) (g := (mkF m 4 #[.val (.ref a1), .val (.int p1), .val (.int (0 : Int32))] [(.ref a1), (.int (0 : Int32))])) rfl rfl (hb hby own_f15)) ?_
  rw [len_of S4 Nn4]
  show Go p e below _ s₁ (mkF m 5 #[.val (.ref a1), .val (.int p1), .val (.int (0 : Int32))] [(.int (2 : Int32)), (.int (0 : Int32))])
  refine Go.step (fun _ k => XS.icmpNo X0.here hx rfl (hb hby own_f16) rfl (tlt (by decide)).2.1 k) ?_
  show Go p e below _ s₁ (mkF m 8 #[.val (.ref a1), .val (.int p1), .val (.int (0 : Int32))] [])
  refine Go.step (fun _ k => XS.aloadN X0.here hx rfl (hb hby own_f20) rfl rfl k) ?_
  show Go p e below _ s₁ (mkF m 9 #[.val (.ref a1), .val (.int p1), .val (.int (0 : Int32))] [(.ref a1)])
  refine Go.step (fun _ k => XS.iloadN X0.here hx rfl (hb hby own_f21) rfl k) ?_
  show Go p e below _ s₁ (mkF m 10 #[.val (.ref a1), .val (.int p1), .val (.int (0 : Int32))] [(.int (0 : Int32)), (.ref a1)])
  obtain ⟨cl5, Ar5, q5, S5, Nn5, H5, G5⟩ := V_a1
  have V_a1 : Arv Z h0 a1 kk .int (2 : Int32) [(.int u0), (.int u1)] (.int (0 : Int32)) := ⟨cl5, Ar5, q5, S5, Nn5, H5, G5⟩
  have hin5 : ¬ ((0 : Int32) < 0 ∨ cl5.slots.size ≤ ((0 : Int32)).toNatClampNeg) := inb_of S5 ⟨by decide, by decide⟩
  have hat5 : cl5.slots[((0 : Int32)).toNatClampNeg]? = some (.int u0) := Has.at H5 hin5 rfl
  refine Go.step (X0.iaload hx (j := (0 : Int32)) (v := (.int u0)) (by rw [e0]; exact Ar5.1) (State.isArrayOf_alike hZ.alike Ar5.2.1) Ar5.2.2 hin5 hat5 (g := (mkF m 10 #[.val (.ref a1), .val (.int p1), .val (.int (0 : Int32))] [(.int (0 : Int32)), (.ref a1)])) rfl rfl (hb hby own_f22)) ?_
  show Go p e below _ s₁ (mkF m 11 #[.val (.ref a1), .val (.int p1), .val (.int (0 : Int32))] [(.int u0)])
  refine Go.step (fun _ k => XS.iloadN X0.here hx rfl (hb hby own_f23) rfl k) ?_
  show Go p e below _ s₁ (mkF m 12 #[.val (.ref a1), .val (.int p1), .val (.int (0 : Int32))] [(.int p1), (.int u0)])
  by_cases hc12_6 : p1 < u0
  · show Go p e below _ s₁ (mkF m 12 #[.val (.ref a1), .val (.int p1), .val (.int (0 : Int32))] [(.int p1), (.int u0)])
    refine Go.step (fun _ k => XS.icmpYes X0.here hx rfl (pc0 := 12) (pc' := 32) rfl (hb hby own_f24) rfl (tlt hc12_6).2.2.1 (by decide) (by decide) k) ?_
    show Go p e below _ s₁ (mkF m 32 #[.val (.ref a1), .val (.int p1), .val (.int (0 : Int32))] [])
    refine Go.step (fun _ k => XS.iconst X0.here hx rfl (hb hby own_f17) k) ?_
    show Go p e below _ s₁ (mkF m 33 #[.val (.ref a1), .val (.int p1), .val (.int (0 : Int32))] [(.int (0 : Int32))])
    have er : (own_c1 u0 u1 p1) = (0 : Int32) := by simp [own_c1, hc12_6]
    obtain ⟨fs, hr, hrun, hended, hW, hsame⟩ := X0.leave (v := some (.int (0 : Int32))) (fun h => by rw [Bd.returns] at h; cases h)
    refine Go.fin (retN X0 hx (t := .boolean) Bd.returns (by simp) (hb hby own_f18) hr) hrun hended ?_
    refine ⟨_, _, rfl, ?_, ⟨_, rfl⟩, hW, hsame.mono (by decide) (by decide)⟩
    show QC1 Z a1 p1 kk u0 u1 h0 n0 _ s₁.heap _
    rw [e0]
    exact ⟨by rw [er], N0, rfl⟩
  · show Go p e below _ s₁ (mkF m 12 #[.val (.ref a1), .val (.int p1), .val (.int (0 : Int32))] [(.int p1), (.int u0)])
    refine Go.step (fun _ k => XS.icmpNo X0.here hx rfl (hb hby own_f24) rfl (flt hc12_6).2.2.1 k) ?_
    show Go p e below _ s₁ (mkF m 15 #[.val (.ref a1), .val (.int p1), .val (.int (0 : Int32))] [])
    refine Go.step (fun _ k => XS.iloadN X0.here hx rfl (hb hby own_f25) rfl k) ?_
    show Go p e below _ s₁ (mkF m 16 #[.val (.ref a1), .val (.int p1), .val (.int (0 : Int32))] [(.int p1)])
    refine Go.step (fun _ k => XS.aloadN X0.here hx rfl (hb hby own_f26) rfl rfl k) ?_
    show Go p e below _ s₁ (mkF m 17 #[.val (.ref a1), .val (.int p1), .val (.int (0 : Int32))] [(.ref a1), (.int p1)])
    refine Go.step (fun _ k => XS.iloadN X0.here hx rfl (hb hby own_f27) rfl k) ?_
    show Go p e below _ s₁ (mkF m 18 #[.val (.ref a1), .val (.int p1), .val (.int (0 : Int32))] [(.int (0 : Int32)), (.ref a1), (.int p1)])
    refine Go.step (fun _ k => XS.iconst X0.here hx rfl (hb hby own_f28) k) ?_
    show Go p e below _ s₁ (mkF m 19 #[.val (.ref a1), .val (.int p1), .val (.int (0 : Int32))] [(.int (1 : Int32)), (.int (0 : Int32)), (.ref a1), (.int p1)])
    refine Go.step (fun _ k => XS.iadd X0.here hx rfl (hb hby own_f29) rfl k) ?_
    show Go p e below _ s₁ (mkF m 20 #[.val (.ref a1), .val (.int p1), .val (.int (0 : Int32))] [(.int ((0 : Int32) + (1 : Int32))), (.ref a1), (.int p1)])
    show Go p e below _ s₁ (mkF m 20 #[.val (.ref a1), .val (.int p1), .val (.int (0 : Int32))] [(.int (1 : Int32)), (.ref a1), (.int p1)])
    obtain ⟨cl7, Ar7, q7, S7, Nn7, H7, G7⟩ := V_a1
    have V_a1 : Arv Z h0 a1 kk .int (2 : Int32) [(.int u0), (.int u1)] (.int (0 : Int32)) := ⟨cl7, Ar7, q7, S7, Nn7, H7, G7⟩
    have hin7 : ¬ ((1 : Int32) < 0 ∨ cl7.slots.size ≤ ((1 : Int32)).toNatClampNeg) := inb_of S7 ⟨by decide, by decide⟩
    have hat7 : cl7.slots[((1 : Int32)).toNatClampNeg]? = some (.int u1) := Has.at H7 hin7 rfl
    refine Go.step (X0.iaload hx (j := (1 : Int32)) (v := (.int u1)) (by rw [e0]; exact Ar7.1) (State.isArrayOf_alike hZ.alike Ar7.2.1) Ar7.2.2 hin7 hat7 (g := (mkF m 20 #[.val (.ref a1), .val (.int p1), .val (.int (0 : Int32))] [(.int (1 : Int32)), (.ref a1), (.int p1)])) rfl rfl (hb hby own_f30)) ?_
    show Go p e below _ s₁ (mkF m 21 #[.val (.ref a1), .val (.int p1), .val (.int (0 : Int32))] [(.int u1), (.int p1)])
    by_cases hc21_8 : u1 < p1
    · show Go p e below _ s₁ (mkF m 21 #[.val (.ref a1), .val (.int p1), .val (.int (0 : Int32))] [(.int u1), (.int p1)])
      refine Go.step (fun _ k => XS.icmpYes X0.here hx rfl (pc0 := 21) (pc' := 26) rfl (hb hby own_f31) rfl (tlt hc21_8).2.2.1 (by decide) (by decide) k) ?_
      show Go p e below _ s₁ (mkF m 26 #[.val (.ref a1), .val (.int p1), .val (.int (0 : Int32))] [])
      refine Go.step (fun _ k => XS.iinc X0.here hx rfl (hb hby own_f32) rfl (l' := #[.val (.ref a1), .val (.int p1), .val (.int ((0 : Int32) + (2 : Int32)))]) rfl k) ?_
      show Go p e below _ s₁ (mkF m 29 #[.val (.ref a1), .val (.int p1), .val (.int ((0 : Int32) + (2 : Int32)))] [])
      show Go p e below _ s₁ (mkF m 29 #[.val (.ref a1), .val (.int p1), .val (.int (2 : Int32))] [])
      refine Go.step (fun _ k => XS.goto X0.here hx rfl (pc0 := 29) (pc' := 2) rfl (hb hby own_f33) (by decide) (by decide) k) ?_
      show Go p e below _ s₁ (mkF m 2 #[.val (.ref a1), .val (.int p1), .val (.int (2 : Int32))] [])
      refine Go.step (fun _ k => XS.iloadN X0.here hx rfl (hb hby own_f13) rfl k) ?_
      show Go p e below _ s₁ (mkF m 3 #[.val (.ref a1), .val (.int p1), .val (.int (2 : Int32))] [(.int (2 : Int32))])
      refine Go.step (fun _ k => XS.aloadN X0.here hx rfl (hb hby own_f14) rfl rfl k) ?_
      show Go p e below _ s₁ (mkF m 4 #[.val (.ref a1), .val (.int p1), .val (.int (2 : Int32))] [(.ref a1), (.int (2 : Int32))])
      obtain ⟨cl9, Ar9, q9, S9, Nn9, H9, G9⟩ := V_a1
      have V_a1 : Arv Z h0 a1 kk .int (2 : Int32) [(.int u0), (.int u1)] (.int (0 : Int32)) := ⟨cl9, Ar9, q9, S9, Nn9, H9, G9⟩
      refine Go.step (X0.arraylength hx (by rw [e0]; exact Ar9.1) (State.isArrayOf_alike hZ.alike Ar9.2.1) (g := (mkF m 4 #[.val (.ref a1), .val (.int p1), .val (.int (2 : Int32))] [(.ref a1), (.int (2 : Int32))])) rfl rfl (hb hby own_f15)) ?_
      rw [len_of S9 Nn9]
      show Go p e below _ s₁ (mkF m 5 #[.val (.ref a1), .val (.int p1), .val (.int (2 : Int32))] [(.int (2 : Int32)), (.int (2 : Int32))])
      refine Go.step (fun _ k => XS.icmpYes X0.here hx rfl (pc0 := 5) (pc' := 32) rfl (hb hby own_f16) rfl (flt (by decide)).2.1 (by decide) (by decide) k) ?_
      show Go p e below _ s₁ (mkF m 32 #[.val (.ref a1), .val (.int p1), .val (.int (2 : Int32))] [])
      refine Go.step (fun _ k => XS.iconst X0.here hx rfl (hb hby own_f17) k) ?_
      show Go p e below _ s₁ (mkF m 33 #[.val (.ref a1), .val (.int p1), .val (.int (2 : Int32))] [(.int (0 : Int32))])
      have er : (own_c1 u0 u1 p1) = (0 : Int32) := by simp [own_c1, hc12_6, hc21_8]
      obtain ⟨fs, hr, hrun, hended, hW, hsame⟩ := X0.leave (v := some (.int (0 : Int32))) (fun h => by rw [Bd.returns] at h; cases h)
      refine Go.fin (retN X0 hx (t := .boolean) Bd.returns (by simp) (hb hby own_f18) hr) hrun hended ?_
      refine ⟨_, _, rfl, ?_, ⟨_, rfl⟩, hW, hsame.mono (by decide) (by decide)⟩
      show QC1 Z a1 p1 kk u0 u1 h0 n0 _ s₁.heap _
      rw [e0]
      exact ⟨by rw [er], N0, rfl⟩
    · show Go p e below _ s₁ (mkF m 21 #[.val (.ref a1), .val (.int p1), .val (.int (0 : Int32))] [(.int u1), (.int p1)])
      refine Go.step (fun _ k => XS.icmpNo X0.here hx rfl (hb hby own_f31) rfl (flt hc21_8).2.2.1 k) ?_
      show Go p e below _ s₁ (mkF m 24 #[.val (.ref a1), .val (.int p1), .val (.int (0 : Int32))] [])
      refine Go.step (fun _ k => XS.iconst X0.here hx rfl (hb hby own_f34) k) ?_
      show Go p e below _ s₁ (mkF m 25 #[.val (.ref a1), .val (.int p1), .val (.int (0 : Int32))] [(.int (1 : Int32))])
      have er : (own_c1 u0 u1 p1) = (1 : Int32) := by simp [own_c1, hc12_6, hc21_8]
      obtain ⟨fs, hr, hrun, hended, hW, hsame⟩ := X0.leave (v := some (.int (1 : Int32))) (fun h => by rw [Bd.returns] at h; cases h)
      refine Go.fin (retN X0 hx (t := .boolean) Bd.returns (by simp) (hb hby own_f35) hr) hrun hended ?_
      refine ⟨_, _, rfl, ?_, ⟨_, rfl⟩, hW, hsame.mono (by decide) (by decide)⟩
      show QC1 Z a1 p1 kk u0 u1 h0 n0 _ s₁.heap _
      rw [e0]
      exact ⟨by rw [er], N0, rfl⟩
theorem own_ef_C2 (m : MethodId) (a1 : Addr) (p1 : Int32) : entryFrame m #[(.ref a1), (.int p1)] 3 = mkF m 0 #[.val (.ref a1), .val (.int p1), .unset] [] := by first | (simp [entryFrame, mkF, argsToLocals, Value.category]; done) | rfl
def QC2 (Z : State) (a1 : Addr) (p1 : Int32) (kk : ClassId) (u0 : Int32) (u1 : Int32) (u2 : Int32) (u3 : Int32) (h0 : Heap) (n0 : Nat) (v : Option Value) (h : Heap) (L : List Loc) : Prop := v = some (.int (own_c2 u0 u1 u2 u3 p1)) ∧ Fr n0 L ∧ h = h0
set_option maxRecDepth 65536 in
set_option maxHeartbeats 40000000 in
theorem rmC2 (l : Launch) (Z : State) (a0 : Array Value) (hw : ∀ d ∈ tables_1, d.before a0 Z = true) (ws : List Jvm.Cond) (a1 : Addr) (p1 : Int32) (kk : ClassId) (u0 : Int32) (u1 : Int32) (u2 : Int32) (u3 : Int32) (h0 : Heap) (n0 : Nat) (Z0 : n0 ≤ h0.size) (V_a1 : Arv Z h0 a1 kk .int (4 : Int32) [(.int u0), (.int u1), (.int u2), (.int u3)] (.int (0 : Int32))) :
    MetFree l (⟨"com/example/seriate/seriate/engine/pattern/Counts", "contains", "([II)Z"⟩ : MethodName) (head1 (Jvm.Cond.code (⟨"com/example/seriate/seriate/engine/pattern/Counts", "contains", "([II)Z"⟩ : MethodName) prog_66_method_3_code 3 (some .boolean) :: ws) ({ frames := 0, cells := 0, slots := 0, locals := 0 } : Room)) (fun a U => a = #[(.ref a1), (.int p1)] ∧ Z.Warmed39 U.vm ∧ U.heap = h0) (fun _ _ _ _ _ => True) (fun _ U o U' => ∃ v L, o = .returned v ∧ QC2 Z a1 p1 kk u0 u1 u2 u3 h0 n0 v U'.heap L ∧ FrameEnd U o U' L ({ frames := 0, cells := 0, slots := 0, locals := 0 } : Room).cells ({ frames := 0, cells := 0, slots := 0, locals := 0 } : Room).slots) := by
  refine MetFree.of_bodySF (plainFor_of_name own_f19) hisR ?_
  intro p e s m args below meth c s₁ Bd hml0 hP hK
  obtain ⟨rfl, hZ, hh⟩ := hP
  have hx := Bd.exec
  have hby := Bd.bytes
  have hml : c.maxLocals = 3 := hml0
  have hown : s.vm.findClass "com/example/seriate/seriate/engine/pattern/Counts" = some m.cls := findClass_of_methodNamed Bd.named
  have hnm := (name_of_methodNamed Bd.named Bd.method).1
  have X0 : Stand p l e ({ frames := 0, cells := 0, slots := 0, locals := 0 } : Room) s m #[(.ref a1), (.int p1)] below meth c s₁ [] 0 0 := Stand.of_body Bd
  have e0 : s₁.heap = h0 := by rw [← hh, Bd.state]; rfl
  have N0 := Fr.nil n0
  refine Go.start (own_ef_C2 m a1 p1) ?_
  show Go p e below _ s₁ (mkF m 0 #[.val (.ref a1), .val (.int p1), .unset] [])
  refine Go.step (fun _ k => XS.iconst X0.here hx rfl (hb hby own_f11) k) ?_
  show Go p e below _ s₁ (mkF m 1 #[.val (.ref a1), .val (.int p1), .unset] [(.int (0 : Int32))])
  refine Go.step (fun _ k => XS.istoreN X0.here hx rfl (hb hby own_f12) rfl (l' := #[.val (.ref a1), .val (.int p1), .val (.int (0 : Int32))]) rfl k) ?_
  show Go p e below _ s₁ (mkF m 2 #[.val (.ref a1), .val (.int p1), .val (.int (0 : Int32))] [])
  refine Go.step (fun _ k => XS.iloadN X0.here hx rfl (hb hby own_f13) rfl k) ?_
  show Go p e below _ s₁ (mkF m 3 #[.val (.ref a1), .val (.int p1), .val (.int (0 : Int32))] [(.int (0 : Int32))])
  refine Go.step (fun _ k => XS.aloadN X0.here hx rfl (hb hby own_f14) rfl rfl k) ?_
  show Go p e below _ s₁ (mkF m 4 #[.val (.ref a1), .val (.int p1), .val (.int (0 : Int32))] [(.ref a1), (.int (0 : Int32))])
  obtain ⟨cl10, Ar10, q10, S10, Nn10, H10, G10⟩ := V_a1
  have V_a1 : Arv Z h0 a1 kk .int (4 : Int32) [(.int u0), (.int u1), (.int u2), (.int u3)] (.int (0 : Int32)) := ⟨cl10, Ar10, q10, S10, Nn10, H10, G10⟩
  refine Go.step (X0.arraylength hx (by rw [e0]; exact Ar10.1) (State.isArrayOf_alike hZ.alike Ar10.2.1) (g := (mkF m 4 #[.val (.ref a1), .val (.int p1), .val (.int (0 : Int32))] [(.ref a1), (.int (0 : Int32))])) rfl rfl (hb hby own_f15)) ?_
  rw [len_of S10 Nn10]
  show Go p e below _ s₁ (mkF m 5 #[.val (.ref a1), .val (.int p1), .val (.int (0 : Int32))] [(.int (4 : Int32)), (.int (0 : Int32))])
  refine Go.step (fun _ k => XS.icmpNo X0.here hx rfl (hb hby own_f16) rfl (tlt (by decide)).2.1 k) ?_
  show Go p e below _ s₁ (mkF m 8 #[.val (.ref a1), .val (.int p1), .val (.int (0 : Int32))] [])
  refine Go.step (fun _ k => XS.aloadN X0.here hx rfl (hb hby own_f20) rfl rfl k) ?_
  show Go p e below _ s₁ (mkF m 9 #[.val (.ref a1), .val (.int p1), .val (.int (0 : Int32))] [(.ref a1)])
  refine Go.step (fun _ k => XS.iloadN X0.here hx rfl (hb hby own_f21) rfl k) ?_
  show Go p e below _ s₁ (mkF m 10 #[.val (.ref a1), .val (.int p1), .val (.int (0 : Int32))] [(.int (0 : Int32)), (.ref a1)])
  obtain ⟨cl11, Ar11, q11, S11, Nn11, H11, G11⟩ := V_a1
  have V_a1 : Arv Z h0 a1 kk .int (4 : Int32) [(.int u0), (.int u1), (.int u2), (.int u3)] (.int (0 : Int32)) := ⟨cl11, Ar11, q11, S11, Nn11, H11, G11⟩
  have hin11 : ¬ ((0 : Int32) < 0 ∨ cl11.slots.size ≤ ((0 : Int32)).toNatClampNeg) := inb_of S11 ⟨by decide, by decide⟩
  have hat11 : cl11.slots[((0 : Int32)).toNatClampNeg]? = some (.int u0) := Has.at H11 hin11 rfl
  refine Go.step (X0.iaload hx (j := (0 : Int32)) (v := (.int u0)) (by rw [e0]; exact Ar11.1) (State.isArrayOf_alike hZ.alike Ar11.2.1) Ar11.2.2 hin11 hat11 (g := (mkF m 10 #[.val (.ref a1), .val (.int p1), .val (.int (0 : Int32))] [(.int (0 : Int32)), (.ref a1)])) rfl rfl (hb hby own_f22)) ?_
  show Go p e below _ s₁ (mkF m 11 #[.val (.ref a1), .val (.int p1), .val (.int (0 : Int32))] [(.int u0)])
  refine Go.step (fun _ k => XS.iloadN X0.here hx rfl (hb hby own_f23) rfl k) ?_
  show Go p e below _ s₁ (mkF m 12 #[.val (.ref a1), .val (.int p1), .val (.int (0 : Int32))] [(.int p1), (.int u0)])
  by_cases hc12_12 : p1 < u0
  · show Go p e below _ s₁ (mkF m 12 #[.val (.ref a1), .val (.int p1), .val (.int (0 : Int32))] [(.int p1), (.int u0)])
    refine Go.step (fun _ k => XS.icmpYes X0.here hx rfl (pc0 := 12) (pc' := 32) rfl (hb hby own_f24) rfl (tlt hc12_12).2.2.1 (by decide) (by decide) k) ?_
    show Go p e below _ s₁ (mkF m 32 #[.val (.ref a1), .val (.int p1), .val (.int (0 : Int32))] [])
    refine Go.step (fun _ k => XS.iconst X0.here hx rfl (hb hby own_f17) k) ?_
    show Go p e below _ s₁ (mkF m 33 #[.val (.ref a1), .val (.int p1), .val (.int (0 : Int32))] [(.int (0 : Int32))])
    have er : (own_c2 u0 u1 u2 u3 p1) = (0 : Int32) := by simp [own_c2, hc12_12]
    obtain ⟨fs, hr, hrun, hended, hW, hsame⟩ := X0.leave (v := some (.int (0 : Int32))) (fun h => by rw [Bd.returns] at h; cases h)
    refine Go.fin (retN X0 hx (t := .boolean) Bd.returns (by simp) (hb hby own_f18) hr) hrun hended ?_
    refine ⟨_, _, rfl, ?_, ⟨_, rfl⟩, hW, hsame.mono (by decide) (by decide)⟩
    show QC2 Z a1 p1 kk u0 u1 u2 u3 h0 n0 _ s₁.heap _
    rw [e0]
    exact ⟨by rw [er], N0, rfl⟩
  · show Go p e below _ s₁ (mkF m 12 #[.val (.ref a1), .val (.int p1), .val (.int (0 : Int32))] [(.int p1), (.int u0)])
    refine Go.step (fun _ k => XS.icmpNo X0.here hx rfl (hb hby own_f24) rfl (flt hc12_12).2.2.1 k) ?_
    show Go p e below _ s₁ (mkF m 15 #[.val (.ref a1), .val (.int p1), .val (.int (0 : Int32))] [])
    refine Go.step (fun _ k => XS.iloadN X0.here hx rfl (hb hby own_f25) rfl k) ?_
    show Go p e below _ s₁ (mkF m 16 #[.val (.ref a1), .val (.int p1), .val (.int (0 : Int32))] [(.int p1)])
    refine Go.step (fun _ k => XS.aloadN X0.here hx rfl (hb hby own_f26) rfl rfl k) ?_
    show Go p e below _ s₁ (mkF m 17 #[.val (.ref a1), .val (.int p1), .val (.int (0 : Int32))] [(.ref a1), (.int p1)])
    refine Go.step (fun _ k => XS.iloadN X0.here hx rfl (hb hby own_f27) rfl k) ?_
    show Go p e below _ s₁ (mkF m 18 #[.val (.ref a1), .val (.int p1), .val (.int (0 : Int32))] [(.int (0 : Int32)), (.ref a1), (.int p1)])
    refine Go.step (fun _ k => XS.iconst X0.here hx rfl (hb hby own_f28) k) ?_
    show Go p e below _ s₁ (mkF m 19 #[.val (.ref a1), .val (.int p1), .val (.int (0 : Int32))] [(.int (1 : Int32)), (.int (0 : Int32)), (.ref a1), (.int p1)])
    refine Go.step (fun _ k => XS.iadd X0.here hx rfl (hb hby own_f29) rfl k) ?_
    show Go p e below _ s₁ (mkF m 20 #[.val (.ref a1), .val (.int p1), .val (.int (0 : Int32))] [(.int ((0 : Int32) + (1 : Int32))), (.ref a1), (.int p1)])
    show Go p e below _ s₁ (mkF m 20 #[.val (.ref a1), .val (.int p1), .val (.int (0 : Int32))] [(.int (1 : Int32)), (.ref a1), (.int p1)])
    obtain ⟨cl13, Ar13, q13, S13, Nn13, H13, G13⟩ := V_a1
    have V_a1 : Arv Z h0 a1 kk .int (4 : Int32) [(.int u0), (.int u1), (.int u2), (.int u3)] (.int (0 : Int32)) := ⟨cl13, Ar13, q13, S13, Nn13, H13, G13⟩
    have hin13 : ¬ ((1 : Int32) < 0 ∨ cl13.slots.size ≤ ((1 : Int32)).toNatClampNeg) := inb_of S13 ⟨by decide, by decide⟩
    have hat13 : cl13.slots[((1 : Int32)).toNatClampNeg]? = some (.int u1) := Has.at H13 hin13 rfl
    refine Go.step (X0.iaload hx (j := (1 : Int32)) (v := (.int u1)) (by rw [e0]; exact Ar13.1) (State.isArrayOf_alike hZ.alike Ar13.2.1) Ar13.2.2 hin13 hat13 (g := (mkF m 20 #[.val (.ref a1), .val (.int p1), .val (.int (0 : Int32))] [(.int (1 : Int32)), (.ref a1), (.int p1)])) rfl rfl (hb hby own_f30)) ?_
    show Go p e below _ s₁ (mkF m 21 #[.val (.ref a1), .val (.int p1), .val (.int (0 : Int32))] [(.int u1), (.int p1)])
    by_cases hc21_14 : u1 < p1
    · show Go p e below _ s₁ (mkF m 21 #[.val (.ref a1), .val (.int p1), .val (.int (0 : Int32))] [(.int u1), (.int p1)])
      refine Go.step (fun _ k => XS.icmpYes X0.here hx rfl (pc0 := 21) (pc' := 26) rfl (hb hby own_f31) rfl (tlt hc21_14).2.2.1 (by decide) (by decide) k) ?_
      show Go p e below _ s₁ (mkF m 26 #[.val (.ref a1), .val (.int p1), .val (.int (0 : Int32))] [])
      refine Go.step (fun _ k => XS.iinc X0.here hx rfl (hb hby own_f32) rfl (l' := #[.val (.ref a1), .val (.int p1), .val (.int ((0 : Int32) + (2 : Int32)))]) rfl k) ?_
      show Go p e below _ s₁ (mkF m 29 #[.val (.ref a1), .val (.int p1), .val (.int ((0 : Int32) + (2 : Int32)))] [])
      show Go p e below _ s₁ (mkF m 29 #[.val (.ref a1), .val (.int p1), .val (.int (2 : Int32))] [])
      refine Go.step (fun _ k => XS.goto X0.here hx rfl (pc0 := 29) (pc' := 2) rfl (hb hby own_f33) (by decide) (by decide) k) ?_
      show Go p e below _ s₁ (mkF m 2 #[.val (.ref a1), .val (.int p1), .val (.int (2 : Int32))] [])
      refine Go.step (fun _ k => XS.iloadN X0.here hx rfl (hb hby own_f13) rfl k) ?_
      show Go p e below _ s₁ (mkF m 3 #[.val (.ref a1), .val (.int p1), .val (.int (2 : Int32))] [(.int (2 : Int32))])
      refine Go.step (fun _ k => XS.aloadN X0.here hx rfl (hb hby own_f14) rfl rfl k) ?_
      show Go p e below _ s₁ (mkF m 4 #[.val (.ref a1), .val (.int p1), .val (.int (2 : Int32))] [(.ref a1), (.int (2 : Int32))])
      obtain ⟨cl15, Ar15, q15, S15, Nn15, H15, G15⟩ := V_a1
      have V_a1 : Arv Z h0 a1 kk .int (4 : Int32) [(.int u0), (.int u1), (.int u2), (.int u3)] (.int (0 : Int32)) := ⟨cl15, Ar15, q15, S15, Nn15, H15, G15⟩
      refine Go.step (X0.arraylength hx (by rw [e0]; exact Ar15.1) (State.isArrayOf_alike hZ.alike Ar15.2.1) (g := (mkF m 4 #[.val (.ref a1), .val (.int p1), .val (.int (2 : Int32))] [(.ref a1), (.int (2 : Int32))])) rfl rfl (hb hby own_f15)) ?_
      rw [len_of S15 Nn15]
      show Go p e below _ s₁ (mkF m 5 #[.val (.ref a1), .val (.int p1), .val (.int (2 : Int32))] [(.int (4 : Int32)), (.int (2 : Int32))])
      refine Go.step (fun _ k => XS.icmpNo X0.here hx rfl (hb hby own_f16) rfl (tlt (by decide)).2.1 k) ?_
      show Go p e below _ s₁ (mkF m 8 #[.val (.ref a1), .val (.int p1), .val (.int (2 : Int32))] [])
      refine Go.step (fun _ k => XS.aloadN X0.here hx rfl (hb hby own_f20) rfl rfl k) ?_
      show Go p e below _ s₁ (mkF m 9 #[.val (.ref a1), .val (.int p1), .val (.int (2 : Int32))] [(.ref a1)])
      refine Go.step (fun _ k => XS.iloadN X0.here hx rfl (hb hby own_f21) rfl k) ?_
      show Go p e below _ s₁ (mkF m 10 #[.val (.ref a1), .val (.int p1), .val (.int (2 : Int32))] [(.int (2 : Int32)), (.ref a1)])
      obtain ⟨cl16, Ar16, q16, S16, Nn16, H16, G16⟩ := V_a1
      have V_a1 : Arv Z h0 a1 kk .int (4 : Int32) [(.int u0), (.int u1), (.int u2), (.int u3)] (.int (0 : Int32)) := ⟨cl16, Ar16, q16, S16, Nn16, H16, G16⟩
      have hin16 : ¬ ((2 : Int32) < 0 ∨ cl16.slots.size ≤ ((2 : Int32)).toNatClampNeg) := inb_of S16 ⟨by decide, by decide⟩
      have hat16 : cl16.slots[((2 : Int32)).toNatClampNeg]? = some (.int u2) := Has.at H16 hin16 rfl
      refine Go.step (X0.iaload hx (j := (2 : Int32)) (v := (.int u2)) (by rw [e0]; exact Ar16.1) (State.isArrayOf_alike hZ.alike Ar16.2.1) Ar16.2.2 hin16 hat16 (g := (mkF m 10 #[.val (.ref a1), .val (.int p1), .val (.int (2 : Int32))] [(.int (2 : Int32)), (.ref a1)])) rfl rfl (hb hby own_f22)) ?_
      show Go p e below _ s₁ (mkF m 11 #[.val (.ref a1), .val (.int p1), .val (.int (2 : Int32))] [(.int u2)])
      refine Go.step (fun _ k => XS.iloadN X0.here hx rfl (hb hby own_f23) rfl k) ?_
      show Go p e below _ s₁ (mkF m 12 #[.val (.ref a1), .val (.int p1), .val (.int (2 : Int32))] [(.int p1), (.int u2)])
      by_cases hc12_17 : p1 < u2
      · show Go p e below _ s₁ (mkF m 12 #[.val (.ref a1), .val (.int p1), .val (.int (2 : Int32))] [(.int p1), (.int u2)])
        refine Go.step (fun _ k => XS.icmpYes X0.here hx rfl (pc0 := 12) (pc' := 32) rfl (hb hby own_f24) rfl (tlt hc12_17).2.2.1 (by decide) (by decide) k) ?_
        show Go p e below _ s₁ (mkF m 32 #[.val (.ref a1), .val (.int p1), .val (.int (2 : Int32))] [])
        refine Go.step (fun _ k => XS.iconst X0.here hx rfl (hb hby own_f17) k) ?_
        show Go p e below _ s₁ (mkF m 33 #[.val (.ref a1), .val (.int p1), .val (.int (2 : Int32))] [(.int (0 : Int32))])
        have er : (own_c2 u0 u1 u2 u3 p1) = (0 : Int32) := by simp [own_c2, hc12_12, hc21_14, hc12_17]
        obtain ⟨fs, hr, hrun, hended, hW, hsame⟩ := X0.leave (v := some (.int (0 : Int32))) (fun h => by rw [Bd.returns] at h; cases h)
        refine Go.fin (retN X0 hx (t := .boolean) Bd.returns (by simp) (hb hby own_f18) hr) hrun hended ?_
        refine ⟨_, _, rfl, ?_, ⟨_, rfl⟩, hW, hsame.mono (by decide) (by decide)⟩
        show QC2 Z a1 p1 kk u0 u1 u2 u3 h0 n0 _ s₁.heap _
        rw [e0]
        exact ⟨by rw [er], N0, rfl⟩
      · show Go p e below _ s₁ (mkF m 12 #[.val (.ref a1), .val (.int p1), .val (.int (2 : Int32))] [(.int p1), (.int u2)])
        refine Go.step (fun _ k => XS.icmpNo X0.here hx rfl (hb hby own_f24) rfl (flt hc12_17).2.2.1 k) ?_
        show Go p e below _ s₁ (mkF m 15 #[.val (.ref a1), .val (.int p1), .val (.int (2 : Int32))] [])
        refine Go.step (fun _ k => XS.iloadN X0.here hx rfl (hb hby own_f25) rfl k) ?_
        show Go p e below _ s₁ (mkF m 16 #[.val (.ref a1), .val (.int p1), .val (.int (2 : Int32))] [(.int p1)])
        refine Go.step (fun _ k => XS.aloadN X0.here hx rfl (hb hby own_f26) rfl rfl k) ?_
        show Go p e below _ s₁ (mkF m 17 #[.val (.ref a1), .val (.int p1), .val (.int (2 : Int32))] [(.ref a1), (.int p1)])
        refine Go.step (fun _ k => XS.iloadN X0.here hx rfl (hb hby own_f27) rfl k) ?_
        show Go p e below _ s₁ (mkF m 18 #[.val (.ref a1), .val (.int p1), .val (.int (2 : Int32))] [(.int (2 : Int32)), (.ref a1), (.int p1)])
        refine Go.step (fun _ k => XS.iconst X0.here hx rfl (hb hby own_f28) k) ?_
        show Go p e below _ s₁ (mkF m 19 #[.val (.ref a1), .val (.int p1), .val (.int (2 : Int32))] [(.int (1 : Int32)), (.int (2 : Int32)), (.ref a1), (.int p1)])
        refine Go.step (fun _ k => XS.iadd X0.here hx rfl (hb hby own_f29) rfl k) ?_
        show Go p e below _ s₁ (mkF m 20 #[.val (.ref a1), .val (.int p1), .val (.int (2 : Int32))] [(.int ((2 : Int32) + (1 : Int32))), (.ref a1), (.int p1)])
        show Go p e below _ s₁ (mkF m 20 #[.val (.ref a1), .val (.int p1), .val (.int (2 : Int32))] [(.int (3 : Int32)), (.ref a1), (.int p1)])
        obtain ⟨cl18, Ar18, q18, S18, Nn18, H18, G18⟩ := V_a1
        have V_a1 : Arv Z h0 a1 kk .int (4 : Int32) [(.int u0), (.int u1), (.int u2), (.int u3)] (.int (0 : Int32)) := ⟨cl18, Ar18, q18, S18, Nn18, H18, G18⟩
        have hin18 : ¬ ((3 : Int32) < 0 ∨ cl18.slots.size ≤ ((3 : Int32)).toNatClampNeg) := inb_of S18 ⟨by decide, by decide⟩
        have hat18 : cl18.slots[((3 : Int32)).toNatClampNeg]? = some (.int u3) := Has.at H18 hin18 rfl
        refine Go.step (X0.iaload hx (j := (3 : Int32)) (v := (.int u3)) (by rw [e0]; exact Ar18.1) (State.isArrayOf_alike hZ.alike Ar18.2.1) Ar18.2.2 hin18 hat18 (g := (mkF m 20 #[.val (.ref a1), .val (.int p1), .val (.int (2 : Int32))] [(.int (3 : Int32)), (.ref a1), (.int p1)])) rfl rfl (hb hby own_f30)) ?_
        show Go p e below _ s₁ (mkF m 21 #[.val (.ref a1), .val (.int p1), .val (.int (2 : Int32))] [(.int u3), (.int p1)])
        by_cases hc21_19 : u3 < p1
        · show Go p e below _ s₁ (mkF m 21 #[.val (.ref a1), .val (.int p1), .val (.int (2 : Int32))] [(.int u3), (.int p1)])
          refine Go.step (fun _ k => XS.icmpYes X0.here hx rfl (pc0 := 21) (pc' := 26) rfl (hb hby own_f31) rfl (tlt hc21_19).2.2.1 (by decide) (by decide) k) ?_
          show Go p e below _ s₁ (mkF m 26 #[.val (.ref a1), .val (.int p1), .val (.int (2 : Int32))] [])
          refine Go.step (fun _ k => XS.iinc X0.here hx rfl (hb hby own_f32) rfl (l' := #[.val (.ref a1), .val (.int p1), .val (.int ((2 : Int32) + (2 : Int32)))]) rfl k) ?_
          show Go p e below _ s₁ (mkF m 29 #[.val (.ref a1), .val (.int p1), .val (.int ((2 : Int32) + (2 : Int32)))] [])
          show Go p e below _ s₁ (mkF m 29 #[.val (.ref a1), .val (.int p1), .val (.int (4 : Int32))] [])
          refine Go.step (fun _ k => XS.goto X0.here hx rfl (pc0 := 29) (pc' := 2) rfl (hb hby own_f33) (by decide) (by decide) k) ?_
          show Go p e below _ s₁ (mkF m 2 #[.val (.ref a1), .val (.int p1), .val (.int (4 : Int32))] [])
          refine Go.step (fun _ k => XS.iloadN X0.here hx rfl (hb hby own_f13) rfl k) ?_
          show Go p e below _ s₁ (mkF m 3 #[.val (.ref a1), .val (.int p1), .val (.int (4 : Int32))] [(.int (4 : Int32))])
          refine Go.step (fun _ k => XS.aloadN X0.here hx rfl (hb hby own_f14) rfl rfl k) ?_
          show Go p e below _ s₁ (mkF m 4 #[.val (.ref a1), .val (.int p1), .val (.int (4 : Int32))] [(.ref a1), (.int (4 : Int32))])
          obtain ⟨cl20, Ar20, q20, S20, Nn20, H20, G20⟩ := V_a1
          have V_a1 : Arv Z h0 a1 kk .int (4 : Int32) [(.int u0), (.int u1), (.int u2), (.int u3)] (.int (0 : Int32)) := ⟨cl20, Ar20, q20, S20, Nn20, H20, G20⟩
          refine Go.step (X0.arraylength hx (by rw [e0]; exact Ar20.1) (State.isArrayOf_alike hZ.alike Ar20.2.1) (g := (mkF m 4 #[.val (.ref a1), .val (.int p1), .val (.int (4 : Int32))] [(.ref a1), (.int (4 : Int32))])) rfl rfl (hb hby own_f15)) ?_
          rw [len_of S20 Nn20]
          show Go p e below _ s₁ (mkF m 5 #[.val (.ref a1), .val (.int p1), .val (.int (4 : Int32))] [(.int (4 : Int32)), (.int (4 : Int32))])
          refine Go.step (fun _ k => XS.icmpYes X0.here hx rfl (pc0 := 5) (pc' := 32) rfl (hb hby own_f16) rfl (flt (by decide)).2.1 (by decide) (by decide) k) ?_
          show Go p e below _ s₁ (mkF m 32 #[.val (.ref a1), .val (.int p1), .val (.int (4 : Int32))] [])
          refine Go.step (fun _ k => XS.iconst X0.here hx rfl (hb hby own_f17) k) ?_
          show Go p e below _ s₁ (mkF m 33 #[.val (.ref a1), .val (.int p1), .val (.int (4 : Int32))] [(.int (0 : Int32))])
          have er : (own_c2 u0 u1 u2 u3 p1) = (0 : Int32) := by simp [own_c2, hc12_12, hc21_14, hc12_17, hc21_19]
          obtain ⟨fs, hr, hrun, hended, hW, hsame⟩ := X0.leave (v := some (.int (0 : Int32))) (fun h => by rw [Bd.returns] at h; cases h)
          refine Go.fin (retN X0 hx (t := .boolean) Bd.returns (by simp) (hb hby own_f18) hr) hrun hended ?_
          refine ⟨_, _, rfl, ?_, ⟨_, rfl⟩, hW, hsame.mono (by decide) (by decide)⟩
          show QC2 Z a1 p1 kk u0 u1 u2 u3 h0 n0 _ s₁.heap _
          rw [e0]
          exact ⟨by rw [er], N0, rfl⟩
        · show Go p e below _ s₁ (mkF m 21 #[.val (.ref a1), .val (.int p1), .val (.int (2 : Int32))] [(.int u3), (.int p1)])
          refine Go.step (fun _ k => XS.icmpNo X0.here hx rfl (hb hby own_f31) rfl (flt hc21_19).2.2.1 k) ?_
          show Go p e below _ s₁ (mkF m 24 #[.val (.ref a1), .val (.int p1), .val (.int (2 : Int32))] [])
          refine Go.step (fun _ k => XS.iconst X0.here hx rfl (hb hby own_f34) k) ?_
          show Go p e below _ s₁ (mkF m 25 #[.val (.ref a1), .val (.int p1), .val (.int (2 : Int32))] [(.int (1 : Int32))])
          have er : (own_c2 u0 u1 u2 u3 p1) = (1 : Int32) := by simp [own_c2, hc12_12, hc21_14, hc12_17, hc21_19]
          obtain ⟨fs, hr, hrun, hended, hW, hsame⟩ := X0.leave (v := some (.int (1 : Int32))) (fun h => by rw [Bd.returns] at h; cases h)
          refine Go.fin (retN X0 hx (t := .boolean) Bd.returns (by simp) (hb hby own_f35) hr) hrun hended ?_
          refine ⟨_, _, rfl, ?_, ⟨_, rfl⟩, hW, hsame.mono (by decide) (by decide)⟩
          show QC2 Z a1 p1 kk u0 u1 u2 u3 h0 n0 _ s₁.heap _
          rw [e0]
          exact ⟨by rw [er], N0, rfl⟩
    · show Go p e below _ s₁ (mkF m 21 #[.val (.ref a1), .val (.int p1), .val (.int (0 : Int32))] [(.int u1), (.int p1)])
      refine Go.step (fun _ k => XS.icmpNo X0.here hx rfl (hb hby own_f31) rfl (flt hc21_14).2.2.1 k) ?_
      show Go p e below _ s₁ (mkF m 24 #[.val (.ref a1), .val (.int p1), .val (.int (0 : Int32))] [])
      refine Go.step (fun _ k => XS.iconst X0.here hx rfl (hb hby own_f34) k) ?_
      show Go p e below _ s₁ (mkF m 25 #[.val (.ref a1), .val (.int p1), .val (.int (0 : Int32))] [(.int (1 : Int32))])
      have er : (own_c2 u0 u1 u2 u3 p1) = (1 : Int32) := by simp [own_c2, hc12_12, hc21_14]
      obtain ⟨fs, hr, hrun, hended, hW, hsame⟩ := X0.leave (v := some (.int (1 : Int32))) (fun h => by rw [Bd.returns] at h; cases h)
      refine Go.fin (retN X0 hx (t := .boolean) Bd.returns (by simp) (hb hby own_f35) hr) hrun hended ?_
      refine ⟨_, _, rfl, ?_, ⟨_, rfl⟩, hW, hsame.mono (by decide) (by decide)⟩
      show QC2 Z a1 p1 kk u0 u1 u2 u3 h0 n0 _ s₁.heap _
      rw [e0]
      exact ⟨by rw [er], N0, rfl⟩
theorem own_ef_C3 (m : MethodId) (a1 : Addr) (p1 : Int32) : entryFrame m #[(.ref a1), (.int p1)] 3 = mkF m 0 #[.val (.ref a1), .val (.int p1), .unset] [] := by first | (simp [entryFrame, mkF, argsToLocals, Value.category]; done) | rfl
def QC3 (Z : State) (a1 : Addr) (p1 : Int32) (kk : ClassId) (u0 : Int32) (u1 : Int32) (u2 : Int32) (u3 : Int32) (u4 : Int32) (u5 : Int32) (h0 : Heap) (n0 : Nat) (v : Option Value) (h : Heap) (L : List Loc) : Prop := v = some (.int (own_c3 u0 u1 u2 u3 u4 u5 p1)) ∧ Fr n0 L ∧ h = h0
set_option maxRecDepth 65536 in
set_option maxHeartbeats 40000000 in
theorem rmC3 (l : Launch) (Z : State) (a0 : Array Value) (hw : ∀ d ∈ tables_1, d.before a0 Z = true) (ws : List Jvm.Cond) (a1 : Addr) (p1 : Int32) (kk : ClassId) (u0 : Int32) (u1 : Int32) (u2 : Int32) (u3 : Int32) (u4 : Int32) (u5 : Int32) (h0 : Heap) (n0 : Nat) (Z0 : n0 ≤ h0.size) (V_a1 : Arv Z h0 a1 kk .int (6 : Int32) [(.int u0), (.int u1), (.int u2), (.int u3), (.int u4), (.int u5)] (.int (0 : Int32))) :
    MetFree l (⟨"com/example/seriate/seriate/engine/pattern/Counts", "contains", "([II)Z"⟩ : MethodName) (head1 (Jvm.Cond.code (⟨"com/example/seriate/seriate/engine/pattern/Counts", "contains", "([II)Z"⟩ : MethodName) prog_66_method_3_code 3 (some .boolean) :: ws) ({ frames := 0, cells := 0, slots := 0, locals := 0 } : Room)) (fun a U => a = #[(.ref a1), (.int p1)] ∧ Z.Warmed39 U.vm ∧ U.heap = h0) (fun _ _ _ _ _ => True) (fun _ U o U' => ∃ v L, o = .returned v ∧ QC3 Z a1 p1 kk u0 u1 u2 u3 u4 u5 h0 n0 v U'.heap L ∧ FrameEnd U o U' L ({ frames := 0, cells := 0, slots := 0, locals := 0 } : Room).cells ({ frames := 0, cells := 0, slots := 0, locals := 0 } : Room).slots) := by
  refine MetFree.of_bodySF (plainFor_of_name own_f19) hisR ?_
  intro p e s m args below meth c s₁ Bd hml0 hP hK
  obtain ⟨rfl, hZ, hh⟩ := hP
  have hx := Bd.exec
  have hby := Bd.bytes
  have hml : c.maxLocals = 3 := hml0
  have hown : s.vm.findClass "com/example/seriate/seriate/engine/pattern/Counts" = some m.cls := findClass_of_methodNamed Bd.named
  have hnm := (name_of_methodNamed Bd.named Bd.method).1
  have X0 : Stand p l e ({ frames := 0, cells := 0, slots := 0, locals := 0 } : Room) s m #[(.ref a1), (.int p1)] below meth c s₁ [] 0 0 := Stand.of_body Bd
  have e0 : s₁.heap = h0 := by rw [← hh, Bd.state]; rfl
  have N0 := Fr.nil n0
  refine Go.start (own_ef_C3 m a1 p1) ?_
  show Go p e below _ s₁ (mkF m 0 #[.val (.ref a1), .val (.int p1), .unset] [])
  refine Go.step (fun _ k => XS.iconst X0.here hx rfl (hb hby own_f11) k) ?_
  show Go p e below _ s₁ (mkF m 1 #[.val (.ref a1), .val (.int p1), .unset] [(.int (0 : Int32))])
  refine Go.step (fun _ k => XS.istoreN X0.here hx rfl (hb hby own_f12) rfl (l' := #[.val (.ref a1), .val (.int p1), .val (.int (0 : Int32))]) rfl k) ?_
  show Go p e below _ s₁ (mkF m 2 #[.val (.ref a1), .val (.int p1), .val (.int (0 : Int32))] [])
  refine Go.step (fun _ k => XS.iloadN X0.here hx rfl (hb hby own_f13) rfl k) ?_
  show Go p e below _ s₁ (mkF m 3 #[.val (.ref a1), .val (.int p1), .val (.int (0 : Int32))] [(.int (0 : Int32))])
  refine Go.step (fun _ k => XS.aloadN X0.here hx rfl (hb hby own_f14) rfl rfl k) ?_
  show Go p e below _ s₁ (mkF m 4 #[.val (.ref a1), .val (.int p1), .val (.int (0 : Int32))] [(.ref a1), (.int (0 : Int32))])
  obtain ⟨cl21, Ar21, q21, S21, Nn21, H21, G21⟩ := V_a1
  have V_a1 : Arv Z h0 a1 kk .int (6 : Int32) [(.int u0), (.int u1), (.int u2), (.int u3), (.int u4), (.int u5)] (.int (0 : Int32)) := ⟨cl21, Ar21, q21, S21, Nn21, H21, G21⟩
  refine Go.step (X0.arraylength hx (by rw [e0]; exact Ar21.1) (State.isArrayOf_alike hZ.alike Ar21.2.1) (g := (mkF m 4 #[.val (.ref a1), .val (.int p1), .val (.int (0 : Int32))] [(.ref a1), (.int (0 : Int32))])) rfl rfl (hb hby own_f15)) ?_
  rw [len_of S21 Nn21]
  show Go p e below _ s₁ (mkF m 5 #[.val (.ref a1), .val (.int p1), .val (.int (0 : Int32))] [(.int (6 : Int32)), (.int (0 : Int32))])
  refine Go.step (fun _ k => XS.icmpNo X0.here hx rfl (hb hby own_f16) rfl (tlt (by decide)).2.1 k) ?_
  show Go p e below _ s₁ (mkF m 8 #[.val (.ref a1), .val (.int p1), .val (.int (0 : Int32))] [])
  refine Go.step (fun _ k => XS.aloadN X0.here hx rfl (hb hby own_f20) rfl rfl k) ?_
  show Go p e below _ s₁ (mkF m 9 #[.val (.ref a1), .val (.int p1), .val (.int (0 : Int32))] [(.ref a1)])
  refine Go.step (fun _ k => XS.iloadN X0.here hx rfl (hb hby own_f21) rfl k) ?_
  show Go p e below _ s₁ (mkF m 10 #[.val (.ref a1), .val (.int p1), .val (.int (0 : Int32))] [(.int (0 : Int32)), (.ref a1)])
  obtain ⟨cl22, Ar22, q22, S22, Nn22, H22, G22⟩ := V_a1
  have V_a1 : Arv Z h0 a1 kk .int (6 : Int32) [(.int u0), (.int u1), (.int u2), (.int u3), (.int u4), (.int u5)] (.int (0 : Int32)) := ⟨cl22, Ar22, q22, S22, Nn22, H22, G22⟩
  have hin22 : ¬ ((0 : Int32) < 0 ∨ cl22.slots.size ≤ ((0 : Int32)).toNatClampNeg) := inb_of S22 ⟨by decide, by decide⟩
  have hat22 : cl22.slots[((0 : Int32)).toNatClampNeg]? = some (.int u0) := Has.at H22 hin22 rfl
  refine Go.step (X0.iaload hx (j := (0 : Int32)) (v := (.int u0)) (by rw [e0]; exact Ar22.1) (State.isArrayOf_alike hZ.alike Ar22.2.1) Ar22.2.2 hin22 hat22 (g := (mkF m 10 #[.val (.ref a1), .val (.int p1), .val (.int (0 : Int32))] [(.int (0 : Int32)), (.ref a1)])) rfl rfl (hb hby own_f22)) ?_
  show Go p e below _ s₁ (mkF m 11 #[.val (.ref a1), .val (.int p1), .val (.int (0 : Int32))] [(.int u0)])
  refine Go.step (fun _ k => XS.iloadN X0.here hx rfl (hb hby own_f23) rfl k) ?_
  show Go p e below _ s₁ (mkF m 12 #[.val (.ref a1), .val (.int p1), .val (.int (0 : Int32))] [(.int p1), (.int u0)])
  by_cases hc12_23 : p1 < u0
  · show Go p e below _ s₁ (mkF m 12 #[.val (.ref a1), .val (.int p1), .val (.int (0 : Int32))] [(.int p1), (.int u0)])
    refine Go.step (fun _ k => XS.icmpYes X0.here hx rfl (pc0 := 12) (pc' := 32) rfl (hb hby own_f24) rfl (tlt hc12_23).2.2.1 (by decide) (by decide) k) ?_
    show Go p e below _ s₁ (mkF m 32 #[.val (.ref a1), .val (.int p1), .val (.int (0 : Int32))] [])
    refine Go.step (fun _ k => XS.iconst X0.here hx rfl (hb hby own_f17) k) ?_
    show Go p e below _ s₁ (mkF m 33 #[.val (.ref a1), .val (.int p1), .val (.int (0 : Int32))] [(.int (0 : Int32))])
    have er : (own_c3 u0 u1 u2 u3 u4 u5 p1) = (0 : Int32) := by simp [own_c3, hc12_23]
    obtain ⟨fs, hr, hrun, hended, hW, hsame⟩ := X0.leave (v := some (.int (0 : Int32))) (fun h => by rw [Bd.returns] at h; cases h)
    refine Go.fin (retN X0 hx (t := .boolean) Bd.returns (by simp) (hb hby own_f18) hr) hrun hended ?_
    refine ⟨_, _, rfl, ?_, ⟨_, rfl⟩, hW, hsame.mono (by decide) (by decide)⟩
    show QC3 Z a1 p1 kk u0 u1 u2 u3 u4 u5 h0 n0 _ s₁.heap _
    rw [e0]
    exact ⟨by rw [er], N0, rfl⟩
  · show Go p e below _ s₁ (mkF m 12 #[.val (.ref a1), .val (.int p1), .val (.int (0 : Int32))] [(.int p1), (.int u0)])
    refine Go.step (fun _ k => XS.icmpNo X0.here hx rfl (hb hby own_f24) rfl (flt hc12_23).2.2.1 k) ?_
    show Go p e below _ s₁ (mkF m 15 #[.val (.ref a1), .val (.int p1), .val (.int (0 : Int32))] [])
    refine Go.step (fun _ k => XS.iloadN X0.here hx rfl (hb hby own_f25) rfl k) ?_
    show Go p e below _ s₁ (mkF m 16 #[.val (.ref a1), .val (.int p1), .val (.int (0 : Int32))] [(.int p1)])
    refine Go.step (fun _ k => XS.aloadN X0.here hx rfl (hb hby own_f26) rfl rfl k) ?_
    show Go p e below _ s₁ (mkF m 17 #[.val (.ref a1), .val (.int p1), .val (.int (0 : Int32))] [(.ref a1), (.int p1)])
    refine Go.step (fun _ k => XS.iloadN X0.here hx rfl (hb hby own_f27) rfl k) ?_
    show Go p e below _ s₁ (mkF m 18 #[.val (.ref a1), .val (.int p1), .val (.int (0 : Int32))] [(.int (0 : Int32)), (.ref a1), (.int p1)])
    refine Go.step (fun _ k => XS.iconst X0.here hx rfl (hb hby own_f28) k) ?_
    show Go p e below _ s₁ (mkF m 19 #[.val (.ref a1), .val (.int p1), .val (.int (0 : Int32))] [(.int (1 : Int32)), (.int (0 : Int32)), (.ref a1), (.int p1)])
    refine Go.step (fun _ k => XS.iadd X0.here hx rfl (hb hby own_f29) rfl k) ?_
    show Go p e below _ s₁ (mkF m 20 #[.val (.ref a1), .val (.int p1), .val (.int (0 : Int32))] [(.int ((0 : Int32) + (1 : Int32))), (.ref a1), (.int p1)])
    show Go p e below _ s₁ (mkF m 20 #[.val (.ref a1), .val (.int p1), .val (.int (0 : Int32))] [(.int (1 : Int32)), (.ref a1), (.int p1)])
    obtain ⟨cl24, Ar24, q24, S24, Nn24, H24, G24⟩ := V_a1
    have V_a1 : Arv Z h0 a1 kk .int (6 : Int32) [(.int u0), (.int u1), (.int u2), (.int u3), (.int u4), (.int u5)] (.int (0 : Int32)) := ⟨cl24, Ar24, q24, S24, Nn24, H24, G24⟩
    have hin24 : ¬ ((1 : Int32) < 0 ∨ cl24.slots.size ≤ ((1 : Int32)).toNatClampNeg) := inb_of S24 ⟨by decide, by decide⟩
    have hat24 : cl24.slots[((1 : Int32)).toNatClampNeg]? = some (.int u1) := Has.at H24 hin24 rfl
    refine Go.step (X0.iaload hx (j := (1 : Int32)) (v := (.int u1)) (by rw [e0]; exact Ar24.1) (State.isArrayOf_alike hZ.alike Ar24.2.1) Ar24.2.2 hin24 hat24 (g := (mkF m 20 #[.val (.ref a1), .val (.int p1), .val (.int (0 : Int32))] [(.int (1 : Int32)), (.ref a1), (.int p1)])) rfl rfl (hb hby own_f30)) ?_
    show Go p e below _ s₁ (mkF m 21 #[.val (.ref a1), .val (.int p1), .val (.int (0 : Int32))] [(.int u1), (.int p1)])
    by_cases hc21_25 : u1 < p1
    · show Go p e below _ s₁ (mkF m 21 #[.val (.ref a1), .val (.int p1), .val (.int (0 : Int32))] [(.int u1), (.int p1)])
      refine Go.step (fun _ k => XS.icmpYes X0.here hx rfl (pc0 := 21) (pc' := 26) rfl (hb hby own_f31) rfl (tlt hc21_25).2.2.1 (by decide) (by decide) k) ?_
      show Go p e below _ s₁ (mkF m 26 #[.val (.ref a1), .val (.int p1), .val (.int (0 : Int32))] [])
      refine Go.step (fun _ k => XS.iinc X0.here hx rfl (hb hby own_f32) rfl (l' := #[.val (.ref a1), .val (.int p1), .val (.int ((0 : Int32) + (2 : Int32)))]) rfl k) ?_
      show Go p e below _ s₁ (mkF m 29 #[.val (.ref a1), .val (.int p1), .val (.int ((0 : Int32) + (2 : Int32)))] [])
      show Go p e below _ s₁ (mkF m 29 #[.val (.ref a1), .val (.int p1), .val (.int (2 : Int32))] [])
      refine Go.step (fun _ k => XS.goto X0.here hx rfl (pc0 := 29) (pc' := 2) rfl (hb hby own_f33) (by decide) (by decide) k) ?_
      show Go p e below _ s₁ (mkF m 2 #[.val (.ref a1), .val (.int p1), .val (.int (2 : Int32))] [])
      refine Go.step (fun _ k => XS.iloadN X0.here hx rfl (hb hby own_f13) rfl k) ?_
      show Go p e below _ s₁ (mkF m 3 #[.val (.ref a1), .val (.int p1), .val (.int (2 : Int32))] [(.int (2 : Int32))])
      refine Go.step (fun _ k => XS.aloadN X0.here hx rfl (hb hby own_f14) rfl rfl k) ?_
      show Go p e below _ s₁ (mkF m 4 #[.val (.ref a1), .val (.int p1), .val (.int (2 : Int32))] [(.ref a1), (.int (2 : Int32))])
      obtain ⟨cl26, Ar26, q26, S26, Nn26, H26, G26⟩ := V_a1
      have V_a1 : Arv Z h0 a1 kk .int (6 : Int32) [(.int u0), (.int u1), (.int u2), (.int u3), (.int u4), (.int u5)] (.int (0 : Int32)) := ⟨cl26, Ar26, q26, S26, Nn26, H26, G26⟩
      refine Go.step (X0.arraylength hx (by rw [e0]; exact Ar26.1) (State.isArrayOf_alike hZ.alike Ar26.2.1) (g := (mkF m 4 #[.val (.ref a1), .val (.int p1), .val (.int (2 : Int32))] [(.ref a1), (.int (2 : Int32))])) rfl rfl (hb hby own_f15)) ?_
      rw [len_of S26 Nn26]
      show Go p e below _ s₁ (mkF m 5 #[.val (.ref a1), .val (.int p1), .val (.int (2 : Int32))] [(.int (6 : Int32)), (.int (2 : Int32))])
      refine Go.step (fun _ k => XS.icmpNo X0.here hx rfl (hb hby own_f16) rfl (tlt (by decide)).2.1 k) ?_
      show Go p e below _ s₁ (mkF m 8 #[.val (.ref a1), .val (.int p1), .val (.int (2 : Int32))] [])
      refine Go.step (fun _ k => XS.aloadN X0.here hx rfl (hb hby own_f20) rfl rfl k) ?_
      show Go p e below _ s₁ (mkF m 9 #[.val (.ref a1), .val (.int p1), .val (.int (2 : Int32))] [(.ref a1)])
      refine Go.step (fun _ k => XS.iloadN X0.here hx rfl (hb hby own_f21) rfl k) ?_
      show Go p e below _ s₁ (mkF m 10 #[.val (.ref a1), .val (.int p1), .val (.int (2 : Int32))] [(.int (2 : Int32)), (.ref a1)])
      obtain ⟨cl27, Ar27, q27, S27, Nn27, H27, G27⟩ := V_a1
      have V_a1 : Arv Z h0 a1 kk .int (6 : Int32) [(.int u0), (.int u1), (.int u2), (.int u3), (.int u4), (.int u5)] (.int (0 : Int32)) := ⟨cl27, Ar27, q27, S27, Nn27, H27, G27⟩
      have hin27 : ¬ ((2 : Int32) < 0 ∨ cl27.slots.size ≤ ((2 : Int32)).toNatClampNeg) := inb_of S27 ⟨by decide, by decide⟩
      have hat27 : cl27.slots[((2 : Int32)).toNatClampNeg]? = some (.int u2) := Has.at H27 hin27 rfl
      refine Go.step (X0.iaload hx (j := (2 : Int32)) (v := (.int u2)) (by rw [e0]; exact Ar27.1) (State.isArrayOf_alike hZ.alike Ar27.2.1) Ar27.2.2 hin27 hat27 (g := (mkF m 10 #[.val (.ref a1), .val (.int p1), .val (.int (2 : Int32))] [(.int (2 : Int32)), (.ref a1)])) rfl rfl (hb hby own_f22)) ?_
      show Go p e below _ s₁ (mkF m 11 #[.val (.ref a1), .val (.int p1), .val (.int (2 : Int32))] [(.int u2)])
      refine Go.step (fun _ k => XS.iloadN X0.here hx rfl (hb hby own_f23) rfl k) ?_
      show Go p e below _ s₁ (mkF m 12 #[.val (.ref a1), .val (.int p1), .val (.int (2 : Int32))] [(.int p1), (.int u2)])
      by_cases hc12_28 : p1 < u2
      · show Go p e below _ s₁ (mkF m 12 #[.val (.ref a1), .val (.int p1), .val (.int (2 : Int32))] [(.int p1), (.int u2)])
        refine Go.step (fun _ k => XS.icmpYes X0.here hx rfl (pc0 := 12) (pc' := 32) rfl (hb hby own_f24) rfl (tlt hc12_28).2.2.1 (by decide) (by decide) k) ?_
        show Go p e below _ s₁ (mkF m 32 #[.val (.ref a1), .val (.int p1), .val (.int (2 : Int32))] [])
        refine Go.step (fun _ k => XS.iconst X0.here hx rfl (hb hby own_f17) k) ?_
        show Go p e below _ s₁ (mkF m 33 #[.val (.ref a1), .val (.int p1), .val (.int (2 : Int32))] [(.int (0 : Int32))])
        have er : (own_c3 u0 u1 u2 u3 u4 u5 p1) = (0 : Int32) := by simp [own_c3, hc12_23, hc21_25, hc12_28]
        obtain ⟨fs, hr, hrun, hended, hW, hsame⟩ := X0.leave (v := some (.int (0 : Int32))) (fun h => by rw [Bd.returns] at h; cases h)
        refine Go.fin (retN X0 hx (t := .boolean) Bd.returns (by simp) (hb hby own_f18) hr) hrun hended ?_
        refine ⟨_, _, rfl, ?_, ⟨_, rfl⟩, hW, hsame.mono (by decide) (by decide)⟩
        show QC3 Z a1 p1 kk u0 u1 u2 u3 u4 u5 h0 n0 _ s₁.heap _
        rw [e0]
        exact ⟨by rw [er], N0, rfl⟩
      · show Go p e below _ s₁ (mkF m 12 #[.val (.ref a1), .val (.int p1), .val (.int (2 : Int32))] [(.int p1), (.int u2)])
        refine Go.step (fun _ k => XS.icmpNo X0.here hx rfl (hb hby own_f24) rfl (flt hc12_28).2.2.1 k) ?_
        show Go p e below _ s₁ (mkF m 15 #[.val (.ref a1), .val (.int p1), .val (.int (2 : Int32))] [])
        refine Go.step (fun _ k => XS.iloadN X0.here hx rfl (hb hby own_f25) rfl k) ?_
        show Go p e below _ s₁ (mkF m 16 #[.val (.ref a1), .val (.int p1), .val (.int (2 : Int32))] [(.int p1)])
        refine Go.step (fun _ k => XS.aloadN X0.here hx rfl (hb hby own_f26) rfl rfl k) ?_
        show Go p e below _ s₁ (mkF m 17 #[.val (.ref a1), .val (.int p1), .val (.int (2 : Int32))] [(.ref a1), (.int p1)])
        refine Go.step (fun _ k => XS.iloadN X0.here hx rfl (hb hby own_f27) rfl k) ?_
        show Go p e below _ s₁ (mkF m 18 #[.val (.ref a1), .val (.int p1), .val (.int (2 : Int32))] [(.int (2 : Int32)), (.ref a1), (.int p1)])
        refine Go.step (fun _ k => XS.iconst X0.here hx rfl (hb hby own_f28) k) ?_
        show Go p e below _ s₁ (mkF m 19 #[.val (.ref a1), .val (.int p1), .val (.int (2 : Int32))] [(.int (1 : Int32)), (.int (2 : Int32)), (.ref a1), (.int p1)])
        refine Go.step (fun _ k => XS.iadd X0.here hx rfl (hb hby own_f29) rfl k) ?_
        show Go p e below _ s₁ (mkF m 20 #[.val (.ref a1), .val (.int p1), .val (.int (2 : Int32))] [(.int ((2 : Int32) + (1 : Int32))), (.ref a1), (.int p1)])
        show Go p e below _ s₁ (mkF m 20 #[.val (.ref a1), .val (.int p1), .val (.int (2 : Int32))] [(.int (3 : Int32)), (.ref a1), (.int p1)])
        obtain ⟨cl29, Ar29, q29, S29, Nn29, H29, G29⟩ := V_a1
        have V_a1 : Arv Z h0 a1 kk .int (6 : Int32) [(.int u0), (.int u1), (.int u2), (.int u3), (.int u4), (.int u5)] (.int (0 : Int32)) := ⟨cl29, Ar29, q29, S29, Nn29, H29, G29⟩
        have hin29 : ¬ ((3 : Int32) < 0 ∨ cl29.slots.size ≤ ((3 : Int32)).toNatClampNeg) := inb_of S29 ⟨by decide, by decide⟩
        have hat29 : cl29.slots[((3 : Int32)).toNatClampNeg]? = some (.int u3) := Has.at H29 hin29 rfl
        refine Go.step (X0.iaload hx (j := (3 : Int32)) (v := (.int u3)) (by rw [e0]; exact Ar29.1) (State.isArrayOf_alike hZ.alike Ar29.2.1) Ar29.2.2 hin29 hat29 (g := (mkF m 20 #[.val (.ref a1), .val (.int p1), .val (.int (2 : Int32))] [(.int (3 : Int32)), (.ref a1), (.int p1)])) rfl rfl (hb hby own_f30)) ?_
        show Go p e below _ s₁ (mkF m 21 #[.val (.ref a1), .val (.int p1), .val (.int (2 : Int32))] [(.int u3), (.int p1)])
        by_cases hc21_30 : u3 < p1
        · show Go p e below _ s₁ (mkF m 21 #[.val (.ref a1), .val (.int p1), .val (.int (2 : Int32))] [(.int u3), (.int p1)])
          refine Go.step (fun _ k => XS.icmpYes X0.here hx rfl (pc0 := 21) (pc' := 26) rfl (hb hby own_f31) rfl (tlt hc21_30).2.2.1 (by decide) (by decide) k) ?_
          show Go p e below _ s₁ (mkF m 26 #[.val (.ref a1), .val (.int p1), .val (.int (2 : Int32))] [])
          refine Go.step (fun _ k => XS.iinc X0.here hx rfl (hb hby own_f32) rfl (l' := #[.val (.ref a1), .val (.int p1), .val (.int ((2 : Int32) + (2 : Int32)))]) rfl k) ?_
          show Go p e below _ s₁ (mkF m 29 #[.val (.ref a1), .val (.int p1), .val (.int ((2 : Int32) + (2 : Int32)))] [])
          show Go p e below _ s₁ (mkF m 29 #[.val (.ref a1), .val (.int p1), .val (.int (4 : Int32))] [])
          refine Go.step (fun _ k => XS.goto X0.here hx rfl (pc0 := 29) (pc' := 2) rfl (hb hby own_f33) (by decide) (by decide) k) ?_
          show Go p e below _ s₁ (mkF m 2 #[.val (.ref a1), .val (.int p1), .val (.int (4 : Int32))] [])
          refine Go.step (fun _ k => XS.iloadN X0.here hx rfl (hb hby own_f13) rfl k) ?_
          show Go p e below _ s₁ (mkF m 3 #[.val (.ref a1), .val (.int p1), .val (.int (4 : Int32))] [(.int (4 : Int32))])
          refine Go.step (fun _ k => XS.aloadN X0.here hx rfl (hb hby own_f14) rfl rfl k) ?_
          show Go p e below _ s₁ (mkF m 4 #[.val (.ref a1), .val (.int p1), .val (.int (4 : Int32))] [(.ref a1), (.int (4 : Int32))])
          obtain ⟨cl31, Ar31, q31, S31, Nn31, H31, G31⟩ := V_a1
          have V_a1 : Arv Z h0 a1 kk .int (6 : Int32) [(.int u0), (.int u1), (.int u2), (.int u3), (.int u4), (.int u5)] (.int (0 : Int32)) := ⟨cl31, Ar31, q31, S31, Nn31, H31, G31⟩
          refine Go.step (X0.arraylength hx (by rw [e0]; exact Ar31.1) (State.isArrayOf_alike hZ.alike Ar31.2.1) (g := (mkF m 4 #[.val (.ref a1), .val (.int p1), .val (.int (4 : Int32))] [(.ref a1), (.int (4 : Int32))])) rfl rfl (hb hby own_f15)) ?_
          rw [len_of S31 Nn31]
          show Go p e below _ s₁ (mkF m 5 #[.val (.ref a1), .val (.int p1), .val (.int (4 : Int32))] [(.int (6 : Int32)), (.int (4 : Int32))])
          refine Go.step (fun _ k => XS.icmpNo X0.here hx rfl (hb hby own_f16) rfl (tlt (by decide)).2.1 k) ?_
          show Go p e below _ s₁ (mkF m 8 #[.val (.ref a1), .val (.int p1), .val (.int (4 : Int32))] [])
          refine Go.step (fun _ k => XS.aloadN X0.here hx rfl (hb hby own_f20) rfl rfl k) ?_
          show Go p e below _ s₁ (mkF m 9 #[.val (.ref a1), .val (.int p1), .val (.int (4 : Int32))] [(.ref a1)])
          refine Go.step (fun _ k => XS.iloadN X0.here hx rfl (hb hby own_f21) rfl k) ?_
          show Go p e below _ s₁ (mkF m 10 #[.val (.ref a1), .val (.int p1), .val (.int (4 : Int32))] [(.int (4 : Int32)), (.ref a1)])
          obtain ⟨cl32, Ar32, q32, S32, Nn32, H32, G32⟩ := V_a1
          have V_a1 : Arv Z h0 a1 kk .int (6 : Int32) [(.int u0), (.int u1), (.int u2), (.int u3), (.int u4), (.int u5)] (.int (0 : Int32)) := ⟨cl32, Ar32, q32, S32, Nn32, H32, G32⟩
          have hin32 : ¬ ((4 : Int32) < 0 ∨ cl32.slots.size ≤ ((4 : Int32)).toNatClampNeg) := inb_of S32 ⟨by decide, by decide⟩
          have hat32 : cl32.slots[((4 : Int32)).toNatClampNeg]? = some (.int u4) := Has.at H32 hin32 rfl
          refine Go.step (X0.iaload hx (j := (4 : Int32)) (v := (.int u4)) (by rw [e0]; exact Ar32.1) (State.isArrayOf_alike hZ.alike Ar32.2.1) Ar32.2.2 hin32 hat32 (g := (mkF m 10 #[.val (.ref a1), .val (.int p1), .val (.int (4 : Int32))] [(.int (4 : Int32)), (.ref a1)])) rfl rfl (hb hby own_f22)) ?_
          show Go p e below _ s₁ (mkF m 11 #[.val (.ref a1), .val (.int p1), .val (.int (4 : Int32))] [(.int u4)])
          refine Go.step (fun _ k => XS.iloadN X0.here hx rfl (hb hby own_f23) rfl k) ?_
          show Go p e below _ s₁ (mkF m 12 #[.val (.ref a1), .val (.int p1), .val (.int (4 : Int32))] [(.int p1), (.int u4)])
          by_cases hc12_33 : p1 < u4
          · show Go p e below _ s₁ (mkF m 12 #[.val (.ref a1), .val (.int p1), .val (.int (4 : Int32))] [(.int p1), (.int u4)])
            refine Go.step (fun _ k => XS.icmpYes X0.here hx rfl (pc0 := 12) (pc' := 32) rfl (hb hby own_f24) rfl (tlt hc12_33).2.2.1 (by decide) (by decide) k) ?_
            show Go p e below _ s₁ (mkF m 32 #[.val (.ref a1), .val (.int p1), .val (.int (4 : Int32))] [])
            refine Go.step (fun _ k => XS.iconst X0.here hx rfl (hb hby own_f17) k) ?_
            show Go p e below _ s₁ (mkF m 33 #[.val (.ref a1), .val (.int p1), .val (.int (4 : Int32))] [(.int (0 : Int32))])
            have er : (own_c3 u0 u1 u2 u3 u4 u5 p1) = (0 : Int32) := by simp [own_c3, hc12_23, hc21_25, hc12_28, hc21_30, hc12_33]
            obtain ⟨fs, hr, hrun, hended, hW, hsame⟩ := X0.leave (v := some (.int (0 : Int32))) (fun h => by rw [Bd.returns] at h; cases h)
            refine Go.fin (retN X0 hx (t := .boolean) Bd.returns (by simp) (hb hby own_f18) hr) hrun hended ?_
            refine ⟨_, _, rfl, ?_, ⟨_, rfl⟩, hW, hsame.mono (by decide) (by decide)⟩
            show QC3 Z a1 p1 kk u0 u1 u2 u3 u4 u5 h0 n0 _ s₁.heap _
            rw [e0]
            exact ⟨by rw [er], N0, rfl⟩
          · show Go p e below _ s₁ (mkF m 12 #[.val (.ref a1), .val (.int p1), .val (.int (4 : Int32))] [(.int p1), (.int u4)])
            refine Go.step (fun _ k => XS.icmpNo X0.here hx rfl (hb hby own_f24) rfl (flt hc12_33).2.2.1 k) ?_
            show Go p e below _ s₁ (mkF m 15 #[.val (.ref a1), .val (.int p1), .val (.int (4 : Int32))] [])
            refine Go.step (fun _ k => XS.iloadN X0.here hx rfl (hb hby own_f25) rfl k) ?_
            show Go p e below _ s₁ (mkF m 16 #[.val (.ref a1), .val (.int p1), .val (.int (4 : Int32))] [(.int p1)])
            refine Go.step (fun _ k => XS.aloadN X0.here hx rfl (hb hby own_f26) rfl rfl k) ?_
            show Go p e below _ s₁ (mkF m 17 #[.val (.ref a1), .val (.int p1), .val (.int (4 : Int32))] [(.ref a1), (.int p1)])
            refine Go.step (fun _ k => XS.iloadN X0.here hx rfl (hb hby own_f27) rfl k) ?_
            show Go p e below _ s₁ (mkF m 18 #[.val (.ref a1), .val (.int p1), .val (.int (4 : Int32))] [(.int (4 : Int32)), (.ref a1), (.int p1)])
            refine Go.step (fun _ k => XS.iconst X0.here hx rfl (hb hby own_f28) k) ?_
            show Go p e below _ s₁ (mkF m 19 #[.val (.ref a1), .val (.int p1), .val (.int (4 : Int32))] [(.int (1 : Int32)), (.int (4 : Int32)), (.ref a1), (.int p1)])
            refine Go.step (fun _ k => XS.iadd X0.here hx rfl (hb hby own_f29) rfl k) ?_
            show Go p e below _ s₁ (mkF m 20 #[.val (.ref a1), .val (.int p1), .val (.int (4 : Int32))] [(.int ((4 : Int32) + (1 : Int32))), (.ref a1), (.int p1)])
            show Go p e below _ s₁ (mkF m 20 #[.val (.ref a1), .val (.int p1), .val (.int (4 : Int32))] [(.int (5 : Int32)), (.ref a1), (.int p1)])
            obtain ⟨cl34, Ar34, q34, S34, Nn34, H34, G34⟩ := V_a1
            have V_a1 : Arv Z h0 a1 kk .int (6 : Int32) [(.int u0), (.int u1), (.int u2), (.int u3), (.int u4), (.int u5)] (.int (0 : Int32)) := ⟨cl34, Ar34, q34, S34, Nn34, H34, G34⟩
            have hin34 : ¬ ((5 : Int32) < 0 ∨ cl34.slots.size ≤ ((5 : Int32)).toNatClampNeg) := inb_of S34 ⟨by decide, by decide⟩
            have hat34 : cl34.slots[((5 : Int32)).toNatClampNeg]? = some (.int u5) := Has.at H34 hin34 rfl
            refine Go.step (X0.iaload hx (j := (5 : Int32)) (v := (.int u5)) (by rw [e0]; exact Ar34.1) (State.isArrayOf_alike hZ.alike Ar34.2.1) Ar34.2.2 hin34 hat34 (g := (mkF m 20 #[.val (.ref a1), .val (.int p1), .val (.int (4 : Int32))] [(.int (5 : Int32)), (.ref a1), (.int p1)])) rfl rfl (hb hby own_f30)) ?_
            show Go p e below _ s₁ (mkF m 21 #[.val (.ref a1), .val (.int p1), .val (.int (4 : Int32))] [(.int u5), (.int p1)])
            by_cases hc21_35 : u5 < p1
            · show Go p e below _ s₁ (mkF m 21 #[.val (.ref a1), .val (.int p1), .val (.int (4 : Int32))] [(.int u5), (.int p1)])
              refine Go.step (fun _ k => XS.icmpYes X0.here hx rfl (pc0 := 21) (pc' := 26) rfl (hb hby own_f31) rfl (tlt hc21_35).2.2.1 (by decide) (by decide) k) ?_
              show Go p e below _ s₁ (mkF m 26 #[.val (.ref a1), .val (.int p1), .val (.int (4 : Int32))] [])
              refine Go.step (fun _ k => XS.iinc X0.here hx rfl (hb hby own_f32) rfl (l' := #[.val (.ref a1), .val (.int p1), .val (.int ((4 : Int32) + (2 : Int32)))]) rfl k) ?_
              show Go p e below _ s₁ (mkF m 29 #[.val (.ref a1), .val (.int p1), .val (.int ((4 : Int32) + (2 : Int32)))] [])
              show Go p e below _ s₁ (mkF m 29 #[.val (.ref a1), .val (.int p1), .val (.int (6 : Int32))] [])
              refine Go.step (fun _ k => XS.goto X0.here hx rfl (pc0 := 29) (pc' := 2) rfl (hb hby own_f33) (by decide) (by decide) k) ?_
              show Go p e below _ s₁ (mkF m 2 #[.val (.ref a1), .val (.int p1), .val (.int (6 : Int32))] [])
              refine Go.step (fun _ k => XS.iloadN X0.here hx rfl (hb hby own_f13) rfl k) ?_
              show Go p e below _ s₁ (mkF m 3 #[.val (.ref a1), .val (.int p1), .val (.int (6 : Int32))] [(.int (6 : Int32))])
              refine Go.step (fun _ k => XS.aloadN X0.here hx rfl (hb hby own_f14) rfl rfl k) ?_
              show Go p e below _ s₁ (mkF m 4 #[.val (.ref a1), .val (.int p1), .val (.int (6 : Int32))] [(.ref a1), (.int (6 : Int32))])
              obtain ⟨cl36, Ar36, q36, S36, Nn36, H36, G36⟩ := V_a1
              have V_a1 : Arv Z h0 a1 kk .int (6 : Int32) [(.int u0), (.int u1), (.int u2), (.int u3), (.int u4), (.int u5)] (.int (0 : Int32)) := ⟨cl36, Ar36, q36, S36, Nn36, H36, G36⟩
              refine Go.step (X0.arraylength hx (by rw [e0]; exact Ar36.1) (State.isArrayOf_alike hZ.alike Ar36.2.1) (g := (mkF m 4 #[.val (.ref a1), .val (.int p1), .val (.int (6 : Int32))] [(.ref a1), (.int (6 : Int32))])) rfl rfl (hb hby own_f15)) ?_
              rw [len_of S36 Nn36]
              show Go p e below _ s₁ (mkF m 5 #[.val (.ref a1), .val (.int p1), .val (.int (6 : Int32))] [(.int (6 : Int32)), (.int (6 : Int32))])
              refine Go.step (fun _ k => XS.icmpYes X0.here hx rfl (pc0 := 5) (pc' := 32) rfl (hb hby own_f16) rfl (flt (by decide)).2.1 (by decide) (by decide) k) ?_
              show Go p e below _ s₁ (mkF m 32 #[.val (.ref a1), .val (.int p1), .val (.int (6 : Int32))] [])
              refine Go.step (fun _ k => XS.iconst X0.here hx rfl (hb hby own_f17) k) ?_
              show Go p e below _ s₁ (mkF m 33 #[.val (.ref a1), .val (.int p1), .val (.int (6 : Int32))] [(.int (0 : Int32))])
              have er : (own_c3 u0 u1 u2 u3 u4 u5 p1) = (0 : Int32) := by simp [own_c3, hc12_23, hc21_25, hc12_28, hc21_30, hc12_33, hc21_35]
              obtain ⟨fs, hr, hrun, hended, hW, hsame⟩ := X0.leave (v := some (.int (0 : Int32))) (fun h => by rw [Bd.returns] at h; cases h)
              refine Go.fin (retN X0 hx (t := .boolean) Bd.returns (by simp) (hb hby own_f18) hr) hrun hended ?_
              refine ⟨_, _, rfl, ?_, ⟨_, rfl⟩, hW, hsame.mono (by decide) (by decide)⟩
              show QC3 Z a1 p1 kk u0 u1 u2 u3 u4 u5 h0 n0 _ s₁.heap _
              rw [e0]
              exact ⟨by rw [er], N0, rfl⟩
            · show Go p e below _ s₁ (mkF m 21 #[.val (.ref a1), .val (.int p1), .val (.int (4 : Int32))] [(.int u5), (.int p1)])
              refine Go.step (fun _ k => XS.icmpNo X0.here hx rfl (hb hby own_f31) rfl (flt hc21_35).2.2.1 k) ?_
              show Go p e below _ s₁ (mkF m 24 #[.val (.ref a1), .val (.int p1), .val (.int (4 : Int32))] [])
              refine Go.step (fun _ k => XS.iconst X0.here hx rfl (hb hby own_f34) k) ?_
              show Go p e below _ s₁ (mkF m 25 #[.val (.ref a1), .val (.int p1), .val (.int (4 : Int32))] [(.int (1 : Int32))])
              have er : (own_c3 u0 u1 u2 u3 u4 u5 p1) = (1 : Int32) := by simp [own_c3, hc12_23, hc21_25, hc12_28, hc21_30, hc12_33, hc21_35]
              obtain ⟨fs, hr, hrun, hended, hW, hsame⟩ := X0.leave (v := some (.int (1 : Int32))) (fun h => by rw [Bd.returns] at h; cases h)
              refine Go.fin (retN X0 hx (t := .boolean) Bd.returns (by simp) (hb hby own_f35) hr) hrun hended ?_
              refine ⟨_, _, rfl, ?_, ⟨_, rfl⟩, hW, hsame.mono (by decide) (by decide)⟩
              show QC3 Z a1 p1 kk u0 u1 u2 u3 u4 u5 h0 n0 _ s₁.heap _
              rw [e0]
              exact ⟨by rw [er], N0, rfl⟩
        · show Go p e below _ s₁ (mkF m 21 #[.val (.ref a1), .val (.int p1), .val (.int (2 : Int32))] [(.int u3), (.int p1)])
          refine Go.step (fun _ k => XS.icmpNo X0.here hx rfl (hb hby own_f31) rfl (flt hc21_30).2.2.1 k) ?_
          show Go p e below _ s₁ (mkF m 24 #[.val (.ref a1), .val (.int p1), .val (.int (2 : Int32))] [])
          refine Go.step (fun _ k => XS.iconst X0.here hx rfl (hb hby own_f34) k) ?_
          show Go p e below _ s₁ (mkF m 25 #[.val (.ref a1), .val (.int p1), .val (.int (2 : Int32))] [(.int (1 : Int32))])
          have er : (own_c3 u0 u1 u2 u3 u4 u5 p1) = (1 : Int32) := by simp [own_c3, hc12_23, hc21_25, hc12_28, hc21_30]
          obtain ⟨fs, hr, hrun, hended, hW, hsame⟩ := X0.leave (v := some (.int (1 : Int32))) (fun h => by rw [Bd.returns] at h; cases h)
          refine Go.fin (retN X0 hx (t := .boolean) Bd.returns (by simp) (hb hby own_f35) hr) hrun hended ?_
          refine ⟨_, _, rfl, ?_, ⟨_, rfl⟩, hW, hsame.mono (by decide) (by decide)⟩
          show QC3 Z a1 p1 kk u0 u1 u2 u3 u4 u5 h0 n0 _ s₁.heap _
          rw [e0]
          exact ⟨by rw [er], N0, rfl⟩
    · show Go p e below _ s₁ (mkF m 21 #[.val (.ref a1), .val (.int p1), .val (.int (0 : Int32))] [(.int u1), (.int p1)])
      refine Go.step (fun _ k => XS.icmpNo X0.here hx rfl (hb hby own_f31) rfl (flt hc21_25).2.2.1 k) ?_
      show Go p e below _ s₁ (mkF m 24 #[.val (.ref a1), .val (.int p1), .val (.int (0 : Int32))] [])
      refine Go.step (fun _ k => XS.iconst X0.here hx rfl (hb hby own_f34) k) ?_
      show Go p e below _ s₁ (mkF m 25 #[.val (.ref a1), .val (.int p1), .val (.int (0 : Int32))] [(.int (1 : Int32))])
      have er : (own_c3 u0 u1 u2 u3 u4 u5 p1) = (1 : Int32) := by simp [own_c3, hc12_23, hc21_25]
      obtain ⟨fs, hr, hrun, hended, hW, hsame⟩ := X0.leave (v := some (.int (1 : Int32))) (fun h => by rw [Bd.returns] at h; cases h)
      refine Go.fin (retN X0 hx (t := .boolean) Bd.returns (by simp) (hb hby own_f35) hr) hrun hended ?_
      refine ⟨_, _, rfl, ?_, ⟨_, rfl⟩, hW, hsame.mono (by decide) (by decide)⟩
      show QC3 Z a1 p1 kk u0 u1 u2 u3 u4 u5 h0 n0 _ s₁.heap _
      rw [e0]
      exact ⟨by rw [er], N0, rfl⟩
theorem own_f36 : parseMethodDescriptor "([II)Z" = some ⟨[(.array .int), .int], some .boolean⟩ := by decide +kernel
theorem own_f37 : parseMethodDescriptor "(III)Z" = some ⟨[.int, .int, .int], some .boolean⟩ := by decide +kernel
theorem own_ef_0 (m : MethodId) (i0 : Int32) (i1 : Int64) (i2 : Int64) (i3 : Int64) (i4 : Int32) : entryFrame m #[(.int i0), (.long i1), (.long i2), (.long i3), (.int i4)] maxLocals = mkF m 0 #[.val (.int i0), .val (.long i1), .second, .val (.long i2), .second, .val (.long i3), .second, .val (.int i4), .unset, .unset, .unset, .unset, .unset, .unset, .unset, .unset, .unset] [] := by first | (simp [entryFrame, mkF, argsToLocals, Value.category, maxLocals]; done) | rfl
def Q0 (Z : State) (i0 : Int32) (i1 : Int64) (i2 : Int64) (i3 : Int64) (i4 : Int32) (h0 : Heap) (n0 : Nat) (v : Option Value) (h : Heap) (L : List Loc) : Prop := v = some (.int 1) ∧ Fr n0 L
set_option maxRecDepth 65536 in
set_option maxHeartbeats 40000000 in
theorem rm0 (l : Launch) (Z : State) (a0 : Array Value) (hw : ∀ d ∈ tables_1, d.before a0 Z = true) (ws : List Jvm.Cond) (i0 : Int32) (i1 : Int64) (i2 : Int64) (i3 : Int64) (i4 : Int32) (h0 : Heap) (n0 : Nat) (Z0 : n0 ≤ h0.size)  :
    MetFree l x (head1 (Jvm.Cond.code x code maxLocals ret :: ws) room_1) (fun a U => a = #[(.int i0), (.long i1), (.long i2), (.long i3), (.int i4)] ∧ Z.Warmed39 U.vm ∧ U.heap = h0) (fun _ _ _ _ _ => True) (fun _ U o U' => ∃ v L, o = .returned v ∧ Q0 Z i0 i1 i2 i3 i4 h0 n0 v U'.heap L ∧ FrameEnd U o U' L 1 6) := by
  refine MetFree.of_bodySF (plainFor_of_name own_f10) hisR ?_
  intro p e s m args below meth c s₁ Bd hml0 hP hK
  obtain ⟨rfl, hZ, hh⟩ := hP
  have hx := Bd.exec
  have hby := Bd.bytes
  have hml : c.maxLocals = 17 := hml0
  have hown : s.vm.findClass "com/example/seriate/seriate/engine/pattern/CountsContainsPinLaw" = some m.cls := findClass_of_methodNamed Bd.named
  have hnm := (name_of_methodNamed Bd.named Bd.method).1
  have X0 : Stand p l e room_1 s m #[(.int i0), (.long i1), (.long i2), (.long i3), (.int i4)] below meth c s₁ [] 0 0 := Stand.of_body Bd
  have e0 : s₁.heap = h0 := by rw [← hh, Bd.state]; rfl
  have N0 := Fr.nil n0
  refine Go.start (own_ef_0 m i0 i1 i2 i3 i4) ?_
  show Go p e below _ s₁ (mkF m 0 #[.val (.int i0), .val (.long i1), .second, .val (.long i2), .second, .val (.long i3), .second, .val (.int i4), .unset, .unset, .unset, .unset, .unset, .unset, .unset, .unset, .unset] [])
  have Zn := Z0
  have K0 : Keep h0 h0 [] := Keep.refl h0 _
  refine Go.step (fun _ k => XS.iloadN X0.here hx rfl (hb hby at_0) rfl k) ?_
  show Go p e below _ s₁ (mkF m 1 #[.val (.int i0), .val (.long i1), .second, .val (.long i2), .second, .val (.long i3), .second, .val (.int i4), .unset, .unset, .unset, .unset, .unset, .unset, .unset, .unset, .unset] [(.int i0)])
  refine Go.step (fun _ k => XS.iconst X0.here hx rfl (hb hby at_1) k) ?_
  show Go p e below _ s₁ (mkF m 2 #[.val (.int i0), .val (.long i1), .second, .val (.long i2), .second, .val (.long i3), .second, .val (.int i4), .unset, .unset, .unset, .unset, .unset, .unset, .unset, .unset, .unset] [(.int (3 : Int32)), (.int i0)])
  refine Go.step (fun _ k => XS.iand X0.here hx rfl (hb hby at_2) rfl k) ?_
  show Go p e below _ s₁ (mkF m 3 #[.val (.int i0), .val (.long i1), .second, .val (.long i2), .second, .val (.long i3), .second, .val (.int i4), .unset, .unset, .unset, .unset, .unset, .unset, .unset, .unset, .unset] [(.int (i0 &&& (3 : Int32)))])
  obtain ⟨kk, e_kk⟩ : ∃ z : Int32, z = (i0 &&& (3 : Int32)) := ⟨_, rfl⟩
  rw [← e_kk]
  show Go p e below _ s₁ (mkF m 3 #[.val (.int i0), .val (.long i1), .second, .val (.long i2), .second, .val (.long i3), .second, .val (.int i4), .unset, .unset, .unset, .unset, .unset, .unset, .unset, .unset, .unset] [(.int kk)])
  refine Go.step (fun _ k => XS.istore X0.here hx rfl (hb hby at_3) rfl (l' := #[.val (.int i0), .val (.long i1), .second, .val (.long i2), .second, .val (.long i3), .second, .val (.int i4), .val (.int kk), .unset, .unset, .unset, .unset, .unset, .unset, .unset, .unset]) rfl k) ?_
  show Go p e below _ s₁ (mkF m 5 #[.val (.int i0), .val (.long i1), .second, .val (.long i2), .second, .val (.long i3), .second, .val (.int i4), .val (.int kk), .unset, .unset, .unset, .unset, .unset, .unset, .unset, .unset] [])
  refine Go.step (fun _ k => XS.lloadN X0.here hx rfl (hb hby at_5) rfl k) ?_
  show Go p e below _ s₁ (mkF m 6 #[.val (.int i0), .val (.long i1), .second, .val (.long i2), .second, .val (.long i3), .second, .val (.int i4), .val (.int kk), .unset, .unset, .unset, .unset, .unset, .unset, .unset, .unset] [(.long i1)])
  refine Go.step (fun _ k => XS.l2i X0.here hx rfl (hb hby at_6) rfl k) ?_
  show Go p e below _ s₁ (mkF m 7 #[.val (.int i0), .val (.long i1), .second, .val (.long i2), .second, .val (.long i3), .second, .val (.int i4), .val (.int kk), .unset, .unset, .unset, .unset, .unset, .unset, .unset, .unset] [(.int (i1.toInt32))])
  refine Go.step (fun _ k => XS.iconst X0.here hx rfl (hb hby at_7) k) ?_
  show Go p e below _ s₁ (mkF m 8 #[.val (.int i0), .val (.long i1), .second, .val (.long i2), .second, .val (.long i3), .second, .val (.int i4), .val (.int kk), .unset, .unset, .unset, .unset, .unset, .unset, .unset, .unset] [(.int (3 : Int32)), (.int (i1.toInt32))])
  refine Go.step (fun _ k => XS.ishr X0.here hx rfl (hb hby at_8) rfl k) ?_
  show Go p e below _ s₁ (mkF m 9 #[.val (.int i0), .val (.long i1), .second, .val (.long i2), .second, .val (.long i3), .second, .val (.int i4), .val (.int kk), .unset, .unset, .unset, .unset, .unset, .unset, .unset, .unset] [(.int ((i1.toInt32) >>> ((3 : Int32) &&& 31)))])
  obtain ⟨aa0, e_aa0⟩ : ∃ z : Int32, z = ((i1.toInt32) >>> ((3 : Int32) &&& 31)) := ⟨_, rfl⟩
  rw [← e_aa0]
  show Go p e below _ s₁ (mkF m 9 #[.val (.int i0), .val (.long i1), .second, .val (.long i2), .second, .val (.long i3), .second, .val (.int i4), .val (.int kk), .unset, .unset, .unset, .unset, .unset, .unset, .unset, .unset] [(.int aa0)])
  refine Go.step (fun _ k => XS.istore X0.here hx rfl (hb hby at_9) rfl (l' := #[.val (.int i0), .val (.long i1), .second, .val (.long i2), .second, .val (.long i3), .second, .val (.int i4), .val (.int kk), .val (.int aa0), .unset, .unset, .unset, .unset, .unset, .unset, .unset]) rfl k) ?_
  show Go p e below _ s₁ (mkF m 11 #[.val (.int i0), .val (.long i1), .second, .val (.long i2), .second, .val (.long i3), .second, .val (.int i4), .val (.int kk), .val (.int aa0), .unset, .unset, .unset, .unset, .unset, .unset, .unset] [])
  refine Go.step (fun _ k => XS.iload X0.here hx rfl (hb hby at_11) rfl k) ?_
  show Go p e below _ s₁ (mkF m 13 #[.val (.int i0), .val (.long i1), .second, .val (.long i2), .second, .val (.long i3), .second, .val (.int i4), .val (.int kk), .val (.int aa0), .unset, .unset, .unset, .unset, .unset, .unset, .unset] [(.int aa0)])
  refine Go.step (fun _ k => XS.lloadN X0.here hx rfl (hb hby at_13) rfl k) ?_
  show Go p e below _ s₁ (mkF m 14 #[.val (.int i0), .val (.long i1), .second, .val (.long i2), .second, .val (.long i3), .second, .val (.int i4), .val (.int kk), .val (.int aa0), .unset, .unset, .unset, .unset, .unset, .unset, .unset] [(.long i1), (.int aa0)])
  refine Go.step (fun _ k => XS.bipush X0.here hx rfl (hb hby at_14) k) ?_
  show Go p e below _ s₁ (mkF m 16 #[.val (.int i0), .val (.long i1), .second, .val (.long i2), .second, .val (.long i3), .second, .val (.int i4), .val (.int kk), .val (.int aa0), .unset, .unset, .unset, .unset, .unset, .unset, .unset] [(.int (32 : Int32)), (.long i1), (.int aa0)])
  refine Go.step (fun _ k => XS.lushr X0.here hx rfl (hb hby at_16) rfl k) ?_
  show Go p e below _ s₁ (mkF m 17 #[.val (.int i0), .val (.long i1), .second, .val (.long i2), .second, .val (.long i3), .second, .val (.int i4), .val (.int kk), .val (.int aa0), .unset, .unset, .unset, .unset, .unset, .unset, .unset] [(.long ((i1.toUInt64 >>> ((32 : Int32) &&& 0x3f).toInt64.toUInt64).toInt64)), (.int aa0)])
  refine Go.step (X0.ldc2Long hx hown (mvT hZ (hw _ (List.mem_of_getElem? (i := 0) rfl))) (g := (mkF m 17 #[.val (.int i0), .val (.long i1), .second, .val (.long i2), .second, .val (.long i3), .second, .val (.int i4), .val (.int kk), .val (.int aa0), .unset, .unset, .unset, .unset, .unset, .unset, .unset] [(.long ((i1.toUInt64 >>> ((32 : Int32) &&& 0x3f).toInt64.toUInt64).toInt64)), (.int aa0)])) rfl (hb hby at_17)) ?_
  show Go p e below _ s₁ (mkF m 20 #[.val (.int i0), .val (.long i1), .second, .val (.long i2), .second, .val (.long i3), .second, .val (.int i4), .val (.int kk), .val (.int aa0), .unset, .unset, .unset, .unset, .unset, .unset, .unset] [(.long (268435455 : Int64)), (.long ((i1.toUInt64 >>> ((32 : Int32) &&& 0x3f).toInt64.toUInt64).toInt64)), (.int aa0)])
  refine Go.step (fun _ k => XS.land X0.here hx rfl (hb hby at_20) rfl k) ?_
  show Go p e below _ s₁ (mkF m 21 #[.val (.int i0), .val (.long i1), .second, .val (.long i2), .second, .val (.long i3), .second, .val (.int i4), .val (.int kk), .val (.int aa0), .unset, .unset, .unset, .unset, .unset, .unset, .unset] [(.long (((i1.toUInt64 >>> ((32 : Int32) &&& 0x3f).toInt64.toUInt64).toInt64) &&& (268435455 : Int64))), (.int aa0)])
  refine Go.step (fun _ k => XS.l2i X0.here hx rfl (hb hby at_21) rfl k) ?_
  show Go p e below _ s₁ (mkF m 22 #[.val (.int i0), .val (.long i1), .second, .val (.long i2), .second, .val (.long i3), .second, .val (.int i4), .val (.int kk), .val (.int aa0), .unset, .unset, .unset, .unset, .unset, .unset, .unset] [(.int ((((i1.toUInt64 >>> ((32 : Int32) &&& 0x3f).toInt64.toUInt64).toInt64) &&& (268435455 : Int64)).toInt32)), (.int aa0)])
  refine Go.step (fun _ k => XS.iadd X0.here hx rfl (hb hby at_22) rfl k) ?_
  show Go p e below _ s₁ (mkF m 23 #[.val (.int i0), .val (.long i1), .second, .val (.long i2), .second, .val (.long i3), .second, .val (.int i4), .val (.int kk), .val (.int aa0), .unset, .unset, .unset, .unset, .unset, .unset, .unset] [(.int (aa0 + ((((i1.toUInt64 >>> ((32 : Int32) &&& 0x3f).toInt64.toUInt64).toInt64) &&& (268435455 : Int64)).toInt32)))])
  obtain ⟨bb0, e_bb0⟩ : ∃ z : Int32, z = (aa0 + ((((i1.toUInt64 >>> ((32 : Int32) &&& 0x3f).toInt64.toUInt64).toInt64) &&& (268435455 : Int64)).toInt32)) := ⟨_, rfl⟩
  rw [← e_bb0]
  show Go p e below _ s₁ (mkF m 23 #[.val (.int i0), .val (.long i1), .second, .val (.long i2), .second, .val (.long i3), .second, .val (.int i4), .val (.int kk), .val (.int aa0), .unset, .unset, .unset, .unset, .unset, .unset, .unset] [(.int bb0)])
  refine Go.step (fun _ k => XS.istore X0.here hx rfl (hb hby at_23) rfl (l' := #[.val (.int i0), .val (.long i1), .second, .val (.long i2), .second, .val (.long i3), .second, .val (.int i4), .val (.int kk), .val (.int aa0), .val (.int bb0), .unset, .unset, .unset, .unset, .unset, .unset]) rfl k) ?_
  show Go p e below _ s₁ (mkF m 25 #[.val (.int i0), .val (.long i1), .second, .val (.long i2), .second, .val (.long i3), .second, .val (.int i4), .val (.int kk), .val (.int aa0), .val (.int bb0), .unset, .unset, .unset, .unset, .unset, .unset] [])
  refine Go.step (fun _ k => XS.iload X0.here hx rfl (hb hby at_25) rfl k) ?_
  show Go p e below _ s₁ (mkF m 27 #[.val (.int i0), .val (.long i1), .second, .val (.long i2), .second, .val (.long i3), .second, .val (.int i4), .val (.int kk), .val (.int aa0), .val (.int bb0), .unset, .unset, .unset, .unset, .unset, .unset] [(.int bb0)])
  refine Go.step (fun _ k => XS.iconst X0.here hx rfl (hb hby at_27) k) ?_
  show Go p e below _ s₁ (mkF m 28 #[.val (.int i0), .val (.long i1), .second, .val (.long i2), .second, .val (.long i3), .second, .val (.int i4), .val (.int kk), .val (.int aa0), .val (.int bb0), .unset, .unset, .unset, .unset, .unset, .unset] [(.int (2 : Int32)), (.int bb0)])
  refine Go.step (fun _ k => XS.iadd X0.here hx rfl (hb hby at_28) rfl k) ?_
  show Go p e below _ s₁ (mkF m 29 #[.val (.int i0), .val (.long i1), .second, .val (.long i2), .second, .val (.long i3), .second, .val (.int i4), .val (.int kk), .val (.int aa0), .val (.int bb0), .unset, .unset, .unset, .unset, .unset, .unset] [(.int (bb0 + (2 : Int32)))])
  refine Go.step (fun _ k => XS.lloadN X0.here hx rfl (hb hby at_29) rfl k) ?_
  show Go p e below _ s₁ (mkF m 30 #[.val (.int i0), .val (.long i1), .second, .val (.long i2), .second, .val (.long i3), .second, .val (.int i4), .val (.int kk), .val (.int aa0), .val (.int bb0), .unset, .unset, .unset, .unset, .unset, .unset] [(.long i2), (.int (bb0 + (2 : Int32)))])
  refine Go.step (X0.ldc2Long hx hown (mvT hZ (hw _ (List.mem_of_getElem? (i := 0) rfl))) (g := (mkF m 30 #[.val (.int i0), .val (.long i1), .second, .val (.long i2), .second, .val (.long i3), .second, .val (.int i4), .val (.int kk), .val (.int aa0), .val (.int bb0), .unset, .unset, .unset, .unset, .unset, .unset] [(.long i2), (.int (bb0 + (2 : Int32)))])) rfl (hb hby at_30)) ?_
  show Go p e below _ s₁ (mkF m 33 #[.val (.int i0), .val (.long i1), .second, .val (.long i2), .second, .val (.long i3), .second, .val (.int i4), .val (.int kk), .val (.int aa0), .val (.int bb0), .unset, .unset, .unset, .unset, .unset, .unset] [(.long (268435455 : Int64)), (.long i2), (.int (bb0 + (2 : Int32)))])
  refine Go.step (fun _ k => XS.land X0.here hx rfl (hb hby at_33) rfl k) ?_
  show Go p e below _ s₁ (mkF m 34 #[.val (.int i0), .val (.long i1), .second, .val (.long i2), .second, .val (.long i3), .second, .val (.int i4), .val (.int kk), .val (.int aa0), .val (.int bb0), .unset, .unset, .unset, .unset, .unset, .unset] [(.long (i2 &&& (268435455 : Int64))), (.int (bb0 + (2 : Int32)))])
  refine Go.step (fun _ k => XS.l2i X0.here hx rfl (hb hby at_34) rfl k) ?_
  show Go p e below _ s₁ (mkF m 35 #[.val (.int i0), .val (.long i1), .second, .val (.long i2), .second, .val (.long i3), .second, .val (.int i4), .val (.int kk), .val (.int aa0), .val (.int bb0), .unset, .unset, .unset, .unset, .unset, .unset] [(.int ((i2 &&& (268435455 : Int64)).toInt32)), (.int (bb0 + (2 : Int32)))])
  refine Go.step (fun _ k => XS.iadd X0.here hx rfl (hb hby at_35) rfl k) ?_
  show Go p e below _ s₁ (mkF m 36 #[.val (.int i0), .val (.long i1), .second, .val (.long i2), .second, .val (.long i3), .second, .val (.int i4), .val (.int kk), .val (.int aa0), .val (.int bb0), .unset, .unset, .unset, .unset, .unset, .unset] [(.int ((bb0 + (2 : Int32)) + ((i2 &&& (268435455 : Int64)).toInt32)))])
  obtain ⟨aa1, e_aa1⟩ : ∃ z : Int32, z = ((bb0 + (2 : Int32)) + ((i2 &&& (268435455 : Int64)).toInt32)) := ⟨_, rfl⟩
  rw [← e_aa1]
  show Go p e below _ s₁ (mkF m 36 #[.val (.int i0), .val (.long i1), .second, .val (.long i2), .second, .val (.long i3), .second, .val (.int i4), .val (.int kk), .val (.int aa0), .val (.int bb0), .unset, .unset, .unset, .unset, .unset, .unset] [(.int aa1)])
  refine Go.step (fun _ k => XS.istore X0.here hx rfl (hb hby at_36) rfl (l' := #[.val (.int i0), .val (.long i1), .second, .val (.long i2), .second, .val (.long i3), .second, .val (.int i4), .val (.int kk), .val (.int aa0), .val (.int bb0), .val (.int aa1), .unset, .unset, .unset, .unset, .unset]) rfl k) ?_
  show Go p e below _ s₁ (mkF m 38 #[.val (.int i0), .val (.long i1), .second, .val (.long i2), .second, .val (.long i3), .second, .val (.int i4), .val (.int kk), .val (.int aa0), .val (.int bb0), .val (.int aa1), .unset, .unset, .unset, .unset, .unset] [])
  refine Go.step (fun _ k => XS.iload X0.here hx rfl (hb hby at_38) rfl k) ?_
  show Go p e below _ s₁ (mkF m 40 #[.val (.int i0), .val (.long i1), .second, .val (.long i2), .second, .val (.long i3), .second, .val (.int i4), .val (.int kk), .val (.int aa0), .val (.int bb0), .val (.int aa1), .unset, .unset, .unset, .unset, .unset] [(.int aa1)])
  refine Go.step (fun _ k => XS.lloadN X0.here hx rfl (hb hby at_40) rfl k) ?_
  show Go p e below _ s₁ (mkF m 41 #[.val (.int i0), .val (.long i1), .second, .val (.long i2), .second, .val (.long i3), .second, .val (.int i4), .val (.int kk), .val (.int aa0), .val (.int bb0), .val (.int aa1), .unset, .unset, .unset, .unset, .unset] [(.long i2), (.int aa1)])
  refine Go.step (fun _ k => XS.bipush X0.here hx rfl (hb hby at_41) k) ?_
  show Go p e below _ s₁ (mkF m 43 #[.val (.int i0), .val (.long i1), .second, .val (.long i2), .second, .val (.long i3), .second, .val (.int i4), .val (.int kk), .val (.int aa0), .val (.int bb0), .val (.int aa1), .unset, .unset, .unset, .unset, .unset] [(.int (32 : Int32)), (.long i2), (.int aa1)])
  refine Go.step (fun _ k => XS.lushr X0.here hx rfl (hb hby at_43) rfl k) ?_
  show Go p e below _ s₁ (mkF m 44 #[.val (.int i0), .val (.long i1), .second, .val (.long i2), .second, .val (.long i3), .second, .val (.int i4), .val (.int kk), .val (.int aa0), .val (.int bb0), .val (.int aa1), .unset, .unset, .unset, .unset, .unset] [(.long ((i2.toUInt64 >>> ((32 : Int32) &&& 0x3f).toInt64.toUInt64).toInt64)), (.int aa1)])
  refine Go.step (X0.ldc2Long hx hown (mvT hZ (hw _ (List.mem_of_getElem? (i := 0) rfl))) (g := (mkF m 44 #[.val (.int i0), .val (.long i1), .second, .val (.long i2), .second, .val (.long i3), .second, .val (.int i4), .val (.int kk), .val (.int aa0), .val (.int bb0), .val (.int aa1), .unset, .unset, .unset, .unset, .unset] [(.long ((i2.toUInt64 >>> ((32 : Int32) &&& 0x3f).toInt64.toUInt64).toInt64)), (.int aa1)])) rfl (hb hby at_44)) ?_
  show Go p e below _ s₁ (mkF m 47 #[.val (.int i0), .val (.long i1), .second, .val (.long i2), .second, .val (.long i3), .second, .val (.int i4), .val (.int kk), .val (.int aa0), .val (.int bb0), .val (.int aa1), .unset, .unset, .unset, .unset, .unset] [(.long (268435455 : Int64)), (.long ((i2.toUInt64 >>> ((32 : Int32) &&& 0x3f).toInt64.toUInt64).toInt64)), (.int aa1)])
  refine Go.step (fun _ k => XS.land X0.here hx rfl (hb hby at_47) rfl k) ?_
  show Go p e below _ s₁ (mkF m 48 #[.val (.int i0), .val (.long i1), .second, .val (.long i2), .second, .val (.long i3), .second, .val (.int i4), .val (.int kk), .val (.int aa0), .val (.int bb0), .val (.int aa1), .unset, .unset, .unset, .unset, .unset] [(.long (((i2.toUInt64 >>> ((32 : Int32) &&& 0x3f).toInt64.toUInt64).toInt64) &&& (268435455 : Int64))), (.int aa1)])
  refine Go.step (fun _ k => XS.l2i X0.here hx rfl (hb hby at_48) rfl k) ?_
  show Go p e below _ s₁ (mkF m 49 #[.val (.int i0), .val (.long i1), .second, .val (.long i2), .second, .val (.long i3), .second, .val (.int i4), .val (.int kk), .val (.int aa0), .val (.int bb0), .val (.int aa1), .unset, .unset, .unset, .unset, .unset] [(.int ((((i2.toUInt64 >>> ((32 : Int32) &&& 0x3f).toInt64.toUInt64).toInt64) &&& (268435455 : Int64)).toInt32)), (.int aa1)])
  refine Go.step (fun _ k => XS.iadd X0.here hx rfl (hb hby at_49) rfl k) ?_
  show Go p e below _ s₁ (mkF m 50 #[.val (.int i0), .val (.long i1), .second, .val (.long i2), .second, .val (.long i3), .second, .val (.int i4), .val (.int kk), .val (.int aa0), .val (.int bb0), .val (.int aa1), .unset, .unset, .unset, .unset, .unset] [(.int (aa1 + ((((i2.toUInt64 >>> ((32 : Int32) &&& 0x3f).toInt64.toUInt64).toInt64) &&& (268435455 : Int64)).toInt32)))])
  obtain ⟨bb1, e_bb1⟩ : ∃ z : Int32, z = (aa1 + ((((i2.toUInt64 >>> ((32 : Int32) &&& 0x3f).toInt64.toUInt64).toInt64) &&& (268435455 : Int64)).toInt32)) := ⟨_, rfl⟩
  rw [← e_bb1]
  show Go p e below _ s₁ (mkF m 50 #[.val (.int i0), .val (.long i1), .second, .val (.long i2), .second, .val (.long i3), .second, .val (.int i4), .val (.int kk), .val (.int aa0), .val (.int bb0), .val (.int aa1), .unset, .unset, .unset, .unset, .unset] [(.int bb1)])
  refine Go.step (fun _ k => XS.istore X0.here hx rfl (hb hby at_50) rfl (l' := #[.val (.int i0), .val (.long i1), .second, .val (.long i2), .second, .val (.long i3), .second, .val (.int i4), .val (.int kk), .val (.int aa0), .val (.int bb0), .val (.int aa1), .val (.int bb1), .unset, .unset, .unset, .unset]) rfl k) ?_
  show Go p e below _ s₁ (mkF m 52 #[.val (.int i0), .val (.long i1), .second, .val (.long i2), .second, .val (.long i3), .second, .val (.int i4), .val (.int kk), .val (.int aa0), .val (.int bb0), .val (.int aa1), .val (.int bb1), .unset, .unset, .unset, .unset] [])
  refine Go.step (fun _ k => XS.iload X0.here hx rfl (hb hby at_52) rfl k) ?_
  show Go p e below _ s₁ (mkF m 54 #[.val (.int i0), .val (.long i1), .second, .val (.long i2), .second, .val (.long i3), .second, .val (.int i4), .val (.int kk), .val (.int aa0), .val (.int bb0), .val (.int aa1), .val (.int bb1), .unset, .unset, .unset, .unset] [(.int bb1)])
  refine Go.step (fun _ k => XS.iconst X0.here hx rfl (hb hby at_54) k) ?_
  show Go p e below _ s₁ (mkF m 55 #[.val (.int i0), .val (.long i1), .second, .val (.long i2), .second, .val (.long i3), .second, .val (.int i4), .val (.int kk), .val (.int aa0), .val (.int bb0), .val (.int aa1), .val (.int bb1), .unset, .unset, .unset, .unset] [(.int (2 : Int32)), (.int bb1)])
  refine Go.step (fun _ k => XS.iadd X0.here hx rfl (hb hby at_55) rfl k) ?_
  show Go p e below _ s₁ (mkF m 56 #[.val (.int i0), .val (.long i1), .second, .val (.long i2), .second, .val (.long i3), .second, .val (.int i4), .val (.int kk), .val (.int aa0), .val (.int bb0), .val (.int aa1), .val (.int bb1), .unset, .unset, .unset, .unset] [(.int (bb1 + (2 : Int32)))])
  refine Go.step (fun _ k => XS.lload X0.here hx rfl (hb hby at_56) rfl k) ?_
  show Go p e below _ s₁ (mkF m 58 #[.val (.int i0), .val (.long i1), .second, .val (.long i2), .second, .val (.long i3), .second, .val (.int i4), .val (.int kk), .val (.int aa0), .val (.int bb0), .val (.int aa1), .val (.int bb1), .unset, .unset, .unset, .unset] [(.long i3), (.int (bb1 + (2 : Int32)))])
  refine Go.step (X0.ldc2Long hx hown (mvT hZ (hw _ (List.mem_of_getElem? (i := 0) rfl))) (g := (mkF m 58 #[.val (.int i0), .val (.long i1), .second, .val (.long i2), .second, .val (.long i3), .second, .val (.int i4), .val (.int kk), .val (.int aa0), .val (.int bb0), .val (.int aa1), .val (.int bb1), .unset, .unset, .unset, .unset] [(.long i3), (.int (bb1 + (2 : Int32)))])) rfl (hb hby at_58)) ?_
  show Go p e below _ s₁ (mkF m 61 #[.val (.int i0), .val (.long i1), .second, .val (.long i2), .second, .val (.long i3), .second, .val (.int i4), .val (.int kk), .val (.int aa0), .val (.int bb0), .val (.int aa1), .val (.int bb1), .unset, .unset, .unset, .unset] [(.long (268435455 : Int64)), (.long i3), (.int (bb1 + (2 : Int32)))])
  refine Go.step (fun _ k => XS.land X0.here hx rfl (hb hby at_61) rfl k) ?_
  show Go p e below _ s₁ (mkF m 62 #[.val (.int i0), .val (.long i1), .second, .val (.long i2), .second, .val (.long i3), .second, .val (.int i4), .val (.int kk), .val (.int aa0), .val (.int bb0), .val (.int aa1), .val (.int bb1), .unset, .unset, .unset, .unset] [(.long (i3 &&& (268435455 : Int64))), (.int (bb1 + (2 : Int32)))])
  refine Go.step (fun _ k => XS.l2i X0.here hx rfl (hb hby at_62) rfl k) ?_
  show Go p e below _ s₁ (mkF m 63 #[.val (.int i0), .val (.long i1), .second, .val (.long i2), .second, .val (.long i3), .second, .val (.int i4), .val (.int kk), .val (.int aa0), .val (.int bb0), .val (.int aa1), .val (.int bb1), .unset, .unset, .unset, .unset] [(.int ((i3 &&& (268435455 : Int64)).toInt32)), (.int (bb1 + (2 : Int32)))])
  refine Go.step (fun _ k => XS.iadd X0.here hx rfl (hb hby at_63) rfl k) ?_
  show Go p e below _ s₁ (mkF m 64 #[.val (.int i0), .val (.long i1), .second, .val (.long i2), .second, .val (.long i3), .second, .val (.int i4), .val (.int kk), .val (.int aa0), .val (.int bb0), .val (.int aa1), .val (.int bb1), .unset, .unset, .unset, .unset] [(.int ((bb1 + (2 : Int32)) + ((i3 &&& (268435455 : Int64)).toInt32)))])
  obtain ⟨aa2, e_aa2⟩ : ∃ z : Int32, z = ((bb1 + (2 : Int32)) + ((i3 &&& (268435455 : Int64)).toInt32)) := ⟨_, rfl⟩
  rw [← e_aa2]
  show Go p e below _ s₁ (mkF m 64 #[.val (.int i0), .val (.long i1), .second, .val (.long i2), .second, .val (.long i3), .second, .val (.int i4), .val (.int kk), .val (.int aa0), .val (.int bb0), .val (.int aa1), .val (.int bb1), .unset, .unset, .unset, .unset] [(.int aa2)])
  refine Go.step (fun _ k => XS.istore X0.here hx rfl (hb hby at_64) rfl (l' := #[.val (.int i0), .val (.long i1), .second, .val (.long i2), .second, .val (.long i3), .second, .val (.int i4), .val (.int kk), .val (.int aa0), .val (.int bb0), .val (.int aa1), .val (.int bb1), .val (.int aa2), .unset, .unset, .unset]) rfl k) ?_
  show Go p e below _ s₁ (mkF m 66 #[.val (.int i0), .val (.long i1), .second, .val (.long i2), .second, .val (.long i3), .second, .val (.int i4), .val (.int kk), .val (.int aa0), .val (.int bb0), .val (.int aa1), .val (.int bb1), .val (.int aa2), .unset, .unset, .unset] [])
  refine Go.step (fun _ k => XS.iload X0.here hx rfl (hb hby at_66) rfl k) ?_
  show Go p e below _ s₁ (mkF m 68 #[.val (.int i0), .val (.long i1), .second, .val (.long i2), .second, .val (.long i3), .second, .val (.int i4), .val (.int kk), .val (.int aa0), .val (.int bb0), .val (.int aa1), .val (.int bb1), .val (.int aa2), .unset, .unset, .unset] [(.int aa2)])
  refine Go.step (fun _ k => XS.lload X0.here hx rfl (hb hby at_68) rfl k) ?_
  show Go p e below _ s₁ (mkF m 70 #[.val (.int i0), .val (.long i1), .second, .val (.long i2), .second, .val (.long i3), .second, .val (.int i4), .val (.int kk), .val (.int aa0), .val (.int bb0), .val (.int aa1), .val (.int bb1), .val (.int aa2), .unset, .unset, .unset] [(.long i3), (.int aa2)])
  refine Go.step (fun _ k => XS.bipush X0.here hx rfl (hb hby at_70) k) ?_
  show Go p e below _ s₁ (mkF m 72 #[.val (.int i0), .val (.long i1), .second, .val (.long i2), .second, .val (.long i3), .second, .val (.int i4), .val (.int kk), .val (.int aa0), .val (.int bb0), .val (.int aa1), .val (.int bb1), .val (.int aa2), .unset, .unset, .unset] [(.int (32 : Int32)), (.long i3), (.int aa2)])
  refine Go.step (fun _ k => XS.lushr X0.here hx rfl (hb hby at_72) rfl k) ?_
  show Go p e below _ s₁ (mkF m 73 #[.val (.int i0), .val (.long i1), .second, .val (.long i2), .second, .val (.long i3), .second, .val (.int i4), .val (.int kk), .val (.int aa0), .val (.int bb0), .val (.int aa1), .val (.int bb1), .val (.int aa2), .unset, .unset, .unset] [(.long ((i3.toUInt64 >>> ((32 : Int32) &&& 0x3f).toInt64.toUInt64).toInt64)), (.int aa2)])
  refine Go.step (X0.ldc2Long hx hown (mvT hZ (hw _ (List.mem_of_getElem? (i := 0) rfl))) (g := (mkF m 73 #[.val (.int i0), .val (.long i1), .second, .val (.long i2), .second, .val (.long i3), .second, .val (.int i4), .val (.int kk), .val (.int aa0), .val (.int bb0), .val (.int aa1), .val (.int bb1), .val (.int aa2), .unset, .unset, .unset] [(.long ((i3.toUInt64 >>> ((32 : Int32) &&& 0x3f).toInt64.toUInt64).toInt64)), (.int aa2)])) rfl (hb hby at_73)) ?_
  show Go p e below _ s₁ (mkF m 76 #[.val (.int i0), .val (.long i1), .second, .val (.long i2), .second, .val (.long i3), .second, .val (.int i4), .val (.int kk), .val (.int aa0), .val (.int bb0), .val (.int aa1), .val (.int bb1), .val (.int aa2), .unset, .unset, .unset] [(.long (268435455 : Int64)), (.long ((i3.toUInt64 >>> ((32 : Int32) &&& 0x3f).toInt64.toUInt64).toInt64)), (.int aa2)])
  refine Go.step (fun _ k => XS.land X0.here hx rfl (hb hby at_76) rfl k) ?_
  show Go p e below _ s₁ (mkF m 77 #[.val (.int i0), .val (.long i1), .second, .val (.long i2), .second, .val (.long i3), .second, .val (.int i4), .val (.int kk), .val (.int aa0), .val (.int bb0), .val (.int aa1), .val (.int bb1), .val (.int aa2), .unset, .unset, .unset] [(.long (((i3.toUInt64 >>> ((32 : Int32) &&& 0x3f).toInt64.toUInt64).toInt64) &&& (268435455 : Int64))), (.int aa2)])
  refine Go.step (fun _ k => XS.l2i X0.here hx rfl (hb hby at_77) rfl k) ?_
  show Go p e below _ s₁ (mkF m 78 #[.val (.int i0), .val (.long i1), .second, .val (.long i2), .second, .val (.long i3), .second, .val (.int i4), .val (.int kk), .val (.int aa0), .val (.int bb0), .val (.int aa1), .val (.int bb1), .val (.int aa2), .unset, .unset, .unset] [(.int ((((i3.toUInt64 >>> ((32 : Int32) &&& 0x3f).toInt64.toUInt64).toInt64) &&& (268435455 : Int64)).toInt32)), (.int aa2)])
  refine Go.step (fun _ k => XS.iadd X0.here hx rfl (hb hby at_78) rfl k) ?_
  show Go p e below _ s₁ (mkF m 79 #[.val (.int i0), .val (.long i1), .second, .val (.long i2), .second, .val (.long i3), .second, .val (.int i4), .val (.int kk), .val (.int aa0), .val (.int bb0), .val (.int aa1), .val (.int bb1), .val (.int aa2), .unset, .unset, .unset] [(.int (aa2 + ((((i3.toUInt64 >>> ((32 : Int32) &&& 0x3f).toInt64.toUInt64).toInt64) &&& (268435455 : Int64)).toInt32)))])
  obtain ⟨bb2, e_bb2⟩ : ∃ z : Int32, z = (aa2 + ((((i3.toUInt64 >>> ((32 : Int32) &&& 0x3f).toInt64.toUInt64).toInt64) &&& (268435455 : Int64)).toInt32)) := ⟨_, rfl⟩
  rw [← e_bb2]
  show Go p e below _ s₁ (mkF m 79 #[.val (.int i0), .val (.long i1), .second, .val (.long i2), .second, .val (.long i3), .second, .val (.int i4), .val (.int kk), .val (.int aa0), .val (.int bb0), .val (.int aa1), .val (.int bb1), .val (.int aa2), .unset, .unset, .unset] [(.int bb2)])
  have hs := own_sorted e_aa0 e_bb0 e_aa1 e_bb1 e_aa2 e_bb2
  have hk := own_k3 i0
  rw [← e_kk] at hk
  refine Go.step (fun _ k => XS.istore X0.here hx rfl (hb hby at_79) rfl (l' := #[.val (.int i0), .val (.long i1), .second, .val (.long i2), .second, .val (.long i3), .second, .val (.int i4), .val (.int kk), .val (.int aa0), .val (.int bb0), .val (.int aa1), .val (.int bb1), .val (.int aa2), .val (.int bb2), .unset, .unset]) rfl k) ?_
  show Go p e below _ s₁ (mkF m 81 #[.val (.int i0), .val (.long i1), .second, .val (.long i2), .second, .val (.long i3), .second, .val (.int i4), .val (.int kk), .val (.int aa0), .val (.int bb0), .val (.int aa1), .val (.int bb1), .val (.int aa2), .val (.int bb2), .unset, .unset] [])
  refine Go.step (fun _ k => XS.iload X0.here hx rfl (hb hby at_81) rfl k) ?_
  show Go p e below _ s₁ (mkF m 83 #[.val (.int i0), .val (.long i1), .second, .val (.long i2), .second, .val (.long i3), .second, .val (.int i4), .val (.int kk), .val (.int aa0), .val (.int bb0), .val (.int aa1), .val (.int bb1), .val (.int aa2), .val (.int bb2), .unset, .unset] [(.int kk)])
  by_cases hc83_37 : kk = (0 : Int32)
  · show Go p e below _ s₁ (mkF m 83 #[.val (.int i0), .val (.long i1), .second, .val (.long i2), .second, .val (.long i3), .second, .val (.int i4), .val (.int kk), .val (.int aa0), .val (.int bb0), .val (.int aa1), .val (.int bb1), .val (.int aa2), .val (.int bb2), .unset, .unset] [(.int kk)])
    refine Go.step (fun _ k => XS.ifNo X0.here hx rfl (hb hby at_83) rfl ((if0 _ _).trans (teq hc83_37).2) k) ?_
    show Go p e below _ s₁ (mkF m 86 #[.val (.int i0), .val (.long i1), .second, .val (.long i2), .second, .val (.long i3), .second, .val (.int i4), .val (.int kk), .val (.int aa0), .val (.int bb0), .val (.int aa1), .val (.int bb1), .val (.int aa2), .val (.int bb2), .unset, .unset] [])
    refine Go.step (fun _ k => XS.iconst X0.here hx rfl (hb hby at_86) k) ?_
    show Go p e below _ s₁ (mkF m 87 #[.val (.int i0), .val (.long i1), .second, .val (.long i2), .second, .val (.long i3), .second, .val (.int i4), .val (.int kk), .val (.int aa0), .val (.int bb0), .val (.int aa1), .val (.int bb1), .val (.int aa2), .val (.int bb2), .unset, .unset] [(.int (0 : Int32))])
    obtain ⟨T38, h38, k38, X38, e38, E38, A38, st38⟩ := newP X0 hx hZ (hw _ (List.mem_of_getElem? (i := 1) rfl)) e0 (g := (mkF m 87 #[.val (.int i0), .val (.long i1), .second, .val (.long i2), .second, .val (.long i3), .second, .val (.int i4), .val (.int kk), .val (.int aa0), .val (.int bb0), .val (.int aa1), .val (.int bb1), .val (.int aa2), .val (.int bb2), .unset, .unset] [(.int (0 : Int32))])) rfl (hb hby at_87) rfl (by decide) (cap := 0) (by decide) (by decide) (by decide) (by decide)
    obtain ⟨ar, g38⟩ : ∃ z, z = h0.size := ⟨_, rfl⟩
    rw [← g38] at A38 st38
    have g_ar : n0 ≤ ar := Nat.le_trans Zn (Nat.le_of_eq g38.symm)
    have sz_ar : h0.size ≤ ar := Nat.le_trans K0.1 (Nat.le_of_eq g38.symm)
    replace Zn := Nat.le_trans Zn E38.1
    replace K0 := K0.ext E38
    have V_ar : Arv Z h38 ar k38 .int (0 : Int32) [] (.int (0 : Int32)) := Arv.new A38 (by decide)
    refine Go.step st38 ?_
    show Go p e below _ T38 (mkF m 89 #[.val (.int i0), .val (.long i1), .second, .val (.long i2), .second, .val (.long i3), .second, .val (.int i4), .val (.int kk), .val (.int aa0), .val (.int bb0), .val (.int aa1), .val (.int bb1), .val (.int aa2), .val (.int bb2), .unset, .unset] [(.ref ar)])
    refine Go.step (fun _ k => XS.astore X38.here hx rfl (hb hby at_89) rfl rfl (l' := #[.val (.int i0), .val (.long i1), .second, .val (.long i2), .second, .val (.long i3), .second, .val (.int i4), .val (.int kk), .val (.int aa0), .val (.int bb0), .val (.int aa1), .val (.int bb1), .val (.int aa2), .val (.int bb2), .val (.ref ar), .unset]) rfl k) ?_
    show Go p e below _ T38 (mkF m 91 #[.val (.int i0), .val (.long i1), .second, .val (.long i2), .second, .val (.long i3), .second, .val (.int i4), .val (.int kk), .val (.int aa0), .val (.int bb0), .val (.int aa1), .val (.int bb1), .val (.int aa2), .val (.int bb2), .val (.ref ar), .unset] [])
    refine Go.step (fun _ k => XS.goto X38.here hx rfl (pc0 := 91) (pc' := 188) rfl (hb hby at_91) (by decide) (by decide) k) ?_
    show Go p e below _ T38 (mkF m 188 #[.val (.int i0), .val (.long i1), .second, .val (.long i2), .second, .val (.long i3), .second, .val (.int i4), .val (.int kk), .val (.int aa0), .val (.int bb0), .val (.int aa1), .val (.int bb1), .val (.int aa2), .val (.int bb2), .val (.ref ar), .unset] [])
    refine Go.step (fun _ k => XS.iload X38.here hx rfl (hb hby at_188) rfl k) ?_
    show Go p e below _ T38 (mkF m 190 #[.val (.int i0), .val (.long i1), .second, .val (.long i2), .second, .val (.long i3), .second, .val (.int i4), .val (.int kk), .val (.int aa0), .val (.int bb0), .val (.int aa1), .val (.int bb1), .val (.int aa2), .val (.int bb2), .val (.ref ar), .unset] [(.int kk)])
    refine Go.step (fun _ k => XS.iconst X38.here hx rfl (hb hby at_190) k) ?_
    show Go p e below _ T38 (mkF m 191 #[.val (.int i0), .val (.long i1), .second, .val (.long i2), .second, .val (.long i3), .second, .val (.int i4), .val (.int kk), .val (.int aa0), .val (.int bb0), .val (.int aa1), .val (.int bb1), .val (.int aa2), .val (.int bb2), .val (.ref ar), .unset] [(.int (1 : Int32)), (.int kk)])
    refine Go.step (fun _ k => XS.icmpYes X38.here hx rfl (pc0 := 191) (pc' := 206) rfl (hb hby at_191) rfl (tlt (by rw [hc83_37]; decide)).1 (by decide) (by decide) k) ?_
    show Go p e below _ T38 (mkF m 206 #[.val (.int i0), .val (.long i1), .second, .val (.long i2), .second, .val (.long i3), .second, .val (.int i4), .val (.int kk), .val (.int aa0), .val (.int bb0), .val (.int aa1), .val (.int bb1), .val (.int aa2), .val (.int bb2), .val (.ref ar), .unset] [])
    refine Go.step (fun _ k => XS.iload X38.here hx rfl (hb hby at_206) rfl k) ?_
    show Go p e below _ T38 (mkF m 208 #[.val (.int i0), .val (.long i1), .second, .val (.long i2), .second, .val (.long i3), .second, .val (.int i4), .val (.int kk), .val (.int aa0), .val (.int bb0), .val (.int aa1), .val (.int bb1), .val (.int aa2), .val (.int bb2), .val (.ref ar), .unset] [(.int kk)])
    refine Go.step (fun _ k => XS.iconst X38.here hx rfl (hb hby at_208) k) ?_
    show Go p e below _ T38 (mkF m 209 #[.val (.int i0), .val (.long i1), .second, .val (.long i2), .second, .val (.long i3), .second, .val (.int i4), .val (.int kk), .val (.int aa0), .val (.int bb0), .val (.int aa1), .val (.int bb1), .val (.int aa2), .val (.int bb2), .val (.ref ar), .unset] [(.int (2 : Int32)), (.int kk)])
    refine Go.step (fun _ k => XS.icmpYes X38.here hx rfl (pc0 := 209) (pc' := 224) rfl (hb hby at_209) rfl (tlt (by rw [hc83_37]; decide)).1 (by decide) (by decide) k) ?_
    show Go p e below _ T38 (mkF m 224 #[.val (.int i0), .val (.long i1), .second, .val (.long i2), .second, .val (.long i3), .second, .val (.int i4), .val (.int kk), .val (.int aa0), .val (.int bb0), .val (.int aa1), .val (.int bb1), .val (.int aa2), .val (.int bb2), .val (.ref ar), .unset] [])
    refine Go.step (fun _ k => XS.iload X38.here hx rfl (hb hby at_224) rfl k) ?_
    show Go p e below _ T38 (mkF m 226 #[.val (.int i0), .val (.long i1), .second, .val (.long i2), .second, .val (.long i3), .second, .val (.int i4), .val (.int kk), .val (.int aa0), .val (.int bb0), .val (.int aa1), .val (.int bb1), .val (.int aa2), .val (.int bb2), .val (.ref ar), .unset] [(.int kk)])
    refine Go.step (fun _ k => XS.iconst X38.here hx rfl (hb hby at_226) k) ?_
    show Go p e below _ T38 (mkF m 227 #[.val (.int i0), .val (.long i1), .second, .val (.long i2), .second, .val (.long i3), .second, .val (.int i4), .val (.int kk), .val (.int aa0), .val (.int bb0), .val (.int aa1), .val (.int bb1), .val (.int aa2), .val (.int bb2), .val (.ref ar), .unset] [(.int (3 : Int32)), (.int kk)])
    refine Go.step (fun _ k => XS.icmpYes X38.here hx rfl (pc0 := 227) (pc' := 246) rfl (hb hby at_227) rfl (tlt (by rw [hc83_37]; decide)).1 (by decide) (by decide) k) ?_
    show Go p e below _ T38 (mkF m 246 #[.val (.int i0), .val (.long i1), .second, .val (.long i2), .second, .val (.long i3), .second, .val (.int i4), .val (.int kk), .val (.int aa0), .val (.int bb0), .val (.int aa1), .val (.int bb1), .val (.int aa2), .val (.int bb2), .val (.ref ar), .unset] [])
    refine Go.step (fun _ k => XS.iconst X38.here hx rfl (hb hby at_246) k) ?_
    show Go p e below _ T38 (mkF m 247 #[.val (.int i0), .val (.long i1), .second, .val (.long i2), .second, .val (.long i3), .second, .val (.int i4), .val (.int kk), .val (.int aa0), .val (.int bb0), .val (.int aa1), .val (.int bb1), .val (.int aa2), .val (.int bb2), .val (.ref ar), .unset] [(.int (0 : Int32))])
    refine Go.step (fun _ k => XS.istore X38.here hx rfl (hb hby at_247) rfl (l' := #[.val (.int i0), .val (.long i1), .second, .val (.long i2), .second, .val (.long i3), .second, .val (.int i4), .val (.int kk), .val (.int aa0), .val (.int bb0), .val (.int aa1), .val (.int bb1), .val (.int aa2), .val (.int bb2), .val (.ref ar), .val (.int (0 : Int32))]) rfl k) ?_
    show Go p e below _ T38 (mkF m 249 #[.val (.int i0), .val (.long i1), .second, .val (.long i2), .second, .val (.long i3), .second, .val (.int i4), .val (.int kk), .val (.int aa0), .val (.int bb0), .val (.int aa1), .val (.int bb1), .val (.int aa2), .val (.int bb2), .val (.ref ar), .val (.int (0 : Int32))] [])
    refine Go.step (fun _ k => XS.aload X38.here hx rfl (hb hby at_249) rfl rfl k) ?_
    show Go p e below _ T38 (mkF m 251 #[.val (.int i0), .val (.long i1), .second, .val (.long i2), .second, .val (.long i3), .second, .val (.int i4), .val (.int kk), .val (.int aa0), .val (.int bb0), .val (.int aa1), .val (.int bb1), .val (.int aa2), .val (.int bb2), .val (.ref ar), .val (.int (0 : Int32))] [(.ref ar)])
    refine Go.step (fun _ k => XS.iload X38.here hx rfl (hb hby at_251) rfl k) ?_
    show Go p e below _ T38 (mkF m 253 #[.val (.int i0), .val (.long i1), .second, .val (.long i2), .second, .val (.long i3), .second, .val (.int i4), .val (.int kk), .val (.int aa0), .val (.int bb0), .val (.int aa1), .val (.int bb1), .val (.int aa2), .val (.int bb2), .val (.ref ar), .val (.int (0 : Int32))] [(.int i4), (.ref ar)])
    obtain ⟨_, _, ⟨T39, L39, k39, n39⟩, -, X39, ⟨Lc39, hQ39, l39, y39, z39⟩, st39⟩ := Jvm.LawKit.callS X38 hx (y := (⟨"com/example/seriate/seriate/engine/pattern/Counts", "contains", "([II)Z"⟩ : MethodName)) hown (mvT hZ (hw _ (List.mem_of_getElem? (i := 2) rfl))) (mvT hZ (hw _ (List.mem_of_getElem? (i := 3) rfl))) (mvT hZ (hw _ (List.mem_of_getElem? (i := 4) rfl))) (mvT hZ (hw _ (List.mem_of_getElem? (i := 5) rfl))) (by decide) (backOf (W := 0) (rmC0 l Z a0 hw [] ar i4 k38 h38 n0 Zn V_ar) hZ (hw _ (List.mem_of_getElem? (i := 5) rfl)) (hw _ (List.mem_of_getElem? (i := 4) rfl)) (by decide) (by decide)) (g := (mkF m 253 #[.val (.int i0), .val (.long i1), .second, .val (.long i2), .second, .val (.long i3), .second, .val (.int i4), .val (.int kk), .val (.int aa0), .val (.int bb0), .val (.int aa1), .val (.int bb1), .val (.int aa2), .val (.int bb2), .val (.ref ar), .val (.int (0 : Int32))] [(.int i4), (.ref ar)])) rfl (by rw [hml]; rfl) (argsL := [(.ref ar), (.int i4)]) (rest := []) (lenOf own_f36 rfl) rfl (by show 2 * 0 + _ ≤ _; exact Nat.le_of_eq rfl) (hb hby at_253) (fun _ _ => ⟨rfl, e38, (by dsimp only [Pt.cells, Pt.slots]; decide), (by dsimp only [Pt.cells, Pt.slots]; decide)⟩)
    dsimp only [Pt.U, Pt.locs, Pt.cells, Pt.slots] at X39 l39 y39 z39 st39 hQ39
    subst l39 y39 z39
    obtain ⟨rfl, N39q, e39⟩ := hQ39
    have N39 := Fr.app N0 N39q
    refine Go.step (st39) ?_
    show Go p e below _ T39 (mkF m 256 #[.val (.int i0), .val (.long i1), .second, .val (.long i2), .second, .val (.long i3), .second, .val (.int i4), .val (.int kk), .val (.int aa0), .val (.int bb0), .val (.int aa1), .val (.int bb1), .val (.int aa2), .val (.int bb2), .val (.ref ar), .val (.int (0 : Int32))] [(.int (own_c0 i4))])
    refine Go.step (fun _ k => XS.iload X39.here hx rfl (hb hby at_256) rfl k) ?_
    show Go p e below _ T39 (mkF m 258 #[.val (.int i0), .val (.long i1), .second, .val (.long i2), .second, .val (.long i3), .second, .val (.int i4), .val (.int kk), .val (.int aa0), .val (.int bb0), .val (.int aa1), .val (.int bb1), .val (.int aa2), .val (.int bb2), .val (.ref ar), .val (.int (0 : Int32))] [(.int (0 : Int32)), (.int (own_c0 i4))])
    have hfin : (own_c0 i4) = (0 : Int32) := by rfl
    refine Go.step (fun _ k => XS.icmpNo X39.here hx rfl (hb hby at_258) rfl (teq hfin).2 k) ?_
    show Go p e below _ T39 (mkF m 261 #[.val (.int i0), .val (.long i1), .second, .val (.long i2), .second, .val (.long i3), .second, .val (.int i4), .val (.int kk), .val (.int aa0), .val (.int bb0), .val (.int aa1), .val (.int bb1), .val (.int aa2), .val (.int bb2), .val (.ref ar), .val (.int (0 : Int32))] [])
    refine Go.step (fun _ k => XS.iconst X39.here hx rfl (hb hby at_261) k) ?_
    show Go p e below _ T39 (mkF m 262 #[.val (.int i0), .val (.long i1), .second, .val (.long i2), .second, .val (.long i3), .second, .val (.int i4), .val (.int kk), .val (.int aa0), .val (.int bb0), .val (.int aa1), .val (.int bb1), .val (.int aa2), .val (.int bb2), .val (.ref ar), .val (.int (0 : Int32))] [(.int (1 : Int32))])
    refine Go.step (fun _ k => XS.goto X39.here hx rfl (pc0 := 262) (pc' := 266) rfl (hb hby at_262) (by decide) (by decide) k) ?_
    show Go p e below _ T39 (mkF m 266 #[.val (.int i0), .val (.long i1), .second, .val (.long i2), .second, .val (.long i3), .second, .val (.int i4), .val (.int kk), .val (.int aa0), .val (.int bb0), .val (.int aa1), .val (.int bb1), .val (.int aa2), .val (.int bb2), .val (.ref ar), .val (.int (0 : Int32))] [(.int (1 : Int32))])
    obtain ⟨fs, hr, hrun, hended, hW, hsame⟩ := X39.leave (v := some (.int (1 : Int32))) (fun h => by rw [Bd.returns] at h; cases h)
    refine Go.fin (retN X39 hx (t := .boolean) Bd.returns (by simp) (hb hby at_266) hr) hrun hended ?_
    refine ⟨_, _, rfl, ?_, ⟨_, rfl⟩, hW, hsame.mono (by decide) (by decide)⟩
    show Q0 Z i0 i1 i2 i3 i4 h0 n0 _ T39.heap _
    rw [e39]
    exact ⟨rfl, N39⟩
  · show Go p e below _ s₁ (mkF m 83 #[.val (.int i0), .val (.long i1), .second, .val (.long i2), .second, .val (.long i3), .second, .val (.int i4), .val (.int kk), .val (.int aa0), .val (.int bb0), .val (.int aa1), .val (.int bb1), .val (.int aa2), .val (.int bb2), .unset, .unset] [(.int kk)])
    refine Go.step (fun _ k => XS.ifYes X0.here hx rfl (pc0 := 83) (pc' := 94) rfl (hb hby at_83) rfl ((if0 _ _).trans (feq hc83_37).2) (by decide) (by decide) k) ?_
    show Go p e below _ s₁ (mkF m 94 #[.val (.int i0), .val (.long i1), .second, .val (.long i2), .second, .val (.long i3), .second, .val (.int i4), .val (.int kk), .val (.int aa0), .val (.int bb0), .val (.int aa1), .val (.int bb1), .val (.int aa2), .val (.int bb2), .unset, .unset] [])
    refine Go.step (fun _ k => XS.iload X0.here hx rfl (hb hby at_94) rfl k) ?_
    show Go p e below _ s₁ (mkF m 96 #[.val (.int i0), .val (.long i1), .second, .val (.long i2), .second, .val (.long i3), .second, .val (.int i4), .val (.int kk), .val (.int aa0), .val (.int bb0), .val (.int aa1), .val (.int bb1), .val (.int aa2), .val (.int bb2), .unset, .unset] [(.int kk)])
    refine Go.step (fun _ k => XS.iconst X0.here hx rfl (hb hby at_96) k) ?_
    show Go p e below _ s₁ (mkF m 97 #[.val (.int i0), .val (.long i1), .second, .val (.long i2), .second, .val (.long i3), .second, .val (.int i4), .val (.int kk), .val (.int aa0), .val (.int bb0), .val (.int aa1), .val (.int bb1), .val (.int aa2), .val (.int bb2), .unset, .unset] [(.int (1 : Int32)), (.int kk)])
    by_cases hc97_40 : kk = (1 : Int32)
    · show Go p e below _ s₁ (mkF m 97 #[.val (.int i0), .val (.long i1), .second, .val (.long i2), .second, .val (.long i3), .second, .val (.int i4), .val (.int kk), .val (.int aa0), .val (.int bb0), .val (.int aa1), .val (.int bb1), .val (.int aa2), .val (.int bb2), .unset, .unset] [(.int (1 : Int32)), (.int kk)])
      refine Go.step (fun _ k => XS.icmpNo X0.here hx rfl (hb hby at_97) rfl (teq hc97_40).2 k) ?_
      show Go p e below _ s₁ (mkF m 100 #[.val (.int i0), .val (.long i1), .second, .val (.long i2), .second, .val (.long i3), .second, .val (.int i4), .val (.int kk), .val (.int aa0), .val (.int bb0), .val (.int aa1), .val (.int bb1), .val (.int aa2), .val (.int bb2), .unset, .unset] [])
      refine Go.step (fun _ k => XS.iconst X0.here hx rfl (hb hby at_100) k) ?_
      show Go p e below _ s₁ (mkF m 101 #[.val (.int i0), .val (.long i1), .second, .val (.long i2), .second, .val (.long i3), .second, .val (.int i4), .val (.int kk), .val (.int aa0), .val (.int bb0), .val (.int aa1), .val (.int bb1), .val (.int aa2), .val (.int bb2), .unset, .unset] [(.int (2 : Int32))])
      obtain ⟨T41, h41, k41, X41, e41, E41, A41, st41⟩ := newP X0 hx hZ (hw _ (List.mem_of_getElem? (i := 1) rfl)) e0 (g := (mkF m 101 #[.val (.int i0), .val (.long i1), .second, .val (.long i2), .second, .val (.long i3), .second, .val (.int i4), .val (.int kk), .val (.int aa0), .val (.int bb0), .val (.int aa1), .val (.int bb1), .val (.int aa2), .val (.int bb2), .unset, .unset] [(.int (2 : Int32))])) rfl (hb hby at_101) rfl (by decide) (cap := 2) (by decide) (by decide) (by decide) (by decide)
      obtain ⟨ar, g41⟩ : ∃ z, z = h0.size := ⟨_, rfl⟩
      rw [← g41] at A41 st41
      have g_ar : n0 ≤ ar := Nat.le_trans Zn (Nat.le_of_eq g41.symm)
      have sz_ar : h0.size ≤ ar := Nat.le_trans K0.1 (Nat.le_of_eq g41.symm)
      replace Zn := Nat.le_trans Zn E41.1
      replace K0 := K0.ext E41
      have V_ar : Arv Z h41 ar k41 .int (2 : Int32) [(.int (0 : Int32)), (.int (0 : Int32))] (.int (0 : Int32)) := (Arv.new A41 (by decide)).pad (pad_rep [] (.int (0 : Int32)) 2)
      refine Go.step st41 ?_
      show Go p e below _ T41 (mkF m 103 #[.val (.int i0), .val (.long i1), .second, .val (.long i2), .second, .val (.long i3), .second, .val (.int i4), .val (.int kk), .val (.int aa0), .val (.int bb0), .val (.int aa1), .val (.int bb1), .val (.int aa2), .val (.int bb2), .unset, .unset] [(.ref ar)])
      refine Go.step (fun _ k => XS.dup X41.here hx rfl (hb hby at_103) rfl rfl k) ?_
      show Go p e below _ T41 (mkF m 104 #[.val (.int i0), .val (.long i1), .second, .val (.long i2), .second, .val (.long i3), .second, .val (.int i4), .val (.int kk), .val (.int aa0), .val (.int bb0), .val (.int aa1), .val (.int bb1), .val (.int aa2), .val (.int bb2), .unset, .unset] [(.ref ar), (.ref ar)])
      refine Go.step (fun _ k => XS.iconst X41.here hx rfl (hb hby at_104) k) ?_
      show Go p e below _ T41 (mkF m 105 #[.val (.int i0), .val (.long i1), .second, .val (.long i2), .second, .val (.long i3), .second, .val (.int i4), .val (.int kk), .val (.int aa0), .val (.int bb0), .val (.int aa1), .val (.int bb1), .val (.int aa2), .val (.int bb2), .unset, .unset] [(.int (0 : Int32)), (.ref ar), (.ref ar)])
      refine Go.step (fun _ k => XS.iload X41.here hx rfl (hb hby at_105) rfl k) ?_
      show Go p e below _ T41 (mkF m 107 #[.val (.int i0), .val (.long i1), .second, .val (.long i2), .second, .val (.long i3), .second, .val (.int i4), .val (.int kk), .val (.int aa0), .val (.int bb0), .val (.int aa1), .val (.int bb1), .val (.int aa2), .val (.int bb2), .unset, .unset] [(.int aa0), (.int (0 : Int32)), (.ref ar), (.ref ar)])
      obtain ⟨cl42, Ar42, q42, S42, Nn42, H42, G42⟩ := V_ar
      have hin42 : ¬ ((0 : Int32) < 0 ∨ cl42.slots.size ≤ ((0 : Int32)).toNatClampNeg) := inb_of S42 ⟨by decide, by decide⟩
      obtain ⟨T42, h42, X42, e42, W42, st42⟩ := stI X41 hx hZ e41 Ar42 (j := (0 : Int32)) hin42 (g := (mkF m 107 #[.val (.int i0), .val (.long i1), .second, .val (.long i2), .second, .val (.long i3), .second, .val (.int i4), .val (.int kk), .val (.int aa0), .val (.int bb0), .val (.int aa1), .val (.int bb1), .val (.int aa2), .val (.int bb2), .unset, .unset] [(.int aa0), (.int (0 : Int32)), (.ref ar), (.ref ar)])) rfl rfl (hb hby at_107)
      have Vw42 : Arv Z h42 ar k41 .int (2 : Int32) [(.int aa0), (.int (0 : Int32))] (.int (0 : Int32)) := Arv.set Ar42 q42 S42 Nn42 H42 G42 rfl W42 0 rfl (Nat.le_of_ble_eq_true rfl)
      have V_ar := Vw42
      replace K0 := K0.wr W42 (Or.inr sz_ar)
      replace Zn := Nat.le_trans Zn (Nat.le_of_eq W42.size.symm)
      have N42 := Fr.snoc X42 N0 g_ar
      refine Go.step st42 ?_
      show Go p e below _ T42 (mkF m 108 #[.val (.int i0), .val (.long i1), .second, .val (.long i2), .second, .val (.long i3), .second, .val (.int i4), .val (.int kk), .val (.int aa0), .val (.int bb0), .val (.int aa1), .val (.int bb1), .val (.int aa2), .val (.int bb2), .unset, .unset] [(.ref ar)])
      refine Go.step (fun _ k => XS.dup X42.here hx rfl (hb hby at_108) rfl rfl k) ?_
      show Go p e below _ T42 (mkF m 109 #[.val (.int i0), .val (.long i1), .second, .val (.long i2), .second, .val (.long i3), .second, .val (.int i4), .val (.int kk), .val (.int aa0), .val (.int bb0), .val (.int aa1), .val (.int bb1), .val (.int aa2), .val (.int bb2), .unset, .unset] [(.ref ar), (.ref ar)])
      refine Go.step (fun _ k => XS.iconst X42.here hx rfl (hb hby at_109) k) ?_
      show Go p e below _ T42 (mkF m 110 #[.val (.int i0), .val (.long i1), .second, .val (.long i2), .second, .val (.long i3), .second, .val (.int i4), .val (.int kk), .val (.int aa0), .val (.int bb0), .val (.int aa1), .val (.int bb1), .val (.int aa2), .val (.int bb2), .unset, .unset] [(.int (1 : Int32)), (.ref ar), (.ref ar)])
      refine Go.step (fun _ k => XS.iload X42.here hx rfl (hb hby at_110) rfl k) ?_
      show Go p e below _ T42 (mkF m 112 #[.val (.int i0), .val (.long i1), .second, .val (.long i2), .second, .val (.long i3), .second, .val (.int i4), .val (.int kk), .val (.int aa0), .val (.int bb0), .val (.int aa1), .val (.int bb1), .val (.int aa2), .val (.int bb2), .unset, .unset] [(.int bb0), (.int (1 : Int32)), (.ref ar), (.ref ar)])
      obtain ⟨cl43, Ar43, q43, S43, Nn43, H43, G43⟩ := V_ar
      have hin43 : ¬ ((1 : Int32) < 0 ∨ cl43.slots.size ≤ ((1 : Int32)).toNatClampNeg) := inb_of S43 ⟨by decide, by decide⟩
      obtain ⟨T43, h43, X43, e43, W43, st43⟩ := stI X42 hx hZ e42 Ar43 (j := (1 : Int32)) hin43 (g := (mkF m 112 #[.val (.int i0), .val (.long i1), .second, .val (.long i2), .second, .val (.long i3), .second, .val (.int i4), .val (.int kk), .val (.int aa0), .val (.int bb0), .val (.int aa1), .val (.int bb1), .val (.int aa2), .val (.int bb2), .unset, .unset] [(.int bb0), (.int (1 : Int32)), (.ref ar), (.ref ar)])) rfl rfl (hb hby at_112)
      have Vw43 : Arv Z h43 ar k41 .int (2 : Int32) [(.int aa0), (.int bb0)] (.int (0 : Int32)) := Arv.set Ar43 q43 S43 Nn43 H43 G43 rfl W43 1 rfl (Nat.le_of_ble_eq_true rfl)
      have V_ar := Vw43
      replace K0 := K0.wr W43 (Or.inr sz_ar)
      replace Zn := Nat.le_trans Zn (Nat.le_of_eq W43.size.symm)
      have N43 := Fr.snoc X43 N42 g_ar
      refine Go.step st43 ?_
      show Go p e below _ T43 (mkF m 113 #[.val (.int i0), .val (.long i1), .second, .val (.long i2), .second, .val (.long i3), .second, .val (.int i4), .val (.int kk), .val (.int aa0), .val (.int bb0), .val (.int aa1), .val (.int bb1), .val (.int aa2), .val (.int bb2), .unset, .unset] [(.ref ar)])
      refine Go.step (fun _ k => XS.astore X43.here hx rfl (hb hby at_113) rfl rfl (l' := #[.val (.int i0), .val (.long i1), .second, .val (.long i2), .second, .val (.long i3), .second, .val (.int i4), .val (.int kk), .val (.int aa0), .val (.int bb0), .val (.int aa1), .val (.int bb1), .val (.int aa2), .val (.int bb2), .val (.ref ar), .unset]) rfl k) ?_
      show Go p e below _ T43 (mkF m 115 #[.val (.int i0), .val (.long i1), .second, .val (.long i2), .second, .val (.long i3), .second, .val (.int i4), .val (.int kk), .val (.int aa0), .val (.int bb0), .val (.int aa1), .val (.int bb1), .val (.int aa2), .val (.int bb2), .val (.ref ar), .unset] [])
      refine Go.step (fun _ k => XS.goto X43.here hx rfl (pc0 := 115) (pc' := 188) rfl (hb hby at_115) (by decide) (by decide) k) ?_
      show Go p e below _ T43 (mkF m 188 #[.val (.int i0), .val (.long i1), .second, .val (.long i2), .second, .val (.long i3), .second, .val (.int i4), .val (.int kk), .val (.int aa0), .val (.int bb0), .val (.int aa1), .val (.int bb1), .val (.int aa2), .val (.int bb2), .val (.ref ar), .unset] [])
      refine Go.step (fun _ k => XS.iload X43.here hx rfl (hb hby at_188) rfl k) ?_
      show Go p e below _ T43 (mkF m 190 #[.val (.int i0), .val (.long i1), .second, .val (.long i2), .second, .val (.long i3), .second, .val (.int i4), .val (.int kk), .val (.int aa0), .val (.int bb0), .val (.int aa1), .val (.int bb1), .val (.int aa2), .val (.int bb2), .val (.ref ar), .unset] [(.int kk)])
      refine Go.step (fun _ k => XS.iconst X43.here hx rfl (hb hby at_190) k) ?_
      show Go p e below _ T43 (mkF m 191 #[.val (.int i0), .val (.long i1), .second, .val (.long i2), .second, .val (.long i3), .second, .val (.int i4), .val (.int kk), .val (.int aa0), .val (.int bb0), .val (.int aa1), .val (.int bb1), .val (.int aa2), .val (.int bb2), .val (.ref ar), .unset] [(.int (1 : Int32)), (.int kk)])
      refine Go.step (fun _ k => XS.icmpNo X43.here hx rfl (hb hby at_191) rfl (flt (by rw [hc97_40]; decide)).1 k) ?_
      show Go p e below _ T43 (mkF m 194 #[.val (.int i0), .val (.long i1), .second, .val (.long i2), .second, .val (.long i3), .second, .val (.int i4), .val (.int kk), .val (.int aa0), .val (.int bb0), .val (.int aa1), .val (.int bb1), .val (.int aa2), .val (.int bb2), .val (.ref ar), .unset] [])
      refine Go.step (fun _ k => XS.iload X43.here hx rfl (hb hby at_194) rfl k) ?_
      show Go p e below _ T43 (mkF m 196 #[.val (.int i0), .val (.long i1), .second, .val (.long i2), .second, .val (.long i3), .second, .val (.int i4), .val (.int kk), .val (.int aa0), .val (.int bb0), .val (.int aa1), .val (.int bb1), .val (.int aa2), .val (.int bb2), .val (.ref ar), .unset] [(.int aa0)])
      refine Go.step (fun _ k => XS.iload X43.here hx rfl (hb hby at_196) rfl k) ?_
      show Go p e below _ T43 (mkF m 198 #[.val (.int i0), .val (.long i1), .second, .val (.long i2), .second, .val (.long i3), .second, .val (.int i4), .val (.int kk), .val (.int aa0), .val (.int bb0), .val (.int aa1), .val (.int bb1), .val (.int aa2), .val (.int bb2), .val (.ref ar), .unset] [(.int bb0), (.int aa0)])
      refine Go.step (fun _ k => XS.iload X43.here hx rfl (hb hby at_198) rfl k) ?_
      show Go p e below _ T43 (mkF m 200 #[.val (.int i0), .val (.long i1), .second, .val (.long i2), .second, .val (.long i3), .second, .val (.int i4), .val (.int kk), .val (.int aa0), .val (.int bb0), .val (.int aa1), .val (.int bb1), .val (.int aa2), .val (.int bb2), .val (.ref ar), .unset] [(.int i4), (.int bb0), (.int aa0)])
      obtain ⟨_, _, ⟨T44, L44, k44, n44⟩, -, X44, ⟨Lc44, hQ44, l44, y44, z44⟩, st44⟩ := Jvm.LawKit.callS X43 hx (y := (⟨"com/example/seriate/seriate/engine/pattern/CountsContainsPinLaw", "in", "(III)Z"⟩ : MethodName)) hown (mvT hZ (hw _ (List.mem_of_getElem? (i := 6) rfl))) (mvT hZ (hw _ (List.mem_of_getElem? (i := 7) rfl))) (mvT hZ (hw _ (List.mem_of_getElem? (i := 8) rfl))) (mvT hZ (hw _ (List.mem_of_getElem? (i := 9) rfl))) (by decide) (backOf (W := 0) (rmI l Z a0 hw [] aa0 bb0 i4 h43 n0 Zn) hZ (hw _ (List.mem_of_getElem? (i := 9) rfl)) (hw _ (List.mem_of_getElem? (i := 8) rfl)) (by decide) (by decide)) (g := (mkF m 200 #[.val (.int i0), .val (.long i1), .second, .val (.long i2), .second, .val (.long i3), .second, .val (.int i4), .val (.int kk), .val (.int aa0), .val (.int bb0), .val (.int aa1), .val (.int bb1), .val (.int aa2), .val (.int bb2), .val (.ref ar), .unset] [(.int i4), (.int bb0), (.int aa0)])) rfl (by rw [hml]; rfl) (argsL := [(.int aa0), (.int bb0), (.int i4)]) (rest := []) (lenOf own_f37 rfl) rfl (by show 2 * 0 + _ ≤ _; exact Nat.le_of_eq rfl) (hb hby at_200) (fun _ _ => ⟨rfl, e43, (by dsimp only [Pt.cells, Pt.slots]; decide), (by dsimp only [Pt.cells, Pt.slots]; decide)⟩)
      dsimp only [Pt.U, Pt.locs, Pt.cells, Pt.slots] at X44 l44 y44 z44 st44 hQ44
      subst l44 y44 z44
      obtain ⟨rfl, N44q, e44⟩ := hQ44
      have N44 := Fr.app N43 N44q
      refine Go.step (st44) ?_
      show Go p e below _ T44 (mkF m 203 #[.val (.int i0), .val (.long i1), .second, .val (.long i2), .second, .val (.long i3), .second, .val (.int i4), .val (.int kk), .val (.int aa0), .val (.int bb0), .val (.int aa1), .val (.int bb1), .val (.int aa2), .val (.int bb2), .val (.ref ar), .unset] [(.int (own_in aa0 bb0 i4))])
      by_cases hc203_45 : (own_in aa0 bb0 i4) = (0 : Int32)
      · show Go p e below _ T44 (mkF m 203 #[.val (.int i0), .val (.long i1), .second, .val (.long i2), .second, .val (.long i3), .second, .val (.int i4), .val (.int kk), .val (.int aa0), .val (.int bb0), .val (.int aa1), .val (.int bb1), .val (.int aa2), .val (.int bb2), .val (.ref ar), .unset] [(.int (own_in aa0 bb0 i4))])
        refine Go.step (fun _ k => XS.ifNo X44.here hx rfl (hb hby at_203) rfl ((if0 _ _).trans (teq hc203_45).2) k) ?_
        show Go p e below _ T44 (mkF m 206 #[.val (.int i0), .val (.long i1), .second, .val (.long i2), .second, .val (.long i3), .second, .val (.int i4), .val (.int kk), .val (.int aa0), .val (.int bb0), .val (.int aa1), .val (.int bb1), .val (.int aa2), .val (.int bb2), .val (.ref ar), .unset] [])
        refine Go.step (fun _ k => XS.iload X44.here hx rfl (hb hby at_206) rfl k) ?_
        show Go p e below _ T44 (mkF m 208 #[.val (.int i0), .val (.long i1), .second, .val (.long i2), .second, .val (.long i3), .second, .val (.int i4), .val (.int kk), .val (.int aa0), .val (.int bb0), .val (.int aa1), .val (.int bb1), .val (.int aa2), .val (.int bb2), .val (.ref ar), .unset] [(.int kk)])
        refine Go.step (fun _ k => XS.iconst X44.here hx rfl (hb hby at_208) k) ?_
        show Go p e below _ T44 (mkF m 209 #[.val (.int i0), .val (.long i1), .second, .val (.long i2), .second, .val (.long i3), .second, .val (.int i4), .val (.int kk), .val (.int aa0), .val (.int bb0), .val (.int aa1), .val (.int bb1), .val (.int aa2), .val (.int bb2), .val (.ref ar), .unset] [(.int (2 : Int32)), (.int kk)])
        refine Go.step (fun _ k => XS.icmpYes X44.here hx rfl (pc0 := 209) (pc' := 224) rfl (hb hby at_209) rfl (tlt (by rw [hc97_40]; decide)).1 (by decide) (by decide) k) ?_
        show Go p e below _ T44 (mkF m 224 #[.val (.int i0), .val (.long i1), .second, .val (.long i2), .second, .val (.long i3), .second, .val (.int i4), .val (.int kk), .val (.int aa0), .val (.int bb0), .val (.int aa1), .val (.int bb1), .val (.int aa2), .val (.int bb2), .val (.ref ar), .unset] [])
        refine Go.step (fun _ k => XS.iload X44.here hx rfl (hb hby at_224) rfl k) ?_
        show Go p e below _ T44 (mkF m 226 #[.val (.int i0), .val (.long i1), .second, .val (.long i2), .second, .val (.long i3), .second, .val (.int i4), .val (.int kk), .val (.int aa0), .val (.int bb0), .val (.int aa1), .val (.int bb1), .val (.int aa2), .val (.int bb2), .val (.ref ar), .unset] [(.int kk)])
        refine Go.step (fun _ k => XS.iconst X44.here hx rfl (hb hby at_226) k) ?_
        show Go p e below _ T44 (mkF m 227 #[.val (.int i0), .val (.long i1), .second, .val (.long i2), .second, .val (.long i3), .second, .val (.int i4), .val (.int kk), .val (.int aa0), .val (.int bb0), .val (.int aa1), .val (.int bb1), .val (.int aa2), .val (.int bb2), .val (.ref ar), .unset] [(.int (3 : Int32)), (.int kk)])
        refine Go.step (fun _ k => XS.icmpYes X44.here hx rfl (pc0 := 227) (pc' := 246) rfl (hb hby at_227) rfl (tlt (by rw [hc97_40]; decide)).1 (by decide) (by decide) k) ?_
        show Go p e below _ T44 (mkF m 246 #[.val (.int i0), .val (.long i1), .second, .val (.long i2), .second, .val (.long i3), .second, .val (.int i4), .val (.int kk), .val (.int aa0), .val (.int bb0), .val (.int aa1), .val (.int bb1), .val (.int aa2), .val (.int bb2), .val (.ref ar), .unset] [])
        refine Go.step (fun _ k => XS.iconst X44.here hx rfl (hb hby at_246) k) ?_
        show Go p e below _ T44 (mkF m 247 #[.val (.int i0), .val (.long i1), .second, .val (.long i2), .second, .val (.long i3), .second, .val (.int i4), .val (.int kk), .val (.int aa0), .val (.int bb0), .val (.int aa1), .val (.int bb1), .val (.int aa2), .val (.int bb2), .val (.ref ar), .unset] [(.int (0 : Int32))])
        refine Go.step (fun _ k => XS.istore X44.here hx rfl (hb hby at_247) rfl (l' := #[.val (.int i0), .val (.long i1), .second, .val (.long i2), .second, .val (.long i3), .second, .val (.int i4), .val (.int kk), .val (.int aa0), .val (.int bb0), .val (.int aa1), .val (.int bb1), .val (.int aa2), .val (.int bb2), .val (.ref ar), .val (.int (0 : Int32))]) rfl k) ?_
        show Go p e below _ T44 (mkF m 249 #[.val (.int i0), .val (.long i1), .second, .val (.long i2), .second, .val (.long i3), .second, .val (.int i4), .val (.int kk), .val (.int aa0), .val (.int bb0), .val (.int aa1), .val (.int bb1), .val (.int aa2), .val (.int bb2), .val (.ref ar), .val (.int (0 : Int32))] [])
        refine Go.step (fun _ k => XS.aload X44.here hx rfl (hb hby at_249) rfl rfl k) ?_
        show Go p e below _ T44 (mkF m 251 #[.val (.int i0), .val (.long i1), .second, .val (.long i2), .second, .val (.long i3), .second, .val (.int i4), .val (.int kk), .val (.int aa0), .val (.int bb0), .val (.int aa1), .val (.int bb1), .val (.int aa2), .val (.int bb2), .val (.ref ar), .val (.int (0 : Int32))] [(.ref ar)])
        refine Go.step (fun _ k => XS.iload X44.here hx rfl (hb hby at_251) rfl k) ?_
        show Go p e below _ T44 (mkF m 253 #[.val (.int i0), .val (.long i1), .second, .val (.long i2), .second, .val (.long i3), .second, .val (.int i4), .val (.int kk), .val (.int aa0), .val (.int bb0), .val (.int aa1), .val (.int bb1), .val (.int aa2), .val (.int bb2), .val (.ref ar), .val (.int (0 : Int32))] [(.int i4), (.ref ar)])
        obtain ⟨_, _, ⟨T46, L46, k46, n46⟩, -, X46, ⟨Lc46, hQ46, l46, y46, z46⟩, st46⟩ := Jvm.LawKit.callS X44 hx (y := (⟨"com/example/seriate/seriate/engine/pattern/Counts", "contains", "([II)Z"⟩ : MethodName)) hown (mvT hZ (hw _ (List.mem_of_getElem? (i := 2) rfl))) (mvT hZ (hw _ (List.mem_of_getElem? (i := 3) rfl))) (mvT hZ (hw _ (List.mem_of_getElem? (i := 4) rfl))) (mvT hZ (hw _ (List.mem_of_getElem? (i := 5) rfl))) (by decide) (backOf (W := 0) (rmC1 l Z a0 hw [] ar i4 k41 aa0 bb0 h43 n0 Zn V_ar) hZ (hw _ (List.mem_of_getElem? (i := 5) rfl)) (hw _ (List.mem_of_getElem? (i := 4) rfl)) (by decide) (by decide)) (g := (mkF m 253 #[.val (.int i0), .val (.long i1), .second, .val (.long i2), .second, .val (.long i3), .second, .val (.int i4), .val (.int kk), .val (.int aa0), .val (.int bb0), .val (.int aa1), .val (.int bb1), .val (.int aa2), .val (.int bb2), .val (.ref ar), .val (.int (0 : Int32))] [(.int i4), (.ref ar)])) rfl (by rw [hml]; rfl) (argsL := [(.ref ar), (.int i4)]) (rest := []) (lenOf own_f36 rfl) rfl (by show 2 * 0 + _ ≤ _; exact Nat.le_of_eq rfl) (hb hby at_253) (fun _ _ => ⟨rfl, e44, (by dsimp only [Pt.cells, Pt.slots]; decide), (by dsimp only [Pt.cells, Pt.slots]; decide)⟩)
        dsimp only [Pt.U, Pt.locs, Pt.cells, Pt.slots] at X46 l46 y46 z46 st46 hQ46
        subst l46 y46 z46
        obtain ⟨rfl, N46q, e46⟩ := hQ46
        have N46 := Fr.app N44 N46q
        refine Go.step (st46) ?_
        show Go p e below _ T46 (mkF m 256 #[.val (.int i0), .val (.long i1), .second, .val (.long i2), .second, .val (.long i3), .second, .val (.int i4), .val (.int kk), .val (.int aa0), .val (.int bb0), .val (.int aa1), .val (.int bb1), .val (.int aa2), .val (.int bb2), .val (.ref ar), .val (.int (0 : Int32))] [(.int (own_c1 aa0 bb0 i4))])
        refine Go.step (fun _ k => XS.iload X46.here hx rfl (hb hby at_256) rfl k) ?_
        show Go p e below _ T46 (mkF m 258 #[.val (.int i0), .val (.long i1), .second, .val (.long i2), .second, .val (.long i3), .second, .val (.int i4), .val (.int kk), .val (.int aa0), .val (.int bb0), .val (.int aa1), .val (.int bb1), .val (.int aa2), .val (.int bb2), .val (.ref ar), .val (.int (0 : Int32))] [(.int (0 : Int32)), (.int (own_c1 aa0 bb0 i4))])
        have hfin : (own_c1 aa0 bb0 i4) = (0 : Int32) := by rw [own_l1]; simp [hc203_45]
        refine Go.step (fun _ k => XS.icmpNo X46.here hx rfl (hb hby at_258) rfl (teq hfin).2 k) ?_
        show Go p e below _ T46 (mkF m 261 #[.val (.int i0), .val (.long i1), .second, .val (.long i2), .second, .val (.long i3), .second, .val (.int i4), .val (.int kk), .val (.int aa0), .val (.int bb0), .val (.int aa1), .val (.int bb1), .val (.int aa2), .val (.int bb2), .val (.ref ar), .val (.int (0 : Int32))] [])
        refine Go.step (fun _ k => XS.iconst X46.here hx rfl (hb hby at_261) k) ?_
        show Go p e below _ T46 (mkF m 262 #[.val (.int i0), .val (.long i1), .second, .val (.long i2), .second, .val (.long i3), .second, .val (.int i4), .val (.int kk), .val (.int aa0), .val (.int bb0), .val (.int aa1), .val (.int bb1), .val (.int aa2), .val (.int bb2), .val (.ref ar), .val (.int (0 : Int32))] [(.int (1 : Int32))])
        refine Go.step (fun _ k => XS.goto X46.here hx rfl (pc0 := 262) (pc' := 266) rfl (hb hby at_262) (by decide) (by decide) k) ?_
        show Go p e below _ T46 (mkF m 266 #[.val (.int i0), .val (.long i1), .second, .val (.long i2), .second, .val (.long i3), .second, .val (.int i4), .val (.int kk), .val (.int aa0), .val (.int bb0), .val (.int aa1), .val (.int bb1), .val (.int aa2), .val (.int bb2), .val (.ref ar), .val (.int (0 : Int32))] [(.int (1 : Int32))])
        obtain ⟨fs, hr, hrun, hended, hW, hsame⟩ := X46.leave (v := some (.int (1 : Int32))) (fun h => by rw [Bd.returns] at h; cases h)
        refine Go.fin (retN X46 hx (t := .boolean) Bd.returns (by simp) (hb hby at_266) hr) hrun hended ?_
        refine ⟨_, _, rfl, ?_, ⟨_, rfl⟩, hW, hsame.mono (by decide) (by decide)⟩
        show Q0 Z i0 i1 i2 i3 i4 h0 n0 _ T46.heap _
        rw [e46]
        exact ⟨rfl, N46⟩
      · show Go p e below _ T44 (mkF m 203 #[.val (.int i0), .val (.long i1), .second, .val (.long i2), .second, .val (.long i3), .second, .val (.int i4), .val (.int kk), .val (.int aa0), .val (.int bb0), .val (.int aa1), .val (.int bb1), .val (.int aa2), .val (.int bb2), .val (.ref ar), .unset] [(.int (own_in aa0 bb0 i4))])
        refine Go.step (fun _ k => XS.ifYes X44.here hx rfl (pc0 := 203) (pc' := 242) rfl (hb hby at_203) rfl ((if0 _ _).trans (feq hc203_45).2) (by decide) (by decide) k) ?_
        show Go p e below _ T44 (mkF m 242 #[.val (.int i0), .val (.long i1), .second, .val (.long i2), .second, .val (.long i3), .second, .val (.int i4), .val (.int kk), .val (.int aa0), .val (.int bb0), .val (.int aa1), .val (.int bb1), .val (.int aa2), .val (.int bb2), .val (.ref ar), .unset] [])
        refine Go.step (fun _ k => XS.iconst X44.here hx rfl (hb hby at_242) k) ?_
        show Go p e below _ T44 (mkF m 243 #[.val (.int i0), .val (.long i1), .second, .val (.long i2), .second, .val (.long i3), .second, .val (.int i4), .val (.int kk), .val (.int aa0), .val (.int bb0), .val (.int aa1), .val (.int bb1), .val (.int aa2), .val (.int bb2), .val (.ref ar), .unset] [(.int (1 : Int32))])
        refine Go.step (fun _ k => XS.goto X44.here hx rfl (pc0 := 243) (pc' := 247) rfl (hb hby at_243) (by decide) (by decide) k) ?_
        show Go p e below _ T44 (mkF m 247 #[.val (.int i0), .val (.long i1), .second, .val (.long i2), .second, .val (.long i3), .second, .val (.int i4), .val (.int kk), .val (.int aa0), .val (.int bb0), .val (.int aa1), .val (.int bb1), .val (.int aa2), .val (.int bb2), .val (.ref ar), .unset] [(.int (1 : Int32))])
        refine Go.step (fun _ k => XS.istore X44.here hx rfl (hb hby at_247) rfl (l' := #[.val (.int i0), .val (.long i1), .second, .val (.long i2), .second, .val (.long i3), .second, .val (.int i4), .val (.int kk), .val (.int aa0), .val (.int bb0), .val (.int aa1), .val (.int bb1), .val (.int aa2), .val (.int bb2), .val (.ref ar), .val (.int (1 : Int32))]) rfl k) ?_
        show Go p e below _ T44 (mkF m 249 #[.val (.int i0), .val (.long i1), .second, .val (.long i2), .second, .val (.long i3), .second, .val (.int i4), .val (.int kk), .val (.int aa0), .val (.int bb0), .val (.int aa1), .val (.int bb1), .val (.int aa2), .val (.int bb2), .val (.ref ar), .val (.int (1 : Int32))] [])
        refine Go.step (fun _ k => XS.aload X44.here hx rfl (hb hby at_249) rfl rfl k) ?_
        show Go p e below _ T44 (mkF m 251 #[.val (.int i0), .val (.long i1), .second, .val (.long i2), .second, .val (.long i3), .second, .val (.int i4), .val (.int kk), .val (.int aa0), .val (.int bb0), .val (.int aa1), .val (.int bb1), .val (.int aa2), .val (.int bb2), .val (.ref ar), .val (.int (1 : Int32))] [(.ref ar)])
        refine Go.step (fun _ k => XS.iload X44.here hx rfl (hb hby at_251) rfl k) ?_
        show Go p e below _ T44 (mkF m 253 #[.val (.int i0), .val (.long i1), .second, .val (.long i2), .second, .val (.long i3), .second, .val (.int i4), .val (.int kk), .val (.int aa0), .val (.int bb0), .val (.int aa1), .val (.int bb1), .val (.int aa2), .val (.int bb2), .val (.ref ar), .val (.int (1 : Int32))] [(.int i4), (.ref ar)])
        obtain ⟨_, _, ⟨T47, L47, k47, n47⟩, -, X47, ⟨Lc47, hQ47, l47, y47, z47⟩, st47⟩ := Jvm.LawKit.callS X44 hx (y := (⟨"com/example/seriate/seriate/engine/pattern/Counts", "contains", "([II)Z"⟩ : MethodName)) hown (mvT hZ (hw _ (List.mem_of_getElem? (i := 2) rfl))) (mvT hZ (hw _ (List.mem_of_getElem? (i := 3) rfl))) (mvT hZ (hw _ (List.mem_of_getElem? (i := 4) rfl))) (mvT hZ (hw _ (List.mem_of_getElem? (i := 5) rfl))) (by decide) (backOf (W := 0) (rmC1 l Z a0 hw [] ar i4 k41 aa0 bb0 h43 n0 Zn V_ar) hZ (hw _ (List.mem_of_getElem? (i := 5) rfl)) (hw _ (List.mem_of_getElem? (i := 4) rfl)) (by decide) (by decide)) (g := (mkF m 253 #[.val (.int i0), .val (.long i1), .second, .val (.long i2), .second, .val (.long i3), .second, .val (.int i4), .val (.int kk), .val (.int aa0), .val (.int bb0), .val (.int aa1), .val (.int bb1), .val (.int aa2), .val (.int bb2), .val (.ref ar), .val (.int (1 : Int32))] [(.int i4), (.ref ar)])) rfl (by rw [hml]; rfl) (argsL := [(.ref ar), (.int i4)]) (rest := []) (lenOf own_f36 rfl) rfl (by show 2 * 0 + _ ≤ _; exact Nat.le_of_eq rfl) (hb hby at_253) (fun _ _ => ⟨rfl, e44, (by dsimp only [Pt.cells, Pt.slots]; decide), (by dsimp only [Pt.cells, Pt.slots]; decide)⟩)
        dsimp only [Pt.U, Pt.locs, Pt.cells, Pt.slots] at X47 l47 y47 z47 st47 hQ47
        subst l47 y47 z47
        obtain ⟨rfl, N47q, e47⟩ := hQ47
        have N47 := Fr.app N44 N47q
        refine Go.step (st47) ?_
        show Go p e below _ T47 (mkF m 256 #[.val (.int i0), .val (.long i1), .second, .val (.long i2), .second, .val (.long i3), .second, .val (.int i4), .val (.int kk), .val (.int aa0), .val (.int bb0), .val (.int aa1), .val (.int bb1), .val (.int aa2), .val (.int bb2), .val (.ref ar), .val (.int (1 : Int32))] [(.int (own_c1 aa0 bb0 i4))])
        refine Go.step (fun _ k => XS.iload X47.here hx rfl (hb hby at_256) rfl k) ?_
        show Go p e below _ T47 (mkF m 258 #[.val (.int i0), .val (.long i1), .second, .val (.long i2), .second, .val (.long i3), .second, .val (.int i4), .val (.int kk), .val (.int aa0), .val (.int bb0), .val (.int aa1), .val (.int bb1), .val (.int aa2), .val (.int bb2), .val (.ref ar), .val (.int (1 : Int32))] [(.int (1 : Int32)), (.int (own_c1 aa0 bb0 i4))])
        have hfin : (own_c1 aa0 bb0 i4) = (1 : Int32) := by rw [own_l1]; simp [hc203_45]
        refine Go.step (fun _ k => XS.icmpNo X47.here hx rfl (hb hby at_258) rfl (teq hfin).2 k) ?_
        show Go p e below _ T47 (mkF m 261 #[.val (.int i0), .val (.long i1), .second, .val (.long i2), .second, .val (.long i3), .second, .val (.int i4), .val (.int kk), .val (.int aa0), .val (.int bb0), .val (.int aa1), .val (.int bb1), .val (.int aa2), .val (.int bb2), .val (.ref ar), .val (.int (1 : Int32))] [])
        refine Go.step (fun _ k => XS.iconst X47.here hx rfl (hb hby at_261) k) ?_
        show Go p e below _ T47 (mkF m 262 #[.val (.int i0), .val (.long i1), .second, .val (.long i2), .second, .val (.long i3), .second, .val (.int i4), .val (.int kk), .val (.int aa0), .val (.int bb0), .val (.int aa1), .val (.int bb1), .val (.int aa2), .val (.int bb2), .val (.ref ar), .val (.int (1 : Int32))] [(.int (1 : Int32))])
        refine Go.step (fun _ k => XS.goto X47.here hx rfl (pc0 := 262) (pc' := 266) rfl (hb hby at_262) (by decide) (by decide) k) ?_
        show Go p e below _ T47 (mkF m 266 #[.val (.int i0), .val (.long i1), .second, .val (.long i2), .second, .val (.long i3), .second, .val (.int i4), .val (.int kk), .val (.int aa0), .val (.int bb0), .val (.int aa1), .val (.int bb1), .val (.int aa2), .val (.int bb2), .val (.ref ar), .val (.int (1 : Int32))] [(.int (1 : Int32))])
        obtain ⟨fs, hr, hrun, hended, hW, hsame⟩ := X47.leave (v := some (.int (1 : Int32))) (fun h => by rw [Bd.returns] at h; cases h)
        refine Go.fin (retN X47 hx (t := .boolean) Bd.returns (by simp) (hb hby at_266) hr) hrun hended ?_
        refine ⟨_, _, rfl, ?_, ⟨_, rfl⟩, hW, hsame.mono (by decide) (by decide)⟩
        show Q0 Z i0 i1 i2 i3 i4 h0 n0 _ T47.heap _
        rw [e47]
        exact ⟨rfl, N47⟩
    · show Go p e below _ s₁ (mkF m 97 #[.val (.int i0), .val (.long i1), .second, .val (.long i2), .second, .val (.long i3), .second, .val (.int i4), .val (.int kk), .val (.int aa0), .val (.int bb0), .val (.int aa1), .val (.int bb1), .val (.int aa2), .val (.int bb2), .unset, .unset] [(.int (1 : Int32)), (.int kk)])
      refine Go.step (fun _ k => XS.icmpYes X0.here hx rfl (pc0 := 97) (pc' := 118) rfl (hb hby at_97) rfl (feq hc97_40).2 (by decide) (by decide) k) ?_
      show Go p e below _ s₁ (mkF m 118 #[.val (.int i0), .val (.long i1), .second, .val (.long i2), .second, .val (.long i3), .second, .val (.int i4), .val (.int kk), .val (.int aa0), .val (.int bb0), .val (.int aa1), .val (.int bb1), .val (.int aa2), .val (.int bb2), .unset, .unset] [])
      refine Go.step (fun _ k => XS.iload X0.here hx rfl (hb hby at_118) rfl k) ?_
      show Go p e below _ s₁ (mkF m 120 #[.val (.int i0), .val (.long i1), .second, .val (.long i2), .second, .val (.long i3), .second, .val (.int i4), .val (.int kk), .val (.int aa0), .val (.int bb0), .val (.int aa1), .val (.int bb1), .val (.int aa2), .val (.int bb2), .unset, .unset] [(.int kk)])
      refine Go.step (fun _ k => XS.iconst X0.here hx rfl (hb hby at_120) k) ?_
      show Go p e below _ s₁ (mkF m 121 #[.val (.int i0), .val (.long i1), .second, .val (.long i2), .second, .val (.long i3), .second, .val (.int i4), .val (.int kk), .val (.int aa0), .val (.int bb0), .val (.int aa1), .val (.int bb1), .val (.int aa2), .val (.int bb2), .unset, .unset] [(.int (2 : Int32)), (.int kk)])
      by_cases hc121_48 : kk = (2 : Int32)
      · show Go p e below _ s₁ (mkF m 121 #[.val (.int i0), .val (.long i1), .second, .val (.long i2), .second, .val (.long i3), .second, .val (.int i4), .val (.int kk), .val (.int aa0), .val (.int bb0), .val (.int aa1), .val (.int bb1), .val (.int aa2), .val (.int bb2), .unset, .unset] [(.int (2 : Int32)), (.int kk)])
        refine Go.step (fun _ k => XS.icmpNo X0.here hx rfl (hb hby at_121) rfl (teq hc121_48).2 k) ?_
        show Go p e below _ s₁ (mkF m 124 #[.val (.int i0), .val (.long i1), .second, .val (.long i2), .second, .val (.long i3), .second, .val (.int i4), .val (.int kk), .val (.int aa0), .val (.int bb0), .val (.int aa1), .val (.int bb1), .val (.int aa2), .val (.int bb2), .unset, .unset] [])
        refine Go.step (fun _ k => XS.iconst X0.here hx rfl (hb hby at_124) k) ?_
        show Go p e below _ s₁ (mkF m 125 #[.val (.int i0), .val (.long i1), .second, .val (.long i2), .second, .val (.long i3), .second, .val (.int i4), .val (.int kk), .val (.int aa0), .val (.int bb0), .val (.int aa1), .val (.int bb1), .val (.int aa2), .val (.int bb2), .unset, .unset] [(.int (4 : Int32))])
        obtain ⟨T49, h49, k49, X49, e49, E49, A49, st49⟩ := newP X0 hx hZ (hw _ (List.mem_of_getElem? (i := 1) rfl)) e0 (g := (mkF m 125 #[.val (.int i0), .val (.long i1), .second, .val (.long i2), .second, .val (.long i3), .second, .val (.int i4), .val (.int kk), .val (.int aa0), .val (.int bb0), .val (.int aa1), .val (.int bb1), .val (.int aa2), .val (.int bb2), .unset, .unset] [(.int (4 : Int32))])) rfl (hb hby at_125) rfl (by decide) (cap := 4) (by decide) (by decide) (by decide) (by decide)
        obtain ⟨ar, g49⟩ : ∃ z, z = h0.size := ⟨_, rfl⟩
        rw [← g49] at A49 st49
        have g_ar : n0 ≤ ar := Nat.le_trans Zn (Nat.le_of_eq g49.symm)
        have sz_ar : h0.size ≤ ar := Nat.le_trans K0.1 (Nat.le_of_eq g49.symm)
        replace Zn := Nat.le_trans Zn E49.1
        replace K0 := K0.ext E49
        have V_ar : Arv Z h49 ar k49 .int (4 : Int32) [(.int (0 : Int32)), (.int (0 : Int32)), (.int (0 : Int32)), (.int (0 : Int32))] (.int (0 : Int32)) := (Arv.new A49 (by decide)).pad (pad_rep [] (.int (0 : Int32)) 4)
        refine Go.step st49 ?_
        show Go p e below _ T49 (mkF m 127 #[.val (.int i0), .val (.long i1), .second, .val (.long i2), .second, .val (.long i3), .second, .val (.int i4), .val (.int kk), .val (.int aa0), .val (.int bb0), .val (.int aa1), .val (.int bb1), .val (.int aa2), .val (.int bb2), .unset, .unset] [(.ref ar)])
        refine Go.step (fun _ k => XS.dup X49.here hx rfl (hb hby at_127) rfl rfl k) ?_
        show Go p e below _ T49 (mkF m 128 #[.val (.int i0), .val (.long i1), .second, .val (.long i2), .second, .val (.long i3), .second, .val (.int i4), .val (.int kk), .val (.int aa0), .val (.int bb0), .val (.int aa1), .val (.int bb1), .val (.int aa2), .val (.int bb2), .unset, .unset] [(.ref ar), (.ref ar)])
        refine Go.step (fun _ k => XS.iconst X49.here hx rfl (hb hby at_128) k) ?_
        show Go p e below _ T49 (mkF m 129 #[.val (.int i0), .val (.long i1), .second, .val (.long i2), .second, .val (.long i3), .second, .val (.int i4), .val (.int kk), .val (.int aa0), .val (.int bb0), .val (.int aa1), .val (.int bb1), .val (.int aa2), .val (.int bb2), .unset, .unset] [(.int (0 : Int32)), (.ref ar), (.ref ar)])
        refine Go.step (fun _ k => XS.iload X49.here hx rfl (hb hby at_129) rfl k) ?_
        show Go p e below _ T49 (mkF m 131 #[.val (.int i0), .val (.long i1), .second, .val (.long i2), .second, .val (.long i3), .second, .val (.int i4), .val (.int kk), .val (.int aa0), .val (.int bb0), .val (.int aa1), .val (.int bb1), .val (.int aa2), .val (.int bb2), .unset, .unset] [(.int aa0), (.int (0 : Int32)), (.ref ar), (.ref ar)])
        obtain ⟨cl50, Ar50, q50, S50, Nn50, H50, G50⟩ := V_ar
        have hin50 : ¬ ((0 : Int32) < 0 ∨ cl50.slots.size ≤ ((0 : Int32)).toNatClampNeg) := inb_of S50 ⟨by decide, by decide⟩
        obtain ⟨T50, h50, X50, e50, W50, st50⟩ := stI X49 hx hZ e49 Ar50 (j := (0 : Int32)) hin50 (g := (mkF m 131 #[.val (.int i0), .val (.long i1), .second, .val (.long i2), .second, .val (.long i3), .second, .val (.int i4), .val (.int kk), .val (.int aa0), .val (.int bb0), .val (.int aa1), .val (.int bb1), .val (.int aa2), .val (.int bb2), .unset, .unset] [(.int aa0), (.int (0 : Int32)), (.ref ar), (.ref ar)])) rfl rfl (hb hby at_131)
        have Vw50 : Arv Z h50 ar k49 .int (4 : Int32) [(.int aa0), (.int (0 : Int32)), (.int (0 : Int32)), (.int (0 : Int32))] (.int (0 : Int32)) := Arv.set Ar50 q50 S50 Nn50 H50 G50 rfl W50 0 rfl (Nat.le_of_ble_eq_true rfl)
        have V_ar := Vw50
        replace K0 := K0.wr W50 (Or.inr sz_ar)
        replace Zn := Nat.le_trans Zn (Nat.le_of_eq W50.size.symm)
        have N50 := Fr.snoc X50 N0 g_ar
        refine Go.step st50 ?_
        show Go p e below _ T50 (mkF m 132 #[.val (.int i0), .val (.long i1), .second, .val (.long i2), .second, .val (.long i3), .second, .val (.int i4), .val (.int kk), .val (.int aa0), .val (.int bb0), .val (.int aa1), .val (.int bb1), .val (.int aa2), .val (.int bb2), .unset, .unset] [(.ref ar)])
        refine Go.step (fun _ k => XS.dup X50.here hx rfl (hb hby at_132) rfl rfl k) ?_
        show Go p e below _ T50 (mkF m 133 #[.val (.int i0), .val (.long i1), .second, .val (.long i2), .second, .val (.long i3), .second, .val (.int i4), .val (.int kk), .val (.int aa0), .val (.int bb0), .val (.int aa1), .val (.int bb1), .val (.int aa2), .val (.int bb2), .unset, .unset] [(.ref ar), (.ref ar)])
        refine Go.step (fun _ k => XS.iconst X50.here hx rfl (hb hby at_133) k) ?_
        show Go p e below _ T50 (mkF m 134 #[.val (.int i0), .val (.long i1), .second, .val (.long i2), .second, .val (.long i3), .second, .val (.int i4), .val (.int kk), .val (.int aa0), .val (.int bb0), .val (.int aa1), .val (.int bb1), .val (.int aa2), .val (.int bb2), .unset, .unset] [(.int (1 : Int32)), (.ref ar), (.ref ar)])
        refine Go.step (fun _ k => XS.iload X50.here hx rfl (hb hby at_134) rfl k) ?_
        show Go p e below _ T50 (mkF m 136 #[.val (.int i0), .val (.long i1), .second, .val (.long i2), .second, .val (.long i3), .second, .val (.int i4), .val (.int kk), .val (.int aa0), .val (.int bb0), .val (.int aa1), .val (.int bb1), .val (.int aa2), .val (.int bb2), .unset, .unset] [(.int bb0), (.int (1 : Int32)), (.ref ar), (.ref ar)])
        obtain ⟨cl51, Ar51, q51, S51, Nn51, H51, G51⟩ := V_ar
        have hin51 : ¬ ((1 : Int32) < 0 ∨ cl51.slots.size ≤ ((1 : Int32)).toNatClampNeg) := inb_of S51 ⟨by decide, by decide⟩
        obtain ⟨T51, h51, X51, e51, W51, st51⟩ := stI X50 hx hZ e50 Ar51 (j := (1 : Int32)) hin51 (g := (mkF m 136 #[.val (.int i0), .val (.long i1), .second, .val (.long i2), .second, .val (.long i3), .second, .val (.int i4), .val (.int kk), .val (.int aa0), .val (.int bb0), .val (.int aa1), .val (.int bb1), .val (.int aa2), .val (.int bb2), .unset, .unset] [(.int bb0), (.int (1 : Int32)), (.ref ar), (.ref ar)])) rfl rfl (hb hby at_136)
        have Vw51 : Arv Z h51 ar k49 .int (4 : Int32) [(.int aa0), (.int bb0), (.int (0 : Int32)), (.int (0 : Int32))] (.int (0 : Int32)) := Arv.set Ar51 q51 S51 Nn51 H51 G51 rfl W51 1 rfl (Nat.le_of_ble_eq_true rfl)
        have V_ar := Vw51
        replace K0 := K0.wr W51 (Or.inr sz_ar)
        replace Zn := Nat.le_trans Zn (Nat.le_of_eq W51.size.symm)
        have N51 := Fr.snoc X51 N50 g_ar
        refine Go.step st51 ?_
        show Go p e below _ T51 (mkF m 137 #[.val (.int i0), .val (.long i1), .second, .val (.long i2), .second, .val (.long i3), .second, .val (.int i4), .val (.int kk), .val (.int aa0), .val (.int bb0), .val (.int aa1), .val (.int bb1), .val (.int aa2), .val (.int bb2), .unset, .unset] [(.ref ar)])
        refine Go.step (fun _ k => XS.dup X51.here hx rfl (hb hby at_137) rfl rfl k) ?_
        show Go p e below _ T51 (mkF m 138 #[.val (.int i0), .val (.long i1), .second, .val (.long i2), .second, .val (.long i3), .second, .val (.int i4), .val (.int kk), .val (.int aa0), .val (.int bb0), .val (.int aa1), .val (.int bb1), .val (.int aa2), .val (.int bb2), .unset, .unset] [(.ref ar), (.ref ar)])
        refine Go.step (fun _ k => XS.iconst X51.here hx rfl (hb hby at_138) k) ?_
        show Go p e below _ T51 (mkF m 139 #[.val (.int i0), .val (.long i1), .second, .val (.long i2), .second, .val (.long i3), .second, .val (.int i4), .val (.int kk), .val (.int aa0), .val (.int bb0), .val (.int aa1), .val (.int bb1), .val (.int aa2), .val (.int bb2), .unset, .unset] [(.int (2 : Int32)), (.ref ar), (.ref ar)])
        refine Go.step (fun _ k => XS.iload X51.here hx rfl (hb hby at_139) rfl k) ?_
        show Go p e below _ T51 (mkF m 141 #[.val (.int i0), .val (.long i1), .second, .val (.long i2), .second, .val (.long i3), .second, .val (.int i4), .val (.int kk), .val (.int aa0), .val (.int bb0), .val (.int aa1), .val (.int bb1), .val (.int aa2), .val (.int bb2), .unset, .unset] [(.int aa1), (.int (2 : Int32)), (.ref ar), (.ref ar)])
        obtain ⟨cl52, Ar52, q52, S52, Nn52, H52, G52⟩ := V_ar
        have hin52 : ¬ ((2 : Int32) < 0 ∨ cl52.slots.size ≤ ((2 : Int32)).toNatClampNeg) := inb_of S52 ⟨by decide, by decide⟩
        obtain ⟨T52, h52, X52, e52, W52, st52⟩ := stI X51 hx hZ e51 Ar52 (j := (2 : Int32)) hin52 (g := (mkF m 141 #[.val (.int i0), .val (.long i1), .second, .val (.long i2), .second, .val (.long i3), .second, .val (.int i4), .val (.int kk), .val (.int aa0), .val (.int bb0), .val (.int aa1), .val (.int bb1), .val (.int aa2), .val (.int bb2), .unset, .unset] [(.int aa1), (.int (2 : Int32)), (.ref ar), (.ref ar)])) rfl rfl (hb hby at_141)
        have Vw52 : Arv Z h52 ar k49 .int (4 : Int32) [(.int aa0), (.int bb0), (.int aa1), (.int (0 : Int32))] (.int (0 : Int32)) := Arv.set Ar52 q52 S52 Nn52 H52 G52 rfl W52 2 rfl (Nat.le_of_ble_eq_true rfl)
        have V_ar := Vw52
        replace K0 := K0.wr W52 (Or.inr sz_ar)
        replace Zn := Nat.le_trans Zn (Nat.le_of_eq W52.size.symm)
        have N52 := Fr.snoc X52 N51 g_ar
        refine Go.step st52 ?_
        show Go p e below _ T52 (mkF m 142 #[.val (.int i0), .val (.long i1), .second, .val (.long i2), .second, .val (.long i3), .second, .val (.int i4), .val (.int kk), .val (.int aa0), .val (.int bb0), .val (.int aa1), .val (.int bb1), .val (.int aa2), .val (.int bb2), .unset, .unset] [(.ref ar)])
        refine Go.step (fun _ k => XS.dup X52.here hx rfl (hb hby at_142) rfl rfl k) ?_
        show Go p e below _ T52 (mkF m 143 #[.val (.int i0), .val (.long i1), .second, .val (.long i2), .second, .val (.long i3), .second, .val (.int i4), .val (.int kk), .val (.int aa0), .val (.int bb0), .val (.int aa1), .val (.int bb1), .val (.int aa2), .val (.int bb2), .unset, .unset] [(.ref ar), (.ref ar)])
        refine Go.step (fun _ k => XS.iconst X52.here hx rfl (hb hby at_143) k) ?_
        show Go p e below _ T52 (mkF m 144 #[.val (.int i0), .val (.long i1), .second, .val (.long i2), .second, .val (.long i3), .second, .val (.int i4), .val (.int kk), .val (.int aa0), .val (.int bb0), .val (.int aa1), .val (.int bb1), .val (.int aa2), .val (.int bb2), .unset, .unset] [(.int (3 : Int32)), (.ref ar), (.ref ar)])
        refine Go.step (fun _ k => XS.iload X52.here hx rfl (hb hby at_144) rfl k) ?_
        show Go p e below _ T52 (mkF m 146 #[.val (.int i0), .val (.long i1), .second, .val (.long i2), .second, .val (.long i3), .second, .val (.int i4), .val (.int kk), .val (.int aa0), .val (.int bb0), .val (.int aa1), .val (.int bb1), .val (.int aa2), .val (.int bb2), .unset, .unset] [(.int bb1), (.int (3 : Int32)), (.ref ar), (.ref ar)])
        obtain ⟨cl53, Ar53, q53, S53, Nn53, H53, G53⟩ := V_ar
        have hin53 : ¬ ((3 : Int32) < 0 ∨ cl53.slots.size ≤ ((3 : Int32)).toNatClampNeg) := inb_of S53 ⟨by decide, by decide⟩
        obtain ⟨T53, h53, X53, e53, W53, st53⟩ := stI X52 hx hZ e52 Ar53 (j := (3 : Int32)) hin53 (g := (mkF m 146 #[.val (.int i0), .val (.long i1), .second, .val (.long i2), .second, .val (.long i3), .second, .val (.int i4), .val (.int kk), .val (.int aa0), .val (.int bb0), .val (.int aa1), .val (.int bb1), .val (.int aa2), .val (.int bb2), .unset, .unset] [(.int bb1), (.int (3 : Int32)), (.ref ar), (.ref ar)])) rfl rfl (hb hby at_146)
        have Vw53 : Arv Z h53 ar k49 .int (4 : Int32) [(.int aa0), (.int bb0), (.int aa1), (.int bb1)] (.int (0 : Int32)) := Arv.set Ar53 q53 S53 Nn53 H53 G53 rfl W53 3 rfl (Nat.le_of_ble_eq_true rfl)
        have V_ar := Vw53
        replace K0 := K0.wr W53 (Or.inr sz_ar)
        replace Zn := Nat.le_trans Zn (Nat.le_of_eq W53.size.symm)
        have N53 := Fr.snoc X53 N52 g_ar
        refine Go.step st53 ?_
        show Go p e below _ T53 (mkF m 147 #[.val (.int i0), .val (.long i1), .second, .val (.long i2), .second, .val (.long i3), .second, .val (.int i4), .val (.int kk), .val (.int aa0), .val (.int bb0), .val (.int aa1), .val (.int bb1), .val (.int aa2), .val (.int bb2), .unset, .unset] [(.ref ar)])
        refine Go.step (fun _ k => XS.astore X53.here hx rfl (hb hby at_147) rfl rfl (l' := #[.val (.int i0), .val (.long i1), .second, .val (.long i2), .second, .val (.long i3), .second, .val (.int i4), .val (.int kk), .val (.int aa0), .val (.int bb0), .val (.int aa1), .val (.int bb1), .val (.int aa2), .val (.int bb2), .val (.ref ar), .unset]) rfl k) ?_
        show Go p e below _ T53 (mkF m 149 #[.val (.int i0), .val (.long i1), .second, .val (.long i2), .second, .val (.long i3), .second, .val (.int i4), .val (.int kk), .val (.int aa0), .val (.int bb0), .val (.int aa1), .val (.int bb1), .val (.int aa2), .val (.int bb2), .val (.ref ar), .unset] [])
        refine Go.step (fun _ k => XS.goto X53.here hx rfl (pc0 := 149) (pc' := 188) rfl (hb hby at_149) (by decide) (by decide) k) ?_
        show Go p e below _ T53 (mkF m 188 #[.val (.int i0), .val (.long i1), .second, .val (.long i2), .second, .val (.long i3), .second, .val (.int i4), .val (.int kk), .val (.int aa0), .val (.int bb0), .val (.int aa1), .val (.int bb1), .val (.int aa2), .val (.int bb2), .val (.ref ar), .unset] [])
        refine Go.step (fun _ k => XS.iload X53.here hx rfl (hb hby at_188) rfl k) ?_
        show Go p e below _ T53 (mkF m 190 #[.val (.int i0), .val (.long i1), .second, .val (.long i2), .second, .val (.long i3), .second, .val (.int i4), .val (.int kk), .val (.int aa0), .val (.int bb0), .val (.int aa1), .val (.int bb1), .val (.int aa2), .val (.int bb2), .val (.ref ar), .unset] [(.int kk)])
        refine Go.step (fun _ k => XS.iconst X53.here hx rfl (hb hby at_190) k) ?_
        show Go p e below _ T53 (mkF m 191 #[.val (.int i0), .val (.long i1), .second, .val (.long i2), .second, .val (.long i3), .second, .val (.int i4), .val (.int kk), .val (.int aa0), .val (.int bb0), .val (.int aa1), .val (.int bb1), .val (.int aa2), .val (.int bb2), .val (.ref ar), .unset] [(.int (1 : Int32)), (.int kk)])
        refine Go.step (fun _ k => XS.icmpNo X53.here hx rfl (hb hby at_191) rfl (flt (by rw [hc121_48]; decide)).1 k) ?_
        show Go p e below _ T53 (mkF m 194 #[.val (.int i0), .val (.long i1), .second, .val (.long i2), .second, .val (.long i3), .second, .val (.int i4), .val (.int kk), .val (.int aa0), .val (.int bb0), .val (.int aa1), .val (.int bb1), .val (.int aa2), .val (.int bb2), .val (.ref ar), .unset] [])
        refine Go.step (fun _ k => XS.iload X53.here hx rfl (hb hby at_194) rfl k) ?_
        show Go p e below _ T53 (mkF m 196 #[.val (.int i0), .val (.long i1), .second, .val (.long i2), .second, .val (.long i3), .second, .val (.int i4), .val (.int kk), .val (.int aa0), .val (.int bb0), .val (.int aa1), .val (.int bb1), .val (.int aa2), .val (.int bb2), .val (.ref ar), .unset] [(.int aa0)])
        refine Go.step (fun _ k => XS.iload X53.here hx rfl (hb hby at_196) rfl k) ?_
        show Go p e below _ T53 (mkF m 198 #[.val (.int i0), .val (.long i1), .second, .val (.long i2), .second, .val (.long i3), .second, .val (.int i4), .val (.int kk), .val (.int aa0), .val (.int bb0), .val (.int aa1), .val (.int bb1), .val (.int aa2), .val (.int bb2), .val (.ref ar), .unset] [(.int bb0), (.int aa0)])
        refine Go.step (fun _ k => XS.iload X53.here hx rfl (hb hby at_198) rfl k) ?_
        show Go p e below _ T53 (mkF m 200 #[.val (.int i0), .val (.long i1), .second, .val (.long i2), .second, .val (.long i3), .second, .val (.int i4), .val (.int kk), .val (.int aa0), .val (.int bb0), .val (.int aa1), .val (.int bb1), .val (.int aa2), .val (.int bb2), .val (.ref ar), .unset] [(.int i4), (.int bb0), (.int aa0)])
        obtain ⟨_, _, ⟨T54, L54, k54, n54⟩, -, X54, ⟨Lc54, hQ54, l54, y54, z54⟩, st54⟩ := Jvm.LawKit.callS X53 hx (y := (⟨"com/example/seriate/seriate/engine/pattern/CountsContainsPinLaw", "in", "(III)Z"⟩ : MethodName)) hown (mvT hZ (hw _ (List.mem_of_getElem? (i := 6) rfl))) (mvT hZ (hw _ (List.mem_of_getElem? (i := 7) rfl))) (mvT hZ (hw _ (List.mem_of_getElem? (i := 8) rfl))) (mvT hZ (hw _ (List.mem_of_getElem? (i := 9) rfl))) (by decide) (backOf (W := 0) (rmI l Z a0 hw [] aa0 bb0 i4 h53 n0 Zn) hZ (hw _ (List.mem_of_getElem? (i := 9) rfl)) (hw _ (List.mem_of_getElem? (i := 8) rfl)) (by decide) (by decide)) (g := (mkF m 200 #[.val (.int i0), .val (.long i1), .second, .val (.long i2), .second, .val (.long i3), .second, .val (.int i4), .val (.int kk), .val (.int aa0), .val (.int bb0), .val (.int aa1), .val (.int bb1), .val (.int aa2), .val (.int bb2), .val (.ref ar), .unset] [(.int i4), (.int bb0), (.int aa0)])) rfl (by rw [hml]; rfl) (argsL := [(.int aa0), (.int bb0), (.int i4)]) (rest := []) (lenOf own_f37 rfl) rfl (by show 2 * 0 + _ ≤ _; exact Nat.le_of_eq rfl) (hb hby at_200) (fun _ _ => ⟨rfl, e53, (by dsimp only [Pt.cells, Pt.slots]; decide), (by dsimp only [Pt.cells, Pt.slots]; decide)⟩)
        dsimp only [Pt.U, Pt.locs, Pt.cells, Pt.slots] at X54 l54 y54 z54 st54 hQ54
        subst l54 y54 z54
        obtain ⟨rfl, N54q, e54⟩ := hQ54
        have N54 := Fr.app N53 N54q
        refine Go.step (st54) ?_
        show Go p e below _ T54 (mkF m 203 #[.val (.int i0), .val (.long i1), .second, .val (.long i2), .second, .val (.long i3), .second, .val (.int i4), .val (.int kk), .val (.int aa0), .val (.int bb0), .val (.int aa1), .val (.int bb1), .val (.int aa2), .val (.int bb2), .val (.ref ar), .unset] [(.int (own_in aa0 bb0 i4))])
        by_cases hc203_55 : (own_in aa0 bb0 i4) = (0 : Int32)
        · show Go p e below _ T54 (mkF m 203 #[.val (.int i0), .val (.long i1), .second, .val (.long i2), .second, .val (.long i3), .second, .val (.int i4), .val (.int kk), .val (.int aa0), .val (.int bb0), .val (.int aa1), .val (.int bb1), .val (.int aa2), .val (.int bb2), .val (.ref ar), .unset] [(.int (own_in aa0 bb0 i4))])
          refine Go.step (fun _ k => XS.ifNo X54.here hx rfl (hb hby at_203) rfl ((if0 _ _).trans (teq hc203_55).2) k) ?_
          show Go p e below _ T54 (mkF m 206 #[.val (.int i0), .val (.long i1), .second, .val (.long i2), .second, .val (.long i3), .second, .val (.int i4), .val (.int kk), .val (.int aa0), .val (.int bb0), .val (.int aa1), .val (.int bb1), .val (.int aa2), .val (.int bb2), .val (.ref ar), .unset] [])
          refine Go.step (fun _ k => XS.iload X54.here hx rfl (hb hby at_206) rfl k) ?_
          show Go p e below _ T54 (mkF m 208 #[.val (.int i0), .val (.long i1), .second, .val (.long i2), .second, .val (.long i3), .second, .val (.int i4), .val (.int kk), .val (.int aa0), .val (.int bb0), .val (.int aa1), .val (.int bb1), .val (.int aa2), .val (.int bb2), .val (.ref ar), .unset] [(.int kk)])
          refine Go.step (fun _ k => XS.iconst X54.here hx rfl (hb hby at_208) k) ?_
          show Go p e below _ T54 (mkF m 209 #[.val (.int i0), .val (.long i1), .second, .val (.long i2), .second, .val (.long i3), .second, .val (.int i4), .val (.int kk), .val (.int aa0), .val (.int bb0), .val (.int aa1), .val (.int bb1), .val (.int aa2), .val (.int bb2), .val (.ref ar), .unset] [(.int (2 : Int32)), (.int kk)])
          refine Go.step (fun _ k => XS.icmpNo X54.here hx rfl (hb hby at_209) rfl (flt (by rw [hc121_48]; decide)).1 k) ?_
          show Go p e below _ T54 (mkF m 212 #[.val (.int i0), .val (.long i1), .second, .val (.long i2), .second, .val (.long i3), .second, .val (.int i4), .val (.int kk), .val (.int aa0), .val (.int bb0), .val (.int aa1), .val (.int bb1), .val (.int aa2), .val (.int bb2), .val (.ref ar), .unset] [])
          refine Go.step (fun _ k => XS.iload X54.here hx rfl (hb hby at_212) rfl k) ?_
          show Go p e below _ T54 (mkF m 214 #[.val (.int i0), .val (.long i1), .second, .val (.long i2), .second, .val (.long i3), .second, .val (.int i4), .val (.int kk), .val (.int aa0), .val (.int bb0), .val (.int aa1), .val (.int bb1), .val (.int aa2), .val (.int bb2), .val (.ref ar), .unset] [(.int aa1)])
          refine Go.step (fun _ k => XS.iload X54.here hx rfl (hb hby at_214) rfl k) ?_
          show Go p e below _ T54 (mkF m 216 #[.val (.int i0), .val (.long i1), .second, .val (.long i2), .second, .val (.long i3), .second, .val (.int i4), .val (.int kk), .val (.int aa0), .val (.int bb0), .val (.int aa1), .val (.int bb1), .val (.int aa2), .val (.int bb2), .val (.ref ar), .unset] [(.int bb1), (.int aa1)])
          refine Go.step (fun _ k => XS.iload X54.here hx rfl (hb hby at_216) rfl k) ?_
          show Go p e below _ T54 (mkF m 218 #[.val (.int i0), .val (.long i1), .second, .val (.long i2), .second, .val (.long i3), .second, .val (.int i4), .val (.int kk), .val (.int aa0), .val (.int bb0), .val (.int aa1), .val (.int bb1), .val (.int aa2), .val (.int bb2), .val (.ref ar), .unset] [(.int i4), (.int bb1), (.int aa1)])
          obtain ⟨_, _, ⟨T56, L56, k56, n56⟩, -, X56, ⟨Lc56, hQ56, l56, y56, z56⟩, st56⟩ := Jvm.LawKit.callS X54 hx (y := (⟨"com/example/seriate/seriate/engine/pattern/CountsContainsPinLaw", "in", "(III)Z"⟩ : MethodName)) hown (mvT hZ (hw _ (List.mem_of_getElem? (i := 6) rfl))) (mvT hZ (hw _ (List.mem_of_getElem? (i := 7) rfl))) (mvT hZ (hw _ (List.mem_of_getElem? (i := 8) rfl))) (mvT hZ (hw _ (List.mem_of_getElem? (i := 9) rfl))) (by decide) (backOf (W := 0) (rmI l Z a0 hw [] aa1 bb1 i4 h53 n0 Zn) hZ (hw _ (List.mem_of_getElem? (i := 9) rfl)) (hw _ (List.mem_of_getElem? (i := 8) rfl)) (by decide) (by decide)) (g := (mkF m 218 #[.val (.int i0), .val (.long i1), .second, .val (.long i2), .second, .val (.long i3), .second, .val (.int i4), .val (.int kk), .val (.int aa0), .val (.int bb0), .val (.int aa1), .val (.int bb1), .val (.int aa2), .val (.int bb2), .val (.ref ar), .unset] [(.int i4), (.int bb1), (.int aa1)])) rfl (by rw [hml]; rfl) (argsL := [(.int aa1), (.int bb1), (.int i4)]) (rest := []) (lenOf own_f37 rfl) rfl (by show 2 * 0 + _ ≤ _; exact Nat.le_of_eq rfl) (hb hby at_218) (fun _ _ => ⟨rfl, e54, (by dsimp only [Pt.cells, Pt.slots]; decide), (by dsimp only [Pt.cells, Pt.slots]; decide)⟩)
          dsimp only [Pt.U, Pt.locs, Pt.cells, Pt.slots] at X56 l56 y56 z56 st56 hQ56
          subst l56 y56 z56
          obtain ⟨rfl, N56q, e56⟩ := hQ56
          have N56 := Fr.app N54 N56q
          refine Go.step (st56) ?_
          show Go p e below _ T56 (mkF m 221 #[.val (.int i0), .val (.long i1), .second, .val (.long i2), .second, .val (.long i3), .second, .val (.int i4), .val (.int kk), .val (.int aa0), .val (.int bb0), .val (.int aa1), .val (.int bb1), .val (.int aa2), .val (.int bb2), .val (.ref ar), .unset] [(.int (own_in aa1 bb1 i4))])
          by_cases hc221_57 : (own_in aa1 bb1 i4) = (0 : Int32)
          · show Go p e below _ T56 (mkF m 221 #[.val (.int i0), .val (.long i1), .second, .val (.long i2), .second, .val (.long i3), .second, .val (.int i4), .val (.int kk), .val (.int aa0), .val (.int bb0), .val (.int aa1), .val (.int bb1), .val (.int aa2), .val (.int bb2), .val (.ref ar), .unset] [(.int (own_in aa1 bb1 i4))])
            refine Go.step (fun _ k => XS.ifNo X56.here hx rfl (hb hby at_221) rfl ((if0 _ _).trans (teq hc221_57).2) k) ?_
            show Go p e below _ T56 (mkF m 224 #[.val (.int i0), .val (.long i1), .second, .val (.long i2), .second, .val (.long i3), .second, .val (.int i4), .val (.int kk), .val (.int aa0), .val (.int bb0), .val (.int aa1), .val (.int bb1), .val (.int aa2), .val (.int bb2), .val (.ref ar), .unset] [])
            refine Go.step (fun _ k => XS.iload X56.here hx rfl (hb hby at_224) rfl k) ?_
            show Go p e below _ T56 (mkF m 226 #[.val (.int i0), .val (.long i1), .second, .val (.long i2), .second, .val (.long i3), .second, .val (.int i4), .val (.int kk), .val (.int aa0), .val (.int bb0), .val (.int aa1), .val (.int bb1), .val (.int aa2), .val (.int bb2), .val (.ref ar), .unset] [(.int kk)])
            refine Go.step (fun _ k => XS.iconst X56.here hx rfl (hb hby at_226) k) ?_
            show Go p e below _ T56 (mkF m 227 #[.val (.int i0), .val (.long i1), .second, .val (.long i2), .second, .val (.long i3), .second, .val (.int i4), .val (.int kk), .val (.int aa0), .val (.int bb0), .val (.int aa1), .val (.int bb1), .val (.int aa2), .val (.int bb2), .val (.ref ar), .unset] [(.int (3 : Int32)), (.int kk)])
            refine Go.step (fun _ k => XS.icmpYes X56.here hx rfl (pc0 := 227) (pc' := 246) rfl (hb hby at_227) rfl (tlt (by rw [hc121_48]; decide)).1 (by decide) (by decide) k) ?_
            show Go p e below _ T56 (mkF m 246 #[.val (.int i0), .val (.long i1), .second, .val (.long i2), .second, .val (.long i3), .second, .val (.int i4), .val (.int kk), .val (.int aa0), .val (.int bb0), .val (.int aa1), .val (.int bb1), .val (.int aa2), .val (.int bb2), .val (.ref ar), .unset] [])
            refine Go.step (fun _ k => XS.iconst X56.here hx rfl (hb hby at_246) k) ?_
            show Go p e below _ T56 (mkF m 247 #[.val (.int i0), .val (.long i1), .second, .val (.long i2), .second, .val (.long i3), .second, .val (.int i4), .val (.int kk), .val (.int aa0), .val (.int bb0), .val (.int aa1), .val (.int bb1), .val (.int aa2), .val (.int bb2), .val (.ref ar), .unset] [(.int (0 : Int32))])
            refine Go.step (fun _ k => XS.istore X56.here hx rfl (hb hby at_247) rfl (l' := #[.val (.int i0), .val (.long i1), .second, .val (.long i2), .second, .val (.long i3), .second, .val (.int i4), .val (.int kk), .val (.int aa0), .val (.int bb0), .val (.int aa1), .val (.int bb1), .val (.int aa2), .val (.int bb2), .val (.ref ar), .val (.int (0 : Int32))]) rfl k) ?_
            show Go p e below _ T56 (mkF m 249 #[.val (.int i0), .val (.long i1), .second, .val (.long i2), .second, .val (.long i3), .second, .val (.int i4), .val (.int kk), .val (.int aa0), .val (.int bb0), .val (.int aa1), .val (.int bb1), .val (.int aa2), .val (.int bb2), .val (.ref ar), .val (.int (0 : Int32))] [])
            refine Go.step (fun _ k => XS.aload X56.here hx rfl (hb hby at_249) rfl rfl k) ?_
            show Go p e below _ T56 (mkF m 251 #[.val (.int i0), .val (.long i1), .second, .val (.long i2), .second, .val (.long i3), .second, .val (.int i4), .val (.int kk), .val (.int aa0), .val (.int bb0), .val (.int aa1), .val (.int bb1), .val (.int aa2), .val (.int bb2), .val (.ref ar), .val (.int (0 : Int32))] [(.ref ar)])
            refine Go.step (fun _ k => XS.iload X56.here hx rfl (hb hby at_251) rfl k) ?_
            show Go p e below _ T56 (mkF m 253 #[.val (.int i0), .val (.long i1), .second, .val (.long i2), .second, .val (.long i3), .second, .val (.int i4), .val (.int kk), .val (.int aa0), .val (.int bb0), .val (.int aa1), .val (.int bb1), .val (.int aa2), .val (.int bb2), .val (.ref ar), .val (.int (0 : Int32))] [(.int i4), (.ref ar)])
            obtain ⟨_, _, ⟨T58, L58, k58, n58⟩, -, X58, ⟨Lc58, hQ58, l58, y58, z58⟩, st58⟩ := Jvm.LawKit.callS X56 hx (y := (⟨"com/example/seriate/seriate/engine/pattern/Counts", "contains", "([II)Z"⟩ : MethodName)) hown (mvT hZ (hw _ (List.mem_of_getElem? (i := 2) rfl))) (mvT hZ (hw _ (List.mem_of_getElem? (i := 3) rfl))) (mvT hZ (hw _ (List.mem_of_getElem? (i := 4) rfl))) (mvT hZ (hw _ (List.mem_of_getElem? (i := 5) rfl))) (by decide) (backOf (W := 0) (rmC2 l Z a0 hw [] ar i4 k49 aa0 bb0 aa1 bb1 h53 n0 Zn V_ar) hZ (hw _ (List.mem_of_getElem? (i := 5) rfl)) (hw _ (List.mem_of_getElem? (i := 4) rfl)) (by decide) (by decide)) (g := (mkF m 253 #[.val (.int i0), .val (.long i1), .second, .val (.long i2), .second, .val (.long i3), .second, .val (.int i4), .val (.int kk), .val (.int aa0), .val (.int bb0), .val (.int aa1), .val (.int bb1), .val (.int aa2), .val (.int bb2), .val (.ref ar), .val (.int (0 : Int32))] [(.int i4), (.ref ar)])) rfl (by rw [hml]; rfl) (argsL := [(.ref ar), (.int i4)]) (rest := []) (lenOf own_f36 rfl) rfl (by show 2 * 0 + _ ≤ _; exact Nat.le_of_eq rfl) (hb hby at_253) (fun _ _ => ⟨rfl, e56, (by dsimp only [Pt.cells, Pt.slots]; decide), (by dsimp only [Pt.cells, Pt.slots]; decide)⟩)
            dsimp only [Pt.U, Pt.locs, Pt.cells, Pt.slots] at X58 l58 y58 z58 st58 hQ58
            subst l58 y58 z58
            obtain ⟨rfl, N58q, e58⟩ := hQ58
            have N58 := Fr.app N56 N58q
            refine Go.step (st58) ?_
            show Go p e below _ T58 (mkF m 256 #[.val (.int i0), .val (.long i1), .second, .val (.long i2), .second, .val (.long i3), .second, .val (.int i4), .val (.int kk), .val (.int aa0), .val (.int bb0), .val (.int aa1), .val (.int bb1), .val (.int aa2), .val (.int bb2), .val (.ref ar), .val (.int (0 : Int32))] [(.int (own_c2 aa0 bb0 aa1 bb1 i4))])
            refine Go.step (fun _ k => XS.iload X58.here hx rfl (hb hby at_256) rfl k) ?_
            show Go p e below _ T58 (mkF m 258 #[.val (.int i0), .val (.long i1), .second, .val (.long i2), .second, .val (.long i3), .second, .val (.int i4), .val (.int kk), .val (.int aa0), .val (.int bb0), .val (.int aa1), .val (.int bb1), .val (.int aa2), .val (.int bb2), .val (.ref ar), .val (.int (0 : Int32))] [(.int (0 : Int32)), (.int (own_c2 aa0 bb0 aa1 bb1 i4))])
            have hfin : (own_c2 aa0 bb0 aa1 bb1 i4) = (0 : Int32) := by rw [own_l2 i4 hs.1 hs.2.1 hs.2.2.1]; simp [hc203_55, hc221_57]
            refine Go.step (fun _ k => XS.icmpNo X58.here hx rfl (hb hby at_258) rfl (teq hfin).2 k) ?_
            show Go p e below _ T58 (mkF m 261 #[.val (.int i0), .val (.long i1), .second, .val (.long i2), .second, .val (.long i3), .second, .val (.int i4), .val (.int kk), .val (.int aa0), .val (.int bb0), .val (.int aa1), .val (.int bb1), .val (.int aa2), .val (.int bb2), .val (.ref ar), .val (.int (0 : Int32))] [])
            refine Go.step (fun _ k => XS.iconst X58.here hx rfl (hb hby at_261) k) ?_
            show Go p e below _ T58 (mkF m 262 #[.val (.int i0), .val (.long i1), .second, .val (.long i2), .second, .val (.long i3), .second, .val (.int i4), .val (.int kk), .val (.int aa0), .val (.int bb0), .val (.int aa1), .val (.int bb1), .val (.int aa2), .val (.int bb2), .val (.ref ar), .val (.int (0 : Int32))] [(.int (1 : Int32))])
            refine Go.step (fun _ k => XS.goto X58.here hx rfl (pc0 := 262) (pc' := 266) rfl (hb hby at_262) (by decide) (by decide) k) ?_
            show Go p e below _ T58 (mkF m 266 #[.val (.int i0), .val (.long i1), .second, .val (.long i2), .second, .val (.long i3), .second, .val (.int i4), .val (.int kk), .val (.int aa0), .val (.int bb0), .val (.int aa1), .val (.int bb1), .val (.int aa2), .val (.int bb2), .val (.ref ar), .val (.int (0 : Int32))] [(.int (1 : Int32))])
            obtain ⟨fs, hr, hrun, hended, hW, hsame⟩ := X58.leave (v := some (.int (1 : Int32))) (fun h => by rw [Bd.returns] at h; cases h)
            refine Go.fin (retN X58 hx (t := .boolean) Bd.returns (by simp) (hb hby at_266) hr) hrun hended ?_
            refine ⟨_, _, rfl, ?_, ⟨_, rfl⟩, hW, hsame.mono (by decide) (by decide)⟩
            show Q0 Z i0 i1 i2 i3 i4 h0 n0 _ T58.heap _
            rw [e58]
            exact ⟨rfl, N58⟩
          · show Go p e below _ T56 (mkF m 221 #[.val (.int i0), .val (.long i1), .second, .val (.long i2), .second, .val (.long i3), .second, .val (.int i4), .val (.int kk), .val (.int aa0), .val (.int bb0), .val (.int aa1), .val (.int bb1), .val (.int aa2), .val (.int bb2), .val (.ref ar), .unset] [(.int (own_in aa1 bb1 i4))])
            refine Go.step (fun _ k => XS.ifYes X56.here hx rfl (pc0 := 221) (pc' := 242) rfl (hb hby at_221) rfl ((if0 _ _).trans (feq hc221_57).2) (by decide) (by decide) k) ?_
            show Go p e below _ T56 (mkF m 242 #[.val (.int i0), .val (.long i1), .second, .val (.long i2), .second, .val (.long i3), .second, .val (.int i4), .val (.int kk), .val (.int aa0), .val (.int bb0), .val (.int aa1), .val (.int bb1), .val (.int aa2), .val (.int bb2), .val (.ref ar), .unset] [])
            refine Go.step (fun _ k => XS.iconst X56.here hx rfl (hb hby at_242) k) ?_
            show Go p e below _ T56 (mkF m 243 #[.val (.int i0), .val (.long i1), .second, .val (.long i2), .second, .val (.long i3), .second, .val (.int i4), .val (.int kk), .val (.int aa0), .val (.int bb0), .val (.int aa1), .val (.int bb1), .val (.int aa2), .val (.int bb2), .val (.ref ar), .unset] [(.int (1 : Int32))])
            refine Go.step (fun _ k => XS.goto X56.here hx rfl (pc0 := 243) (pc' := 247) rfl (hb hby at_243) (by decide) (by decide) k) ?_
            show Go p e below _ T56 (mkF m 247 #[.val (.int i0), .val (.long i1), .second, .val (.long i2), .second, .val (.long i3), .second, .val (.int i4), .val (.int kk), .val (.int aa0), .val (.int bb0), .val (.int aa1), .val (.int bb1), .val (.int aa2), .val (.int bb2), .val (.ref ar), .unset] [(.int (1 : Int32))])
            refine Go.step (fun _ k => XS.istore X56.here hx rfl (hb hby at_247) rfl (l' := #[.val (.int i0), .val (.long i1), .second, .val (.long i2), .second, .val (.long i3), .second, .val (.int i4), .val (.int kk), .val (.int aa0), .val (.int bb0), .val (.int aa1), .val (.int bb1), .val (.int aa2), .val (.int bb2), .val (.ref ar), .val (.int (1 : Int32))]) rfl k) ?_
            show Go p e below _ T56 (mkF m 249 #[.val (.int i0), .val (.long i1), .second, .val (.long i2), .second, .val (.long i3), .second, .val (.int i4), .val (.int kk), .val (.int aa0), .val (.int bb0), .val (.int aa1), .val (.int bb1), .val (.int aa2), .val (.int bb2), .val (.ref ar), .val (.int (1 : Int32))] [])
            refine Go.step (fun _ k => XS.aload X56.here hx rfl (hb hby at_249) rfl rfl k) ?_
            show Go p e below _ T56 (mkF m 251 #[.val (.int i0), .val (.long i1), .second, .val (.long i2), .second, .val (.long i3), .second, .val (.int i4), .val (.int kk), .val (.int aa0), .val (.int bb0), .val (.int aa1), .val (.int bb1), .val (.int aa2), .val (.int bb2), .val (.ref ar), .val (.int (1 : Int32))] [(.ref ar)])
            refine Go.step (fun _ k => XS.iload X56.here hx rfl (hb hby at_251) rfl k) ?_
            show Go p e below _ T56 (mkF m 253 #[.val (.int i0), .val (.long i1), .second, .val (.long i2), .second, .val (.long i3), .second, .val (.int i4), .val (.int kk), .val (.int aa0), .val (.int bb0), .val (.int aa1), .val (.int bb1), .val (.int aa2), .val (.int bb2), .val (.ref ar), .val (.int (1 : Int32))] [(.int i4), (.ref ar)])
            obtain ⟨_, _, ⟨T59, L59, k59, n59⟩, -, X59, ⟨Lc59, hQ59, l59, y59, z59⟩, st59⟩ := Jvm.LawKit.callS X56 hx (y := (⟨"com/example/seriate/seriate/engine/pattern/Counts", "contains", "([II)Z"⟩ : MethodName)) hown (mvT hZ (hw _ (List.mem_of_getElem? (i := 2) rfl))) (mvT hZ (hw _ (List.mem_of_getElem? (i := 3) rfl))) (mvT hZ (hw _ (List.mem_of_getElem? (i := 4) rfl))) (mvT hZ (hw _ (List.mem_of_getElem? (i := 5) rfl))) (by decide) (backOf (W := 0) (rmC2 l Z a0 hw [] ar i4 k49 aa0 bb0 aa1 bb1 h53 n0 Zn V_ar) hZ (hw _ (List.mem_of_getElem? (i := 5) rfl)) (hw _ (List.mem_of_getElem? (i := 4) rfl)) (by decide) (by decide)) (g := (mkF m 253 #[.val (.int i0), .val (.long i1), .second, .val (.long i2), .second, .val (.long i3), .second, .val (.int i4), .val (.int kk), .val (.int aa0), .val (.int bb0), .val (.int aa1), .val (.int bb1), .val (.int aa2), .val (.int bb2), .val (.ref ar), .val (.int (1 : Int32))] [(.int i4), (.ref ar)])) rfl (by rw [hml]; rfl) (argsL := [(.ref ar), (.int i4)]) (rest := []) (lenOf own_f36 rfl) rfl (by show 2 * 0 + _ ≤ _; exact Nat.le_of_eq rfl) (hb hby at_253) (fun _ _ => ⟨rfl, e56, (by dsimp only [Pt.cells, Pt.slots]; decide), (by dsimp only [Pt.cells, Pt.slots]; decide)⟩)
            dsimp only [Pt.U, Pt.locs, Pt.cells, Pt.slots] at X59 l59 y59 z59 st59 hQ59
            subst l59 y59 z59
            obtain ⟨rfl, N59q, e59⟩ := hQ59
            have N59 := Fr.app N56 N59q
            refine Go.step (st59) ?_
            show Go p e below _ T59 (mkF m 256 #[.val (.int i0), .val (.long i1), .second, .val (.long i2), .second, .val (.long i3), .second, .val (.int i4), .val (.int kk), .val (.int aa0), .val (.int bb0), .val (.int aa1), .val (.int bb1), .val (.int aa2), .val (.int bb2), .val (.ref ar), .val (.int (1 : Int32))] [(.int (own_c2 aa0 bb0 aa1 bb1 i4))])
            refine Go.step (fun _ k => XS.iload X59.here hx rfl (hb hby at_256) rfl k) ?_
            show Go p e below _ T59 (mkF m 258 #[.val (.int i0), .val (.long i1), .second, .val (.long i2), .second, .val (.long i3), .second, .val (.int i4), .val (.int kk), .val (.int aa0), .val (.int bb0), .val (.int aa1), .val (.int bb1), .val (.int aa2), .val (.int bb2), .val (.ref ar), .val (.int (1 : Int32))] [(.int (1 : Int32)), (.int (own_c2 aa0 bb0 aa1 bb1 i4))])
            have hfin : (own_c2 aa0 bb0 aa1 bb1 i4) = (1 : Int32) := by rw [own_l2 i4 hs.1 hs.2.1 hs.2.2.1]; simp [hc203_55, hc221_57]
            refine Go.step (fun _ k => XS.icmpNo X59.here hx rfl (hb hby at_258) rfl (teq hfin).2 k) ?_
            show Go p e below _ T59 (mkF m 261 #[.val (.int i0), .val (.long i1), .second, .val (.long i2), .second, .val (.long i3), .second, .val (.int i4), .val (.int kk), .val (.int aa0), .val (.int bb0), .val (.int aa1), .val (.int bb1), .val (.int aa2), .val (.int bb2), .val (.ref ar), .val (.int (1 : Int32))] [])
            refine Go.step (fun _ k => XS.iconst X59.here hx rfl (hb hby at_261) k) ?_
            show Go p e below _ T59 (mkF m 262 #[.val (.int i0), .val (.long i1), .second, .val (.long i2), .second, .val (.long i3), .second, .val (.int i4), .val (.int kk), .val (.int aa0), .val (.int bb0), .val (.int aa1), .val (.int bb1), .val (.int aa2), .val (.int bb2), .val (.ref ar), .val (.int (1 : Int32))] [(.int (1 : Int32))])
            refine Go.step (fun _ k => XS.goto X59.here hx rfl (pc0 := 262) (pc' := 266) rfl (hb hby at_262) (by decide) (by decide) k) ?_
            show Go p e below _ T59 (mkF m 266 #[.val (.int i0), .val (.long i1), .second, .val (.long i2), .second, .val (.long i3), .second, .val (.int i4), .val (.int kk), .val (.int aa0), .val (.int bb0), .val (.int aa1), .val (.int bb1), .val (.int aa2), .val (.int bb2), .val (.ref ar), .val (.int (1 : Int32))] [(.int (1 : Int32))])
            obtain ⟨fs, hr, hrun, hended, hW, hsame⟩ := X59.leave (v := some (.int (1 : Int32))) (fun h => by rw [Bd.returns] at h; cases h)
            refine Go.fin (retN X59 hx (t := .boolean) Bd.returns (by simp) (hb hby at_266) hr) hrun hended ?_
            refine ⟨_, _, rfl, ?_, ⟨_, rfl⟩, hW, hsame.mono (by decide) (by decide)⟩
            show Q0 Z i0 i1 i2 i3 i4 h0 n0 _ T59.heap _
            rw [e59]
            exact ⟨rfl, N59⟩
        · show Go p e below _ T54 (mkF m 203 #[.val (.int i0), .val (.long i1), .second, .val (.long i2), .second, .val (.long i3), .second, .val (.int i4), .val (.int kk), .val (.int aa0), .val (.int bb0), .val (.int aa1), .val (.int bb1), .val (.int aa2), .val (.int bb2), .val (.ref ar), .unset] [(.int (own_in aa0 bb0 i4))])
          refine Go.step (fun _ k => XS.ifYes X54.here hx rfl (pc0 := 203) (pc' := 242) rfl (hb hby at_203) rfl ((if0 _ _).trans (feq hc203_55).2) (by decide) (by decide) k) ?_
          show Go p e below _ T54 (mkF m 242 #[.val (.int i0), .val (.long i1), .second, .val (.long i2), .second, .val (.long i3), .second, .val (.int i4), .val (.int kk), .val (.int aa0), .val (.int bb0), .val (.int aa1), .val (.int bb1), .val (.int aa2), .val (.int bb2), .val (.ref ar), .unset] [])
          refine Go.step (fun _ k => XS.iconst X54.here hx rfl (hb hby at_242) k) ?_
          show Go p e below _ T54 (mkF m 243 #[.val (.int i0), .val (.long i1), .second, .val (.long i2), .second, .val (.long i3), .second, .val (.int i4), .val (.int kk), .val (.int aa0), .val (.int bb0), .val (.int aa1), .val (.int bb1), .val (.int aa2), .val (.int bb2), .val (.ref ar), .unset] [(.int (1 : Int32))])
          refine Go.step (fun _ k => XS.goto X54.here hx rfl (pc0 := 243) (pc' := 247) rfl (hb hby at_243) (by decide) (by decide) k) ?_
          show Go p e below _ T54 (mkF m 247 #[.val (.int i0), .val (.long i1), .second, .val (.long i2), .second, .val (.long i3), .second, .val (.int i4), .val (.int kk), .val (.int aa0), .val (.int bb0), .val (.int aa1), .val (.int bb1), .val (.int aa2), .val (.int bb2), .val (.ref ar), .unset] [(.int (1 : Int32))])
          refine Go.step (fun _ k => XS.istore X54.here hx rfl (hb hby at_247) rfl (l' := #[.val (.int i0), .val (.long i1), .second, .val (.long i2), .second, .val (.long i3), .second, .val (.int i4), .val (.int kk), .val (.int aa0), .val (.int bb0), .val (.int aa1), .val (.int bb1), .val (.int aa2), .val (.int bb2), .val (.ref ar), .val (.int (1 : Int32))]) rfl k) ?_
          show Go p e below _ T54 (mkF m 249 #[.val (.int i0), .val (.long i1), .second, .val (.long i2), .second, .val (.long i3), .second, .val (.int i4), .val (.int kk), .val (.int aa0), .val (.int bb0), .val (.int aa1), .val (.int bb1), .val (.int aa2), .val (.int bb2), .val (.ref ar), .val (.int (1 : Int32))] [])
          refine Go.step (fun _ k => XS.aload X54.here hx rfl (hb hby at_249) rfl rfl k) ?_
          show Go p e below _ T54 (mkF m 251 #[.val (.int i0), .val (.long i1), .second, .val (.long i2), .second, .val (.long i3), .second, .val (.int i4), .val (.int kk), .val (.int aa0), .val (.int bb0), .val (.int aa1), .val (.int bb1), .val (.int aa2), .val (.int bb2), .val (.ref ar), .val (.int (1 : Int32))] [(.ref ar)])
          refine Go.step (fun _ k => XS.iload X54.here hx rfl (hb hby at_251) rfl k) ?_
          show Go p e below _ T54 (mkF m 253 #[.val (.int i0), .val (.long i1), .second, .val (.long i2), .second, .val (.long i3), .second, .val (.int i4), .val (.int kk), .val (.int aa0), .val (.int bb0), .val (.int aa1), .val (.int bb1), .val (.int aa2), .val (.int bb2), .val (.ref ar), .val (.int (1 : Int32))] [(.int i4), (.ref ar)])
          obtain ⟨_, _, ⟨T60, L60, k60, n60⟩, -, X60, ⟨Lc60, hQ60, l60, y60, z60⟩, st60⟩ := Jvm.LawKit.callS X54 hx (y := (⟨"com/example/seriate/seriate/engine/pattern/Counts", "contains", "([II)Z"⟩ : MethodName)) hown (mvT hZ (hw _ (List.mem_of_getElem? (i := 2) rfl))) (mvT hZ (hw _ (List.mem_of_getElem? (i := 3) rfl))) (mvT hZ (hw _ (List.mem_of_getElem? (i := 4) rfl))) (mvT hZ (hw _ (List.mem_of_getElem? (i := 5) rfl))) (by decide) (backOf (W := 0) (rmC2 l Z a0 hw [] ar i4 k49 aa0 bb0 aa1 bb1 h53 n0 Zn V_ar) hZ (hw _ (List.mem_of_getElem? (i := 5) rfl)) (hw _ (List.mem_of_getElem? (i := 4) rfl)) (by decide) (by decide)) (g := (mkF m 253 #[.val (.int i0), .val (.long i1), .second, .val (.long i2), .second, .val (.long i3), .second, .val (.int i4), .val (.int kk), .val (.int aa0), .val (.int bb0), .val (.int aa1), .val (.int bb1), .val (.int aa2), .val (.int bb2), .val (.ref ar), .val (.int (1 : Int32))] [(.int i4), (.ref ar)])) rfl (by rw [hml]; rfl) (argsL := [(.ref ar), (.int i4)]) (rest := []) (lenOf own_f36 rfl) rfl (by show 2 * 0 + _ ≤ _; exact Nat.le_of_eq rfl) (hb hby at_253) (fun _ _ => ⟨rfl, e54, (by dsimp only [Pt.cells, Pt.slots]; decide), (by dsimp only [Pt.cells, Pt.slots]; decide)⟩)
          dsimp only [Pt.U, Pt.locs, Pt.cells, Pt.slots] at X60 l60 y60 z60 st60 hQ60
          subst l60 y60 z60
          obtain ⟨rfl, N60q, e60⟩ := hQ60
          have N60 := Fr.app N54 N60q
          refine Go.step (st60) ?_
          show Go p e below _ T60 (mkF m 256 #[.val (.int i0), .val (.long i1), .second, .val (.long i2), .second, .val (.long i3), .second, .val (.int i4), .val (.int kk), .val (.int aa0), .val (.int bb0), .val (.int aa1), .val (.int bb1), .val (.int aa2), .val (.int bb2), .val (.ref ar), .val (.int (1 : Int32))] [(.int (own_c2 aa0 bb0 aa1 bb1 i4))])
          refine Go.step (fun _ k => XS.iload X60.here hx rfl (hb hby at_256) rfl k) ?_
          show Go p e below _ T60 (mkF m 258 #[.val (.int i0), .val (.long i1), .second, .val (.long i2), .second, .val (.long i3), .second, .val (.int i4), .val (.int kk), .val (.int aa0), .val (.int bb0), .val (.int aa1), .val (.int bb1), .val (.int aa2), .val (.int bb2), .val (.ref ar), .val (.int (1 : Int32))] [(.int (1 : Int32)), (.int (own_c2 aa0 bb0 aa1 bb1 i4))])
          have hfin : (own_c2 aa0 bb0 aa1 bb1 i4) = (1 : Int32) := by rw [own_l2 i4 hs.1 hs.2.1 hs.2.2.1]; simp [hc203_55]
          refine Go.step (fun _ k => XS.icmpNo X60.here hx rfl (hb hby at_258) rfl (teq hfin).2 k) ?_
          show Go p e below _ T60 (mkF m 261 #[.val (.int i0), .val (.long i1), .second, .val (.long i2), .second, .val (.long i3), .second, .val (.int i4), .val (.int kk), .val (.int aa0), .val (.int bb0), .val (.int aa1), .val (.int bb1), .val (.int aa2), .val (.int bb2), .val (.ref ar), .val (.int (1 : Int32))] [])
          refine Go.step (fun _ k => XS.iconst X60.here hx rfl (hb hby at_261) k) ?_
          show Go p e below _ T60 (mkF m 262 #[.val (.int i0), .val (.long i1), .second, .val (.long i2), .second, .val (.long i3), .second, .val (.int i4), .val (.int kk), .val (.int aa0), .val (.int bb0), .val (.int aa1), .val (.int bb1), .val (.int aa2), .val (.int bb2), .val (.ref ar), .val (.int (1 : Int32))] [(.int (1 : Int32))])
          refine Go.step (fun _ k => XS.goto X60.here hx rfl (pc0 := 262) (pc' := 266) rfl (hb hby at_262) (by decide) (by decide) k) ?_
          show Go p e below _ T60 (mkF m 266 #[.val (.int i0), .val (.long i1), .second, .val (.long i2), .second, .val (.long i3), .second, .val (.int i4), .val (.int kk), .val (.int aa0), .val (.int bb0), .val (.int aa1), .val (.int bb1), .val (.int aa2), .val (.int bb2), .val (.ref ar), .val (.int (1 : Int32))] [(.int (1 : Int32))])
          obtain ⟨fs, hr, hrun, hended, hW, hsame⟩ := X60.leave (v := some (.int (1 : Int32))) (fun h => by rw [Bd.returns] at h; cases h)
          refine Go.fin (retN X60 hx (t := .boolean) Bd.returns (by simp) (hb hby at_266) hr) hrun hended ?_
          refine ⟨_, _, rfl, ?_, ⟨_, rfl⟩, hW, hsame.mono (by decide) (by decide)⟩
          show Q0 Z i0 i1 i2 i3 i4 h0 n0 _ T60.heap _
          rw [e60]
          exact ⟨rfl, N60⟩
      · show Go p e below _ s₁ (mkF m 121 #[.val (.int i0), .val (.long i1), .second, .val (.long i2), .second, .val (.long i3), .second, .val (.int i4), .val (.int kk), .val (.int aa0), .val (.int bb0), .val (.int aa1), .val (.int bb1), .val (.int aa2), .val (.int bb2), .unset, .unset] [(.int (2 : Int32)), (.int kk)])
        refine Go.step (fun _ k => XS.icmpYes X0.here hx rfl (pc0 := 121) (pc' := 152) rfl (hb hby at_121) rfl (feq hc121_48).2 (by decide) (by decide) k) ?_
        show Go p e below _ s₁ (mkF m 152 #[.val (.int i0), .val (.long i1), .second, .val (.long i2), .second, .val (.long i3), .second, .val (.int i4), .val (.int kk), .val (.int aa0), .val (.int bb0), .val (.int aa1), .val (.int bb1), .val (.int aa2), .val (.int bb2), .unset, .unset] [])
        refine Go.step (fun _ k => XS.bipush X0.here hx rfl (hb hby at_152) k) ?_
        show Go p e below _ s₁ (mkF m 154 #[.val (.int i0), .val (.long i1), .second, .val (.long i2), .second, .val (.long i3), .second, .val (.int i4), .val (.int kk), .val (.int aa0), .val (.int bb0), .val (.int aa1), .val (.int bb1), .val (.int aa2), .val (.int bb2), .unset, .unset] [(.int (6 : Int32))])
        have hk3 : kk = (3 : Int32) := by rcases hk with q | q | q | q <;> first | exact q | (exfalso; simp_all; done)
        obtain ⟨T61, h61, k61, X61, e61, E61, A61, st61⟩ := newP X0 hx hZ (hw _ (List.mem_of_getElem? (i := 1) rfl)) e0 (g := (mkF m 154 #[.val (.int i0), .val (.long i1), .second, .val (.long i2), .second, .val (.long i3), .second, .val (.int i4), .val (.int kk), .val (.int aa0), .val (.int bb0), .val (.int aa1), .val (.int bb1), .val (.int aa2), .val (.int bb2), .unset, .unset] [(.int (6 : Int32))])) rfl (hb hby at_154) rfl (by decide) (cap := 6) (by decide) (by decide) (by decide) (by decide)
        obtain ⟨ar, g61⟩ : ∃ z, z = h0.size := ⟨_, rfl⟩
        rw [← g61] at A61 st61
        have g_ar : n0 ≤ ar := Nat.le_trans Zn (Nat.le_of_eq g61.symm)
        have sz_ar : h0.size ≤ ar := Nat.le_trans K0.1 (Nat.le_of_eq g61.symm)
        replace Zn := Nat.le_trans Zn E61.1
        replace K0 := K0.ext E61
        have V_ar : Arv Z h61 ar k61 .int (6 : Int32) [(.int (0 : Int32)), (.int (0 : Int32)), (.int (0 : Int32)), (.int (0 : Int32)), (.int (0 : Int32)), (.int (0 : Int32))] (.int (0 : Int32)) := (Arv.new A61 (by decide)).pad (pad_rep [] (.int (0 : Int32)) 6)
        refine Go.step st61 ?_
        show Go p e below _ T61 (mkF m 156 #[.val (.int i0), .val (.long i1), .second, .val (.long i2), .second, .val (.long i3), .second, .val (.int i4), .val (.int kk), .val (.int aa0), .val (.int bb0), .val (.int aa1), .val (.int bb1), .val (.int aa2), .val (.int bb2), .unset, .unset] [(.ref ar)])
        refine Go.step (fun _ k => XS.dup X61.here hx rfl (hb hby at_156) rfl rfl k) ?_
        show Go p e below _ T61 (mkF m 157 #[.val (.int i0), .val (.long i1), .second, .val (.long i2), .second, .val (.long i3), .second, .val (.int i4), .val (.int kk), .val (.int aa0), .val (.int bb0), .val (.int aa1), .val (.int bb1), .val (.int aa2), .val (.int bb2), .unset, .unset] [(.ref ar), (.ref ar)])
        refine Go.step (fun _ k => XS.iconst X61.here hx rfl (hb hby at_157) k) ?_
        show Go p e below _ T61 (mkF m 158 #[.val (.int i0), .val (.long i1), .second, .val (.long i2), .second, .val (.long i3), .second, .val (.int i4), .val (.int kk), .val (.int aa0), .val (.int bb0), .val (.int aa1), .val (.int bb1), .val (.int aa2), .val (.int bb2), .unset, .unset] [(.int (0 : Int32)), (.ref ar), (.ref ar)])
        refine Go.step (fun _ k => XS.iload X61.here hx rfl (hb hby at_158) rfl k) ?_
        show Go p e below _ T61 (mkF m 160 #[.val (.int i0), .val (.long i1), .second, .val (.long i2), .second, .val (.long i3), .second, .val (.int i4), .val (.int kk), .val (.int aa0), .val (.int bb0), .val (.int aa1), .val (.int bb1), .val (.int aa2), .val (.int bb2), .unset, .unset] [(.int aa0), (.int (0 : Int32)), (.ref ar), (.ref ar)])
        obtain ⟨cl62, Ar62, q62, S62, Nn62, H62, G62⟩ := V_ar
        have hin62 : ¬ ((0 : Int32) < 0 ∨ cl62.slots.size ≤ ((0 : Int32)).toNatClampNeg) := inb_of S62 ⟨by decide, by decide⟩
        obtain ⟨T62, h62, X62, e62, W62, st62⟩ := stI X61 hx hZ e61 Ar62 (j := (0 : Int32)) hin62 (g := (mkF m 160 #[.val (.int i0), .val (.long i1), .second, .val (.long i2), .second, .val (.long i3), .second, .val (.int i4), .val (.int kk), .val (.int aa0), .val (.int bb0), .val (.int aa1), .val (.int bb1), .val (.int aa2), .val (.int bb2), .unset, .unset] [(.int aa0), (.int (0 : Int32)), (.ref ar), (.ref ar)])) rfl rfl (hb hby at_160)
        have Vw62 : Arv Z h62 ar k61 .int (6 : Int32) [(.int aa0), (.int (0 : Int32)), (.int (0 : Int32)), (.int (0 : Int32)), (.int (0 : Int32)), (.int (0 : Int32))] (.int (0 : Int32)) := Arv.set Ar62 q62 S62 Nn62 H62 G62 rfl W62 0 rfl (Nat.le_of_ble_eq_true rfl)
        have V_ar := Vw62
        replace K0 := K0.wr W62 (Or.inr sz_ar)
        replace Zn := Nat.le_trans Zn (Nat.le_of_eq W62.size.symm)
        have N62 := Fr.snoc X62 N0 g_ar
        refine Go.step st62 ?_
        show Go p e below _ T62 (mkF m 161 #[.val (.int i0), .val (.long i1), .second, .val (.long i2), .second, .val (.long i3), .second, .val (.int i4), .val (.int kk), .val (.int aa0), .val (.int bb0), .val (.int aa1), .val (.int bb1), .val (.int aa2), .val (.int bb2), .unset, .unset] [(.ref ar)])
        refine Go.step (fun _ k => XS.dup X62.here hx rfl (hb hby at_161) rfl rfl k) ?_
        show Go p e below _ T62 (mkF m 162 #[.val (.int i0), .val (.long i1), .second, .val (.long i2), .second, .val (.long i3), .second, .val (.int i4), .val (.int kk), .val (.int aa0), .val (.int bb0), .val (.int aa1), .val (.int bb1), .val (.int aa2), .val (.int bb2), .unset, .unset] [(.ref ar), (.ref ar)])
        refine Go.step (fun _ k => XS.iconst X62.here hx rfl (hb hby at_162) k) ?_
        show Go p e below _ T62 (mkF m 163 #[.val (.int i0), .val (.long i1), .second, .val (.long i2), .second, .val (.long i3), .second, .val (.int i4), .val (.int kk), .val (.int aa0), .val (.int bb0), .val (.int aa1), .val (.int bb1), .val (.int aa2), .val (.int bb2), .unset, .unset] [(.int (1 : Int32)), (.ref ar), (.ref ar)])
        refine Go.step (fun _ k => XS.iload X62.here hx rfl (hb hby at_163) rfl k) ?_
        show Go p e below _ T62 (mkF m 165 #[.val (.int i0), .val (.long i1), .second, .val (.long i2), .second, .val (.long i3), .second, .val (.int i4), .val (.int kk), .val (.int aa0), .val (.int bb0), .val (.int aa1), .val (.int bb1), .val (.int aa2), .val (.int bb2), .unset, .unset] [(.int bb0), (.int (1 : Int32)), (.ref ar), (.ref ar)])
        obtain ⟨cl63, Ar63, q63, S63, Nn63, H63, G63⟩ := V_ar
        have hin63 : ¬ ((1 : Int32) < 0 ∨ cl63.slots.size ≤ ((1 : Int32)).toNatClampNeg) := inb_of S63 ⟨by decide, by decide⟩
        obtain ⟨T63, h63, X63, e63, W63, st63⟩ := stI X62 hx hZ e62 Ar63 (j := (1 : Int32)) hin63 (g := (mkF m 165 #[.val (.int i0), .val (.long i1), .second, .val (.long i2), .second, .val (.long i3), .second, .val (.int i4), .val (.int kk), .val (.int aa0), .val (.int bb0), .val (.int aa1), .val (.int bb1), .val (.int aa2), .val (.int bb2), .unset, .unset] [(.int bb0), (.int (1 : Int32)), (.ref ar), (.ref ar)])) rfl rfl (hb hby at_165)
        have Vw63 : Arv Z h63 ar k61 .int (6 : Int32) [(.int aa0), (.int bb0), (.int (0 : Int32)), (.int (0 : Int32)), (.int (0 : Int32)), (.int (0 : Int32))] (.int (0 : Int32)) := Arv.set Ar63 q63 S63 Nn63 H63 G63 rfl W63 1 rfl (Nat.le_of_ble_eq_true rfl)
        have V_ar := Vw63
        replace K0 := K0.wr W63 (Or.inr sz_ar)
        replace Zn := Nat.le_trans Zn (Nat.le_of_eq W63.size.symm)
        have N63 := Fr.snoc X63 N62 g_ar
        refine Go.step st63 ?_
        show Go p e below _ T63 (mkF m 166 #[.val (.int i0), .val (.long i1), .second, .val (.long i2), .second, .val (.long i3), .second, .val (.int i4), .val (.int kk), .val (.int aa0), .val (.int bb0), .val (.int aa1), .val (.int bb1), .val (.int aa2), .val (.int bb2), .unset, .unset] [(.ref ar)])
        refine Go.step (fun _ k => XS.dup X63.here hx rfl (hb hby at_166) rfl rfl k) ?_
        show Go p e below _ T63 (mkF m 167 #[.val (.int i0), .val (.long i1), .second, .val (.long i2), .second, .val (.long i3), .second, .val (.int i4), .val (.int kk), .val (.int aa0), .val (.int bb0), .val (.int aa1), .val (.int bb1), .val (.int aa2), .val (.int bb2), .unset, .unset] [(.ref ar), (.ref ar)])
        refine Go.step (fun _ k => XS.iconst X63.here hx rfl (hb hby at_167) k) ?_
        show Go p e below _ T63 (mkF m 168 #[.val (.int i0), .val (.long i1), .second, .val (.long i2), .second, .val (.long i3), .second, .val (.int i4), .val (.int kk), .val (.int aa0), .val (.int bb0), .val (.int aa1), .val (.int bb1), .val (.int aa2), .val (.int bb2), .unset, .unset] [(.int (2 : Int32)), (.ref ar), (.ref ar)])
        refine Go.step (fun _ k => XS.iload X63.here hx rfl (hb hby at_168) rfl k) ?_
        show Go p e below _ T63 (mkF m 170 #[.val (.int i0), .val (.long i1), .second, .val (.long i2), .second, .val (.long i3), .second, .val (.int i4), .val (.int kk), .val (.int aa0), .val (.int bb0), .val (.int aa1), .val (.int bb1), .val (.int aa2), .val (.int bb2), .unset, .unset] [(.int aa1), (.int (2 : Int32)), (.ref ar), (.ref ar)])
        obtain ⟨cl64, Ar64, q64, S64, Nn64, H64, G64⟩ := V_ar
        have hin64 : ¬ ((2 : Int32) < 0 ∨ cl64.slots.size ≤ ((2 : Int32)).toNatClampNeg) := inb_of S64 ⟨by decide, by decide⟩
        obtain ⟨T64, h64, X64, e64, W64, st64⟩ := stI X63 hx hZ e63 Ar64 (j := (2 : Int32)) hin64 (g := (mkF m 170 #[.val (.int i0), .val (.long i1), .second, .val (.long i2), .second, .val (.long i3), .second, .val (.int i4), .val (.int kk), .val (.int aa0), .val (.int bb0), .val (.int aa1), .val (.int bb1), .val (.int aa2), .val (.int bb2), .unset, .unset] [(.int aa1), (.int (2 : Int32)), (.ref ar), (.ref ar)])) rfl rfl (hb hby at_170)
        have Vw64 : Arv Z h64 ar k61 .int (6 : Int32) [(.int aa0), (.int bb0), (.int aa1), (.int (0 : Int32)), (.int (0 : Int32)), (.int (0 : Int32))] (.int (0 : Int32)) := Arv.set Ar64 q64 S64 Nn64 H64 G64 rfl W64 2 rfl (Nat.le_of_ble_eq_true rfl)
        have V_ar := Vw64
        replace K0 := K0.wr W64 (Or.inr sz_ar)
        replace Zn := Nat.le_trans Zn (Nat.le_of_eq W64.size.symm)
        have N64 := Fr.snoc X64 N63 g_ar
        refine Go.step st64 ?_
        show Go p e below _ T64 (mkF m 171 #[.val (.int i0), .val (.long i1), .second, .val (.long i2), .second, .val (.long i3), .second, .val (.int i4), .val (.int kk), .val (.int aa0), .val (.int bb0), .val (.int aa1), .val (.int bb1), .val (.int aa2), .val (.int bb2), .unset, .unset] [(.ref ar)])
        refine Go.step (fun _ k => XS.dup X64.here hx rfl (hb hby at_171) rfl rfl k) ?_
        show Go p e below _ T64 (mkF m 172 #[.val (.int i0), .val (.long i1), .second, .val (.long i2), .second, .val (.long i3), .second, .val (.int i4), .val (.int kk), .val (.int aa0), .val (.int bb0), .val (.int aa1), .val (.int bb1), .val (.int aa2), .val (.int bb2), .unset, .unset] [(.ref ar), (.ref ar)])
        refine Go.step (fun _ k => XS.iconst X64.here hx rfl (hb hby at_172) k) ?_
        show Go p e below _ T64 (mkF m 173 #[.val (.int i0), .val (.long i1), .second, .val (.long i2), .second, .val (.long i3), .second, .val (.int i4), .val (.int kk), .val (.int aa0), .val (.int bb0), .val (.int aa1), .val (.int bb1), .val (.int aa2), .val (.int bb2), .unset, .unset] [(.int (3 : Int32)), (.ref ar), (.ref ar)])
        refine Go.step (fun _ k => XS.iload X64.here hx rfl (hb hby at_173) rfl k) ?_
        show Go p e below _ T64 (mkF m 175 #[.val (.int i0), .val (.long i1), .second, .val (.long i2), .second, .val (.long i3), .second, .val (.int i4), .val (.int kk), .val (.int aa0), .val (.int bb0), .val (.int aa1), .val (.int bb1), .val (.int aa2), .val (.int bb2), .unset, .unset] [(.int bb1), (.int (3 : Int32)), (.ref ar), (.ref ar)])
        obtain ⟨cl65, Ar65, q65, S65, Nn65, H65, G65⟩ := V_ar
        have hin65 : ¬ ((3 : Int32) < 0 ∨ cl65.slots.size ≤ ((3 : Int32)).toNatClampNeg) := inb_of S65 ⟨by decide, by decide⟩
        obtain ⟨T65, h65, X65, e65, W65, st65⟩ := stI X64 hx hZ e64 Ar65 (j := (3 : Int32)) hin65 (g := (mkF m 175 #[.val (.int i0), .val (.long i1), .second, .val (.long i2), .second, .val (.long i3), .second, .val (.int i4), .val (.int kk), .val (.int aa0), .val (.int bb0), .val (.int aa1), .val (.int bb1), .val (.int aa2), .val (.int bb2), .unset, .unset] [(.int bb1), (.int (3 : Int32)), (.ref ar), (.ref ar)])) rfl rfl (hb hby at_175)
        have Vw65 : Arv Z h65 ar k61 .int (6 : Int32) [(.int aa0), (.int bb0), (.int aa1), (.int bb1), (.int (0 : Int32)), (.int (0 : Int32))] (.int (0 : Int32)) := Arv.set Ar65 q65 S65 Nn65 H65 G65 rfl W65 3 rfl (Nat.le_of_ble_eq_true rfl)
        have V_ar := Vw65
        replace K0 := K0.wr W65 (Or.inr sz_ar)
        replace Zn := Nat.le_trans Zn (Nat.le_of_eq W65.size.symm)
        have N65 := Fr.snoc X65 N64 g_ar
        refine Go.step st65 ?_
        show Go p e below _ T65 (mkF m 176 #[.val (.int i0), .val (.long i1), .second, .val (.long i2), .second, .val (.long i3), .second, .val (.int i4), .val (.int kk), .val (.int aa0), .val (.int bb0), .val (.int aa1), .val (.int bb1), .val (.int aa2), .val (.int bb2), .unset, .unset] [(.ref ar)])
        refine Go.step (fun _ k => XS.dup X65.here hx rfl (hb hby at_176) rfl rfl k) ?_
        show Go p e below _ T65 (mkF m 177 #[.val (.int i0), .val (.long i1), .second, .val (.long i2), .second, .val (.long i3), .second, .val (.int i4), .val (.int kk), .val (.int aa0), .val (.int bb0), .val (.int aa1), .val (.int bb1), .val (.int aa2), .val (.int bb2), .unset, .unset] [(.ref ar), (.ref ar)])
        refine Go.step (fun _ k => XS.iconst X65.here hx rfl (hb hby at_177) k) ?_
        show Go p e below _ T65 (mkF m 178 #[.val (.int i0), .val (.long i1), .second, .val (.long i2), .second, .val (.long i3), .second, .val (.int i4), .val (.int kk), .val (.int aa0), .val (.int bb0), .val (.int aa1), .val (.int bb1), .val (.int aa2), .val (.int bb2), .unset, .unset] [(.int (4 : Int32)), (.ref ar), (.ref ar)])
        refine Go.step (fun _ k => XS.iload X65.here hx rfl (hb hby at_178) rfl k) ?_
        show Go p e below _ T65 (mkF m 180 #[.val (.int i0), .val (.long i1), .second, .val (.long i2), .second, .val (.long i3), .second, .val (.int i4), .val (.int kk), .val (.int aa0), .val (.int bb0), .val (.int aa1), .val (.int bb1), .val (.int aa2), .val (.int bb2), .unset, .unset] [(.int aa2), (.int (4 : Int32)), (.ref ar), (.ref ar)])
        obtain ⟨cl66, Ar66, q66, S66, Nn66, H66, G66⟩ := V_ar
        have hin66 : ¬ ((4 : Int32) < 0 ∨ cl66.slots.size ≤ ((4 : Int32)).toNatClampNeg) := inb_of S66 ⟨by decide, by decide⟩
        obtain ⟨T66, h66, X66, e66, W66, st66⟩ := stI X65 hx hZ e65 Ar66 (j := (4 : Int32)) hin66 (g := (mkF m 180 #[.val (.int i0), .val (.long i1), .second, .val (.long i2), .second, .val (.long i3), .second, .val (.int i4), .val (.int kk), .val (.int aa0), .val (.int bb0), .val (.int aa1), .val (.int bb1), .val (.int aa2), .val (.int bb2), .unset, .unset] [(.int aa2), (.int (4 : Int32)), (.ref ar), (.ref ar)])) rfl rfl (hb hby at_180)
        have Vw66 : Arv Z h66 ar k61 .int (6 : Int32) [(.int aa0), (.int bb0), (.int aa1), (.int bb1), (.int aa2), (.int (0 : Int32))] (.int (0 : Int32)) := Arv.set Ar66 q66 S66 Nn66 H66 G66 rfl W66 4 rfl (Nat.le_of_ble_eq_true rfl)
        have V_ar := Vw66
        replace K0 := K0.wr W66 (Or.inr sz_ar)
        replace Zn := Nat.le_trans Zn (Nat.le_of_eq W66.size.symm)
        have N66 := Fr.snoc X66 N65 g_ar
        refine Go.step st66 ?_
        show Go p e below _ T66 (mkF m 181 #[.val (.int i0), .val (.long i1), .second, .val (.long i2), .second, .val (.long i3), .second, .val (.int i4), .val (.int kk), .val (.int aa0), .val (.int bb0), .val (.int aa1), .val (.int bb1), .val (.int aa2), .val (.int bb2), .unset, .unset] [(.ref ar)])
        refine Go.step (fun _ k => XS.dup X66.here hx rfl (hb hby at_181) rfl rfl k) ?_
        show Go p e below _ T66 (mkF m 182 #[.val (.int i0), .val (.long i1), .second, .val (.long i2), .second, .val (.long i3), .second, .val (.int i4), .val (.int kk), .val (.int aa0), .val (.int bb0), .val (.int aa1), .val (.int bb1), .val (.int aa2), .val (.int bb2), .unset, .unset] [(.ref ar), (.ref ar)])
        refine Go.step (fun _ k => XS.iconst X66.here hx rfl (hb hby at_182) k) ?_
        show Go p e below _ T66 (mkF m 183 #[.val (.int i0), .val (.long i1), .second, .val (.long i2), .second, .val (.long i3), .second, .val (.int i4), .val (.int kk), .val (.int aa0), .val (.int bb0), .val (.int aa1), .val (.int bb1), .val (.int aa2), .val (.int bb2), .unset, .unset] [(.int (5 : Int32)), (.ref ar), (.ref ar)])
        refine Go.step (fun _ k => XS.iload X66.here hx rfl (hb hby at_183) rfl k) ?_
        show Go p e below _ T66 (mkF m 185 #[.val (.int i0), .val (.long i1), .second, .val (.long i2), .second, .val (.long i3), .second, .val (.int i4), .val (.int kk), .val (.int aa0), .val (.int bb0), .val (.int aa1), .val (.int bb1), .val (.int aa2), .val (.int bb2), .unset, .unset] [(.int bb2), (.int (5 : Int32)), (.ref ar), (.ref ar)])
        obtain ⟨cl67, Ar67, q67, S67, Nn67, H67, G67⟩ := V_ar
        have hin67 : ¬ ((5 : Int32) < 0 ∨ cl67.slots.size ≤ ((5 : Int32)).toNatClampNeg) := inb_of S67 ⟨by decide, by decide⟩
        obtain ⟨T67, h67, X67, e67, W67, st67⟩ := stI X66 hx hZ e66 Ar67 (j := (5 : Int32)) hin67 (g := (mkF m 185 #[.val (.int i0), .val (.long i1), .second, .val (.long i2), .second, .val (.long i3), .second, .val (.int i4), .val (.int kk), .val (.int aa0), .val (.int bb0), .val (.int aa1), .val (.int bb1), .val (.int aa2), .val (.int bb2), .unset, .unset] [(.int bb2), (.int (5 : Int32)), (.ref ar), (.ref ar)])) rfl rfl (hb hby at_185)
        have Vw67 : Arv Z h67 ar k61 .int (6 : Int32) [(.int aa0), (.int bb0), (.int aa1), (.int bb1), (.int aa2), (.int bb2)] (.int (0 : Int32)) := Arv.set Ar67 q67 S67 Nn67 H67 G67 rfl W67 5 rfl (Nat.le_of_ble_eq_true rfl)
        have V_ar := Vw67
        replace K0 := K0.wr W67 (Or.inr sz_ar)
        replace Zn := Nat.le_trans Zn (Nat.le_of_eq W67.size.symm)
        have N67 := Fr.snoc X67 N66 g_ar
        refine Go.step st67 ?_
        show Go p e below _ T67 (mkF m 186 #[.val (.int i0), .val (.long i1), .second, .val (.long i2), .second, .val (.long i3), .second, .val (.int i4), .val (.int kk), .val (.int aa0), .val (.int bb0), .val (.int aa1), .val (.int bb1), .val (.int aa2), .val (.int bb2), .unset, .unset] [(.ref ar)])
        refine Go.step (fun _ k => XS.astore X67.here hx rfl (hb hby at_186) rfl rfl (l' := #[.val (.int i0), .val (.long i1), .second, .val (.long i2), .second, .val (.long i3), .second, .val (.int i4), .val (.int kk), .val (.int aa0), .val (.int bb0), .val (.int aa1), .val (.int bb1), .val (.int aa2), .val (.int bb2), .val (.ref ar), .unset]) rfl k) ?_
        show Go p e below _ T67 (mkF m 188 #[.val (.int i0), .val (.long i1), .second, .val (.long i2), .second, .val (.long i3), .second, .val (.int i4), .val (.int kk), .val (.int aa0), .val (.int bb0), .val (.int aa1), .val (.int bb1), .val (.int aa2), .val (.int bb2), .val (.ref ar), .unset] [])
        refine Go.step (fun _ k => XS.iload X67.here hx rfl (hb hby at_188) rfl k) ?_
        show Go p e below _ T67 (mkF m 190 #[.val (.int i0), .val (.long i1), .second, .val (.long i2), .second, .val (.long i3), .second, .val (.int i4), .val (.int kk), .val (.int aa0), .val (.int bb0), .val (.int aa1), .val (.int bb1), .val (.int aa2), .val (.int bb2), .val (.ref ar), .unset] [(.int kk)])
        refine Go.step (fun _ k => XS.iconst X67.here hx rfl (hb hby at_190) k) ?_
        show Go p e below _ T67 (mkF m 191 #[.val (.int i0), .val (.long i1), .second, .val (.long i2), .second, .val (.long i3), .second, .val (.int i4), .val (.int kk), .val (.int aa0), .val (.int bb0), .val (.int aa1), .val (.int bb1), .val (.int aa2), .val (.int bb2), .val (.ref ar), .unset] [(.int (1 : Int32)), (.int kk)])
        refine Go.step (fun _ k => XS.icmpNo X67.here hx rfl (hb hby at_191) rfl (flt (by rw [hk3]; decide)).1 k) ?_
        show Go p e below _ T67 (mkF m 194 #[.val (.int i0), .val (.long i1), .second, .val (.long i2), .second, .val (.long i3), .second, .val (.int i4), .val (.int kk), .val (.int aa0), .val (.int bb0), .val (.int aa1), .val (.int bb1), .val (.int aa2), .val (.int bb2), .val (.ref ar), .unset] [])
        refine Go.step (fun _ k => XS.iload X67.here hx rfl (hb hby at_194) rfl k) ?_
        show Go p e below _ T67 (mkF m 196 #[.val (.int i0), .val (.long i1), .second, .val (.long i2), .second, .val (.long i3), .second, .val (.int i4), .val (.int kk), .val (.int aa0), .val (.int bb0), .val (.int aa1), .val (.int bb1), .val (.int aa2), .val (.int bb2), .val (.ref ar), .unset] [(.int aa0)])
        refine Go.step (fun _ k => XS.iload X67.here hx rfl (hb hby at_196) rfl k) ?_
        show Go p e below _ T67 (mkF m 198 #[.val (.int i0), .val (.long i1), .second, .val (.long i2), .second, .val (.long i3), .second, .val (.int i4), .val (.int kk), .val (.int aa0), .val (.int bb0), .val (.int aa1), .val (.int bb1), .val (.int aa2), .val (.int bb2), .val (.ref ar), .unset] [(.int bb0), (.int aa0)])
        refine Go.step (fun _ k => XS.iload X67.here hx rfl (hb hby at_198) rfl k) ?_
        show Go p e below _ T67 (mkF m 200 #[.val (.int i0), .val (.long i1), .second, .val (.long i2), .second, .val (.long i3), .second, .val (.int i4), .val (.int kk), .val (.int aa0), .val (.int bb0), .val (.int aa1), .val (.int bb1), .val (.int aa2), .val (.int bb2), .val (.ref ar), .unset] [(.int i4), (.int bb0), (.int aa0)])
        obtain ⟨_, _, ⟨T68, L68, k68, n68⟩, -, X68, ⟨Lc68, hQ68, l68, y68, z68⟩, st68⟩ := Jvm.LawKit.callS X67 hx (y := (⟨"com/example/seriate/seriate/engine/pattern/CountsContainsPinLaw", "in", "(III)Z"⟩ : MethodName)) hown (mvT hZ (hw _ (List.mem_of_getElem? (i := 6) rfl))) (mvT hZ (hw _ (List.mem_of_getElem? (i := 7) rfl))) (mvT hZ (hw _ (List.mem_of_getElem? (i := 8) rfl))) (mvT hZ (hw _ (List.mem_of_getElem? (i := 9) rfl))) (by decide) (backOf (W := 0) (rmI l Z a0 hw [] aa0 bb0 i4 h67 n0 Zn) hZ (hw _ (List.mem_of_getElem? (i := 9) rfl)) (hw _ (List.mem_of_getElem? (i := 8) rfl)) (by decide) (by decide)) (g := (mkF m 200 #[.val (.int i0), .val (.long i1), .second, .val (.long i2), .second, .val (.long i3), .second, .val (.int i4), .val (.int kk), .val (.int aa0), .val (.int bb0), .val (.int aa1), .val (.int bb1), .val (.int aa2), .val (.int bb2), .val (.ref ar), .unset] [(.int i4), (.int bb0), (.int aa0)])) rfl (by rw [hml]; rfl) (argsL := [(.int aa0), (.int bb0), (.int i4)]) (rest := []) (lenOf own_f37 rfl) rfl (by show 2 * 0 + _ ≤ _; exact Nat.le_of_eq rfl) (hb hby at_200) (fun _ _ => ⟨rfl, e67, (by dsimp only [Pt.cells, Pt.slots]; decide), (by dsimp only [Pt.cells, Pt.slots]; decide)⟩)
        dsimp only [Pt.U, Pt.locs, Pt.cells, Pt.slots] at X68 l68 y68 z68 st68 hQ68
        subst l68 y68 z68
        obtain ⟨rfl, N68q, e68⟩ := hQ68
        have N68 := Fr.app N67 N68q
        refine Go.step (st68) ?_
        show Go p e below _ T68 (mkF m 203 #[.val (.int i0), .val (.long i1), .second, .val (.long i2), .second, .val (.long i3), .second, .val (.int i4), .val (.int kk), .val (.int aa0), .val (.int bb0), .val (.int aa1), .val (.int bb1), .val (.int aa2), .val (.int bb2), .val (.ref ar), .unset] [(.int (own_in aa0 bb0 i4))])
        by_cases hc203_69 : (own_in aa0 bb0 i4) = (0 : Int32)
        · show Go p e below _ T68 (mkF m 203 #[.val (.int i0), .val (.long i1), .second, .val (.long i2), .second, .val (.long i3), .second, .val (.int i4), .val (.int kk), .val (.int aa0), .val (.int bb0), .val (.int aa1), .val (.int bb1), .val (.int aa2), .val (.int bb2), .val (.ref ar), .unset] [(.int (own_in aa0 bb0 i4))])
          refine Go.step (fun _ k => XS.ifNo X68.here hx rfl (hb hby at_203) rfl ((if0 _ _).trans (teq hc203_69).2) k) ?_
          show Go p e below _ T68 (mkF m 206 #[.val (.int i0), .val (.long i1), .second, .val (.long i2), .second, .val (.long i3), .second, .val (.int i4), .val (.int kk), .val (.int aa0), .val (.int bb0), .val (.int aa1), .val (.int bb1), .val (.int aa2), .val (.int bb2), .val (.ref ar), .unset] [])
          refine Go.step (fun _ k => XS.iload X68.here hx rfl (hb hby at_206) rfl k) ?_
          show Go p e below _ T68 (mkF m 208 #[.val (.int i0), .val (.long i1), .second, .val (.long i2), .second, .val (.long i3), .second, .val (.int i4), .val (.int kk), .val (.int aa0), .val (.int bb0), .val (.int aa1), .val (.int bb1), .val (.int aa2), .val (.int bb2), .val (.ref ar), .unset] [(.int kk)])
          refine Go.step (fun _ k => XS.iconst X68.here hx rfl (hb hby at_208) k) ?_
          show Go p e below _ T68 (mkF m 209 #[.val (.int i0), .val (.long i1), .second, .val (.long i2), .second, .val (.long i3), .second, .val (.int i4), .val (.int kk), .val (.int aa0), .val (.int bb0), .val (.int aa1), .val (.int bb1), .val (.int aa2), .val (.int bb2), .val (.ref ar), .unset] [(.int (2 : Int32)), (.int kk)])
          refine Go.step (fun _ k => XS.icmpNo X68.here hx rfl (hb hby at_209) rfl (flt (by rw [hk3]; decide)).1 k) ?_
          show Go p e below _ T68 (mkF m 212 #[.val (.int i0), .val (.long i1), .second, .val (.long i2), .second, .val (.long i3), .second, .val (.int i4), .val (.int kk), .val (.int aa0), .val (.int bb0), .val (.int aa1), .val (.int bb1), .val (.int aa2), .val (.int bb2), .val (.ref ar), .unset] [])
          refine Go.step (fun _ k => XS.iload X68.here hx rfl (hb hby at_212) rfl k) ?_
          show Go p e below _ T68 (mkF m 214 #[.val (.int i0), .val (.long i1), .second, .val (.long i2), .second, .val (.long i3), .second, .val (.int i4), .val (.int kk), .val (.int aa0), .val (.int bb0), .val (.int aa1), .val (.int bb1), .val (.int aa2), .val (.int bb2), .val (.ref ar), .unset] [(.int aa1)])
          refine Go.step (fun _ k => XS.iload X68.here hx rfl (hb hby at_214) rfl k) ?_
          show Go p e below _ T68 (mkF m 216 #[.val (.int i0), .val (.long i1), .second, .val (.long i2), .second, .val (.long i3), .second, .val (.int i4), .val (.int kk), .val (.int aa0), .val (.int bb0), .val (.int aa1), .val (.int bb1), .val (.int aa2), .val (.int bb2), .val (.ref ar), .unset] [(.int bb1), (.int aa1)])
          refine Go.step (fun _ k => XS.iload X68.here hx rfl (hb hby at_216) rfl k) ?_
          show Go p e below _ T68 (mkF m 218 #[.val (.int i0), .val (.long i1), .second, .val (.long i2), .second, .val (.long i3), .second, .val (.int i4), .val (.int kk), .val (.int aa0), .val (.int bb0), .val (.int aa1), .val (.int bb1), .val (.int aa2), .val (.int bb2), .val (.ref ar), .unset] [(.int i4), (.int bb1), (.int aa1)])
          obtain ⟨_, _, ⟨T70, L70, k70, n70⟩, -, X70, ⟨Lc70, hQ70, l70, y70, z70⟩, st70⟩ := Jvm.LawKit.callS X68 hx (y := (⟨"com/example/seriate/seriate/engine/pattern/CountsContainsPinLaw", "in", "(III)Z"⟩ : MethodName)) hown (mvT hZ (hw _ (List.mem_of_getElem? (i := 6) rfl))) (mvT hZ (hw _ (List.mem_of_getElem? (i := 7) rfl))) (mvT hZ (hw _ (List.mem_of_getElem? (i := 8) rfl))) (mvT hZ (hw _ (List.mem_of_getElem? (i := 9) rfl))) (by decide) (backOf (W := 0) (rmI l Z a0 hw [] aa1 bb1 i4 h67 n0 Zn) hZ (hw _ (List.mem_of_getElem? (i := 9) rfl)) (hw _ (List.mem_of_getElem? (i := 8) rfl)) (by decide) (by decide)) (g := (mkF m 218 #[.val (.int i0), .val (.long i1), .second, .val (.long i2), .second, .val (.long i3), .second, .val (.int i4), .val (.int kk), .val (.int aa0), .val (.int bb0), .val (.int aa1), .val (.int bb1), .val (.int aa2), .val (.int bb2), .val (.ref ar), .unset] [(.int i4), (.int bb1), (.int aa1)])) rfl (by rw [hml]; rfl) (argsL := [(.int aa1), (.int bb1), (.int i4)]) (rest := []) (lenOf own_f37 rfl) rfl (by show 2 * 0 + _ ≤ _; exact Nat.le_of_eq rfl) (hb hby at_218) (fun _ _ => ⟨rfl, e68, (by dsimp only [Pt.cells, Pt.slots]; decide), (by dsimp only [Pt.cells, Pt.slots]; decide)⟩)
          dsimp only [Pt.U, Pt.locs, Pt.cells, Pt.slots] at X70 l70 y70 z70 st70 hQ70
          subst l70 y70 z70
          obtain ⟨rfl, N70q, e70⟩ := hQ70
          have N70 := Fr.app N68 N70q
          refine Go.step (st70) ?_
          show Go p e below _ T70 (mkF m 221 #[.val (.int i0), .val (.long i1), .second, .val (.long i2), .second, .val (.long i3), .second, .val (.int i4), .val (.int kk), .val (.int aa0), .val (.int bb0), .val (.int aa1), .val (.int bb1), .val (.int aa2), .val (.int bb2), .val (.ref ar), .unset] [(.int (own_in aa1 bb1 i4))])
          by_cases hc221_71 : (own_in aa1 bb1 i4) = (0 : Int32)
          · show Go p e below _ T70 (mkF m 221 #[.val (.int i0), .val (.long i1), .second, .val (.long i2), .second, .val (.long i3), .second, .val (.int i4), .val (.int kk), .val (.int aa0), .val (.int bb0), .val (.int aa1), .val (.int bb1), .val (.int aa2), .val (.int bb2), .val (.ref ar), .unset] [(.int (own_in aa1 bb1 i4))])
            refine Go.step (fun _ k => XS.ifNo X70.here hx rfl (hb hby at_221) rfl ((if0 _ _).trans (teq hc221_71).2) k) ?_
            show Go p e below _ T70 (mkF m 224 #[.val (.int i0), .val (.long i1), .second, .val (.long i2), .second, .val (.long i3), .second, .val (.int i4), .val (.int kk), .val (.int aa0), .val (.int bb0), .val (.int aa1), .val (.int bb1), .val (.int aa2), .val (.int bb2), .val (.ref ar), .unset] [])
            refine Go.step (fun _ k => XS.iload X70.here hx rfl (hb hby at_224) rfl k) ?_
            show Go p e below _ T70 (mkF m 226 #[.val (.int i0), .val (.long i1), .second, .val (.long i2), .second, .val (.long i3), .second, .val (.int i4), .val (.int kk), .val (.int aa0), .val (.int bb0), .val (.int aa1), .val (.int bb1), .val (.int aa2), .val (.int bb2), .val (.ref ar), .unset] [(.int kk)])
            refine Go.step (fun _ k => XS.iconst X70.here hx rfl (hb hby at_226) k) ?_
            show Go p e below _ T70 (mkF m 227 #[.val (.int i0), .val (.long i1), .second, .val (.long i2), .second, .val (.long i3), .second, .val (.int i4), .val (.int kk), .val (.int aa0), .val (.int bb0), .val (.int aa1), .val (.int bb1), .val (.int aa2), .val (.int bb2), .val (.ref ar), .unset] [(.int (3 : Int32)), (.int kk)])
            refine Go.step (fun _ k => XS.icmpNo X70.here hx rfl (hb hby at_227) rfl (flt (by rw [hk3]; decide)).1 k) ?_
            show Go p e below _ T70 (mkF m 230 #[.val (.int i0), .val (.long i1), .second, .val (.long i2), .second, .val (.long i3), .second, .val (.int i4), .val (.int kk), .val (.int aa0), .val (.int bb0), .val (.int aa1), .val (.int bb1), .val (.int aa2), .val (.int bb2), .val (.ref ar), .unset] [])
            refine Go.step (fun _ k => XS.iload X70.here hx rfl (hb hby at_230) rfl k) ?_
            show Go p e below _ T70 (mkF m 232 #[.val (.int i0), .val (.long i1), .second, .val (.long i2), .second, .val (.long i3), .second, .val (.int i4), .val (.int kk), .val (.int aa0), .val (.int bb0), .val (.int aa1), .val (.int bb1), .val (.int aa2), .val (.int bb2), .val (.ref ar), .unset] [(.int aa2)])
            refine Go.step (fun _ k => XS.iload X70.here hx rfl (hb hby at_232) rfl k) ?_
            show Go p e below _ T70 (mkF m 234 #[.val (.int i0), .val (.long i1), .second, .val (.long i2), .second, .val (.long i3), .second, .val (.int i4), .val (.int kk), .val (.int aa0), .val (.int bb0), .val (.int aa1), .val (.int bb1), .val (.int aa2), .val (.int bb2), .val (.ref ar), .unset] [(.int bb2), (.int aa2)])
            refine Go.step (fun _ k => XS.iload X70.here hx rfl (hb hby at_234) rfl k) ?_
            show Go p e below _ T70 (mkF m 236 #[.val (.int i0), .val (.long i1), .second, .val (.long i2), .second, .val (.long i3), .second, .val (.int i4), .val (.int kk), .val (.int aa0), .val (.int bb0), .val (.int aa1), .val (.int bb1), .val (.int aa2), .val (.int bb2), .val (.ref ar), .unset] [(.int i4), (.int bb2), (.int aa2)])
            obtain ⟨_, _, ⟨T72, L72, k72, n72⟩, -, X72, ⟨Lc72, hQ72, l72, y72, z72⟩, st72⟩ := Jvm.LawKit.callS X70 hx (y := (⟨"com/example/seriate/seriate/engine/pattern/CountsContainsPinLaw", "in", "(III)Z"⟩ : MethodName)) hown (mvT hZ (hw _ (List.mem_of_getElem? (i := 6) rfl))) (mvT hZ (hw _ (List.mem_of_getElem? (i := 7) rfl))) (mvT hZ (hw _ (List.mem_of_getElem? (i := 8) rfl))) (mvT hZ (hw _ (List.mem_of_getElem? (i := 9) rfl))) (by decide) (backOf (W := 0) (rmI l Z a0 hw [] aa2 bb2 i4 h67 n0 Zn) hZ (hw _ (List.mem_of_getElem? (i := 9) rfl)) (hw _ (List.mem_of_getElem? (i := 8) rfl)) (by decide) (by decide)) (g := (mkF m 236 #[.val (.int i0), .val (.long i1), .second, .val (.long i2), .second, .val (.long i3), .second, .val (.int i4), .val (.int kk), .val (.int aa0), .val (.int bb0), .val (.int aa1), .val (.int bb1), .val (.int aa2), .val (.int bb2), .val (.ref ar), .unset] [(.int i4), (.int bb2), (.int aa2)])) rfl (by rw [hml]; rfl) (argsL := [(.int aa2), (.int bb2), (.int i4)]) (rest := []) (lenOf own_f37 rfl) rfl (by show 2 * 0 + _ ≤ _; exact Nat.le_of_eq rfl) (hb hby at_236) (fun _ _ => ⟨rfl, e70, (by dsimp only [Pt.cells, Pt.slots]; decide), (by dsimp only [Pt.cells, Pt.slots]; decide)⟩)
            dsimp only [Pt.U, Pt.locs, Pt.cells, Pt.slots] at X72 l72 y72 z72 st72 hQ72
            subst l72 y72 z72
            obtain ⟨rfl, N72q, e72⟩ := hQ72
            have N72 := Fr.app N70 N72q
            refine Go.step (st72) ?_
            show Go p e below _ T72 (mkF m 239 #[.val (.int i0), .val (.long i1), .second, .val (.long i2), .second, .val (.long i3), .second, .val (.int i4), .val (.int kk), .val (.int aa0), .val (.int bb0), .val (.int aa1), .val (.int bb1), .val (.int aa2), .val (.int bb2), .val (.ref ar), .unset] [(.int (own_in aa2 bb2 i4))])
            by_cases hc239_73 : (own_in aa2 bb2 i4) = (0 : Int32)
            · show Go p e below _ T72 (mkF m 239 #[.val (.int i0), .val (.long i1), .second, .val (.long i2), .second, .val (.long i3), .second, .val (.int i4), .val (.int kk), .val (.int aa0), .val (.int bb0), .val (.int aa1), .val (.int bb1), .val (.int aa2), .val (.int bb2), .val (.ref ar), .unset] [(.int (own_in aa2 bb2 i4))])
              refine Go.step (fun _ k => XS.ifYes X72.here hx rfl (pc0 := 239) (pc' := 246) rfl (hb hby at_239) rfl ((if0 _ _).trans (teq hc239_73).1) (by decide) (by decide) k) ?_
              show Go p e below _ T72 (mkF m 246 #[.val (.int i0), .val (.long i1), .second, .val (.long i2), .second, .val (.long i3), .second, .val (.int i4), .val (.int kk), .val (.int aa0), .val (.int bb0), .val (.int aa1), .val (.int bb1), .val (.int aa2), .val (.int bb2), .val (.ref ar), .unset] [])
              refine Go.step (fun _ k => XS.iconst X72.here hx rfl (hb hby at_246) k) ?_
              show Go p e below _ T72 (mkF m 247 #[.val (.int i0), .val (.long i1), .second, .val (.long i2), .second, .val (.long i3), .second, .val (.int i4), .val (.int kk), .val (.int aa0), .val (.int bb0), .val (.int aa1), .val (.int bb1), .val (.int aa2), .val (.int bb2), .val (.ref ar), .unset] [(.int (0 : Int32))])
              refine Go.step (fun _ k => XS.istore X72.here hx rfl (hb hby at_247) rfl (l' := #[.val (.int i0), .val (.long i1), .second, .val (.long i2), .second, .val (.long i3), .second, .val (.int i4), .val (.int kk), .val (.int aa0), .val (.int bb0), .val (.int aa1), .val (.int bb1), .val (.int aa2), .val (.int bb2), .val (.ref ar), .val (.int (0 : Int32))]) rfl k) ?_
              show Go p e below _ T72 (mkF m 249 #[.val (.int i0), .val (.long i1), .second, .val (.long i2), .second, .val (.long i3), .second, .val (.int i4), .val (.int kk), .val (.int aa0), .val (.int bb0), .val (.int aa1), .val (.int bb1), .val (.int aa2), .val (.int bb2), .val (.ref ar), .val (.int (0 : Int32))] [])
              refine Go.step (fun _ k => XS.aload X72.here hx rfl (hb hby at_249) rfl rfl k) ?_
              show Go p e below _ T72 (mkF m 251 #[.val (.int i0), .val (.long i1), .second, .val (.long i2), .second, .val (.long i3), .second, .val (.int i4), .val (.int kk), .val (.int aa0), .val (.int bb0), .val (.int aa1), .val (.int bb1), .val (.int aa2), .val (.int bb2), .val (.ref ar), .val (.int (0 : Int32))] [(.ref ar)])
              refine Go.step (fun _ k => XS.iload X72.here hx rfl (hb hby at_251) rfl k) ?_
              show Go p e below _ T72 (mkF m 253 #[.val (.int i0), .val (.long i1), .second, .val (.long i2), .second, .val (.long i3), .second, .val (.int i4), .val (.int kk), .val (.int aa0), .val (.int bb0), .val (.int aa1), .val (.int bb1), .val (.int aa2), .val (.int bb2), .val (.ref ar), .val (.int (0 : Int32))] [(.int i4), (.ref ar)])
              obtain ⟨_, _, ⟨T74, L74, k74, n74⟩, -, X74, ⟨Lc74, hQ74, l74, y74, z74⟩, st74⟩ := Jvm.LawKit.callS X72 hx (y := (⟨"com/example/seriate/seriate/engine/pattern/Counts", "contains", "([II)Z"⟩ : MethodName)) hown (mvT hZ (hw _ (List.mem_of_getElem? (i := 2) rfl))) (mvT hZ (hw _ (List.mem_of_getElem? (i := 3) rfl))) (mvT hZ (hw _ (List.mem_of_getElem? (i := 4) rfl))) (mvT hZ (hw _ (List.mem_of_getElem? (i := 5) rfl))) (by decide) (backOf (W := 0) (rmC3 l Z a0 hw [] ar i4 k61 aa0 bb0 aa1 bb1 aa2 bb2 h67 n0 Zn V_ar) hZ (hw _ (List.mem_of_getElem? (i := 5) rfl)) (hw _ (List.mem_of_getElem? (i := 4) rfl)) (by decide) (by decide)) (g := (mkF m 253 #[.val (.int i0), .val (.long i1), .second, .val (.long i2), .second, .val (.long i3), .second, .val (.int i4), .val (.int kk), .val (.int aa0), .val (.int bb0), .val (.int aa1), .val (.int bb1), .val (.int aa2), .val (.int bb2), .val (.ref ar), .val (.int (0 : Int32))] [(.int i4), (.ref ar)])) rfl (by rw [hml]; rfl) (argsL := [(.ref ar), (.int i4)]) (rest := []) (lenOf own_f36 rfl) rfl (by show 2 * 0 + _ ≤ _; exact Nat.le_of_eq rfl) (hb hby at_253) (fun _ _ => ⟨rfl, e72, (by dsimp only [Pt.cells, Pt.slots]; decide), (by dsimp only [Pt.cells, Pt.slots]; decide)⟩)
              dsimp only [Pt.U, Pt.locs, Pt.cells, Pt.slots] at X74 l74 y74 z74 st74 hQ74
              subst l74 y74 z74
              obtain ⟨rfl, N74q, e74⟩ := hQ74
              have N74 := Fr.app N72 N74q
              refine Go.step (st74) ?_
              show Go p e below _ T74 (mkF m 256 #[.val (.int i0), .val (.long i1), .second, .val (.long i2), .second, .val (.long i3), .second, .val (.int i4), .val (.int kk), .val (.int aa0), .val (.int bb0), .val (.int aa1), .val (.int bb1), .val (.int aa2), .val (.int bb2), .val (.ref ar), .val (.int (0 : Int32))] [(.int (own_c3 aa0 bb0 aa1 bb1 aa2 bb2 i4))])
              refine Go.step (fun _ k => XS.iload X74.here hx rfl (hb hby at_256) rfl k) ?_
              show Go p e below _ T74 (mkF m 258 #[.val (.int i0), .val (.long i1), .second, .val (.long i2), .second, .val (.long i3), .second, .val (.int i4), .val (.int kk), .val (.int aa0), .val (.int bb0), .val (.int aa1), .val (.int bb1), .val (.int aa2), .val (.int bb2), .val (.ref ar), .val (.int (0 : Int32))] [(.int (0 : Int32)), (.int (own_c3 aa0 bb0 aa1 bb1 aa2 bb2 i4))])
              have hfin : (own_c3 aa0 bb0 aa1 bb1 aa2 bb2 i4) = (0 : Int32) := by rw [own_l3 i4 hs.1 hs.2.1 hs.2.2.1 hs.2.2.2.1 hs.2.2.2.2]; simp [hc203_69, hc221_71, hc239_73]
              refine Go.step (fun _ k => XS.icmpNo X74.here hx rfl (hb hby at_258) rfl (teq hfin).2 k) ?_
              show Go p e below _ T74 (mkF m 261 #[.val (.int i0), .val (.long i1), .second, .val (.long i2), .second, .val (.long i3), .second, .val (.int i4), .val (.int kk), .val (.int aa0), .val (.int bb0), .val (.int aa1), .val (.int bb1), .val (.int aa2), .val (.int bb2), .val (.ref ar), .val (.int (0 : Int32))] [])
              refine Go.step (fun _ k => XS.iconst X74.here hx rfl (hb hby at_261) k) ?_
              show Go p e below _ T74 (mkF m 262 #[.val (.int i0), .val (.long i1), .second, .val (.long i2), .second, .val (.long i3), .second, .val (.int i4), .val (.int kk), .val (.int aa0), .val (.int bb0), .val (.int aa1), .val (.int bb1), .val (.int aa2), .val (.int bb2), .val (.ref ar), .val (.int (0 : Int32))] [(.int (1 : Int32))])
              refine Go.step (fun _ k => XS.goto X74.here hx rfl (pc0 := 262) (pc' := 266) rfl (hb hby at_262) (by decide) (by decide) k) ?_
              show Go p e below _ T74 (mkF m 266 #[.val (.int i0), .val (.long i1), .second, .val (.long i2), .second, .val (.long i3), .second, .val (.int i4), .val (.int kk), .val (.int aa0), .val (.int bb0), .val (.int aa1), .val (.int bb1), .val (.int aa2), .val (.int bb2), .val (.ref ar), .val (.int (0 : Int32))] [(.int (1 : Int32))])
              obtain ⟨fs, hr, hrun, hended, hW, hsame⟩ := X74.leave (v := some (.int (1 : Int32))) (fun h => by rw [Bd.returns] at h; cases h)
              refine Go.fin (retN X74 hx (t := .boolean) Bd.returns (by simp) (hb hby at_266) hr) hrun hended ?_
              refine ⟨_, _, rfl, ?_, ⟨_, rfl⟩, hW, hsame.mono (by decide) (by decide)⟩
              show Q0 Z i0 i1 i2 i3 i4 h0 n0 _ T74.heap _
              rw [e74]
              exact ⟨rfl, N74⟩
            · show Go p e below _ T72 (mkF m 239 #[.val (.int i0), .val (.long i1), .second, .val (.long i2), .second, .val (.long i3), .second, .val (.int i4), .val (.int kk), .val (.int aa0), .val (.int bb0), .val (.int aa1), .val (.int bb1), .val (.int aa2), .val (.int bb2), .val (.ref ar), .unset] [(.int (own_in aa2 bb2 i4))])
              refine Go.step (fun _ k => XS.ifNo X72.here hx rfl (hb hby at_239) rfl ((if0 _ _).trans (feq hc239_73).1) k) ?_
              show Go p e below _ T72 (mkF m 242 #[.val (.int i0), .val (.long i1), .second, .val (.long i2), .second, .val (.long i3), .second, .val (.int i4), .val (.int kk), .val (.int aa0), .val (.int bb0), .val (.int aa1), .val (.int bb1), .val (.int aa2), .val (.int bb2), .val (.ref ar), .unset] [])
              refine Go.step (fun _ k => XS.iconst X72.here hx rfl (hb hby at_242) k) ?_
              show Go p e below _ T72 (mkF m 243 #[.val (.int i0), .val (.long i1), .second, .val (.long i2), .second, .val (.long i3), .second, .val (.int i4), .val (.int kk), .val (.int aa0), .val (.int bb0), .val (.int aa1), .val (.int bb1), .val (.int aa2), .val (.int bb2), .val (.ref ar), .unset] [(.int (1 : Int32))])
              refine Go.step (fun _ k => XS.goto X72.here hx rfl (pc0 := 243) (pc' := 247) rfl (hb hby at_243) (by decide) (by decide) k) ?_
              show Go p e below _ T72 (mkF m 247 #[.val (.int i0), .val (.long i1), .second, .val (.long i2), .second, .val (.long i3), .second, .val (.int i4), .val (.int kk), .val (.int aa0), .val (.int bb0), .val (.int aa1), .val (.int bb1), .val (.int aa2), .val (.int bb2), .val (.ref ar), .unset] [(.int (1 : Int32))])
              refine Go.step (fun _ k => XS.istore X72.here hx rfl (hb hby at_247) rfl (l' := #[.val (.int i0), .val (.long i1), .second, .val (.long i2), .second, .val (.long i3), .second, .val (.int i4), .val (.int kk), .val (.int aa0), .val (.int bb0), .val (.int aa1), .val (.int bb1), .val (.int aa2), .val (.int bb2), .val (.ref ar), .val (.int (1 : Int32))]) rfl k) ?_
              show Go p e below _ T72 (mkF m 249 #[.val (.int i0), .val (.long i1), .second, .val (.long i2), .second, .val (.long i3), .second, .val (.int i4), .val (.int kk), .val (.int aa0), .val (.int bb0), .val (.int aa1), .val (.int bb1), .val (.int aa2), .val (.int bb2), .val (.ref ar), .val (.int (1 : Int32))] [])
              refine Go.step (fun _ k => XS.aload X72.here hx rfl (hb hby at_249) rfl rfl k) ?_
              show Go p e below _ T72 (mkF m 251 #[.val (.int i0), .val (.long i1), .second, .val (.long i2), .second, .val (.long i3), .second, .val (.int i4), .val (.int kk), .val (.int aa0), .val (.int bb0), .val (.int aa1), .val (.int bb1), .val (.int aa2), .val (.int bb2), .val (.ref ar), .val (.int (1 : Int32))] [(.ref ar)])
              refine Go.step (fun _ k => XS.iload X72.here hx rfl (hb hby at_251) rfl k) ?_
              show Go p e below _ T72 (mkF m 253 #[.val (.int i0), .val (.long i1), .second, .val (.long i2), .second, .val (.long i3), .second, .val (.int i4), .val (.int kk), .val (.int aa0), .val (.int bb0), .val (.int aa1), .val (.int bb1), .val (.int aa2), .val (.int bb2), .val (.ref ar), .val (.int (1 : Int32))] [(.int i4), (.ref ar)])
              obtain ⟨_, _, ⟨T75, L75, k75, n75⟩, -, X75, ⟨Lc75, hQ75, l75, y75, z75⟩, st75⟩ := Jvm.LawKit.callS X72 hx (y := (⟨"com/example/seriate/seriate/engine/pattern/Counts", "contains", "([II)Z"⟩ : MethodName)) hown (mvT hZ (hw _ (List.mem_of_getElem? (i := 2) rfl))) (mvT hZ (hw _ (List.mem_of_getElem? (i := 3) rfl))) (mvT hZ (hw _ (List.mem_of_getElem? (i := 4) rfl))) (mvT hZ (hw _ (List.mem_of_getElem? (i := 5) rfl))) (by decide) (backOf (W := 0) (rmC3 l Z a0 hw [] ar i4 k61 aa0 bb0 aa1 bb1 aa2 bb2 h67 n0 Zn V_ar) hZ (hw _ (List.mem_of_getElem? (i := 5) rfl)) (hw _ (List.mem_of_getElem? (i := 4) rfl)) (by decide) (by decide)) (g := (mkF m 253 #[.val (.int i0), .val (.long i1), .second, .val (.long i2), .second, .val (.long i3), .second, .val (.int i4), .val (.int kk), .val (.int aa0), .val (.int bb0), .val (.int aa1), .val (.int bb1), .val (.int aa2), .val (.int bb2), .val (.ref ar), .val (.int (1 : Int32))] [(.int i4), (.ref ar)])) rfl (by rw [hml]; rfl) (argsL := [(.ref ar), (.int i4)]) (rest := []) (lenOf own_f36 rfl) rfl (by show 2 * 0 + _ ≤ _; exact Nat.le_of_eq rfl) (hb hby at_253) (fun _ _ => ⟨rfl, e72, (by dsimp only [Pt.cells, Pt.slots]; decide), (by dsimp only [Pt.cells, Pt.slots]; decide)⟩)
              dsimp only [Pt.U, Pt.locs, Pt.cells, Pt.slots] at X75 l75 y75 z75 st75 hQ75
              subst l75 y75 z75
              obtain ⟨rfl, N75q, e75⟩ := hQ75
              have N75 := Fr.app N72 N75q
              refine Go.step (st75) ?_
              show Go p e below _ T75 (mkF m 256 #[.val (.int i0), .val (.long i1), .second, .val (.long i2), .second, .val (.long i3), .second, .val (.int i4), .val (.int kk), .val (.int aa0), .val (.int bb0), .val (.int aa1), .val (.int bb1), .val (.int aa2), .val (.int bb2), .val (.ref ar), .val (.int (1 : Int32))] [(.int (own_c3 aa0 bb0 aa1 bb1 aa2 bb2 i4))])
              refine Go.step (fun _ k => XS.iload X75.here hx rfl (hb hby at_256) rfl k) ?_
              show Go p e below _ T75 (mkF m 258 #[.val (.int i0), .val (.long i1), .second, .val (.long i2), .second, .val (.long i3), .second, .val (.int i4), .val (.int kk), .val (.int aa0), .val (.int bb0), .val (.int aa1), .val (.int bb1), .val (.int aa2), .val (.int bb2), .val (.ref ar), .val (.int (1 : Int32))] [(.int (1 : Int32)), (.int (own_c3 aa0 bb0 aa1 bb1 aa2 bb2 i4))])
              have hfin : (own_c3 aa0 bb0 aa1 bb1 aa2 bb2 i4) = (1 : Int32) := by rw [own_l3 i4 hs.1 hs.2.1 hs.2.2.1 hs.2.2.2.1 hs.2.2.2.2]; simp [hc203_69, hc221_71, hc239_73]
              refine Go.step (fun _ k => XS.icmpNo X75.here hx rfl (hb hby at_258) rfl (teq hfin).2 k) ?_
              show Go p e below _ T75 (mkF m 261 #[.val (.int i0), .val (.long i1), .second, .val (.long i2), .second, .val (.long i3), .second, .val (.int i4), .val (.int kk), .val (.int aa0), .val (.int bb0), .val (.int aa1), .val (.int bb1), .val (.int aa2), .val (.int bb2), .val (.ref ar), .val (.int (1 : Int32))] [])
              refine Go.step (fun _ k => XS.iconst X75.here hx rfl (hb hby at_261) k) ?_
              show Go p e below _ T75 (mkF m 262 #[.val (.int i0), .val (.long i1), .second, .val (.long i2), .second, .val (.long i3), .second, .val (.int i4), .val (.int kk), .val (.int aa0), .val (.int bb0), .val (.int aa1), .val (.int bb1), .val (.int aa2), .val (.int bb2), .val (.ref ar), .val (.int (1 : Int32))] [(.int (1 : Int32))])
              refine Go.step (fun _ k => XS.goto X75.here hx rfl (pc0 := 262) (pc' := 266) rfl (hb hby at_262) (by decide) (by decide) k) ?_
              show Go p e below _ T75 (mkF m 266 #[.val (.int i0), .val (.long i1), .second, .val (.long i2), .second, .val (.long i3), .second, .val (.int i4), .val (.int kk), .val (.int aa0), .val (.int bb0), .val (.int aa1), .val (.int bb1), .val (.int aa2), .val (.int bb2), .val (.ref ar), .val (.int (1 : Int32))] [(.int (1 : Int32))])
              obtain ⟨fs, hr, hrun, hended, hW, hsame⟩ := X75.leave (v := some (.int (1 : Int32))) (fun h => by rw [Bd.returns] at h; cases h)
              refine Go.fin (retN X75 hx (t := .boolean) Bd.returns (by simp) (hb hby at_266) hr) hrun hended ?_
              refine ⟨_, _, rfl, ?_, ⟨_, rfl⟩, hW, hsame.mono (by decide) (by decide)⟩
              show Q0 Z i0 i1 i2 i3 i4 h0 n0 _ T75.heap _
              rw [e75]
              exact ⟨rfl, N75⟩
          · show Go p e below _ T70 (mkF m 221 #[.val (.int i0), .val (.long i1), .second, .val (.long i2), .second, .val (.long i3), .second, .val (.int i4), .val (.int kk), .val (.int aa0), .val (.int bb0), .val (.int aa1), .val (.int bb1), .val (.int aa2), .val (.int bb2), .val (.ref ar), .unset] [(.int (own_in aa1 bb1 i4))])
            refine Go.step (fun _ k => XS.ifYes X70.here hx rfl (pc0 := 221) (pc' := 242) rfl (hb hby at_221) rfl ((if0 _ _).trans (feq hc221_71).2) (by decide) (by decide) k) ?_
            show Go p e below _ T70 (mkF m 242 #[.val (.int i0), .val (.long i1), .second, .val (.long i2), .second, .val (.long i3), .second, .val (.int i4), .val (.int kk), .val (.int aa0), .val (.int bb0), .val (.int aa1), .val (.int bb1), .val (.int aa2), .val (.int bb2), .val (.ref ar), .unset] [])
            refine Go.step (fun _ k => XS.iconst X70.here hx rfl (hb hby at_242) k) ?_
            show Go p e below _ T70 (mkF m 243 #[.val (.int i0), .val (.long i1), .second, .val (.long i2), .second, .val (.long i3), .second, .val (.int i4), .val (.int kk), .val (.int aa0), .val (.int bb0), .val (.int aa1), .val (.int bb1), .val (.int aa2), .val (.int bb2), .val (.ref ar), .unset] [(.int (1 : Int32))])
            refine Go.step (fun _ k => XS.goto X70.here hx rfl (pc0 := 243) (pc' := 247) rfl (hb hby at_243) (by decide) (by decide) k) ?_
            show Go p e below _ T70 (mkF m 247 #[.val (.int i0), .val (.long i1), .second, .val (.long i2), .second, .val (.long i3), .second, .val (.int i4), .val (.int kk), .val (.int aa0), .val (.int bb0), .val (.int aa1), .val (.int bb1), .val (.int aa2), .val (.int bb2), .val (.ref ar), .unset] [(.int (1 : Int32))])
            refine Go.step (fun _ k => XS.istore X70.here hx rfl (hb hby at_247) rfl (l' := #[.val (.int i0), .val (.long i1), .second, .val (.long i2), .second, .val (.long i3), .second, .val (.int i4), .val (.int kk), .val (.int aa0), .val (.int bb0), .val (.int aa1), .val (.int bb1), .val (.int aa2), .val (.int bb2), .val (.ref ar), .val (.int (1 : Int32))]) rfl k) ?_
            show Go p e below _ T70 (mkF m 249 #[.val (.int i0), .val (.long i1), .second, .val (.long i2), .second, .val (.long i3), .second, .val (.int i4), .val (.int kk), .val (.int aa0), .val (.int bb0), .val (.int aa1), .val (.int bb1), .val (.int aa2), .val (.int bb2), .val (.ref ar), .val (.int (1 : Int32))] [])
            refine Go.step (fun _ k => XS.aload X70.here hx rfl (hb hby at_249) rfl rfl k) ?_
            show Go p e below _ T70 (mkF m 251 #[.val (.int i0), .val (.long i1), .second, .val (.long i2), .second, .val (.long i3), .second, .val (.int i4), .val (.int kk), .val (.int aa0), .val (.int bb0), .val (.int aa1), .val (.int bb1), .val (.int aa2), .val (.int bb2), .val (.ref ar), .val (.int (1 : Int32))] [(.ref ar)])
            refine Go.step (fun _ k => XS.iload X70.here hx rfl (hb hby at_251) rfl k) ?_
            show Go p e below _ T70 (mkF m 253 #[.val (.int i0), .val (.long i1), .second, .val (.long i2), .second, .val (.long i3), .second, .val (.int i4), .val (.int kk), .val (.int aa0), .val (.int bb0), .val (.int aa1), .val (.int bb1), .val (.int aa2), .val (.int bb2), .val (.ref ar), .val (.int (1 : Int32))] [(.int i4), (.ref ar)])
            obtain ⟨_, _, ⟨T76, L76, k76, n76⟩, -, X76, ⟨Lc76, hQ76, l76, y76, z76⟩, st76⟩ := Jvm.LawKit.callS X70 hx (y := (⟨"com/example/seriate/seriate/engine/pattern/Counts", "contains", "([II)Z"⟩ : MethodName)) hown (mvT hZ (hw _ (List.mem_of_getElem? (i := 2) rfl))) (mvT hZ (hw _ (List.mem_of_getElem? (i := 3) rfl))) (mvT hZ (hw _ (List.mem_of_getElem? (i := 4) rfl))) (mvT hZ (hw _ (List.mem_of_getElem? (i := 5) rfl))) (by decide) (backOf (W := 0) (rmC3 l Z a0 hw [] ar i4 k61 aa0 bb0 aa1 bb1 aa2 bb2 h67 n0 Zn V_ar) hZ (hw _ (List.mem_of_getElem? (i := 5) rfl)) (hw _ (List.mem_of_getElem? (i := 4) rfl)) (by decide) (by decide)) (g := (mkF m 253 #[.val (.int i0), .val (.long i1), .second, .val (.long i2), .second, .val (.long i3), .second, .val (.int i4), .val (.int kk), .val (.int aa0), .val (.int bb0), .val (.int aa1), .val (.int bb1), .val (.int aa2), .val (.int bb2), .val (.ref ar), .val (.int (1 : Int32))] [(.int i4), (.ref ar)])) rfl (by rw [hml]; rfl) (argsL := [(.ref ar), (.int i4)]) (rest := []) (lenOf own_f36 rfl) rfl (by show 2 * 0 + _ ≤ _; exact Nat.le_of_eq rfl) (hb hby at_253) (fun _ _ => ⟨rfl, e70, (by dsimp only [Pt.cells, Pt.slots]; decide), (by dsimp only [Pt.cells, Pt.slots]; decide)⟩)
            dsimp only [Pt.U, Pt.locs, Pt.cells, Pt.slots] at X76 l76 y76 z76 st76 hQ76
            subst l76 y76 z76
            obtain ⟨rfl, N76q, e76⟩ := hQ76
            have N76 := Fr.app N70 N76q
            refine Go.step (st76) ?_
            show Go p e below _ T76 (mkF m 256 #[.val (.int i0), .val (.long i1), .second, .val (.long i2), .second, .val (.long i3), .second, .val (.int i4), .val (.int kk), .val (.int aa0), .val (.int bb0), .val (.int aa1), .val (.int bb1), .val (.int aa2), .val (.int bb2), .val (.ref ar), .val (.int (1 : Int32))] [(.int (own_c3 aa0 bb0 aa1 bb1 aa2 bb2 i4))])
            refine Go.step (fun _ k => XS.iload X76.here hx rfl (hb hby at_256) rfl k) ?_
            show Go p e below _ T76 (mkF m 258 #[.val (.int i0), .val (.long i1), .second, .val (.long i2), .second, .val (.long i3), .second, .val (.int i4), .val (.int kk), .val (.int aa0), .val (.int bb0), .val (.int aa1), .val (.int bb1), .val (.int aa2), .val (.int bb2), .val (.ref ar), .val (.int (1 : Int32))] [(.int (1 : Int32)), (.int (own_c3 aa0 bb0 aa1 bb1 aa2 bb2 i4))])
            have hfin : (own_c3 aa0 bb0 aa1 bb1 aa2 bb2 i4) = (1 : Int32) := by rw [own_l3 i4 hs.1 hs.2.1 hs.2.2.1 hs.2.2.2.1 hs.2.2.2.2]; simp [hc203_69, hc221_71]
            refine Go.step (fun _ k => XS.icmpNo X76.here hx rfl (hb hby at_258) rfl (teq hfin).2 k) ?_
            show Go p e below _ T76 (mkF m 261 #[.val (.int i0), .val (.long i1), .second, .val (.long i2), .second, .val (.long i3), .second, .val (.int i4), .val (.int kk), .val (.int aa0), .val (.int bb0), .val (.int aa1), .val (.int bb1), .val (.int aa2), .val (.int bb2), .val (.ref ar), .val (.int (1 : Int32))] [])
            refine Go.step (fun _ k => XS.iconst X76.here hx rfl (hb hby at_261) k) ?_
            show Go p e below _ T76 (mkF m 262 #[.val (.int i0), .val (.long i1), .second, .val (.long i2), .second, .val (.long i3), .second, .val (.int i4), .val (.int kk), .val (.int aa0), .val (.int bb0), .val (.int aa1), .val (.int bb1), .val (.int aa2), .val (.int bb2), .val (.ref ar), .val (.int (1 : Int32))] [(.int (1 : Int32))])
            refine Go.step (fun _ k => XS.goto X76.here hx rfl (pc0 := 262) (pc' := 266) rfl (hb hby at_262) (by decide) (by decide) k) ?_
            show Go p e below _ T76 (mkF m 266 #[.val (.int i0), .val (.long i1), .second, .val (.long i2), .second, .val (.long i3), .second, .val (.int i4), .val (.int kk), .val (.int aa0), .val (.int bb0), .val (.int aa1), .val (.int bb1), .val (.int aa2), .val (.int bb2), .val (.ref ar), .val (.int (1 : Int32))] [(.int (1 : Int32))])
            obtain ⟨fs, hr, hrun, hended, hW, hsame⟩ := X76.leave (v := some (.int (1 : Int32))) (fun h => by rw [Bd.returns] at h; cases h)
            refine Go.fin (retN X76 hx (t := .boolean) Bd.returns (by simp) (hb hby at_266) hr) hrun hended ?_
            refine ⟨_, _, rfl, ?_, ⟨_, rfl⟩, hW, hsame.mono (by decide) (by decide)⟩
            show Q0 Z i0 i1 i2 i3 i4 h0 n0 _ T76.heap _
            rw [e76]
            exact ⟨rfl, N76⟩
        · show Go p e below _ T68 (mkF m 203 #[.val (.int i0), .val (.long i1), .second, .val (.long i2), .second, .val (.long i3), .second, .val (.int i4), .val (.int kk), .val (.int aa0), .val (.int bb0), .val (.int aa1), .val (.int bb1), .val (.int aa2), .val (.int bb2), .val (.ref ar), .unset] [(.int (own_in aa0 bb0 i4))])
          refine Go.step (fun _ k => XS.ifYes X68.here hx rfl (pc0 := 203) (pc' := 242) rfl (hb hby at_203) rfl ((if0 _ _).trans (feq hc203_69).2) (by decide) (by decide) k) ?_
          show Go p e below _ T68 (mkF m 242 #[.val (.int i0), .val (.long i1), .second, .val (.long i2), .second, .val (.long i3), .second, .val (.int i4), .val (.int kk), .val (.int aa0), .val (.int bb0), .val (.int aa1), .val (.int bb1), .val (.int aa2), .val (.int bb2), .val (.ref ar), .unset] [])
          refine Go.step (fun _ k => XS.iconst X68.here hx rfl (hb hby at_242) k) ?_
          show Go p e below _ T68 (mkF m 243 #[.val (.int i0), .val (.long i1), .second, .val (.long i2), .second, .val (.long i3), .second, .val (.int i4), .val (.int kk), .val (.int aa0), .val (.int bb0), .val (.int aa1), .val (.int bb1), .val (.int aa2), .val (.int bb2), .val (.ref ar), .unset] [(.int (1 : Int32))])
          refine Go.step (fun _ k => XS.goto X68.here hx rfl (pc0 := 243) (pc' := 247) rfl (hb hby at_243) (by decide) (by decide) k) ?_
          show Go p e below _ T68 (mkF m 247 #[.val (.int i0), .val (.long i1), .second, .val (.long i2), .second, .val (.long i3), .second, .val (.int i4), .val (.int kk), .val (.int aa0), .val (.int bb0), .val (.int aa1), .val (.int bb1), .val (.int aa2), .val (.int bb2), .val (.ref ar), .unset] [(.int (1 : Int32))])
          refine Go.step (fun _ k => XS.istore X68.here hx rfl (hb hby at_247) rfl (l' := #[.val (.int i0), .val (.long i1), .second, .val (.long i2), .second, .val (.long i3), .second, .val (.int i4), .val (.int kk), .val (.int aa0), .val (.int bb0), .val (.int aa1), .val (.int bb1), .val (.int aa2), .val (.int bb2), .val (.ref ar), .val (.int (1 : Int32))]) rfl k) ?_
          show Go p e below _ T68 (mkF m 249 #[.val (.int i0), .val (.long i1), .second, .val (.long i2), .second, .val (.long i3), .second, .val (.int i4), .val (.int kk), .val (.int aa0), .val (.int bb0), .val (.int aa1), .val (.int bb1), .val (.int aa2), .val (.int bb2), .val (.ref ar), .val (.int (1 : Int32))] [])
          refine Go.step (fun _ k => XS.aload X68.here hx rfl (hb hby at_249) rfl rfl k) ?_
          show Go p e below _ T68 (mkF m 251 #[.val (.int i0), .val (.long i1), .second, .val (.long i2), .second, .val (.long i3), .second, .val (.int i4), .val (.int kk), .val (.int aa0), .val (.int bb0), .val (.int aa1), .val (.int bb1), .val (.int aa2), .val (.int bb2), .val (.ref ar), .val (.int (1 : Int32))] [(.ref ar)])
          refine Go.step (fun _ k => XS.iload X68.here hx rfl (hb hby at_251) rfl k) ?_
          show Go p e below _ T68 (mkF m 253 #[.val (.int i0), .val (.long i1), .second, .val (.long i2), .second, .val (.long i3), .second, .val (.int i4), .val (.int kk), .val (.int aa0), .val (.int bb0), .val (.int aa1), .val (.int bb1), .val (.int aa2), .val (.int bb2), .val (.ref ar), .val (.int (1 : Int32))] [(.int i4), (.ref ar)])
          obtain ⟨_, _, ⟨T77, L77, k77, n77⟩, -, X77, ⟨Lc77, hQ77, l77, y77, z77⟩, st77⟩ := Jvm.LawKit.callS X68 hx (y := (⟨"com/example/seriate/seriate/engine/pattern/Counts", "contains", "([II)Z"⟩ : MethodName)) hown (mvT hZ (hw _ (List.mem_of_getElem? (i := 2) rfl))) (mvT hZ (hw _ (List.mem_of_getElem? (i := 3) rfl))) (mvT hZ (hw _ (List.mem_of_getElem? (i := 4) rfl))) (mvT hZ (hw _ (List.mem_of_getElem? (i := 5) rfl))) (by decide) (backOf (W := 0) (rmC3 l Z a0 hw [] ar i4 k61 aa0 bb0 aa1 bb1 aa2 bb2 h67 n0 Zn V_ar) hZ (hw _ (List.mem_of_getElem? (i := 5) rfl)) (hw _ (List.mem_of_getElem? (i := 4) rfl)) (by decide) (by decide)) (g := (mkF m 253 #[.val (.int i0), .val (.long i1), .second, .val (.long i2), .second, .val (.long i3), .second, .val (.int i4), .val (.int kk), .val (.int aa0), .val (.int bb0), .val (.int aa1), .val (.int bb1), .val (.int aa2), .val (.int bb2), .val (.ref ar), .val (.int (1 : Int32))] [(.int i4), (.ref ar)])) rfl (by rw [hml]; rfl) (argsL := [(.ref ar), (.int i4)]) (rest := []) (lenOf own_f36 rfl) rfl (by show 2 * 0 + _ ≤ _; exact Nat.le_of_eq rfl) (hb hby at_253) (fun _ _ => ⟨rfl, e68, (by dsimp only [Pt.cells, Pt.slots]; decide), (by dsimp only [Pt.cells, Pt.slots]; decide)⟩)
          dsimp only [Pt.U, Pt.locs, Pt.cells, Pt.slots] at X77 l77 y77 z77 st77 hQ77
          subst l77 y77 z77
          obtain ⟨rfl, N77q, e77⟩ := hQ77
          have N77 := Fr.app N68 N77q
          refine Go.step (st77) ?_
          show Go p e below _ T77 (mkF m 256 #[.val (.int i0), .val (.long i1), .second, .val (.long i2), .second, .val (.long i3), .second, .val (.int i4), .val (.int kk), .val (.int aa0), .val (.int bb0), .val (.int aa1), .val (.int bb1), .val (.int aa2), .val (.int bb2), .val (.ref ar), .val (.int (1 : Int32))] [(.int (own_c3 aa0 bb0 aa1 bb1 aa2 bb2 i4))])
          refine Go.step (fun _ k => XS.iload X77.here hx rfl (hb hby at_256) rfl k) ?_
          show Go p e below _ T77 (mkF m 258 #[.val (.int i0), .val (.long i1), .second, .val (.long i2), .second, .val (.long i3), .second, .val (.int i4), .val (.int kk), .val (.int aa0), .val (.int bb0), .val (.int aa1), .val (.int bb1), .val (.int aa2), .val (.int bb2), .val (.ref ar), .val (.int (1 : Int32))] [(.int (1 : Int32)), (.int (own_c3 aa0 bb0 aa1 bb1 aa2 bb2 i4))])
          have hfin : (own_c3 aa0 bb0 aa1 bb1 aa2 bb2 i4) = (1 : Int32) := by rw [own_l3 i4 hs.1 hs.2.1 hs.2.2.1 hs.2.2.2.1 hs.2.2.2.2]; simp [hc203_69]
          refine Go.step (fun _ k => XS.icmpNo X77.here hx rfl (hb hby at_258) rfl (teq hfin).2 k) ?_
          show Go p e below _ T77 (mkF m 261 #[.val (.int i0), .val (.long i1), .second, .val (.long i2), .second, .val (.long i3), .second, .val (.int i4), .val (.int kk), .val (.int aa0), .val (.int bb0), .val (.int aa1), .val (.int bb1), .val (.int aa2), .val (.int bb2), .val (.ref ar), .val (.int (1 : Int32))] [])
          refine Go.step (fun _ k => XS.iconst X77.here hx rfl (hb hby at_261) k) ?_
          show Go p e below _ T77 (mkF m 262 #[.val (.int i0), .val (.long i1), .second, .val (.long i2), .second, .val (.long i3), .second, .val (.int i4), .val (.int kk), .val (.int aa0), .val (.int bb0), .val (.int aa1), .val (.int bb1), .val (.int aa2), .val (.int bb2), .val (.ref ar), .val (.int (1 : Int32))] [(.int (1 : Int32))])
          refine Go.step (fun _ k => XS.goto X77.here hx rfl (pc0 := 262) (pc' := 266) rfl (hb hby at_262) (by decide) (by decide) k) ?_
          show Go p e below _ T77 (mkF m 266 #[.val (.int i0), .val (.long i1), .second, .val (.long i2), .second, .val (.long i3), .second, .val (.int i4), .val (.int kk), .val (.int aa0), .val (.int bb0), .val (.int aa1), .val (.int bb1), .val (.int aa2), .val (.int bb2), .val (.ref ar), .val (.int (1 : Int32))] [(.int (1 : Int32))])
          obtain ⟨fs, hr, hrun, hended, hW, hsame⟩ := X77.leave (v := some (.int (1 : Int32))) (fun h => by rw [Bd.returns] at h; cases h)
          refine Go.fin (retN X77 hx (t := .boolean) Bd.returns (by simp) (hb hby at_266) hr) hrun hended ?_
          refine ⟨_, _, rfl, ?_, ⟨_, rfl⟩, hW, hsame.mono (by decide) (by decide)⟩
          show Q0 Z i0 i1 i2 i3 i4 h0 n0 _ T77.heap _
          rw [e77]
          exact ⟨rfl, N77⟩
set_option maxRecDepth 65536 in
set_option maxHeartbeats 40000000 in
theorem comes_1 {Post : Tables → Env → Array Value → State → Outcome → State → Prop} (hpost : ∀ tb e args s v u, (limb_1_1.after args s (.returned v) u = true ∧ limb_1_2.after args s (.returned v) u = true ∧ True) → FrameEnd s (.returned v) u (Jvm.fieldLocs frame_1_writes args s ++ Jvm.arrayLocs frame_1_arrays args s ++ Jvm.staticLocs frame_1_statics s) 16 128 → Post tb e args s (.returned v) u) :
    ArmFor flags0 classFile x code maxLocals ret World_1 tables_1 room_1 Calls_1 rest_1 Pre_1 Post := by
  intro l hfl _ _ p e ha hc hk s m args below hf hA hF happ hP
  obtain ⟨hcalls, hrest, hpre⟩ := hP
  obtain ⟨-, -, -, hnamed, -, -, -, hat⟩ := (Spec.applies_iff hf).mp happ
  obtain ⟨hg, hn⟩ := and_e (Cond.before_iff.mp (show (Jvm.Cond.and given_1 narrow_1).before args s = true from hpre))
  obtain ⟨hg1, hg2⟩ := and_e hg
  obtain ⟨hg3, hg4⟩ := and_e hg2
  obtain ⟨hg5, hg6⟩ := and_e hg4
  obtain ⟨hg7, hg8⟩ := and_e hg6
  obtain ⟨hg9, hg10⟩ := and_e hg8
  obtain ⟨w0, w1, w2, w3, w4, rfl⟩ : ∃ w0 w1 w2 w3 w4 : Value, args = #[w0, w1, w2, w3, w4] := by
    have hs : args.size = 5 := by simpa [Cond.value, given_1] using hg1
    obtain ⟨L⟩ := args
    match L, hs with
    | [w0, w1, w2, w3, w4], _ => exact ⟨w0, w1, w2, w3, w4, rfl⟩
  have hw := fun d (hd : d ∈ tables_1) => atoms_spec (ws := Jvm.Cond.code x code maxLocals ret :: tables_1) hat d (List.mem_cons_of_mem _ hd)
  have hfit : Fit s := fun {y c} hc i hi => by
    obtain ⟨ha, rfl⟩ := Array.getElem?_eq_some_iff.mp hc
    have q := List.all_eq_true.mp ((Array.all_eq_true_iff_forall_mem.mp hF) _ (Array.getElem_mem ha)) i (List.mem_range.mpr hi)
    simpa [Array.getElem?_eq_getElem hi] using q
  obtain ⟨i0, ei0⟩ := is_v hg3
  obtain rfl : w0 = (.int i0) := Option.some.inj ei0
  obtain ⟨i1, ei1⟩ := isL_v hg5
  obtain rfl : w1 = (.long i1) := Option.some.inj ei1
  obtain ⟨i2, ei2⟩ := isL_v hg7
  obtain rfl : w2 = (.long i2) := Option.some.inj ei2
  obtain ⟨i3, ei3⟩ := isL_v hg9
  obtain rfl : w3 = (.long i3) := Option.some.inj ei3
  obtain ⟨i4, ei4⟩ := is_v hg10
  obtain rfl : w4 = (.int i4) := Option.some.inj ei4
  obtain ⟨n, o, h1, h2, h3, _, L, rfl, ⟨rfl, N⟩, hq⟩ := rm0 l s _ hw tables_1 i0 i1 i2 i3 i4 s.heap s.heap.size (Nat.le_refl _)  p e ha hc hk s m _ below hf ((Spec.applies_iff_loose hf).mp happ).1 ⟨rfl, State.Warmed39.refl s, rfl⟩ trivial
  refine ⟨n, _, h1, h2, h3, hpost _ _ _ _ _ _ ⟨Cond.after_iff.mpr rfl, Cond.after_iff.mpr (eq_i res_at (Term.int_eval (1)) rfl), trivial⟩ ⟨hq.1, hq.2.1, (hq.2.2.sift fun y hy => Or.inr (N y hy)).mono (by decide) (by decide)⟩⟩
theorem main_1_1 : Claimed_1_1 := comes_1 fun _ _ _ _ _ _ h hF => ⟨h.1, hF⟩
theorem main_1_2 : Claimed_1_2 := comes_1 fun _ _ _ _ _ _ h hF => ⟨h.2.1, hF⟩
end Jvm.Pilot.@@N@@
namespace Jvm.Pilot.@@N@@
open Jvm Jvm.ClassFile Sem Op Lib Jvm.Free Jvm.Stand Jvm.Pilot.@@N@@.Jvm.D
/-! MADE BY PROGRAM (witnessworld.py) out of the Statement's table words and the real class files: 9 classes; the members and pool entries that the words name. The judged class is class 1, her method 2. -/
namespace start1
open Jvm.ClassFile
def u (s : String) : CpInfo := .utf8 (stringToUtf16 s)
/-- a pool by its gaps: so many unusable entries, then the entry; so many at the end -/
def gap : Nat → List CpInfo → List CpInfo
  | 0, r => r
  | n + 1, r => .unusable :: gap n r
def poolList (es : List (Nat × CpInfo)) (last : Nat) : List CpInfo := es.foldr (fun e r => gap e.1 (e.2 :: r)) (gap last [])
def pool (es : List (Nat × CpInfo)) (last : Nat) : Array CpInfo := ⟨poolList es last⟩
def fileOf (pool : Array CpInfo) (this : Nat) (attrs : Array Attribute := #[]) (ms : Array MethodInfo := #[]) (fl : Nat := 33) (sup : Nat := 0) (ifs : Array Nat := #[]) (fds : Array FieldInfo := #[]) : ClassFile where
  minorVersion := 0
  majorVersion := 65
  constantPool := pool
  accessFlags := fl
  thisClass := this
  superClass := sup
  interfaces := ifs
  fields := fds
  methods := ms
  attributes := attrs
def plain (name : String) (sup : Option ClassId) : Class where
  name := name
  kind := .ordinary
  loader := none
  accessFlags := 33
  super := sup
  interfaces := #[]
  cf := none
  fields := #[]
  methods := #[]
  instanceTypes := #[]
  staticTypes := #[]
  resolved := #[]
  callSites := []
  init := .initialized
  statics := none
  mirror := none

def pool0 : Array CpInfo := pool [(5, u "<init>"), (0, u "()V"), (1, .class_ 10), (1, u "java/lang/Object")] 113

def k0m0 : Method := { name := "<init>", desc := "()V", sig := { parameters := [], returnType := none }, accessFlags := 1, code := none }
/-- java/lang/Object -/
def k0 : Class := { plain "java/lang/Object" none with
  accessFlags := 33
  interfaces := #[]
  cf := some (fileOf pool0 8 #[] #[{ accessFlags := 1, nameIndex := 5, descriptorIndex := 6, attributes := #[] }] 33 0 #[] #[])
  fields := #[]
  methods := #[k0m0]
  instanceTypes := #[]
  staticTypes := #[]
  resolved := Array.replicate 124 none
  statics := none }

def pool1 : Array CpInfo := pool [(2, .class_ 4), (1, u "java/lang/Object"), (0, u "<init>"), (0, u "()V"), (0, .long 268435455), (1, .methodref 10 11), (0, .class_ 12), (0, .nameAndType 13 14), (0, u "com/example/seriate/seriate/engine/pattern/CountsContainsPinLaw"), (0, u "in"), (0, u "(III)Z"), (0, .methodref 16 17), (0, .class_ 18), (0, .nameAndType 19 20), (0, u "com/example/seriate/seriate/engine/pattern/Counts"), (0, u "contains"), (0, u "([II)Z"), (3, u "law"), (0, u "(IJJJI)Z")] 4

def k1m0 : Method := { name := "<init>", desc := "()V", sig := { parameters := [], returnType := none }, accessFlags := 2, code := none }
def k1c1 : Code := { maxStack := 2, maxLocals := 3, code := method_2_code, exceptionTable := #[], attributes := #[] }
def k1m1 : Method := { name := "in", desc := "(III)Z", sig := { parameters := [.int, .int, .int], returnType := some .boolean }, accessFlags := 10, code := some k1c1 }
def k1c2 : Code := { maxStack := 5, maxLocals := 17, code := code, exceptionTable := #[], attributes := #[] }
def k1m2 : Method := { name := "law", desc := "(IJJJI)Z", sig := { parameters := [.int, .long, .long, .long, .int], returnType := some .boolean }, accessFlags := 9, code := some k1c2 }
/-- com/example/seriate/seriate/engine/pattern/CountsContainsPinLaw -/
def k1 : Class := { plain "com/example/seriate/seriate/engine/pattern/CountsContainsPinLaw" (some 0) with
  accessFlags := 49
  interfaces := #[]
  cf := some (fileOf pool1 10 #[] #[{ accessFlags := 2, nameIndex := 5, descriptorIndex := 6, attributes := #[] }, { accessFlags := 10, nameIndex := 13, descriptorIndex := 14, attributes := #[] }, { accessFlags := 9, nameIndex := 24, descriptorIndex := 25, attributes := #[] }] 49 2 #[] #[])
  fields := #[]
  methods := #[k1m0, k1m1, k1m2]
  instanceTypes := #[]
  staticTypes := #[]
  resolved := Array.replicate 30 none
  statics := none }

def pool2 : Array CpInfo := pool [(2, .class_ 4), (1, u "java/lang/Object"), (0, u "<init>"), (0, u "()V"), (1, .class_ 10), (1, u "com/example/seriate/seriate/engine/pattern/Counts"), (0, u "NONE"), (0, u "[I"), (2, u "ZERO"), (30, u "contains"), (0, u "([II)Z")] 8

def k2m0 : Method := { name := "<init>", desc := "()V", sig := { parameters := [], returnType := none }, accessFlags := 2, code := none }
def k2c1 : Code := { maxStack := 4, maxLocals := 3, code := prog_66_method_3_code, exceptionTable := #[], attributes := #[] }
def k2m1 : Method := { name := "contains", desc := "([II)Z", sig := { parameters := [(.array .int), .int], returnType := some .boolean }, accessFlags := 8, code := some k2c1 }
/-- com/example/seriate/seriate/engine/pattern/Counts -/
def k2 : Class := { plain "com/example/seriate/seriate/engine/pattern/Counts" (some 0) with
  accessFlags := 48
  interfaces := #[]
  cf := some (fileOf pool2 8 #[] #[{ accessFlags := 2, nameIndex := 5, descriptorIndex := 6, attributes := #[] }, { accessFlags := 8, nameIndex := 46, descriptorIndex := 47, attributes := #[] }] 48 2 #[] #[{ accessFlags := 24, nameIndex := 11, descriptorIndex := 12, attributes := #[] }, { accessFlags := 24, nameIndex := 15, descriptorIndex := 12, attributes := #[] }])
  fields := #[{ name := "NONE", type := (.array .int), accessFlags := 24, slot := 0, constantValue := 0 }, { name := "ZERO", type := (.array .int), accessFlags := 24, slot := 1, constantValue := 0 }]
  methods := #[k2m0, k2m1]
  instanceTypes := #[]
  staticTypes := #[(.array .int), (.array .int)]
  resolved := Array.replicate 56 none
  statics := none }

def pool3 : Array CpInfo := pool [(1, u "java/lang/Cloneable"), (0, .class_ 1), (0, u "java/lang/Object"), (0, .class_ 3)] 3

/-- java/lang/Cloneable -/
def k3 : Class := { plain "java/lang/Cloneable" (some 0) with
  accessFlags := 1537
  interfaces := #[]
  cf := some (fileOf pool3 2 #[] #[] 1537 4 #[] #[])
  fields := #[]
  methods := #[]
  instanceTypes := #[]
  staticTypes := #[]
  resolved := Array.replicate 8 none
  statics := none }

def pool4 : Array CpInfo := pool [(1, u "java/io/Serializable"), (0, .class_ 1), (0, u "java/lang/Object"), (0, .class_ 3)] 3

/-- java/io/Serializable -/
def k4 : Class := { plain "java/io/Serializable" (some 0) with
  accessFlags := 1537
  interfaces := #[]
  cf := some (fileOf pool4 2 #[] #[] 1537 4 #[] #[])
  fields := #[]
  methods := #[]
  instanceTypes := #[]
  staticTypes := #[]
  resolved := Array.replicate 8 none
  statics := none }

/-- the primitive byte -/
def k5 : Class := { plain "byte" none with kind := .primitive 'B', accessFlags := 0x411 }
/-- [B -/
def k6 : Class := { plain "[B" (some 0) with kind := .array 5 .byte, interfaces := #[3, 4], accessFlags := 1041 }

/-- the primitive int -/
def k7 : Class := { plain "int" none with kind := .primitive 'I', accessFlags := 0x411 }
/-- [I -/
def k8 : Class := { plain "[I" (some 0) with kind := .array 7 .int, interfaces := #[3, 4], accessFlags := 1041 }

def heap : Heap := #[]
def classes : Array Class := #[k0, k1, k2, k3, k4, k5, k6, k7, k8]
def interned : List (Array UInt16 × Addr) := []
def slotsUsed : Nat := 0
def theMethod : MethodId := ⟨1, 2⟩
def args0 : Array Value := #[.int 5, .long 7, .long 1, .long 2, .int 9]
def aboutOver (below : List Frame) : State where
  vm := { classes := classes, interned := interned.toArray }
  heap := heap
  slotsUsed := slotsUsed
  threads := #[{ frames := .invoking theMethod args0 :: below }]
def below0 : List Frame := [.native { method := ⟨0, 0⟩, args := #[] }]
def about1 : State := aboutOver below0
def p0 : Program := .bare "" "" ""
def e0 : Env := launch0.env 0 0 0
theorem w_frames : about1.frames = Frame.invoking theMethod args0 :: below0 := rfl
set_option maxRecDepth 65536 in
theorem w_args : argsFit about1.vm theMethod args0 = true := by decide +kernel
set_option maxRecDepth 65536 in
theorem w_heap : heapFits about1 = true := by decide +kernel
set_option maxRecDepth 65536 in
theorem w_runnable : about1.curStatus? = some .runnable := by decide +kernel
set_option maxRecDepth 65536 in
theorem w_alone : about1.alone = true := by decide +kernel
set_option maxRecDepth 65536 in
theorem w_named : about1.methodNamed? x = some theMethod := by decide +kernel
set_option maxRecDepth 65536 in
theorem w_hears : about1.hears theMethod below0 = true := by decide +kernel
set_option maxRecDepth 65536 in
theorem w_ripe : about1.ripe theMethod args0 below0 = true := by decide +kernel
theorem w_running : about1.status = .running := rfl
set_option maxRecDepth 65536 in
theorem w_room : about1.hasRoom e0.platform room_1 = true :=
  launch0.hasRoom_least _ room_1 (by decide +kernel) (by decide +kernel) (by decide +kernel) (by decide +kernel) (by decide +kernel) (by decide +kernel)
theorem allAtoms_all (ts : List Jvm.Cond) (a : Array Jvm.Value) (st : Jvm.State) : (allAtoms ts).before a st = ts.all (fun c => c.before a st) := by
  induction ts with
  | nil => rfl
  | cons c t ih =>
    show (Jvm.Cond.and c (allAtoms t)).before a st = _
    rw [Jvm.Cond.before_and, ih, List.all_cons]
def words1 : List Jvm.Cond := Jvm.Cond.code x code maxLocals ret :: tables_1
/-- a 'code' word, met by the world's own term for the bytes: nothing is compared byte by byte -/
theorem code_word {y : MethodName} {bytes : ByteArray} {mx : Nat} {rt : Option FieldType} {a : Array Value} {s : State} {m : MethodId} {meth : Method} {c : Code} (h1 : s.methodNamed? y = some m) (h2 : s.vm.method? m = some meth) (h3 : meth.code = some c) (h4 : c.code = bytes)
    (h5 : (c.maxLocals == mx && c.exceptionTable.isEmpty && decide (c.maxStack ≤ mostOperands) && decide (meth.sig.returnType = rt) && !meth.locks && decide (parseMethodDescriptor y.desc = some meth.sig)) = true) : (Jvm.Cond.code y bytes mx rt).before a s = true := by
  simp only [Bool.and_eq_true, beq_iff_eq, Bool.not_eq_true', decide_eq_true_eq] at h5
  obtain ⟨⟨⟨⟨⟨g1, g2⟩, g3⟩, g4⟩, g5⟩, g6⟩ := h5
  simp [Cond.before, Cond.holds, Cond.value, h1, h2, h3, h4, g1, g2, g3, g4, g5, g6]
def isCode : Jvm.Cond → Bool
  | .code _ _ _ _ => true
  | _ => false
theorem all_split {L : List Jvm.Cond} {P : Jvm.Cond → Bool} (h1 : L.all (fun c => isCode c || P c) = true) (h2 : ∀ c ∈ L.filter isCode, P c = true) : L.all P = true := by
  refine List.all_eq_true.mpr fun c hc => ?_
  have h := List.all_eq_true.mp h1 c hc
  rcases Bool.eq_false_or_eq_true (isCode c) with hi | hi
  · exact h2 c (List.mem_filter.mpr ⟨hc, hi⟩)
  · simpa [hi] using h
set_option maxRecDepth 65536 in
theorem w_c0 : (Jvm.Cond.code x code maxLocals ret).before args0 about1 = true := code_word (m := ⟨1, 2⟩) (meth := k1m2) (c := k1c2) (by decide +kernel) rfl rfl rfl (by decide +kernel)
set_option maxRecDepth 65536 in
theorem w_c1 : (Jvm.Cond.code ({ cls := "com/example/seriate/seriate/engine/pattern/Counts", name := "contains", desc := "([II)Z" } : Jvm.MethodName) prog_66_method_3_code (3 : Nat) (Option.some Jvm.ClassFile.FieldType.boolean)).before args0 about1 = true := code_word (m := ⟨2, 1⟩) (meth := k2m1) (c := k2c1) (by decide +kernel) rfl rfl rfl (by decide +kernel)
set_option maxRecDepth 65536 in
theorem w_c2 : (Jvm.Cond.code ({ cls := "com/example/seriate/seriate/engine/pattern/CountsContainsPinLaw", name := "in", desc := "(III)Z" } : Jvm.MethodName) method_2_code (3 : Nat) (Option.some Jvm.ClassFile.FieldType.boolean)).before args0 about1 = true := code_word (m := ⟨1, 1⟩) (meth := k1m1) (c := k1c1) (by decide +kernel) rfl rfl rfl (by decide +kernel)
def codes1 : List Jvm.Cond := [Jvm.Cond.code x code maxLocals ret, Jvm.Cond.code ({ cls := "com/example/seriate/seriate/engine/pattern/Counts", name := "contains", desc := "([II)Z" } : Jvm.MethodName) prog_66_method_3_code (3 : Nat) (Option.some Jvm.ClassFile.FieldType.boolean), Jvm.Cond.code ({ cls := "com/example/seriate/seriate/engine/pattern/CountsContainsPinLaw", name := "in", desc := "(III)Z" } : Jvm.MethodName) method_2_code (3 : Nat) (Option.some Jvm.ClassFile.FieldType.boolean)]
set_option maxRecDepth 65536 in
theorem codes_eq : words1.filter isCode = codes1 := rfl
theorem w_codes : ∀ c ∈ words1.filter isCode, c.before args0 about1 = true := by
  rw [codes_eq]
  intro c hc
  simp only [codes1, List.mem_cons, List.not_mem_nil, or_false] at hc
  rcases hc with rfl | rfl | rfl
  · exact w_c0
  · exact w_c1
  · exact w_c2
set_option maxRecDepth 65536 in
theorem w_t1 : words1.all (fun c => isCode c || c.before args0 about1) = true := by decide +kernel
theorem w_tables : (allAtoms (Jvm.Cond.code x code maxLocals ret :: tables_1)).before args0 about1 = true := by
  rw [allAtoms_all]
  show words1.all (fun c => c.before args0 about1) = true
  refine all_split ?_ w_codes
  rw [w_t1]
set_option maxRecDepth 65536 in
theorem w_case : (Jvm.Cond.and given_1 narrow_1).before args0 about1 = true := by decide +kernel
theorem w_applies : (headSpec (Jvm.Cond.code x code maxLocals ret :: tables_1) room_1).applies x e0.platform about1 = true :=
  (Spec.applies_iff w_frames).mpr ⟨w_running, w_runnable, w_alone, w_named, w_hears, w_ripe, w_room, w_tables⟩
theorem atStart : AtStart classFile x code maxLocals ret World_1 tables_1 room_1 Calls_1 rest_1 Pre_1 launch0 p0 e0 about1 theMethod args0 below0 :=
  ⟨lists_1, trivial, launch0.admits_env _ _ _, launch0.least_env, fairChoices_fair.cas, fairChoices_fair.clock, w_frames, w_args, w_heap, w_applies, trivial, trivial, w_case⟩
end start1
theorem witness_1 : WitnessClaimed_1 := ⟨start1.p0, start1.e0, start1.about1, start1.theMethod, start1.args0, start1.below0, start1.atStart⟩
end Jvm.Pilot.@@N@@
