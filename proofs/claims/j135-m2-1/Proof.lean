import JvmDerived
import JvmDerived.Pilot.@@N@@Statement
import JvmDerived.Pilot.@@N@@Code
set_option linter.unusedVariables false
set_option linter.unusedSimpArgs false
@@BLOCK:NumsL.lean.txt@@
namespace Jvm.RoadKit
open Sem ClassFile Op Lib Jvm.Stand Jvm.Free Jvm.LawKit
/-- from the frame f over T the run ends as R says -/
def Go (p : Program) (e : Env) (below : List Frame) (R : State → Outcome → Prop) (T : State) (f : JFrame) : Prop := ∃ s₂ o, Steps p.tables e below (T.setTop f) s₂ ∧ s₂.status = .running ∧ Ended s₂ below o ∧ R s₂ o
section New
variable {p : Program} {l : Launch} {e : Env} {R : Room} {s : State} {m : MethodId} {args : Array Value} {below : List Frame} {meth : Method} {c : Code} {T T' : State} {locs : List Loc} {cells slots : Nat} {K : State → Outcome → Prop} {f f' : JFrame}
theorem Go.start (q : f = f') (k : Go p e below K T f') : ∃ s₂ o, Steps p.tables e below (T.setTop f) s₂ ∧ s₂.status = .running ∧ Ended s₂ below o ∧ K s₂ o := q ▸ k
theorem Go.step (h : ∀ t, Steps p.tables e below (T'.setTop f') t → Steps p.tables e below (T.setTop f) t) (k : Go p e below K T' f') : Go p e below K T f := by
  obtain ⟨s₂, o, h1, h2⟩ := k
  exact ⟨s₂, o, h _ h1, h2⟩
theorem Go.fin {S2 : State} {o : Outcome} (hs : Steps p.tables e below (T.setTop f) S2) (h1 : S2.status = .running) (h2 : Ended S2 below o) (h3 : K S2 o) : Go p e below K T f := ⟨_, _, hs, h1, h2, h3⟩
theorem retI (X : Stand p l e R s m args below meth c T locs cells slots) (hx : p.tables.exec = Jvm.exec) {pc : Nat} {Ls : Array Slot} {z : Int32} {rest : List Value} (hret : meth.sig.returnType = some .int) (hd : decode c.code pc = .ok (.ireturn, 1)) {fs : List Frame}
    (hl : ∀ (f : JFrame) (acts : List Action), f.method = m → f.locked = none → f.entered = [] → (doReturn e (T.setTop f) acts (some (.int z))).1 = T.setFrames fs) : Steps p.tables e below (T.setTop (mkF m pc Ls (.int z :: rest))) (T.setFrames fs) := by
  have hm' : T.vm.method? m = some meth := X.method'
  have hn : narrow .int (.int z) = .int z := rfl
  show Steps p.tables e below (T.setTop { method := m, pc := pc, locals := Ls, stack := _ :: rest, locked := none }) _
  jvm_step X.here [X.here.top, hx, hd, hm', hret, hn]
  first | (intro acts; rw [hl _ acts rfl rfl rfl]) | rw [hl _ _ rfl rfl rfl]
  exact Steps.refl _
end New
end Jvm.RoadKit
namespace Jvm.Pilot.@@N@@
open Jvm Jvm.ClassFile Sem Op Lib Jvm.Free Jvm.Stand Jvm.LawKit Jvm.RoadKit Bundle Jvm.Pilot.@@N@@.Jvm.D
def own_min (a b : Int32) : Int32 := if b < a then b else a
def own_max (a b : Int32) : Int32 := if a < b then b else a
def own_eq (f t g u : Int32) : Int32 := if g = f then (if u = t then 1 else 0) else 0
theorem own_eq_ne {f t g u : Int32} (h : ¬ own_eq f t g u = 0) : ((31 : Int32) * f + t) = ((31 : Int32) * g + u) := by
  unfold own_eq at h
  by_cases h1 : g = f
  · by_cases h2 : u = t
    · rw [h1, h2]
    · simp [h1, h2] at h
  · simp [h1] at h
theorem own_ok (x y : Int32) : ¬ own_min (x &&& (2147483647 : Int32)) (y &&& (2147483647 : Int32)) < 0 ∧ ¬ own_max (x &&& (2147483647 : Int32)) (y &&& (2147483647 : Int32)) < own_min (x &&& (2147483647 : Int32)) (y &&& (2147483647 : Int32)) := by
  have hx := Jvm.Kit.i32_mask x 2147483647 (k := 31) (by decide) (by decide)
  have hy := Jvm.Kit.i32_mask y 2147483647 (k := 31) (by decide) (by decide)
  generalize (x &&& (2147483647 : Int32)) = a at *
  generalize (y &&& (2147483647 : Int32)) = b at *
  have z0 : (0 : Int32).toInt = 0 := by decide
  unfold own_min own_max
  simp only [Int32.lt_iff_toInt_lt, z0]
  by_cases h1 : a.toInt < b.toInt
  · have h2 : ¬ b.toInt < a.toInt := by omega
    simp only [h1, h2, if_true, if_false]; exact ⟨by omega, not_false⟩
  · by_cases h2 : b.toInt < a.toInt
    · simp only [h1, h2, if_true, if_false]; exact ⟨by omega, not_false⟩
    · simp only [h1, h2, if_false]; exact ⟨by omega, by omega⟩

theorem own_f0 : decode jdk_29_method_69_code 0 = .ok (.iload_n 0, 1) := by decide +kernel
theorem own_f1 : decode jdk_29_method_69_code 1 = .ok (.iload_n 1, 1) := by decide +kernel
theorem own_f2 : decode jdk_29_method_69_code 2 = .ok (.if_icmp .gt 7, 3) := by decide +kernel
theorem own_f3 : decode jdk_29_method_69_code 9 = .ok (.iload_n 1, 1) := by decide +kernel
theorem own_f4 : decode jdk_29_method_69_code 10 = .ok (.ireturn, 1) := by decide +kernel
theorem own_f5 : decode jdk_29_method_69_code 5 = .ok (.iload_n 0, 1) := by decide +kernel
theorem own_f6 : decode jdk_29_method_69_code 6 = .ok (.goto 4, 3) := by decide +kernel
theorem own_ef_Min (m : MethodId) (p1 : Int32) (p2 : Int32) : entryFrame m #[(.int p1), (.int p2)] 2 = mkF m 0 #[.val (.int p1), .val (.int p2)] [] := by first | (simp [entryFrame, mkF, argsToLocals, Value.category]; done) | rfl
def QMin (Z : State) (p1 : Int32) (p2 : Int32) (h0 : Heap) (n0 : Nat) (v : Option Value) (h : Heap) (L : List Loc) : Prop := v = some (.int (own_min p1 p2)) ∧ Fr n0 L ∧ h = h0
set_option maxRecDepth 65536 in
set_option maxHeartbeats 40000000 in
theorem rmMin (l : Launch) (Z : State) (a0 : Array Value) (hw : ∀ d ∈ tables_1, d.before a0 Z = true) (ws : List Jvm.Cond) (p1 : Int32) (p2 : Int32) (h0 : Heap) (n0 : Nat) (Z0 : n0 ≤ h0.size)  :
    MetFree l (⟨"java/lang/Math", "min", "(II)I"⟩ : MethodName) (head1 (Jvm.Cond.code (⟨"java/lang/Math", "min", "(II)I"⟩ : MethodName) jdk_29_method_69_code 2 (some .int) :: ws) ({ frames := 0, cells := 0, slots := 0, locals := 0 } : Room)) (fun a U => a = #[(.int p1), (.int p2)] ∧ Z.Warmed39 U.vm ∧ U.heap = h0) (fun _ _ _ _ _ => True) (fun _ U o U' => ∃ v L, o = .returned v ∧ QMin Z p1 p2 h0 n0 v U'.heap L ∧ FrameEnd U o U' L ({ frames := 0, cells := 0, slots := 0, locals := 0 } : Room).cells ({ frames := 0, cells := 0, slots := 0, locals := 0 } : Room).slots) := by
  refine MetFree.of_bodySF (Jvm.Free.JP.mathPlain rfl (by decide +kernel)) hisR ?_
  intro p e s m args below meth c s₁ Bd hml0 hP hK
  obtain ⟨rfl, hZ, hh⟩ := hP
  have hx := Bd.exec
  have hby := Bd.bytes
  have hml : c.maxLocals = 2 := hml0
  have hown : s.vm.findClass "java/lang/Math" = some m.cls := findClass_of_methodNamed Bd.named
  have hnm := (name_of_methodNamed Bd.named Bd.method).1
  have X0 : Stand p l e ({ frames := 0, cells := 0, slots := 0, locals := 0 } : Room) s m #[(.int p1), (.int p2)] below meth c s₁ [] 0 0 := Stand.of_body Bd
  have e0 : s₁.heap = h0 := by rw [← hh, Bd.state]; rfl
  have N0 := Fr.nil n0
  refine Go.start (own_ef_Min m p1 p2) ?_
  show Go p e below _ s₁ (mkF m 0 #[.val (.int p1), .val (.int p2)] [])
  refine Go.step (fun _ k => XS.iloadN X0.here hx rfl (hb hby own_f0) rfl k) ?_
  show Go p e below _ s₁ (mkF m 1 #[.val (.int p1), .val (.int p2)] [(.int p1)])
  refine Go.step (fun _ k => XS.iloadN X0.here hx rfl (hb hby own_f1) rfl k) ?_
  show Go p e below _ s₁ (mkF m 2 #[.val (.int p1), .val (.int p2)] [(.int p2), (.int p1)])
  by_cases hc2_1 : p2 < p1
  · show Go p e below _ s₁ (mkF m 2 #[.val (.int p1), .val (.int p2)] [(.int p2), (.int p1)])
    refine Go.step (fun _ k => XS.icmpYes X0.here hx rfl (pc0 := 2) (pc' := 9) rfl (hb hby own_f2) rfl (tlt hc2_1).2.2.1 (by decide) (by decide) k) ?_
    show Go p e below _ s₁ (mkF m 9 #[.val (.int p1), .val (.int p2)] [])
    refine Go.step (fun _ k => XS.iloadN X0.here hx rfl (hb hby own_f3) rfl k) ?_
    show Go p e below _ s₁ (mkF m 10 #[.val (.int p1), .val (.int p2)] [(.int p2)])
    have er : (own_min p1 p2) = p2 := by simp [own_min, hc2_1]
    obtain ⟨fs, hr, hrun, hended, hW, hsame⟩ := X0.leave (v := some (.int p2)) (fun h => by rw [Bd.returns] at h; cases h)
    refine Go.fin (retI X0 hx Bd.returns (hb hby own_f4) hr) hrun hended ?_
    refine ⟨_, _, rfl, ?_, ⟨_, rfl⟩, hW, hsame.mono (by decide) (by decide)⟩
    show QMin Z p1 p2 h0 n0 _ s₁.heap _
    rw [e0]
    exact ⟨by rw [er], N0, rfl⟩
  · show Go p e below _ s₁ (mkF m 2 #[.val (.int p1), .val (.int p2)] [(.int p2), (.int p1)])
    refine Go.step (fun _ k => XS.icmpNo X0.here hx rfl (hb hby own_f2) rfl (flt hc2_1).2.2.1 k) ?_
    show Go p e below _ s₁ (mkF m 5 #[.val (.int p1), .val (.int p2)] [])
    refine Go.step (fun _ k => XS.iloadN X0.here hx rfl (hb hby own_f5) rfl k) ?_
    show Go p e below _ s₁ (mkF m 6 #[.val (.int p1), .val (.int p2)] [(.int p1)])
    refine Go.step (fun _ k => XS.goto X0.here hx rfl (pc0 := 6) (pc' := 10) rfl (hb hby own_f6) (by decide) (by decide) k) ?_
    show Go p e below _ s₁ (mkF m 10 #[.val (.int p1), .val (.int p2)] [(.int p1)])
    have er : (own_min p1 p2) = p1 := by simp [own_min, hc2_1]
    obtain ⟨fs, hr, hrun, hended, hW, hsame⟩ := X0.leave (v := some (.int p1)) (fun h => by rw [Bd.returns] at h; cases h)
    refine Go.fin (retI X0 hx Bd.returns (hb hby own_f4) hr) hrun hended ?_
    refine ⟨_, _, rfl, ?_, ⟨_, rfl⟩, hW, hsame.mono (by decide) (by decide)⟩
    show QMin Z p1 p2 h0 n0 _ s₁.heap _
    rw [e0]
    exact ⟨by rw [er], N0, rfl⟩
theorem own_f7 : decode jdk_29_method_65_code 0 = .ok (.iload_n 0, 1) := by decide +kernel
theorem own_f8 : decode jdk_29_method_65_code 1 = .ok (.iload_n 1, 1) := by decide +kernel
theorem own_f9 : decode jdk_29_method_65_code 2 = .ok (.if_icmp .lt 7, 3) := by decide +kernel
theorem own_f10 : decode jdk_29_method_65_code 9 = .ok (.iload_n 1, 1) := by decide +kernel
theorem own_f11 : decode jdk_29_method_65_code 10 = .ok (.ireturn, 1) := by decide +kernel
theorem own_f12 : decode jdk_29_method_65_code 5 = .ok (.iload_n 0, 1) := by decide +kernel
theorem own_f13 : decode jdk_29_method_65_code 6 = .ok (.goto 4, 3) := by decide +kernel
theorem own_ef_Max (m : MethodId) (p1 : Int32) (p2 : Int32) : entryFrame m #[(.int p1), (.int p2)] 2 = mkF m 0 #[.val (.int p1), .val (.int p2)] [] := by first | (simp [entryFrame, mkF, argsToLocals, Value.category]; done) | rfl
def QMax (Z : State) (p1 : Int32) (p2 : Int32) (h0 : Heap) (n0 : Nat) (v : Option Value) (h : Heap) (L : List Loc) : Prop := v = some (.int (own_max p1 p2)) ∧ Fr n0 L ∧ h = h0
set_option maxRecDepth 65536 in
set_option maxHeartbeats 40000000 in
theorem rmMax (l : Launch) (Z : State) (a0 : Array Value) (hw : ∀ d ∈ tables_1, d.before a0 Z = true) (ws : List Jvm.Cond) (p1 : Int32) (p2 : Int32) (h0 : Heap) (n0 : Nat) (Z0 : n0 ≤ h0.size)  :
    MetFree l (⟨"java/lang/Math", "max", "(II)I"⟩ : MethodName) (head1 (Jvm.Cond.code (⟨"java/lang/Math", "max", "(II)I"⟩ : MethodName) jdk_29_method_65_code 2 (some .int) :: ws) ({ frames := 0, cells := 0, slots := 0, locals := 0 } : Room)) (fun a U => a = #[(.int p1), (.int p2)] ∧ Z.Warmed39 U.vm ∧ U.heap = h0) (fun _ _ _ _ _ => True) (fun _ U o U' => ∃ v L, o = .returned v ∧ QMax Z p1 p2 h0 n0 v U'.heap L ∧ FrameEnd U o U' L ({ frames := 0, cells := 0, slots := 0, locals := 0 } : Room).cells ({ frames := 0, cells := 0, slots := 0, locals := 0 } : Room).slots) := by
  refine MetFree.of_bodySF (Jvm.Free.JP.mathPlain rfl (by decide +kernel)) hisR ?_
  intro p e s m args below meth c s₁ Bd hml0 hP hK
  obtain ⟨rfl, hZ, hh⟩ := hP
  have hx := Bd.exec
  have hby := Bd.bytes
  have hml : c.maxLocals = 2 := hml0
  have hown : s.vm.findClass "java/lang/Math" = some m.cls := findClass_of_methodNamed Bd.named
  have hnm := (name_of_methodNamed Bd.named Bd.method).1
  have X0 : Stand p l e ({ frames := 0, cells := 0, slots := 0, locals := 0 } : Room) s m #[(.int p1), (.int p2)] below meth c s₁ [] 0 0 := Stand.of_body Bd
  have e0 : s₁.heap = h0 := by rw [← hh, Bd.state]; rfl
  have N0 := Fr.nil n0
  refine Go.start (own_ef_Max m p1 p2) ?_
  show Go p e below _ s₁ (mkF m 0 #[.val (.int p1), .val (.int p2)] [])
  refine Go.step (fun _ k => XS.iloadN X0.here hx rfl (hb hby own_f7) rfl k) ?_
  show Go p e below _ s₁ (mkF m 1 #[.val (.int p1), .val (.int p2)] [(.int p1)])
  refine Go.step (fun _ k => XS.iloadN X0.here hx rfl (hb hby own_f8) rfl k) ?_
  show Go p e below _ s₁ (mkF m 2 #[.val (.int p1), .val (.int p2)] [(.int p2), (.int p1)])
  by_cases hc2_2 : p1 < p2
  · show Go p e below _ s₁ (mkF m 2 #[.val (.int p1), .val (.int p2)] [(.int p2), (.int p1)])
    refine Go.step (fun _ k => XS.icmpYes X0.here hx rfl (pc0 := 2) (pc' := 9) rfl (hb hby own_f9) rfl (tlt hc2_2).1 (by decide) (by decide) k) ?_
    show Go p e below _ s₁ (mkF m 9 #[.val (.int p1), .val (.int p2)] [])
    refine Go.step (fun _ k => XS.iloadN X0.here hx rfl (hb hby own_f10) rfl k) ?_
    show Go p e below _ s₁ (mkF m 10 #[.val (.int p1), .val (.int p2)] [(.int p2)])
    have er : (own_max p1 p2) = p2 := by simp [own_max, hc2_2]
    obtain ⟨fs, hr, hrun, hended, hW, hsame⟩ := X0.leave (v := some (.int p2)) (fun h => by rw [Bd.returns] at h; cases h)
    refine Go.fin (retI X0 hx Bd.returns (hb hby own_f11) hr) hrun hended ?_
    refine ⟨_, _, rfl, ?_, ⟨_, rfl⟩, hW, hsame.mono (by decide) (by decide)⟩
    show QMax Z p1 p2 h0 n0 _ s₁.heap _
    rw [e0]
    exact ⟨by rw [er], N0, rfl⟩
  · show Go p e below _ s₁ (mkF m 2 #[.val (.int p1), .val (.int p2)] [(.int p2), (.int p1)])
    refine Go.step (fun _ k => XS.icmpNo X0.here hx rfl (hb hby own_f9) rfl (flt hc2_2).1 k) ?_
    show Go p e below _ s₁ (mkF m 5 #[.val (.int p1), .val (.int p2)] [])
    refine Go.step (fun _ k => XS.iloadN X0.here hx rfl (hb hby own_f12) rfl k) ?_
    show Go p e below _ s₁ (mkF m 6 #[.val (.int p1), .val (.int p2)] [(.int p1)])
    refine Go.step (fun _ k => XS.goto X0.here hx rfl (pc0 := 6) (pc' := 10) rfl (hb hby own_f13) (by decide) (by decide) k) ?_
    show Go p e below _ s₁ (mkF m 10 #[.val (.int p1), .val (.int p2)] [(.int p1)])
    have er : (own_max p1 p2) = p1 := by simp [own_max, hc2_2]
    obtain ⟨fs, hr, hrun, hended, hW, hsame⟩ := X0.leave (v := some (.int p1)) (fun h => by rw [Bd.returns] at h; cases h)
    refine Go.fin (retI X0 hx Bd.returns (hb hby own_f11) hr) hrun hended ?_
    refine ⟨_, _, rfl, ?_, ⟨_, rfl⟩, hW, hsame.mono (by decide) (by decide)⟩
    show QMax Z p1 p2 h0 n0 _ s₁.heap _
    rw [e0]
    exact ⟨by rw [er], N0, rfl⟩
theorem own_f14 : decode prog_26_method_1_code 0 = .ok (.aload_n 0, 1) := by decide +kernel
theorem own_f15 : decode prog_26_method_1_code 1 = .ok (.invokespecial 1, 3) := by decide +kernel
theorem own_f16 : decode prog_26_method_1_code 4 = .ok (.iload_n 1, 1) := by decide +kernel
theorem own_f17 : decode prog_26_method_1_code 5 = .ok (.ifCond .lt 8, 3) := by decide +kernel
theorem own_f18 : decode prog_26_method_1_code 8 = .ok (.iload_n 2, 1) := by decide +kernel
theorem own_f19 : decode prog_26_method_1_code 9 = .ok (.iload_n 1, 1) := by decide +kernel
theorem own_f20 : decode prog_26_method_1_code 10 = .ok (.if_icmp .ge 18, 3) := by decide +kernel
theorem own_f21 : decode prog_26_method_1_code 28 = .ok (.aload_n 0, 1) := by decide +kernel
theorem own_f22 : decode prog_26_method_1_code 29 = .ok (.iload_n 1, 1) := by decide +kernel
theorem own_f23 : decode prog_26_method_1_code 30 = .ok (.putfield 16, 3) := by decide +kernel
theorem own_f24 : decode prog_26_method_1_code 33 = .ok (.aload_n 0, 1) := by decide +kernel
theorem own_f25 : decode prog_26_method_1_code 34 = .ok (.iload_n 2, 1) := by decide +kernel
theorem own_f26 : decode prog_26_method_1_code 35 = .ok (.putfield 22, 3) := by decide +kernel
theorem own_f27 : decode prog_26_method_1_code 38 = .ok (.return_, 1) := by decide +kernel
theorem own_f28 : plainName "com/example/vigilant_crawler/vigilantcrawler/model/WordSpan" = true := by first | (simp [plainName, overriddenIn]; done) | decide +kernel
theorem own_ef_I (m : MethodId) (a1 : Addr) (p1 : Int32) (p2 : Int32) : entryFrame m #[(.ref a1), (.int p1), (.int p2)] 3 = mkF m 0 #[.val (.ref a1), .val (.int p1), .val (.int p2)] [] := by first | (simp [entryFrame, mkF, argsToLocals, Value.category]; done) | rfl
def QI (Z : State) (a1 : Addr) (p1 : Int32) (p2 : Int32) (h0 : Heap) (n0 : Nat) (v : Option Value) (h : Heap) (L : List Loc) : Prop := v = none ∧ Fr n0 L ∧ Keep h0 h [a1] ∧ Fld Z h a1 "com/example/vigilant_crawler/vigilantcrawler/model/WordSpan" "from" "I" (.int p1) ∧ Fld Z h a1 "com/example/vigilant_crawler/vigilantcrawler/model/WordSpan" "to" "I" (.int p2)
set_option maxRecDepth 65536 in
set_option maxHeartbeats 40000000 in
theorem rmI (l : Launch) (Z : State) (a0 : Array Value) (hw : ∀ d ∈ tables_1, d.before a0 Z = true) (ws : List Jvm.Cond) (a1 : Addr) (p1 : Int32) (p2 : Int32) (h0 : Heap) (n0 : Nat) (Z0 : n0 ≤ h0.size) (E_a1 : Exa Z h0 a1 "com/example/vigilant_crawler/vigilantcrawler/model/WordSpan") (F_from_a1 : Fld Z h0 a1 "com/example/vigilant_crawler/vigilantcrawler/model/WordSpan" "from" "I" (.int (0 : Int32))) (F_to_a1 : Fld Z h0 a1 "com/example/vigilant_crawler/vigilantcrawler/model/WordSpan" "to" "I" (.int (0 : Int32))) (g_a1 : n0 ≤ a1) (hp1 : ¬ p1 < (0 : Int32)) (hp2 : ¬ p2 < p1) :
    MetFree l (⟨"com/example/vigilant_crawler/vigilantcrawler/model/WordSpan", "<init>", "(II)V"⟩ : MethodName) (head1 (Jvm.Cond.code (⟨"com/example/vigilant_crawler/vigilantcrawler/model/WordSpan", "<init>", "(II)V"⟩ : MethodName) prog_26_method_1_code 3 none :: ws) ({ frames := 1, cells := 0, slots := 0, locals := 12 } : Room)) (fun a U => a = #[(.ref a1), (.int p1), (.int p2)] ∧ Z.Warmed39 U.vm ∧ U.heap = h0) (fun _ _ _ _ _ => True) (fun _ U o U' => ∃ v L, o = .returned v ∧ QI Z a1 p1 p2 h0 n0 v U'.heap L ∧ FrameEnd U o U' L ({ frames := 1, cells := 0, slots := 0, locals := 12 } : Room).cells ({ frames := 1, cells := 0, slots := 0, locals := 12 } : Room).slots) := by
  refine MetFree.of_bodySF (plainFor_of_name own_f28) hisR ?_
  intro p e s m args below meth c s₁ Bd hml0 hP hK
  obtain ⟨rfl, hZ, hh⟩ := hP
  have hx := Bd.exec
  have hby := Bd.bytes
  have hml : c.maxLocals = 3 := hml0
  have hown : s.vm.findClass "com/example/vigilant_crawler/vigilantcrawler/model/WordSpan" = some m.cls := findClass_of_methodNamed Bd.named
  have hnm := (name_of_methodNamed Bd.named Bd.method).1
  have X0 : Stand p l e ({ frames := 1, cells := 0, slots := 0, locals := 12 } : Room) s m #[(.ref a1), (.int p1), (.int p2)] below meth c s₁ [] 0 0 := Stand.of_body Bd
  have e0 : s₁.heap = h0 := by rw [← hh, Bd.state]; rfl
  have N0 := Fr.nil n0
  refine Go.start (own_ef_I m a1 p1 p2) ?_
  show Go p e below _ s₁ (mkF m 0 #[.val (.ref a1), .val (.int p1), .val (.int p2)] [])
  have Zn := Z0
  have K0 : Keep h0 h0 [a1] := Keep.refl h0 _
  refine Go.step (fun _ k => XS.aloadN X0.here hx rfl (hb hby own_f14) rfl rfl k) ?_
  show Go p e below _ s₁ (mkF m 1 #[.val (.ref a1), .val (.int p1), .val (.int p2)] [(.ref a1)])
  obtain ⟨T3, X3, e3, st3⟩ := initO X0 hx hZ hown (hw _ (List.mem_of_getElem? (i := 14) rfl)) (hw _ (List.mem_of_getElem? (i := 15) rfl)) (hw _ (List.mem_of_getElem? (i := 16) rfl)) e0 (g := (mkF m 1 #[.val (.ref a1), .val (.int p1), .val (.int p2)] [(.ref a1)])) rfl (by rw [hml]; rfl) rfl (hb hby own_f15) (by decide) (W := 0) (by show 2 * 0 + _ ≤ _; exact Nat.le_of_eq rfl) (by decide)
  refine Go.step st3 ?_
  show Go p e below _ T3 (mkF m 4 #[.val (.ref a1), .val (.int p1), .val (.int p2)] [])
  refine Go.step (fun _ k => XS.iloadN X3.here hx rfl (hb hby own_f16) rfl k) ?_
  show Go p e below _ T3 (mkF m 5 #[.val (.ref a1), .val (.int p1), .val (.int p2)] [(.int p1)])
  refine Go.step (fun _ k => XS.ifNo X3.here hx rfl (hb hby own_f17) rfl ((if0 _ _).trans (flt hp1).1) k) ?_
  show Go p e below _ T3 (mkF m 8 #[.val (.ref a1), .val (.int p1), .val (.int p2)] [])
  refine Go.step (fun _ k => XS.iloadN X3.here hx rfl (hb hby own_f18) rfl k) ?_
  show Go p e below _ T3 (mkF m 9 #[.val (.ref a1), .val (.int p1), .val (.int p2)] [(.int p2)])
  refine Go.step (fun _ k => XS.iloadN X3.here hx rfl (hb hby own_f19) rfl k) ?_
  show Go p e below _ T3 (mkF m 10 #[.val (.ref a1), .val (.int p1), .val (.int p2)] [(.int p1), (.int p2)])
  refine Go.step (fun _ k => XS.icmpYes X3.here hx rfl (pc0 := 10) (pc' := 28) rfl (hb hby own_f20) rfl (flt hp2).2.1 (by decide) (by decide) k) ?_
  show Go p e below _ T3 (mkF m 28 #[.val (.ref a1), .val (.int p1), .val (.int p2)] [])
  refine Go.step (fun _ k => XS.aloadN X3.here hx rfl (hb hby own_f21) rfl rfl k) ?_
  show Go p e below _ T3 (mkF m 29 #[.val (.ref a1), .val (.int p1), .val (.int p2)] [(.ref a1)])
  refine Go.step (fun _ k => XS.iloadN X3.here hx rfl (hb hby own_f22) rfl k) ?_
  show Go p e below _ T3 (mkF m 30 #[.val (.ref a1), .val (.int p1), .val (.int p2)] [(.int p1), (.ref a1)])
  obtain ⟨T4, h4, X4, e4, W4, st4⟩ := putF X3 hx hZ hown (host := "") (Or.inl (hw _ (List.mem_of_getElem? (i := 17) rfl))) Via.refl e3 F_from_a1 E_a1 (Or.inr ⟨(hw _ (List.mem_of_getElem? (i := 18) rfl)), rfl, hnm⟩) (hw _ (List.mem_of_getElem? (i := 9) rfl)) (ty := .int) (by decide) rfl rfl (g := (mkF m 30 #[.val (.ref a1), .val (.int p1), .val (.int p2)] [(.int p1), (.ref a1)])) rfl rfl (hb hby own_f23)
  have Fw4 := F_from_a1.same W4
  replace E_a1 := E_a1.wr W4
  replace F_to_a1 := F_to_a1.other W4 (Or.inr (slot_ne (Or.inr (hw _ (List.mem_of_getElem? (i := 20) rfl))) (Or.inr (hw _ (List.mem_of_getElem? (i := 18) rfl))) (by decide) (t := .int) (t' := .int) (by decide) (by decide)))
  replace F_from_a1 := Fw4
  replace K0 := K0.wr W4 (Or.inl (List.mem_of_getElem? (i := 0) rfl))
  replace Zn := Nat.le_trans Zn (Nat.le_of_eq W4.size.symm)
  have N4 := Fr.snoc X4 N0 g_a1
  refine Go.step st4 ?_
  show Go p e below _ T4 (mkF m 33 #[.val (.ref a1), .val (.int p1), .val (.int p2)] [])
  refine Go.step (fun _ k => XS.aloadN X4.here hx rfl (hb hby own_f24) rfl rfl k) ?_
  show Go p e below _ T4 (mkF m 34 #[.val (.ref a1), .val (.int p1), .val (.int p2)] [(.ref a1)])
  refine Go.step (fun _ k => XS.iloadN X4.here hx rfl (hb hby own_f25) rfl k) ?_
  show Go p e below _ T4 (mkF m 35 #[.val (.ref a1), .val (.int p1), .val (.int p2)] [(.int p2), (.ref a1)])
  obtain ⟨T5, h5, X5, e5, W5, st5⟩ := putF X4 hx hZ hown (host := "") (Or.inl (hw _ (List.mem_of_getElem? (i := 19) rfl))) Via.refl e4 F_to_a1 E_a1 (Or.inr ⟨(hw _ (List.mem_of_getElem? (i := 20) rfl)), rfl, hnm⟩) (hw _ (List.mem_of_getElem? (i := 9) rfl)) (ty := .int) (by decide) rfl rfl (g := (mkF m 35 #[.val (.ref a1), .val (.int p1), .val (.int p2)] [(.int p2), (.ref a1)])) rfl rfl (hb hby own_f26)
  have Fw5 := F_to_a1.same W5
  replace E_a1 := E_a1.wr W5
  replace F_from_a1 := F_from_a1.other W5 (Or.inr (slot_ne (Or.inr (hw _ (List.mem_of_getElem? (i := 18) rfl))) (Or.inr (hw _ (List.mem_of_getElem? (i := 20) rfl))) (by decide) (t := .int) (t' := .int) (by decide) (by decide)))
  replace F_to_a1 := Fw5
  replace K0 := K0.wr W5 (Or.inl (List.mem_of_getElem? (i := 0) rfl))
  replace Zn := Nat.le_trans Zn (Nat.le_of_eq W5.size.symm)
  have N5 := Fr.snoc X5 N4 g_a1
  refine Go.step st5 ?_
  show Go p e below _ T5 (mkF m 38 #[.val (.ref a1), .val (.int p1), .val (.int p2)] [])
  obtain ⟨fs, hr, hrun, hended, hW, hsame⟩ := X5.leave (v := none) (fun _ => rfl)
  refine Go.fin (X5.returnOut hx Bd.returns (hb hby own_f27) hr) hrun hended ?_
  refine ⟨_, _, rfl, ?_, ⟨_, rfl⟩, hW, hsame.mono (by decide) (by decide)⟩
  show QI Z a1 p1 p2 h0 n0 _ T5.heap _
  rw [e5]
  exact ⟨rfl, N5, K0, F_from_a1, F_to_a1⟩
theorem own_f29 : decode prog_26_method_6_code 0 = .ok (.bipush 31, 2) := by decide +kernel
theorem own_f30 : decode prog_26_method_6_code 2 = .ok (.aload_n 0, 1) := by decide +kernel
theorem own_f31 : decode prog_26_method_6_code 3 = .ok (.getfield 16, 3) := by decide +kernel
theorem own_f32 : decode prog_26_method_6_code 6 = .ok (.imul, 1) := by decide +kernel
theorem own_f33 : decode prog_26_method_6_code 7 = .ok (.aload_n 0, 1) := by decide +kernel
theorem own_f34 : decode prog_26_method_6_code 8 = .ok (.getfield 22, 3) := by decide +kernel
theorem own_f35 : decode prog_26_method_6_code 11 = .ok (.iadd, 1) := by decide +kernel
theorem own_f36 : decode prog_26_method_6_code 12 = .ok (.ireturn, 1) := by decide +kernel
theorem own_ef_H (m : MethodId) (a1 : Addr) : entryFrame m #[(.ref a1)] 1 = mkF m 0 #[.val (.ref a1)] [] := by first | (simp [entryFrame, mkF, argsToLocals, Value.category]; done) | rfl
def QH (Z : State) (a1 : Addr) (p1 : Int32) (p2 : Int32) (h0 : Heap) (n0 : Nat) (v : Option Value) (h : Heap) (L : List Loc) : Prop := v = some (.int ((31 : Int32) * p1 + p2)) ∧ Fr n0 L ∧ h = h0
set_option maxRecDepth 65536 in
set_option maxHeartbeats 40000000 in
theorem rmH (l : Launch) (Z : State) (a0 : Array Value) (hw : ∀ d ∈ tables_1, d.before a0 Z = true) (ws : List Jvm.Cond) (a1 : Addr) (p1 : Int32) (p2 : Int32) (h0 : Heap) (n0 : Nat) (Z0 : n0 ≤ h0.size) (F_from_a1 : Fld Z h0 a1 "com/example/vigilant_crawler/vigilantcrawler/model/WordSpan" "from" "I" (.int p1)) (F_to_a1 : Fld Z h0 a1 "com/example/vigilant_crawler/vigilantcrawler/model/WordSpan" "to" "I" (.int p2)) :
    MetFree l (⟨"com/example/vigilant_crawler/vigilantcrawler/model/WordSpan", "hashCode", "()I"⟩ : MethodName) (head1 (Jvm.Cond.code (⟨"com/example/vigilant_crawler/vigilantcrawler/model/WordSpan", "hashCode", "()I"⟩ : MethodName) prog_26_method_6_code 1 (some .int) :: ws) ({ frames := 0, cells := 0, slots := 0, locals := 0 } : Room)) (fun a U => a = #[(.ref a1)] ∧ Z.Warmed39 U.vm ∧ U.heap = h0) (fun _ _ _ _ _ => True) (fun _ U o U' => ∃ v L, o = .returned v ∧ QH Z a1 p1 p2 h0 n0 v U'.heap L ∧ FrameEnd U o U' L ({ frames := 0, cells := 0, slots := 0, locals := 0 } : Room).cells ({ frames := 0, cells := 0, slots := 0, locals := 0 } : Room).slots) := by
  refine MetFree.of_bodySF (plainFor_of_name own_f28) hisR ?_
  intro p e s m args below meth c s₁ Bd hml0 hP hK
  obtain ⟨rfl, hZ, hh⟩ := hP
  have hx := Bd.exec
  have hby := Bd.bytes
  have hml : c.maxLocals = 1 := hml0
  have hown : s.vm.findClass "com/example/vigilant_crawler/vigilantcrawler/model/WordSpan" = some m.cls := findClass_of_methodNamed Bd.named
  have hnm := (name_of_methodNamed Bd.named Bd.method).1
  have X0 : Stand p l e ({ frames := 0, cells := 0, slots := 0, locals := 0 } : Room) s m #[(.ref a1)] below meth c s₁ [] 0 0 := Stand.of_body Bd
  have e0 : s₁.heap = h0 := by rw [← hh, Bd.state]; rfl
  have N0 := Fr.nil n0
  refine Go.start (own_ef_H m a1) ?_
  show Go p e below _ s₁ (mkF m 0 #[.val (.ref a1)] [])
  refine Go.step (fun _ k => XS.bipush X0.here hx rfl (hb hby own_f29) k) ?_
  show Go p e below _ s₁ (mkF m 2 #[.val (.ref a1)] [(.int (31 : Int32))])
  refine Go.step (fun _ k => XS.aloadN X0.here hx rfl (hb hby own_f30) rfl rfl k) ?_
  show Go p e below _ s₁ (mkF m 3 #[.val (.ref a1)] [(.ref a1), (.int (31 : Int32))])
  obtain ⟨T6, X6, e6, st6⟩ := getF X0 hx hZ hown (host := "") (Or.inl (hw _ (List.mem_of_getElem? (i := 17) rfl))) Via.refl e0 F_from_a1 (g := (mkF m 3 #[.val (.ref a1)] [(.ref a1), (.int (31 : Int32))])) rfl rfl (hb hby own_f31)
  refine Go.step st6 ?_
  show Go p e below _ T6 (mkF m 6 #[.val (.ref a1)] [(.int p1), (.int (31 : Int32))])
  refine Go.step (fun _ k => XS.imul X6.here hx rfl (hb hby own_f32) rfl k) ?_
  show Go p e below _ T6 (mkF m 7 #[.val (.ref a1)] [(.int ((31 : Int32) * p1))])
  refine Go.step (fun _ k => XS.aloadN X6.here hx rfl (hb hby own_f33) rfl rfl k) ?_
  show Go p e below _ T6 (mkF m 8 #[.val (.ref a1)] [(.ref a1), (.int ((31 : Int32) * p1))])
  obtain ⟨T7, X7, e7, st7⟩ := getF X6 hx hZ hown (host := "") (Or.inl (hw _ (List.mem_of_getElem? (i := 19) rfl))) Via.refl e6 F_to_a1 (g := (mkF m 8 #[.val (.ref a1)] [(.ref a1), (.int ((31 : Int32) * p1))])) rfl rfl (hb hby own_f34)
  refine Go.step st7 ?_
  show Go p e below _ T7 (mkF m 11 #[.val (.ref a1)] [(.int p2), (.int ((31 : Int32) * p1))])
  refine Go.step (fun _ k => XS.iadd X7.here hx rfl (hb hby own_f35) rfl k) ?_
  show Go p e below _ T7 (mkF m 12 #[.val (.ref a1)] [(.int (((31 : Int32) * p1) + p2))])
  obtain ⟨fs, hr, hrun, hended, hW, hsame⟩ := X7.leave (v := some (.int (((31 : Int32) * p1) + p2))) (fun h => by rw [Bd.returns] at h; cases h)
  refine Go.fin (retI X7 hx Bd.returns (hb hby own_f36) hr) hrun hended ?_
  refine ⟨_, _, rfl, ?_, ⟨_, rfl⟩, hW, hsame.mono (by decide) (by decide)⟩
  show QH Z a1 p1 p2 h0 n0 _ T7.heap _
  rw [e7]
  exact ⟨rfl, N0, rfl⟩
theorem own_f37 : decode prog_26_method_5_code 0 = .ok (.aload_n 1, 1) := by decide +kernel
theorem own_f38 : decode prog_26_method_5_code 1 = .ok (.instanceof 17, 3) := by decide +kernel
theorem own_f39 : decode prog_26_method_5_code 4 = .ok (.ifCond .eq 35, 3) := by decide +kernel
theorem own_f40 : decode prog_26_method_5_code 7 = .ok (.aload_n 1, 1) := by decide +kernel
theorem own_f41 : decode prog_26_method_5_code 8 = .ok (.checkcast 17, 3) := by decide +kernel
theorem own_f42 : decode prog_26_method_5_code 11 = .ok (.getfield 16, 3) := by decide +kernel
theorem own_f43 : decode prog_26_method_5_code 14 = .ok (.aload_n 0, 1) := by decide +kernel
theorem own_f44 : decode prog_26_method_5_code 15 = .ok (.getfield 16, 3) := by decide +kernel
theorem own_f45 : decode prog_26_method_5_code 18 = .ok (.if_icmp .ne 21, 3) := by decide +kernel
theorem own_f46 : decode prog_26_method_5_code 21 = .ok (.aload_n 1, 1) := by decide +kernel
theorem own_f47 : decode prog_26_method_5_code 22 = .ok (.checkcast 17, 3) := by decide +kernel
theorem own_f48 : decode prog_26_method_5_code 25 = .ok (.getfield 22, 3) := by decide +kernel
theorem own_f49 : decode prog_26_method_5_code 28 = .ok (.aload_n 0, 1) := by decide +kernel
theorem own_f50 : decode prog_26_method_5_code 29 = .ok (.getfield 22, 3) := by decide +kernel
theorem own_f51 : decode prog_26_method_5_code 32 = .ok (.if_icmp .ne 7, 3) := by decide +kernel
theorem own_f52 : decode prog_26_method_5_code 35 = .ok (.iconst 1, 1) := by decide +kernel
theorem own_f53 : decode prog_26_method_5_code 36 = .ok (.goto 4, 3) := by decide +kernel
theorem own_f54 : decode prog_26_method_5_code 40 = .ok (.ireturn, 1) := by decide +kernel
theorem own_f55 : decode prog_26_method_5_code 39 = .ok (.iconst 0, 1) := by decide +kernel
theorem own_ef_E (m : MethodId) (a1 : Addr) (a2 : Addr) : entryFrame m #[(.ref a1), (.ref a2)] 2 = mkF m 0 #[.val (.ref a1), .val (.ref a2)] [] := by first | (simp [entryFrame, mkF, argsToLocals, Value.category]; done) | rfl
def QE (Z : State) (a1 : Addr) (a2 : Addr) (p1 : Int32) (p2 : Int32) (p3 : Int32) (p4 : Int32) (h0 : Heap) (n0 : Nat) (v : Option Value) (h : Heap) (L : List Loc) : Prop := v = some (.int (own_eq p1 p2 p3 p4)) ∧ Fr n0 L ∧ h = h0
set_option maxRecDepth 65536 in
set_option maxHeartbeats 40000000 in
theorem rmE (l : Launch) (Z : State) (a0 : Array Value) (hw : ∀ d ∈ tables_1, d.before a0 Z = true) (ws : List Jvm.Cond) (a1 : Addr) (a2 : Addr) (p1 : Int32) (p2 : Int32) (p3 : Int32) (p4 : Int32) (h0 : Heap) (n0 : Nat) (Z0 : n0 ≤ h0.size) (F_from_a1 : Fld Z h0 a1 "com/example/vigilant_crawler/vigilantcrawler/model/WordSpan" "from" "I" (.int p1)) (F_to_a1 : Fld Z h0 a1 "com/example/vigilant_crawler/vigilantcrawler/model/WordSpan" "to" "I" (.int p2)) (E_a2 : Exa Z h0 a2 "com/example/vigilant_crawler/vigilantcrawler/model/WordSpan") (F_from_a2 : Fld Z h0 a2 "com/example/vigilant_crawler/vigilantcrawler/model/WordSpan" "from" "I" (.int p3)) (F_to_a2 : Fld Z h0 a2 "com/example/vigilant_crawler/vigilantcrawler/model/WordSpan" "to" "I" (.int p4)) :
    MetFree l (⟨"com/example/vigilant_crawler/vigilantcrawler/model/WordSpan", "equals", "(Ljava/lang/Object;)Z"⟩ : MethodName) (head1 (Jvm.Cond.code (⟨"com/example/vigilant_crawler/vigilantcrawler/model/WordSpan", "equals", "(Ljava/lang/Object;)Z"⟩ : MethodName) prog_26_method_5_code 2 (some .boolean) :: ws) ({ frames := 0, cells := 0, slots := 0, locals := 0 } : Room)) (fun a U => a = #[(.ref a1), (.ref a2)] ∧ Z.Warmed39 U.vm ∧ U.heap = h0) (fun _ _ _ _ _ => True) (fun _ U o U' => ∃ v L, o = .returned v ∧ QE Z a1 a2 p1 p2 p3 p4 h0 n0 v U'.heap L ∧ FrameEnd U o U' L ({ frames := 0, cells := 0, slots := 0, locals := 0 } : Room).cells ({ frames := 0, cells := 0, slots := 0, locals := 0 } : Room).slots) := by
  refine MetFree.of_bodySF (plainFor_of_name own_f28) hisR ?_
  intro p e s m args below meth c s₁ Bd hml0 hP hK
  obtain ⟨rfl, hZ, hh⟩ := hP
  have hx := Bd.exec
  have hby := Bd.bytes
  have hml : c.maxLocals = 2 := hml0
  have hown : s.vm.findClass "com/example/vigilant_crawler/vigilantcrawler/model/WordSpan" = some m.cls := findClass_of_methodNamed Bd.named
  have hnm := (name_of_methodNamed Bd.named Bd.method).1
  have X0 : Stand p l e ({ frames := 0, cells := 0, slots := 0, locals := 0 } : Room) s m #[(.ref a1), (.ref a2)] below meth c s₁ [] 0 0 := Stand.of_body Bd
  have e0 : s₁.heap = h0 := by rw [← hh, Bd.state]; rfl
  have N0 := Fr.nil n0
  refine Go.start (own_ef_E m a1 a2) ?_
  show Go p e below _ s₁ (mkF m 0 #[.val (.ref a1), .val (.ref a2)] [])
  refine Go.step (fun _ k => XS.aloadN X0.here hx rfl (hb hby own_f37) rfl rfl k) ?_
  show Go p e below _ s₁ (mkF m 1 #[.val (.ref a1), .val (.ref a2)] [(.ref a2)])
  obtain ⟨T8, X8, e8, st8⟩ := instY X0 hx hZ hown (hw _ (List.mem_of_getElem? (i := 31) rfl)) e0 (Ins.self E_a2) (g := (mkF m 1 #[.val (.ref a1), .val (.ref a2)] [(.ref a2)])) rfl rfl (hb hby own_f38)
  refine Go.step st8 ?_
  show Go p e below _ T8 (mkF m 4 #[.val (.ref a1), .val (.ref a2)] [(.int (1 : Int32))])
  refine Go.step (fun _ k => XS.ifNo X8.here hx rfl (hb hby own_f39) rfl ((if0 _ _).trans (feq (by decide)).1) k) ?_
  show Go p e below _ T8 (mkF m 7 #[.val (.ref a1), .val (.ref a2)] [])
  refine Go.step (fun _ k => XS.aloadN X8.here hx rfl (hb hby own_f40) rfl rfl k) ?_
  show Go p e below _ T8 (mkF m 8 #[.val (.ref a1), .val (.ref a2)] [(.ref a2)])
  obtain ⟨T9, X9, e9, st9⟩ := castY X8 hx hZ hown (hw _ (List.mem_of_getElem? (i := 31) rfl)) e8 (Ins.self E_a2) (g := (mkF m 8 #[.val (.ref a1), .val (.ref a2)] [(.ref a2)])) rfl rfl (hb hby own_f41)
  refine Go.step st9 ?_
  show Go p e below _ T9 (mkF m 11 #[.val (.ref a1), .val (.ref a2)] [(.ref a2)])
  obtain ⟨T10, X10, e10, st10⟩ := getF X9 hx hZ hown (host := "") (Or.inl (hw _ (List.mem_of_getElem? (i := 17) rfl))) Via.refl e9 F_from_a2 (g := (mkF m 11 #[.val (.ref a1), .val (.ref a2)] [(.ref a2)])) rfl rfl (hb hby own_f42)
  refine Go.step st10 ?_
  show Go p e below _ T10 (mkF m 14 #[.val (.ref a1), .val (.ref a2)] [(.int p3)])
  refine Go.step (fun _ k => XS.aloadN X10.here hx rfl (hb hby own_f43) rfl rfl k) ?_
  show Go p e below _ T10 (mkF m 15 #[.val (.ref a1), .val (.ref a2)] [(.ref a1), (.int p3)])
  obtain ⟨T11, X11, e11, st11⟩ := getF X10 hx hZ hown (host := "") (Or.inl (hw _ (List.mem_of_getElem? (i := 17) rfl))) Via.refl e10 F_from_a1 (g := (mkF m 15 #[.val (.ref a1), .val (.ref a2)] [(.ref a1), (.int p3)])) rfl rfl (hb hby own_f44)
  refine Go.step st11 ?_
  show Go p e below _ T11 (mkF m 18 #[.val (.ref a1), .val (.ref a2)] [(.int p1), (.int p3)])
  by_cases hc18_12 : p3 = p1
  · show Go p e below _ T11 (mkF m 18 #[.val (.ref a1), .val (.ref a2)] [(.int p1), (.int p3)])
    refine Go.step (fun _ k => XS.icmpNo X11.here hx rfl (hb hby own_f45) rfl (teq hc18_12).2 k) ?_
    show Go p e below _ T11 (mkF m 21 #[.val (.ref a1), .val (.ref a2)] [])
    refine Go.step (fun _ k => XS.aloadN X11.here hx rfl (hb hby own_f46) rfl rfl k) ?_
    show Go p e below _ T11 (mkF m 22 #[.val (.ref a1), .val (.ref a2)] [(.ref a2)])
    obtain ⟨T13, X13, e13, st13⟩ := castY X11 hx hZ hown (hw _ (List.mem_of_getElem? (i := 31) rfl)) e11 (Ins.self E_a2) (g := (mkF m 22 #[.val (.ref a1), .val (.ref a2)] [(.ref a2)])) rfl rfl (hb hby own_f47)
    refine Go.step st13 ?_
    show Go p e below _ T13 (mkF m 25 #[.val (.ref a1), .val (.ref a2)] [(.ref a2)])
    obtain ⟨T14, X14, e14, st14⟩ := getF X13 hx hZ hown (host := "") (Or.inl (hw _ (List.mem_of_getElem? (i := 19) rfl))) Via.refl e13 F_to_a2 (g := (mkF m 25 #[.val (.ref a1), .val (.ref a2)] [(.ref a2)])) rfl rfl (hb hby own_f48)
    refine Go.step st14 ?_
    show Go p e below _ T14 (mkF m 28 #[.val (.ref a1), .val (.ref a2)] [(.int p4)])
    refine Go.step (fun _ k => XS.aloadN X14.here hx rfl (hb hby own_f49) rfl rfl k) ?_
    show Go p e below _ T14 (mkF m 29 #[.val (.ref a1), .val (.ref a2)] [(.ref a1), (.int p4)])
    obtain ⟨T15, X15, e15, st15⟩ := getF X14 hx hZ hown (host := "") (Or.inl (hw _ (List.mem_of_getElem? (i := 19) rfl))) Via.refl e14 F_to_a1 (g := (mkF m 29 #[.val (.ref a1), .val (.ref a2)] [(.ref a1), (.int p4)])) rfl rfl (hb hby own_f50)
    refine Go.step st15 ?_
    show Go p e below _ T15 (mkF m 32 #[.val (.ref a1), .val (.ref a2)] [(.int p2), (.int p4)])
    by_cases hc32_16 : p4 = p2
    · show Go p e below _ T15 (mkF m 32 #[.val (.ref a1), .val (.ref a2)] [(.int p2), (.int p4)])
      refine Go.step (fun _ k => XS.icmpNo X15.here hx rfl (hb hby own_f51) rfl (teq hc32_16).2 k) ?_
      show Go p e below _ T15 (mkF m 35 #[.val (.ref a1), .val (.ref a2)] [])
      refine Go.step (fun _ k => XS.iconst X15.here hx rfl (hb hby own_f52) k) ?_
      show Go p e below _ T15 (mkF m 36 #[.val (.ref a1), .val (.ref a2)] [(.int (1 : Int32))])
      refine Go.step (fun _ k => XS.goto X15.here hx rfl (pc0 := 36) (pc' := 40) rfl (hb hby own_f53) (by decide) (by decide) k) ?_
      show Go p e below _ T15 (mkF m 40 #[.val (.ref a1), .val (.ref a2)] [(.int (1 : Int32))])
      have er : (own_eq p1 p2 p3 p4) = (1 : Int32) := by simp [own_eq, hc18_12, hc32_16]
      obtain ⟨fs, hr, hrun, hended, hW, hsame⟩ := X15.leave (v := some (.int (1 : Int32))) (fun h => by rw [Bd.returns] at h; cases h)
      refine Go.fin (retN X15 hx (t := .boolean) Bd.returns (by simp) (hb hby own_f54) hr) hrun hended ?_
      refine ⟨_, _, rfl, ?_, ⟨_, rfl⟩, hW, hsame.mono (by decide) (by decide)⟩
      show QE Z a1 a2 p1 p2 p3 p4 h0 n0 _ T15.heap _
      rw [e15]
      exact ⟨by rw [er], N0, rfl⟩
    · show Go p e below _ T15 (mkF m 32 #[.val (.ref a1), .val (.ref a2)] [(.int p2), (.int p4)])
      refine Go.step (fun _ k => XS.icmpYes X15.here hx rfl (pc0 := 32) (pc' := 39) rfl (hb hby own_f51) rfl (feq hc32_16).2 (by decide) (by decide) k) ?_
      show Go p e below _ T15 (mkF m 39 #[.val (.ref a1), .val (.ref a2)] [])
      refine Go.step (fun _ k => XS.iconst X15.here hx rfl (hb hby own_f55) k) ?_
      show Go p e below _ T15 (mkF m 40 #[.val (.ref a1), .val (.ref a2)] [(.int (0 : Int32))])
      have er : (own_eq p1 p2 p3 p4) = (0 : Int32) := by simp [own_eq, hc18_12, hc32_16]
      obtain ⟨fs, hr, hrun, hended, hW, hsame⟩ := X15.leave (v := some (.int (0 : Int32))) (fun h => by rw [Bd.returns] at h; cases h)
      refine Go.fin (retN X15 hx (t := .boolean) Bd.returns (by simp) (hb hby own_f54) hr) hrun hended ?_
      refine ⟨_, _, rfl, ?_, ⟨_, rfl⟩, hW, hsame.mono (by decide) (by decide)⟩
      show QE Z a1 a2 p1 p2 p3 p4 h0 n0 _ T15.heap _
      rw [e15]
      exact ⟨by rw [er], N0, rfl⟩
  · show Go p e below _ T11 (mkF m 18 #[.val (.ref a1), .val (.ref a2)] [(.int p1), (.int p3)])
    refine Go.step (fun _ k => XS.icmpYes X11.here hx rfl (pc0 := 18) (pc' := 39) rfl (hb hby own_f45) rfl (feq hc18_12).2 (by decide) (by decide) k) ?_
    show Go p e below _ T11 (mkF m 39 #[.val (.ref a1), .val (.ref a2)] [])
    refine Go.step (fun _ k => XS.iconst X11.here hx rfl (hb hby own_f55) k) ?_
    show Go p e below _ T11 (mkF m 40 #[.val (.ref a1), .val (.ref a2)] [(.int (0 : Int32))])
    have er : (own_eq p1 p2 p3 p4) = (0 : Int32) := by simp [own_eq, hc18_12]
    obtain ⟨fs, hr, hrun, hended, hW, hsame⟩ := X11.leave (v := some (.int (0 : Int32))) (fun h => by rw [Bd.returns] at h; cases h)
    refine Go.fin (retN X11 hx (t := .boolean) Bd.returns (by simp) (hb hby own_f54) hr) hrun hended ?_
    refine ⟨_, _, rfl, ?_, ⟨_, rfl⟩, hW, hsame.mono (by decide) (by decide)⟩
    show QE Z a1 a2 p1 p2 p3 p4 h0 n0 _ T11.heap _
    rw [e11]
    exact ⟨by rw [er], N0, rfl⟩
theorem own_f56 : parseMethodDescriptor "(II)I" = some ⟨[.int, .int], some .int⟩ := by decide +kernel
theorem own_f57 : parseMethodDescriptor "(II)V" = some ⟨[.int, .int], none⟩ := by decide +kernel
theorem own_f58 : parseMethodDescriptor "()I" = some ⟨[], some .int⟩ := by decide +kernel
theorem own_f59 : parseMethodDescriptor "(Ljava/lang/Object;)Z" = some ⟨[(.object "java/lang/Object")], some .boolean⟩ := by decide +kernel
theorem own_f60 : plainName "com/example/vigilant_crawler/vigilantcrawler/model/WordSpanHashCodePinLaw" = true := by first | (simp [plainName, overriddenIn]; done) | decide +kernel
theorem own_ef_0 (m : MethodId) (i0 : Int32) (i1 : Int32) (i2 : Int32) (i3 : Int32) : entryFrame m #[(.int i0), (.int i1), (.int i2), (.int i3)] maxLocals = mkF m 0 #[.val (.int i0), .val (.int i1), .val (.int i2), .val (.int i3), .unset, .unset, .unset, .unset, .unset, .unset, .unset, .unset, .unset, .unset, .unset, .unset, .unset, .unset, .unset] [] := by first | (simp [entryFrame, mkF, argsToLocals, Value.category, maxLocals]; done) | rfl
def Q0 (Z : State) (i0 : Int32) (i1 : Int32) (i2 : Int32) (i3 : Int32) (h0 : Heap) (n0 : Nat) (v : Option Value) (h : Heap) (L : List Loc) : Prop := v = some (.int 1) ∧ Fr n0 L
set_option maxRecDepth 65536 in
set_option maxHeartbeats 40000000 in
theorem rm0 (l : Launch) (Z : State) (a0 : Array Value) (hw : ∀ d ∈ tables_1, d.before a0 Z = true) (ws : List Jvm.Cond) (i0 : Int32) (i1 : Int32) (i2 : Int32) (i3 : Int32) (h0 : Heap) (n0 : Nat) (Z0 : n0 ≤ h0.size)  :
    MetFree l x (head1 (Jvm.Cond.code x code maxLocals ret :: ws) room_1) (fun a U => a = #[(.int i0), (.int i1), (.int i2), (.int i3)] ∧ Z.Warmed39 U.vm ∧ U.heap = h0) (fun _ _ _ _ _ => True) (fun _ U o U' => ∃ v L, o = .returned v ∧ Q0 Z i0 i1 i2 i3 h0 n0 v U'.heap L ∧ FrameEnd U o U' L 3 6) := by
  refine MetFree.of_bodySF (plainFor_of_name own_f60) hisR ?_
  intro p e s m args below meth c s₁ Bd hml0 hP hK
  obtain ⟨rfl, hZ, hh⟩ := hP
  have hx := Bd.exec
  have hby := Bd.bytes
  have hml : c.maxLocals = 19 := hml0
  have hown : s.vm.findClass "com/example/vigilant_crawler/vigilantcrawler/model/WordSpanHashCodePinLaw" = some m.cls := findClass_of_methodNamed Bd.named
  have hnm := (name_of_methodNamed Bd.named Bd.method).1
  have X0 : Stand p l e room_1 s m #[(.int i0), (.int i1), (.int i2), (.int i3)] below meth c s₁ [] 0 0 := Stand.of_body Bd
  have e0 : s₁.heap = h0 := by rw [← hh, Bd.state]; rfl
  have N0 := Fr.nil n0
  refine Go.start (own_ef_0 m i0 i1 i2 i3) ?_
  show Go p e below _ s₁ (mkF m 0 #[.val (.int i0), .val (.int i1), .val (.int i2), .val (.int i3), .unset, .unset, .unset, .unset, .unset, .unset, .unset, .unset, .unset, .unset, .unset, .unset, .unset, .unset, .unset] [])
  have Zn := Z0
  have K0 : Keep h0 h0 [] := Keep.refl h0 _
  refine Go.step (fun _ k => XS.iloadN X0.here hx rfl (hb hby at_0) rfl k) ?_
  show Go p e below _ s₁ (mkF m 1 #[.val (.int i0), .val (.int i1), .val (.int i2), .val (.int i3), .unset, .unset, .unset, .unset, .unset, .unset, .unset, .unset, .unset, .unset, .unset, .unset, .unset, .unset, .unset] [(.int i0)])
  refine Go.step (X0.ldcInt hx hown (mvT hZ (hw _ (List.mem_of_getElem? (i := 0) rfl))) (g := (mkF m 1 #[.val (.int i0), .val (.int i1), .val (.int i2), .val (.int i3), .unset, .unset, .unset, .unset, .unset, .unset, .unset, .unset, .unset, .unset, .unset, .unset, .unset, .unset, .unset] [(.int i0)])) rfl (hb hby at_1)) ?_
  show Go p e below _ s₁ (mkF m 3 #[.val (.int i0), .val (.int i1), .val (.int i2), .val (.int i3), .unset, .unset, .unset, .unset, .unset, .unset, .unset, .unset, .unset, .unset, .unset, .unset, .unset, .unset, .unset] [(.int (2147483647 : Int32)), (.int i0)])
  refine Go.step (fun _ k => XS.iand X0.here hx rfl (hb hby at_3) rfl k) ?_
  show Go p e below _ s₁ (mkF m 4 #[.val (.int i0), .val (.int i1), .val (.int i2), .val (.int i3), .unset, .unset, .unset, .unset, .unset, .unset, .unset, .unset, .unset, .unset, .unset, .unset, .unset, .unset, .unset] [(.int (i0 &&& (2147483647 : Int32)))])
  refine Go.step (fun _ k => XS.istore X0.here hx rfl (hb hby at_4) rfl (l' := #[.val (.int i0), .val (.int i1), .val (.int i2), .val (.int i3), .val (.int (i0 &&& (2147483647 : Int32))), .unset, .unset, .unset, .unset, .unset, .unset, .unset, .unset, .unset, .unset, .unset, .unset, .unset, .unset]) rfl k) ?_
  show Go p e below _ s₁ (mkF m 6 #[.val (.int i0), .val (.int i1), .val (.int i2), .val (.int i3), .val (.int (i0 &&& (2147483647 : Int32))), .unset, .unset, .unset, .unset, .unset, .unset, .unset, .unset, .unset, .unset, .unset, .unset, .unset, .unset] [])
  refine Go.step (fun _ k => XS.iloadN X0.here hx rfl (hb hby at_6) rfl k) ?_
  show Go p e below _ s₁ (mkF m 7 #[.val (.int i0), .val (.int i1), .val (.int i2), .val (.int i3), .val (.int (i0 &&& (2147483647 : Int32))), .unset, .unset, .unset, .unset, .unset, .unset, .unset, .unset, .unset, .unset, .unset, .unset, .unset, .unset] [(.int i1)])
  refine Go.step (X0.ldcInt hx hown (mvT hZ (hw _ (List.mem_of_getElem? (i := 0) rfl))) (g := (mkF m 7 #[.val (.int i0), .val (.int i1), .val (.int i2), .val (.int i3), .val (.int (i0 &&& (2147483647 : Int32))), .unset, .unset, .unset, .unset, .unset, .unset, .unset, .unset, .unset, .unset, .unset, .unset, .unset, .unset] [(.int i1)])) rfl (hb hby at_7)) ?_
  show Go p e below _ s₁ (mkF m 9 #[.val (.int i0), .val (.int i1), .val (.int i2), .val (.int i3), .val (.int (i0 &&& (2147483647 : Int32))), .unset, .unset, .unset, .unset, .unset, .unset, .unset, .unset, .unset, .unset, .unset, .unset, .unset, .unset] [(.int (2147483647 : Int32)), (.int i1)])
  refine Go.step (fun _ k => XS.iand X0.here hx rfl (hb hby at_9) rfl k) ?_
  show Go p e below _ s₁ (mkF m 10 #[.val (.int i0), .val (.int i1), .val (.int i2), .val (.int i3), .val (.int (i0 &&& (2147483647 : Int32))), .unset, .unset, .unset, .unset, .unset, .unset, .unset, .unset, .unset, .unset, .unset, .unset, .unset, .unset] [(.int (i1 &&& (2147483647 : Int32)))])
  refine Go.step (fun _ k => XS.istore X0.here hx rfl (hb hby at_10) rfl (l' := #[.val (.int i0), .val (.int i1), .val (.int i2), .val (.int i3), .val (.int (i0 &&& (2147483647 : Int32))), .val (.int (i1 &&& (2147483647 : Int32))), .unset, .unset, .unset, .unset, .unset, .unset, .unset, .unset, .unset, .unset, .unset, .unset, .unset]) rfl k) ?_
  show Go p e below _ s₁ (mkF m 12 #[.val (.int i0), .val (.int i1), .val (.int i2), .val (.int i3), .val (.int (i0 &&& (2147483647 : Int32))), .val (.int (i1 &&& (2147483647 : Int32))), .unset, .unset, .unset, .unset, .unset, .unset, .unset, .unset, .unset, .unset, .unset, .unset, .unset] [])
  refine Go.step (fun _ k => XS.iload X0.here hx rfl (hb hby at_12) rfl k) ?_
  show Go p e below _ s₁ (mkF m 14 #[.val (.int i0), .val (.int i1), .val (.int i2), .val (.int i3), .val (.int (i0 &&& (2147483647 : Int32))), .val (.int (i1 &&& (2147483647 : Int32))), .unset, .unset, .unset, .unset, .unset, .unset, .unset, .unset, .unset, .unset, .unset, .unset, .unset] [(.int (i0 &&& (2147483647 : Int32)))])
  refine Go.step (fun _ k => XS.iload X0.here hx rfl (hb hby at_14) rfl k) ?_
  show Go p e below _ s₁ (mkF m 16 #[.val (.int i0), .val (.int i1), .val (.int i2), .val (.int i3), .val (.int (i0 &&& (2147483647 : Int32))), .val (.int (i1 &&& (2147483647 : Int32))), .unset, .unset, .unset, .unset, .unset, .unset, .unset, .unset, .unset, .unset, .unset, .unset, .unset] [(.int (i1 &&& (2147483647 : Int32))), (.int (i0 &&& (2147483647 : Int32)))])
  obtain ⟨_, _, ⟨T17, L17, k17, n17⟩, -, X17, ⟨Lc17, hQ17, l17, y17, z17⟩, st17⟩ := Jvm.LawKit.callS X0 hx (y := (⟨"java/lang/Math", "min", "(II)I"⟩ : MethodName)) hown (mvT hZ (hw _ (List.mem_of_getElem? (i := 1) rfl))) (mvT hZ (hw _ (List.mem_of_getElem? (i := 2) rfl))) (mvT hZ (hw _ (List.mem_of_getElem? (i := 3) rfl))) (mvT hZ (hw _ (List.mem_of_getElem? (i := 4) rfl))) (by decide) (backOf (W := 0) (rmMin l Z a0 hw [] (i0 &&& (2147483647 : Int32)) (i1 &&& (2147483647 : Int32)) h0 n0 Zn) hZ (hw _ (List.mem_of_getElem? (i := 4) rfl)) (hw _ (List.mem_of_getElem? (i := 3) rfl)) (by decide) (by decide)) (g := (mkF m 16 #[.val (.int i0), .val (.int i1), .val (.int i2), .val (.int i3), .val (.int (i0 &&& (2147483647 : Int32))), .val (.int (i1 &&& (2147483647 : Int32))), .unset, .unset, .unset, .unset, .unset, .unset, .unset, .unset, .unset, .unset, .unset, .unset, .unset] [(.int (i1 &&& (2147483647 : Int32))), (.int (i0 &&& (2147483647 : Int32)))])) rfl (by rw [hml]; rfl) (argsL := [(.int (i0 &&& (2147483647 : Int32))), (.int (i1 &&& (2147483647 : Int32)))]) (rest := []) (lenOf own_f56 rfl) rfl (by show 2 * 0 + _ ≤ _; exact Nat.le_of_eq rfl) (hb hby at_16) (fun _ _ => ⟨rfl, e0, (by dsimp only [Pt.cells, Pt.slots]; decide), (by dsimp only [Pt.cells, Pt.slots]; decide)⟩)
  dsimp only [Pt.U, Pt.locs, Pt.cells, Pt.slots] at X17 l17 y17 z17 st17 hQ17
  subst l17 y17 z17
  obtain ⟨rfl, N17q, e17⟩ := hQ17
  have N17 := Fr.app N0 N17q
  refine Go.step (st17) ?_
  show Go p e below _ T17 (mkF m 19 #[.val (.int i0), .val (.int i1), .val (.int i2), .val (.int i3), .val (.int (i0 &&& (2147483647 : Int32))), .val (.int (i1 &&& (2147483647 : Int32))), .unset, .unset, .unset, .unset, .unset, .unset, .unset, .unset, .unset, .unset, .unset, .unset, .unset] [(.int (own_min (i0 &&& (2147483647 : Int32)) (i1 &&& (2147483647 : Int32))))])
  obtain ⟨lo, e_lo⟩ : ∃ z : Int32, z = (own_min (i0 &&& (2147483647 : Int32)) (i1 &&& (2147483647 : Int32))) := ⟨_, rfl⟩
  rw [← e_lo]
  show Go p e below _ T17 (mkF m 19 #[.val (.int i0), .val (.int i1), .val (.int i2), .val (.int i3), .val (.int (i0 &&& (2147483647 : Int32))), .val (.int (i1 &&& (2147483647 : Int32))), .unset, .unset, .unset, .unset, .unset, .unset, .unset, .unset, .unset, .unset, .unset, .unset, .unset] [(.int lo)])
  refine Go.step (fun _ k => XS.istore X17.here hx rfl (hb hby at_19) rfl (l' := #[.val (.int i0), .val (.int i1), .val (.int i2), .val (.int i3), .val (.int (i0 &&& (2147483647 : Int32))), .val (.int (i1 &&& (2147483647 : Int32))), .val (.int lo), .unset, .unset, .unset, .unset, .unset, .unset, .unset, .unset, .unset, .unset, .unset, .unset]) rfl k) ?_
  show Go p e below _ T17 (mkF m 21 #[.val (.int i0), .val (.int i1), .val (.int i2), .val (.int i3), .val (.int (i0 &&& (2147483647 : Int32))), .val (.int (i1 &&& (2147483647 : Int32))), .val (.int lo), .unset, .unset, .unset, .unset, .unset, .unset, .unset, .unset, .unset, .unset, .unset, .unset] [])
  refine Go.step (fun _ k => XS.iload X17.here hx rfl (hb hby at_21) rfl k) ?_
  show Go p e below _ T17 (mkF m 23 #[.val (.int i0), .val (.int i1), .val (.int i2), .val (.int i3), .val (.int (i0 &&& (2147483647 : Int32))), .val (.int (i1 &&& (2147483647 : Int32))), .val (.int lo), .unset, .unset, .unset, .unset, .unset, .unset, .unset, .unset, .unset, .unset, .unset, .unset] [(.int (i0 &&& (2147483647 : Int32)))])
  refine Go.step (fun _ k => XS.iload X17.here hx rfl (hb hby at_23) rfl k) ?_
  show Go p e below _ T17 (mkF m 25 #[.val (.int i0), .val (.int i1), .val (.int i2), .val (.int i3), .val (.int (i0 &&& (2147483647 : Int32))), .val (.int (i1 &&& (2147483647 : Int32))), .val (.int lo), .unset, .unset, .unset, .unset, .unset, .unset, .unset, .unset, .unset, .unset, .unset, .unset] [(.int (i1 &&& (2147483647 : Int32))), (.int (i0 &&& (2147483647 : Int32)))])
  obtain ⟨_, _, ⟨T18, L18, k18, n18⟩, -, X18, ⟨Lc18, hQ18, l18, y18, z18⟩, st18⟩ := Jvm.LawKit.callS X17 hx (y := (⟨"java/lang/Math", "max", "(II)I"⟩ : MethodName)) hown (mvT hZ (hw _ (List.mem_of_getElem? (i := 5) rfl))) (mvT hZ (hw _ (List.mem_of_getElem? (i := 6) rfl))) (mvT hZ (hw _ (List.mem_of_getElem? (i := 3) rfl))) (mvT hZ (hw _ (List.mem_of_getElem? (i := 7) rfl))) (by decide) (backOf (W := 0) (rmMax l Z a0 hw [] (i0 &&& (2147483647 : Int32)) (i1 &&& (2147483647 : Int32)) h0 n0 Zn) hZ (hw _ (List.mem_of_getElem? (i := 7) rfl)) (hw _ (List.mem_of_getElem? (i := 3) rfl)) (by decide) (by decide)) (g := (mkF m 25 #[.val (.int i0), .val (.int i1), .val (.int i2), .val (.int i3), .val (.int (i0 &&& (2147483647 : Int32))), .val (.int (i1 &&& (2147483647 : Int32))), .val (.int lo), .unset, .unset, .unset, .unset, .unset, .unset, .unset, .unset, .unset, .unset, .unset, .unset] [(.int (i1 &&& (2147483647 : Int32))), (.int (i0 &&& (2147483647 : Int32)))])) rfl (by rw [hml]; rfl) (argsL := [(.int (i0 &&& (2147483647 : Int32))), (.int (i1 &&& (2147483647 : Int32)))]) (rest := []) (lenOf own_f56 rfl) rfl (by show 2 * 0 + _ ≤ _; exact Nat.le_of_eq rfl) (hb hby at_25) (fun _ _ => ⟨rfl, e17, (by dsimp only [Pt.cells, Pt.slots]; decide), (by dsimp only [Pt.cells, Pt.slots]; decide)⟩)
  dsimp only [Pt.U, Pt.locs, Pt.cells, Pt.slots] at X18 l18 y18 z18 st18 hQ18
  subst l18 y18 z18
  obtain ⟨rfl, N18q, e18⟩ := hQ18
  have N18 := Fr.app N17 N18q
  refine Go.step (st18) ?_
  show Go p e below _ T18 (mkF m 28 #[.val (.int i0), .val (.int i1), .val (.int i2), .val (.int i3), .val (.int (i0 &&& (2147483647 : Int32))), .val (.int (i1 &&& (2147483647 : Int32))), .val (.int lo), .unset, .unset, .unset, .unset, .unset, .unset, .unset, .unset, .unset, .unset, .unset, .unset] [(.int (own_max (i0 &&& (2147483647 : Int32)) (i1 &&& (2147483647 : Int32))))])
  obtain ⟨hi, e_hi⟩ : ∃ z : Int32, z = (own_max (i0 &&& (2147483647 : Int32)) (i1 &&& (2147483647 : Int32))) := ⟨_, rfl⟩
  rw [← e_hi]
  show Go p e below _ T18 (mkF m 28 #[.val (.int i0), .val (.int i1), .val (.int i2), .val (.int i3), .val (.int (i0 &&& (2147483647 : Int32))), .val (.int (i1 &&& (2147483647 : Int32))), .val (.int lo), .unset, .unset, .unset, .unset, .unset, .unset, .unset, .unset, .unset, .unset, .unset, .unset] [(.int hi)])
  refine Go.step (fun _ k => XS.istore X18.here hx rfl (hb hby at_28) rfl (l' := #[.val (.int i0), .val (.int i1), .val (.int i2), .val (.int i3), .val (.int (i0 &&& (2147483647 : Int32))), .val (.int (i1 &&& (2147483647 : Int32))), .val (.int lo), .val (.int hi), .unset, .unset, .unset, .unset, .unset, .unset, .unset, .unset, .unset, .unset, .unset]) rfl k) ?_
  show Go p e below _ T18 (mkF m 30 #[.val (.int i0), .val (.int i1), .val (.int i2), .val (.int i3), .val (.int (i0 &&& (2147483647 : Int32))), .val (.int (i1 &&& (2147483647 : Int32))), .val (.int lo), .val (.int hi), .unset, .unset, .unset, .unset, .unset, .unset, .unset, .unset, .unset, .unset, .unset] [])
  refine Go.step (fun _ k => XS.iloadN X18.here hx rfl (hb hby at_30) rfl k) ?_
  show Go p e below _ T18 (mkF m 31 #[.val (.int i0), .val (.int i1), .val (.int i2), .val (.int i3), .val (.int (i0 &&& (2147483647 : Int32))), .val (.int (i1 &&& (2147483647 : Int32))), .val (.int lo), .val (.int hi), .unset, .unset, .unset, .unset, .unset, .unset, .unset, .unset, .unset, .unset, .unset] [(.int i2)])
  refine Go.step (X18.ldcInt hx hown (mvT hZ (hw _ (List.mem_of_getElem? (i := 0) rfl))) (g := (mkF m 31 #[.val (.int i0), .val (.int i1), .val (.int i2), .val (.int i3), .val (.int (i0 &&& (2147483647 : Int32))), .val (.int (i1 &&& (2147483647 : Int32))), .val (.int lo), .val (.int hi), .unset, .unset, .unset, .unset, .unset, .unset, .unset, .unset, .unset, .unset, .unset] [(.int i2)])) rfl (hb hby at_31)) ?_
  show Go p e below _ T18 (mkF m 33 #[.val (.int i0), .val (.int i1), .val (.int i2), .val (.int i3), .val (.int (i0 &&& (2147483647 : Int32))), .val (.int (i1 &&& (2147483647 : Int32))), .val (.int lo), .val (.int hi), .unset, .unset, .unset, .unset, .unset, .unset, .unset, .unset, .unset, .unset, .unset] [(.int (2147483647 : Int32)), (.int i2)])
  refine Go.step (fun _ k => XS.iand X18.here hx rfl (hb hby at_33) rfl k) ?_
  show Go p e below _ T18 (mkF m 34 #[.val (.int i0), .val (.int i1), .val (.int i2), .val (.int i3), .val (.int (i0 &&& (2147483647 : Int32))), .val (.int (i1 &&& (2147483647 : Int32))), .val (.int lo), .val (.int hi), .unset, .unset, .unset, .unset, .unset, .unset, .unset, .unset, .unset, .unset, .unset] [(.int (i2 &&& (2147483647 : Int32)))])
  refine Go.step (fun _ k => XS.istore X18.here hx rfl (hb hby at_34) rfl (l' := #[.val (.int i0), .val (.int i1), .val (.int i2), .val (.int i3), .val (.int (i0 &&& (2147483647 : Int32))), .val (.int (i1 &&& (2147483647 : Int32))), .val (.int lo), .val (.int hi), .val (.int (i2 &&& (2147483647 : Int32))), .unset, .unset, .unset, .unset, .unset, .unset, .unset, .unset, .unset, .unset]) rfl k) ?_
  show Go p e below _ T18 (mkF m 36 #[.val (.int i0), .val (.int i1), .val (.int i2), .val (.int i3), .val (.int (i0 &&& (2147483647 : Int32))), .val (.int (i1 &&& (2147483647 : Int32))), .val (.int lo), .val (.int hi), .val (.int (i2 &&& (2147483647 : Int32))), .unset, .unset, .unset, .unset, .unset, .unset, .unset, .unset, .unset, .unset] [])
  refine Go.step (fun _ k => XS.iloadN X18.here hx rfl (hb hby at_36) rfl k) ?_
  show Go p e below _ T18 (mkF m 37 #[.val (.int i0), .val (.int i1), .val (.int i2), .val (.int i3), .val (.int (i0 &&& (2147483647 : Int32))), .val (.int (i1 &&& (2147483647 : Int32))), .val (.int lo), .val (.int hi), .val (.int (i2 &&& (2147483647 : Int32))), .unset, .unset, .unset, .unset, .unset, .unset, .unset, .unset, .unset, .unset] [(.int i3)])
  refine Go.step (X18.ldcInt hx hown (mvT hZ (hw _ (List.mem_of_getElem? (i := 0) rfl))) (g := (mkF m 37 #[.val (.int i0), .val (.int i1), .val (.int i2), .val (.int i3), .val (.int (i0 &&& (2147483647 : Int32))), .val (.int (i1 &&& (2147483647 : Int32))), .val (.int lo), .val (.int hi), .val (.int (i2 &&& (2147483647 : Int32))), .unset, .unset, .unset, .unset, .unset, .unset, .unset, .unset, .unset, .unset] [(.int i3)])) rfl (hb hby at_37)) ?_
  show Go p e below _ T18 (mkF m 39 #[.val (.int i0), .val (.int i1), .val (.int i2), .val (.int i3), .val (.int (i0 &&& (2147483647 : Int32))), .val (.int (i1 &&& (2147483647 : Int32))), .val (.int lo), .val (.int hi), .val (.int (i2 &&& (2147483647 : Int32))), .unset, .unset, .unset, .unset, .unset, .unset, .unset, .unset, .unset, .unset] [(.int (2147483647 : Int32)), (.int i3)])
  refine Go.step (fun _ k => XS.iand X18.here hx rfl (hb hby at_39) rfl k) ?_
  show Go p e below _ T18 (mkF m 40 #[.val (.int i0), .val (.int i1), .val (.int i2), .val (.int i3), .val (.int (i0 &&& (2147483647 : Int32))), .val (.int (i1 &&& (2147483647 : Int32))), .val (.int lo), .val (.int hi), .val (.int (i2 &&& (2147483647 : Int32))), .unset, .unset, .unset, .unset, .unset, .unset, .unset, .unset, .unset, .unset] [(.int (i3 &&& (2147483647 : Int32)))])
  refine Go.step (fun _ k => XS.istore X18.here hx rfl (hb hby at_40) rfl (l' := #[.val (.int i0), .val (.int i1), .val (.int i2), .val (.int i3), .val (.int (i0 &&& (2147483647 : Int32))), .val (.int (i1 &&& (2147483647 : Int32))), .val (.int lo), .val (.int hi), .val (.int (i2 &&& (2147483647 : Int32))), .val (.int (i3 &&& (2147483647 : Int32))), .unset, .unset, .unset, .unset, .unset, .unset, .unset, .unset, .unset]) rfl k) ?_
  show Go p e below _ T18 (mkF m 42 #[.val (.int i0), .val (.int i1), .val (.int i2), .val (.int i3), .val (.int (i0 &&& (2147483647 : Int32))), .val (.int (i1 &&& (2147483647 : Int32))), .val (.int lo), .val (.int hi), .val (.int (i2 &&& (2147483647 : Int32))), .val (.int (i3 &&& (2147483647 : Int32))), .unset, .unset, .unset, .unset, .unset, .unset, .unset, .unset, .unset] [])
  refine Go.step (fun _ k => XS.iload X18.here hx rfl (hb hby at_42) rfl k) ?_
  show Go p e below _ T18 (mkF m 44 #[.val (.int i0), .val (.int i1), .val (.int i2), .val (.int i3), .val (.int (i0 &&& (2147483647 : Int32))), .val (.int (i1 &&& (2147483647 : Int32))), .val (.int lo), .val (.int hi), .val (.int (i2 &&& (2147483647 : Int32))), .val (.int (i3 &&& (2147483647 : Int32))), .unset, .unset, .unset, .unset, .unset, .unset, .unset, .unset, .unset] [(.int (i2 &&& (2147483647 : Int32)))])
  refine Go.step (fun _ k => XS.iload X18.here hx rfl (hb hby at_44) rfl k) ?_
  show Go p e below _ T18 (mkF m 46 #[.val (.int i0), .val (.int i1), .val (.int i2), .val (.int i3), .val (.int (i0 &&& (2147483647 : Int32))), .val (.int (i1 &&& (2147483647 : Int32))), .val (.int lo), .val (.int hi), .val (.int (i2 &&& (2147483647 : Int32))), .val (.int (i3 &&& (2147483647 : Int32))), .unset, .unset, .unset, .unset, .unset, .unset, .unset, .unset, .unset] [(.int (i3 &&& (2147483647 : Int32))), (.int (i2 &&& (2147483647 : Int32)))])
  obtain ⟨_, _, ⟨T19, L19, k19, n19⟩, -, X19, ⟨Lc19, hQ19, l19, y19, z19⟩, st19⟩ := Jvm.LawKit.callS X18 hx (y := (⟨"java/lang/Math", "min", "(II)I"⟩ : MethodName)) hown (mvT hZ (hw _ (List.mem_of_getElem? (i := 1) rfl))) (mvT hZ (hw _ (List.mem_of_getElem? (i := 2) rfl))) (mvT hZ (hw _ (List.mem_of_getElem? (i := 3) rfl))) (mvT hZ (hw _ (List.mem_of_getElem? (i := 4) rfl))) (by decide) (backOf (W := 0) (rmMin l Z a0 hw [] (i2 &&& (2147483647 : Int32)) (i3 &&& (2147483647 : Int32)) h0 n0 Zn) hZ (hw _ (List.mem_of_getElem? (i := 4) rfl)) (hw _ (List.mem_of_getElem? (i := 3) rfl)) (by decide) (by decide)) (g := (mkF m 46 #[.val (.int i0), .val (.int i1), .val (.int i2), .val (.int i3), .val (.int (i0 &&& (2147483647 : Int32))), .val (.int (i1 &&& (2147483647 : Int32))), .val (.int lo), .val (.int hi), .val (.int (i2 &&& (2147483647 : Int32))), .val (.int (i3 &&& (2147483647 : Int32))), .unset, .unset, .unset, .unset, .unset, .unset, .unset, .unset, .unset] [(.int (i3 &&& (2147483647 : Int32))), (.int (i2 &&& (2147483647 : Int32)))])) rfl (by rw [hml]; rfl) (argsL := [(.int (i2 &&& (2147483647 : Int32))), (.int (i3 &&& (2147483647 : Int32)))]) (rest := []) (lenOf own_f56 rfl) rfl (by show 2 * 0 + _ ≤ _; exact Nat.le_of_eq rfl) (hb hby at_46) (fun _ _ => ⟨rfl, e18, (by dsimp only [Pt.cells, Pt.slots]; decide), (by dsimp only [Pt.cells, Pt.slots]; decide)⟩)
  dsimp only [Pt.U, Pt.locs, Pt.cells, Pt.slots] at X19 l19 y19 z19 st19 hQ19
  subst l19 y19 z19
  obtain ⟨rfl, N19q, e19⟩ := hQ19
  have N19 := Fr.app N18 N19q
  refine Go.step (st19) ?_
  show Go p e below _ T19 (mkF m 49 #[.val (.int i0), .val (.int i1), .val (.int i2), .val (.int i3), .val (.int (i0 &&& (2147483647 : Int32))), .val (.int (i1 &&& (2147483647 : Int32))), .val (.int lo), .val (.int hi), .val (.int (i2 &&& (2147483647 : Int32))), .val (.int (i3 &&& (2147483647 : Int32))), .unset, .unset, .unset, .unset, .unset, .unset, .unset, .unset, .unset] [(.int (own_min (i2 &&& (2147483647 : Int32)) (i3 &&& (2147483647 : Int32))))])
  obtain ⟨lu, e_lu⟩ : ∃ z : Int32, z = (own_min (i2 &&& (2147483647 : Int32)) (i3 &&& (2147483647 : Int32))) := ⟨_, rfl⟩
  rw [← e_lu]
  show Go p e below _ T19 (mkF m 49 #[.val (.int i0), .val (.int i1), .val (.int i2), .val (.int i3), .val (.int (i0 &&& (2147483647 : Int32))), .val (.int (i1 &&& (2147483647 : Int32))), .val (.int lo), .val (.int hi), .val (.int (i2 &&& (2147483647 : Int32))), .val (.int (i3 &&& (2147483647 : Int32))), .unset, .unset, .unset, .unset, .unset, .unset, .unset, .unset, .unset] [(.int lu)])
  refine Go.step (fun _ k => XS.istore X19.here hx rfl (hb hby at_49) rfl (l' := #[.val (.int i0), .val (.int i1), .val (.int i2), .val (.int i3), .val (.int (i0 &&& (2147483647 : Int32))), .val (.int (i1 &&& (2147483647 : Int32))), .val (.int lo), .val (.int hi), .val (.int (i2 &&& (2147483647 : Int32))), .val (.int (i3 &&& (2147483647 : Int32))), .val (.int lu), .unset, .unset, .unset, .unset, .unset, .unset, .unset, .unset]) rfl k) ?_
  show Go p e below _ T19 (mkF m 51 #[.val (.int i0), .val (.int i1), .val (.int i2), .val (.int i3), .val (.int (i0 &&& (2147483647 : Int32))), .val (.int (i1 &&& (2147483647 : Int32))), .val (.int lo), .val (.int hi), .val (.int (i2 &&& (2147483647 : Int32))), .val (.int (i3 &&& (2147483647 : Int32))), .val (.int lu), .unset, .unset, .unset, .unset, .unset, .unset, .unset, .unset] [])
  refine Go.step (fun _ k => XS.iload X19.here hx rfl (hb hby at_51) rfl k) ?_
  show Go p e below _ T19 (mkF m 53 #[.val (.int i0), .val (.int i1), .val (.int i2), .val (.int i3), .val (.int (i0 &&& (2147483647 : Int32))), .val (.int (i1 &&& (2147483647 : Int32))), .val (.int lo), .val (.int hi), .val (.int (i2 &&& (2147483647 : Int32))), .val (.int (i3 &&& (2147483647 : Int32))), .val (.int lu), .unset, .unset, .unset, .unset, .unset, .unset, .unset, .unset] [(.int (i2 &&& (2147483647 : Int32)))])
  refine Go.step (fun _ k => XS.iload X19.here hx rfl (hb hby at_53) rfl k) ?_
  show Go p e below _ T19 (mkF m 55 #[.val (.int i0), .val (.int i1), .val (.int i2), .val (.int i3), .val (.int (i0 &&& (2147483647 : Int32))), .val (.int (i1 &&& (2147483647 : Int32))), .val (.int lo), .val (.int hi), .val (.int (i2 &&& (2147483647 : Int32))), .val (.int (i3 &&& (2147483647 : Int32))), .val (.int lu), .unset, .unset, .unset, .unset, .unset, .unset, .unset, .unset] [(.int (i3 &&& (2147483647 : Int32))), (.int (i2 &&& (2147483647 : Int32)))])
  obtain ⟨_, _, ⟨T20, L20, k20, n20⟩, -, X20, ⟨Lc20, hQ20, l20, y20, z20⟩, st20⟩ := Jvm.LawKit.callS X19 hx (y := (⟨"java/lang/Math", "max", "(II)I"⟩ : MethodName)) hown (mvT hZ (hw _ (List.mem_of_getElem? (i := 5) rfl))) (mvT hZ (hw _ (List.mem_of_getElem? (i := 6) rfl))) (mvT hZ (hw _ (List.mem_of_getElem? (i := 3) rfl))) (mvT hZ (hw _ (List.mem_of_getElem? (i := 7) rfl))) (by decide) (backOf (W := 0) (rmMax l Z a0 hw [] (i2 &&& (2147483647 : Int32)) (i3 &&& (2147483647 : Int32)) h0 n0 Zn) hZ (hw _ (List.mem_of_getElem? (i := 7) rfl)) (hw _ (List.mem_of_getElem? (i := 3) rfl)) (by decide) (by decide)) (g := (mkF m 55 #[.val (.int i0), .val (.int i1), .val (.int i2), .val (.int i3), .val (.int (i0 &&& (2147483647 : Int32))), .val (.int (i1 &&& (2147483647 : Int32))), .val (.int lo), .val (.int hi), .val (.int (i2 &&& (2147483647 : Int32))), .val (.int (i3 &&& (2147483647 : Int32))), .val (.int lu), .unset, .unset, .unset, .unset, .unset, .unset, .unset, .unset] [(.int (i3 &&& (2147483647 : Int32))), (.int (i2 &&& (2147483647 : Int32)))])) rfl (by rw [hml]; rfl) (argsL := [(.int (i2 &&& (2147483647 : Int32))), (.int (i3 &&& (2147483647 : Int32)))]) (rest := []) (lenOf own_f56 rfl) rfl (by show 2 * 0 + _ ≤ _; exact Nat.le_of_eq rfl) (hb hby at_55) (fun _ _ => ⟨rfl, e19, (by dsimp only [Pt.cells, Pt.slots]; decide), (by dsimp only [Pt.cells, Pt.slots]; decide)⟩)
  dsimp only [Pt.U, Pt.locs, Pt.cells, Pt.slots] at X20 l20 y20 z20 st20 hQ20
  subst l20 y20 z20
  obtain ⟨rfl, N20q, e20⟩ := hQ20
  have N20 := Fr.app N19 N20q
  refine Go.step (st20) ?_
  show Go p e below _ T20 (mkF m 58 #[.val (.int i0), .val (.int i1), .val (.int i2), .val (.int i3), .val (.int (i0 &&& (2147483647 : Int32))), .val (.int (i1 &&& (2147483647 : Int32))), .val (.int lo), .val (.int hi), .val (.int (i2 &&& (2147483647 : Int32))), .val (.int (i3 &&& (2147483647 : Int32))), .val (.int lu), .unset, .unset, .unset, .unset, .unset, .unset, .unset, .unset] [(.int (own_max (i2 &&& (2147483647 : Int32)) (i3 &&& (2147483647 : Int32))))])
  obtain ⟨hu, e_hu⟩ : ∃ z : Int32, z = (own_max (i2 &&& (2147483647 : Int32)) (i3 &&& (2147483647 : Int32))) := ⟨_, rfl⟩
  rw [← e_hu]
  show Go p e below _ T20 (mkF m 58 #[.val (.int i0), .val (.int i1), .val (.int i2), .val (.int i3), .val (.int (i0 &&& (2147483647 : Int32))), .val (.int (i1 &&& (2147483647 : Int32))), .val (.int lo), .val (.int hi), .val (.int (i2 &&& (2147483647 : Int32))), .val (.int (i3 &&& (2147483647 : Int32))), .val (.int lu), .unset, .unset, .unset, .unset, .unset, .unset, .unset, .unset] [(.int hu)])
  have hk1 := own_ok i0 i1
  have hk2 := own_ok i2 i3
  rw [← e_lo, ← e_hi] at hk1
  rw [← e_lu, ← e_hu] at hk2
  refine Go.step (fun _ k => XS.istore X20.here hx rfl (hb hby at_58) rfl (l' := #[.val (.int i0), .val (.int i1), .val (.int i2), .val (.int i3), .val (.int (i0 &&& (2147483647 : Int32))), .val (.int (i1 &&& (2147483647 : Int32))), .val (.int lo), .val (.int hi), .val (.int (i2 &&& (2147483647 : Int32))), .val (.int (i3 &&& (2147483647 : Int32))), .val (.int lu), .val (.int hu), .unset, .unset, .unset, .unset, .unset, .unset, .unset]) rfl k) ?_
  show Go p e below _ T20 (mkF m 60 #[.val (.int i0), .val (.int i1), .val (.int i2), .val (.int i3), .val (.int (i0 &&& (2147483647 : Int32))), .val (.int (i1 &&& (2147483647 : Int32))), .val (.int lo), .val (.int hi), .val (.int (i2 &&& (2147483647 : Int32))), .val (.int (i3 &&& (2147483647 : Int32))), .val (.int lu), .val (.int hu), .unset, .unset, .unset, .unset, .unset, .unset, .unset] [])
  obtain ⟨T21, h21, X21, e21, E21, A21, D21, U21, st21⟩ := newO X20 hx hZ hown (hw _ (List.mem_of_getElem? (i := 8) rfl)) (hw _ (List.mem_of_getElem? (i := 9) rfl)) (hw _ (List.mem_of_getElem? (i := 10) rfl)) e20 (g := (mkF m 60 #[.val (.int i0), .val (.int i1), .val (.int i2), .val (.int i3), .val (.int (i0 &&& (2147483647 : Int32))), .val (.int (i1 &&& (2147483647 : Int32))), .val (.int lo), .val (.int hi), .val (.int (i2 &&& (2147483647 : Int32))), .val (.int (i3 &&& (2147483647 : Int32))), .val (.int lu), .val (.int hu), .unset, .unset, .unset, .unset, .unset, .unset, .unset] [])) rfl (hb hby at_60) (by decide) (by decide)
  obtain ⟨b21, g21⟩ : ∃ z, z = h0.size := ⟨_, rfl⟩
  rw [← g21] at A21 D21 U21 st21
  have g_b21 : n0 ≤ b21 := Nat.le_trans Zn (Nat.le_of_eq g21.symm)
  have sz_b21 : h0.size ≤ b21 := Nat.le_trans K0.1 (Nat.le_of_eq g21.symm)
  replace Zn := Nat.le_trans Zn E21.1
  replace K0 := K0.ext E21
  have E_b21 := A21
  have F_from_b21 : Fld Z h21 b21 "com/example/vigilant_crawler/vigilantcrawler/model/WordSpan" "from" "I" (.int (0 : Int32)) := D21 (Or.inr (hw _ (List.mem_of_getElem? (i := 18) rfl))) (ty := .int) (by decide)
  have F_to_b21 : Fld Z h21 b21 "com/example/vigilant_crawler/vigilantcrawler/model/WordSpan" "to" "I" (.int (0 : Int32)) := D21 (Or.inr (hw _ (List.mem_of_getElem? (i := 20) rfl))) (ty := .int) (by decide)
  refine Go.step st21 ?_
  show Go p e below _ T21 (mkF m 63 #[.val (.int i0), .val (.int i1), .val (.int i2), .val (.int i3), .val (.int (i0 &&& (2147483647 : Int32))), .val (.int (i1 &&& (2147483647 : Int32))), .val (.int lo), .val (.int hi), .val (.int (i2 &&& (2147483647 : Int32))), .val (.int (i3 &&& (2147483647 : Int32))), .val (.int lu), .val (.int hu), .unset, .unset, .unset, .unset, .unset, .unset, .unset] [(.ref b21)])
  refine Go.step (fun _ k => XS.dup X21.here hx rfl (hb hby at_63) rfl rfl k) ?_
  show Go p e below _ T21 (mkF m 64 #[.val (.int i0), .val (.int i1), .val (.int i2), .val (.int i3), .val (.int (i0 &&& (2147483647 : Int32))), .val (.int (i1 &&& (2147483647 : Int32))), .val (.int lo), .val (.int hi), .val (.int (i2 &&& (2147483647 : Int32))), .val (.int (i3 &&& (2147483647 : Int32))), .val (.int lu), .val (.int hu), .unset, .unset, .unset, .unset, .unset, .unset, .unset] [(.ref b21), (.ref b21)])
  refine Go.step (fun _ k => XS.iload X21.here hx rfl (hb hby at_64) rfl k) ?_
  show Go p e below _ T21 (mkF m 66 #[.val (.int i0), .val (.int i1), .val (.int i2), .val (.int i3), .val (.int (i0 &&& (2147483647 : Int32))), .val (.int (i1 &&& (2147483647 : Int32))), .val (.int lo), .val (.int hi), .val (.int (i2 &&& (2147483647 : Int32))), .val (.int (i3 &&& (2147483647 : Int32))), .val (.int lu), .val (.int hu), .unset, .unset, .unset, .unset, .unset, .unset, .unset] [(.int lo), (.ref b21), (.ref b21)])
  refine Go.step (fun _ k => XS.iload X21.here hx rfl (hb hby at_66) rfl k) ?_
  show Go p e below _ T21 (mkF m 68 #[.val (.int i0), .val (.int i1), .val (.int i2), .val (.int i3), .val (.int (i0 &&& (2147483647 : Int32))), .val (.int (i1 &&& (2147483647 : Int32))), .val (.int lo), .val (.int hi), .val (.int (i2 &&& (2147483647 : Int32))), .val (.int (i3 &&& (2147483647 : Int32))), .val (.int lu), .val (.int hu), .unset, .unset, .unset, .unset, .unset, .unset, .unset] [(.int hi), (.int lo), (.ref b21), (.ref b21)])
  obtain ⟨_, _, ⟨T22, L22, k22, n22⟩, -, X22, ⟨Lc22, hQ22, l22, y22, z22⟩, st22⟩ := X21.specialBack hx (y := (⟨"com/example/vigilant_crawler/vigilantcrawler/model/WordSpan", "<init>", "(II)V"⟩ : MethodName)) rfl hown (mvT hZ (hw _ (List.mem_of_getElem? (i := 11) rfl))) (mvT hZ (hw _ (List.mem_of_getElem? (i := 12) rfl))) (mvT hZ (hw _ (List.mem_of_getElem? (i := 13) rfl))) (by decide) (backOf (W := 1) (rmI l Z a0 hw [] b21 lo hi h21 n0 Zn E_b21 F_from_b21 F_to_b21 g_b21 hk1.1 hk1.2) hZ (hw _ (List.mem_of_getElem? (i := 13) rfl)) (hw _ (List.mem_of_getElem? (i := 10) rfl)) (by decide) (by decide)) (g := (mkF m 68 #[.val (.int i0), .val (.int i1), .val (.int i2), .val (.int i3), .val (.int (i0 &&& (2147483647 : Int32))), .val (.int (i1 &&& (2147483647 : Int32))), .val (.int lo), .val (.int hi), .val (.int (i2 &&& (2147483647 : Int32))), .val (.int (i3 &&& (2147483647 : Int32))), .val (.int lu), .val (.int hu), .unset, .unset, .unset, .unset, .unset, .unset, .unset] [(.int hi), (.int lo), (.ref b21), (.ref b21)])) rfl (by rw [hml]; rfl) (Steps.refl _) (a := b21) (argsL := [(.int lo), (.int hi)]) (rest := [(.ref b21)]) (lenOf own_f57 rfl) rfl (by show 2 * 0 + _ ≤ _; exact Nat.le_of_eq rfl) (hb hby at_68) (fun _ _ => ⟨rfl, e21, (by dsimp only [Pt.cells, Pt.slots]; decide), (by dsimp only [Pt.cells, Pt.slots]; decide)⟩)
  dsimp only [Pt.U, Pt.locs, Pt.cells, Pt.slots] at X22 l22 y22 z22 st22 hQ22
  subst l22 y22 z22
  obtain ⟨rfl, N22q, K22, F_from_b21, F_to_b21⟩ := hQ22
  have N22 := Fr.app N20 N22q
  refine Go.step (fun _ k => st22.trans k) ?_
  replace E_b21 := E_b21.keep K22
  replace K0 := K0.trans K22 (allS (Or.inr sz_b21) (all0))
  replace Zn := Nat.le_trans Zn K22.1
  show Go p e below _ T22 (mkF m 71 #[.val (.int i0), .val (.int i1), .val (.int i2), .val (.int i3), .val (.int (i0 &&& (2147483647 : Int32))), .val (.int (i1 &&& (2147483647 : Int32))), .val (.int lo), .val (.int hi), .val (.int (i2 &&& (2147483647 : Int32))), .val (.int (i3 &&& (2147483647 : Int32))), .val (.int lu), .val (.int hu), .unset, .unset, .unset, .unset, .unset, .unset, .unset] [(.ref b21)])
  refine Go.step (fun _ k => XS.astore X22.here hx rfl (hb hby at_71) rfl rfl (l' := #[.val (.int i0), .val (.int i1), .val (.int i2), .val (.int i3), .val (.int (i0 &&& (2147483647 : Int32))), .val (.int (i1 &&& (2147483647 : Int32))), .val (.int lo), .val (.int hi), .val (.int (i2 &&& (2147483647 : Int32))), .val (.int (i3 &&& (2147483647 : Int32))), .val (.int lu), .val (.int hu), .val (.ref b21), .unset, .unset, .unset, .unset, .unset, .unset]) rfl k) ?_
  show Go p e below _ T22 (mkF m 73 #[.val (.int i0), .val (.int i1), .val (.int i2), .val (.int i3), .val (.int (i0 &&& (2147483647 : Int32))), .val (.int (i1 &&& (2147483647 : Int32))), .val (.int lo), .val (.int hi), .val (.int (i2 &&& (2147483647 : Int32))), .val (.int (i3 &&& (2147483647 : Int32))), .val (.int lu), .val (.int hu), .val (.ref b21), .unset, .unset, .unset, .unset, .unset, .unset] [])
  obtain ⟨T23, h23, X23, e23, E23, A23, D23, U23, st23⟩ := newO X22 hx hZ hown (hw _ (List.mem_of_getElem? (i := 8) rfl)) (hw _ (List.mem_of_getElem? (i := 9) rfl)) (hw _ (List.mem_of_getElem? (i := 10) rfl)) rfl (g := (mkF m 73 #[.val (.int i0), .val (.int i1), .val (.int i2), .val (.int i3), .val (.int (i0 &&& (2147483647 : Int32))), .val (.int (i1 &&& (2147483647 : Int32))), .val (.int lo), .val (.int hi), .val (.int (i2 &&& (2147483647 : Int32))), .val (.int (i3 &&& (2147483647 : Int32))), .val (.int lu), .val (.int hu), .val (.ref b21), .unset, .unset, .unset, .unset, .unset, .unset] [])) rfl (hb hby at_73) (by decide) (by decide)
  obtain ⟨b23, g23⟩ : ∃ z, z = T22.heap.size := ⟨_, rfl⟩
  rw [← g23] at A23 D23 U23 st23
  have ne_b21_b23 : b21 ≠ b23 := Nat.ne_of_lt (Nat.lt_of_lt_of_le E_b21.lt (Nat.le_of_eq g23.symm))
  have g_b23 : n0 ≤ b23 := Nat.le_trans Zn (Nat.le_of_eq g23.symm)
  have sz_b23 : h0.size ≤ b23 := Nat.le_trans K0.1 (Nat.le_of_eq g23.symm)
  replace E_b21 := E_b21.ext E23
  replace F_from_b21 := F_from_b21.ext E23
  replace F_to_b21 := F_to_b21.ext E23
  replace Zn := Nat.le_trans Zn E23.1
  replace K0 := K0.ext E23
  have E_b23 := A23
  have F_from_b23 : Fld Z h23 b23 "com/example/vigilant_crawler/vigilantcrawler/model/WordSpan" "from" "I" (.int (0 : Int32)) := D23 (Or.inr (hw _ (List.mem_of_getElem? (i := 18) rfl))) (ty := .int) (by decide)
  have F_to_b23 : Fld Z h23 b23 "com/example/vigilant_crawler/vigilantcrawler/model/WordSpan" "to" "I" (.int (0 : Int32)) := D23 (Or.inr (hw _ (List.mem_of_getElem? (i := 20) rfl))) (ty := .int) (by decide)
  refine Go.step st23 ?_
  show Go p e below _ T23 (mkF m 76 #[.val (.int i0), .val (.int i1), .val (.int i2), .val (.int i3), .val (.int (i0 &&& (2147483647 : Int32))), .val (.int (i1 &&& (2147483647 : Int32))), .val (.int lo), .val (.int hi), .val (.int (i2 &&& (2147483647 : Int32))), .val (.int (i3 &&& (2147483647 : Int32))), .val (.int lu), .val (.int hu), .val (.ref b21), .unset, .unset, .unset, .unset, .unset, .unset] [(.ref b23)])
  refine Go.step (fun _ k => XS.dup X23.here hx rfl (hb hby at_76) rfl rfl k) ?_
  show Go p e below _ T23 (mkF m 77 #[.val (.int i0), .val (.int i1), .val (.int i2), .val (.int i3), .val (.int (i0 &&& (2147483647 : Int32))), .val (.int (i1 &&& (2147483647 : Int32))), .val (.int lo), .val (.int hi), .val (.int (i2 &&& (2147483647 : Int32))), .val (.int (i3 &&& (2147483647 : Int32))), .val (.int lu), .val (.int hu), .val (.ref b21), .unset, .unset, .unset, .unset, .unset, .unset] [(.ref b23), (.ref b23)])
  refine Go.step (fun _ k => XS.iload X23.here hx rfl (hb hby at_77) rfl k) ?_
  show Go p e below _ T23 (mkF m 79 #[.val (.int i0), .val (.int i1), .val (.int i2), .val (.int i3), .val (.int (i0 &&& (2147483647 : Int32))), .val (.int (i1 &&& (2147483647 : Int32))), .val (.int lo), .val (.int hi), .val (.int (i2 &&& (2147483647 : Int32))), .val (.int (i3 &&& (2147483647 : Int32))), .val (.int lu), .val (.int hu), .val (.ref b21), .unset, .unset, .unset, .unset, .unset, .unset] [(.int lo), (.ref b23), (.ref b23)])
  refine Go.step (fun _ k => XS.iload X23.here hx rfl (hb hby at_79) rfl k) ?_
  show Go p e below _ T23 (mkF m 81 #[.val (.int i0), .val (.int i1), .val (.int i2), .val (.int i3), .val (.int (i0 &&& (2147483647 : Int32))), .val (.int (i1 &&& (2147483647 : Int32))), .val (.int lo), .val (.int hi), .val (.int (i2 &&& (2147483647 : Int32))), .val (.int (i3 &&& (2147483647 : Int32))), .val (.int lu), .val (.int hu), .val (.ref b21), .unset, .unset, .unset, .unset, .unset, .unset] [(.int hi), (.int lo), (.ref b23), (.ref b23)])
  obtain ⟨_, _, ⟨T24, L24, k24, n24⟩, -, X24, ⟨Lc24, hQ24, l24, y24, z24⟩, st24⟩ := X23.specialBack hx (y := (⟨"com/example/vigilant_crawler/vigilantcrawler/model/WordSpan", "<init>", "(II)V"⟩ : MethodName)) rfl hown (mvT hZ (hw _ (List.mem_of_getElem? (i := 11) rfl))) (mvT hZ (hw _ (List.mem_of_getElem? (i := 12) rfl))) (mvT hZ (hw _ (List.mem_of_getElem? (i := 13) rfl))) (by decide) (backOf (W := 1) (rmI l Z a0 hw [] b23 lo hi h23 n0 Zn E_b23 F_from_b23 F_to_b23 g_b23 hk1.1 hk1.2) hZ (hw _ (List.mem_of_getElem? (i := 13) rfl)) (hw _ (List.mem_of_getElem? (i := 10) rfl)) (by decide) (by decide)) (g := (mkF m 81 #[.val (.int i0), .val (.int i1), .val (.int i2), .val (.int i3), .val (.int (i0 &&& (2147483647 : Int32))), .val (.int (i1 &&& (2147483647 : Int32))), .val (.int lo), .val (.int hi), .val (.int (i2 &&& (2147483647 : Int32))), .val (.int (i3 &&& (2147483647 : Int32))), .val (.int lu), .val (.int hu), .val (.ref b21), .unset, .unset, .unset, .unset, .unset, .unset] [(.int hi), (.int lo), (.ref b23), (.ref b23)])) rfl (by rw [hml]; rfl) (Steps.refl _) (a := b23) (argsL := [(.int lo), (.int hi)]) (rest := [(.ref b23)]) (lenOf own_f57 rfl) rfl (by show 2 * 0 + _ ≤ _; exact Nat.le_of_eq rfl) (hb hby at_81) (fun _ _ => ⟨rfl, e23, (by dsimp only [Pt.cells, Pt.slots]; decide), (by dsimp only [Pt.cells, Pt.slots]; decide)⟩)
  dsimp only [Pt.U, Pt.locs, Pt.cells, Pt.slots] at X24 l24 y24 z24 st24 hQ24
  subst l24 y24 z24
  obtain ⟨rfl, N24q, K24, F_from_b23, F_to_b23⟩ := hQ24
  have N24 := Fr.app N22 N24q
  refine Go.step (fun _ k => st24.trans k) ?_
  replace E_b21 := E_b21.keep K24
  replace F_from_b21 := F_from_b21.keep K24 (ninS ne_b21_b23 nin0)
  replace F_to_b21 := F_to_b21.keep K24 (ninS ne_b21_b23 nin0)
  replace E_b23 := E_b23.keep K24
  replace K0 := K0.trans K24 (allS (Or.inr sz_b23) (all0))
  replace Zn := Nat.le_trans Zn K24.1
  show Go p e below _ T24 (mkF m 84 #[.val (.int i0), .val (.int i1), .val (.int i2), .val (.int i3), .val (.int (i0 &&& (2147483647 : Int32))), .val (.int (i1 &&& (2147483647 : Int32))), .val (.int lo), .val (.int hi), .val (.int (i2 &&& (2147483647 : Int32))), .val (.int (i3 &&& (2147483647 : Int32))), .val (.int lu), .val (.int hu), .val (.ref b21), .unset, .unset, .unset, .unset, .unset, .unset] [(.ref b23)])
  refine Go.step (fun _ k => XS.astore X24.here hx rfl (hb hby at_84) rfl rfl (l' := #[.val (.int i0), .val (.int i1), .val (.int i2), .val (.int i3), .val (.int (i0 &&& (2147483647 : Int32))), .val (.int (i1 &&& (2147483647 : Int32))), .val (.int lo), .val (.int hi), .val (.int (i2 &&& (2147483647 : Int32))), .val (.int (i3 &&& (2147483647 : Int32))), .val (.int lu), .val (.int hu), .val (.ref b21), .val (.ref b23), .unset, .unset, .unset, .unset, .unset]) rfl k) ?_
  show Go p e below _ T24 (mkF m 86 #[.val (.int i0), .val (.int i1), .val (.int i2), .val (.int i3), .val (.int (i0 &&& (2147483647 : Int32))), .val (.int (i1 &&& (2147483647 : Int32))), .val (.int lo), .val (.int hi), .val (.int (i2 &&& (2147483647 : Int32))), .val (.int (i3 &&& (2147483647 : Int32))), .val (.int lu), .val (.int hu), .val (.ref b21), .val (.ref b23), .unset, .unset, .unset, .unset, .unset] [])
  obtain ⟨T25, h25, X25, e25, E25, A25, D25, U25, st25⟩ := newO X24 hx hZ hown (hw _ (List.mem_of_getElem? (i := 8) rfl)) (hw _ (List.mem_of_getElem? (i := 9) rfl)) (hw _ (List.mem_of_getElem? (i := 10) rfl)) rfl (g := (mkF m 86 #[.val (.int i0), .val (.int i1), .val (.int i2), .val (.int i3), .val (.int (i0 &&& (2147483647 : Int32))), .val (.int (i1 &&& (2147483647 : Int32))), .val (.int lo), .val (.int hi), .val (.int (i2 &&& (2147483647 : Int32))), .val (.int (i3 &&& (2147483647 : Int32))), .val (.int lu), .val (.int hu), .val (.ref b21), .val (.ref b23), .unset, .unset, .unset, .unset, .unset] [])) rfl (hb hby at_86) (by decide) (by decide)
  obtain ⟨b25, g25⟩ : ∃ z, z = T24.heap.size := ⟨_, rfl⟩
  rw [← g25] at A25 D25 U25 st25
  have ne_b21_b25 : b21 ≠ b25 := Nat.ne_of_lt (Nat.lt_of_lt_of_le E_b21.lt (Nat.le_of_eq g25.symm))
  have ne_b23_b25 : b23 ≠ b25 := Nat.ne_of_lt (Nat.lt_of_lt_of_le E_b23.lt (Nat.le_of_eq g25.symm))
  have g_b25 : n0 ≤ b25 := Nat.le_trans Zn (Nat.le_of_eq g25.symm)
  have sz_b25 : h0.size ≤ b25 := Nat.le_trans K0.1 (Nat.le_of_eq g25.symm)
  replace E_b21 := E_b21.ext E25
  replace F_from_b21 := F_from_b21.ext E25
  replace F_to_b21 := F_to_b21.ext E25
  replace E_b23 := E_b23.ext E25
  replace F_from_b23 := F_from_b23.ext E25
  replace F_to_b23 := F_to_b23.ext E25
  replace Zn := Nat.le_trans Zn E25.1
  replace K0 := K0.ext E25
  have E_b25 := A25
  have F_from_b25 : Fld Z h25 b25 "com/example/vigilant_crawler/vigilantcrawler/model/WordSpan" "from" "I" (.int (0 : Int32)) := D25 (Or.inr (hw _ (List.mem_of_getElem? (i := 18) rfl))) (ty := .int) (by decide)
  have F_to_b25 : Fld Z h25 b25 "com/example/vigilant_crawler/vigilantcrawler/model/WordSpan" "to" "I" (.int (0 : Int32)) := D25 (Or.inr (hw _ (List.mem_of_getElem? (i := 20) rfl))) (ty := .int) (by decide)
  refine Go.step st25 ?_
  show Go p e below _ T25 (mkF m 89 #[.val (.int i0), .val (.int i1), .val (.int i2), .val (.int i3), .val (.int (i0 &&& (2147483647 : Int32))), .val (.int (i1 &&& (2147483647 : Int32))), .val (.int lo), .val (.int hi), .val (.int (i2 &&& (2147483647 : Int32))), .val (.int (i3 &&& (2147483647 : Int32))), .val (.int lu), .val (.int hu), .val (.ref b21), .val (.ref b23), .unset, .unset, .unset, .unset, .unset] [(.ref b25)])
  refine Go.step (fun _ k => XS.dup X25.here hx rfl (hb hby at_89) rfl rfl k) ?_
  show Go p e below _ T25 (mkF m 90 #[.val (.int i0), .val (.int i1), .val (.int i2), .val (.int i3), .val (.int (i0 &&& (2147483647 : Int32))), .val (.int (i1 &&& (2147483647 : Int32))), .val (.int lo), .val (.int hi), .val (.int (i2 &&& (2147483647 : Int32))), .val (.int (i3 &&& (2147483647 : Int32))), .val (.int lu), .val (.int hu), .val (.ref b21), .val (.ref b23), .unset, .unset, .unset, .unset, .unset] [(.ref b25), (.ref b25)])
  refine Go.step (fun _ k => XS.iload X25.here hx rfl (hb hby at_90) rfl k) ?_
  show Go p e below _ T25 (mkF m 92 #[.val (.int i0), .val (.int i1), .val (.int i2), .val (.int i3), .val (.int (i0 &&& (2147483647 : Int32))), .val (.int (i1 &&& (2147483647 : Int32))), .val (.int lo), .val (.int hi), .val (.int (i2 &&& (2147483647 : Int32))), .val (.int (i3 &&& (2147483647 : Int32))), .val (.int lu), .val (.int hu), .val (.ref b21), .val (.ref b23), .unset, .unset, .unset, .unset, .unset] [(.int lu), (.ref b25), (.ref b25)])
  refine Go.step (fun _ k => XS.iload X25.here hx rfl (hb hby at_92) rfl k) ?_
  show Go p e below _ T25 (mkF m 94 #[.val (.int i0), .val (.int i1), .val (.int i2), .val (.int i3), .val (.int (i0 &&& (2147483647 : Int32))), .val (.int (i1 &&& (2147483647 : Int32))), .val (.int lo), .val (.int hi), .val (.int (i2 &&& (2147483647 : Int32))), .val (.int (i3 &&& (2147483647 : Int32))), .val (.int lu), .val (.int hu), .val (.ref b21), .val (.ref b23), .unset, .unset, .unset, .unset, .unset] [(.int hu), (.int lu), (.ref b25), (.ref b25)])
  obtain ⟨_, _, ⟨T26, L26, k26, n26⟩, -, X26, ⟨Lc26, hQ26, l26, y26, z26⟩, st26⟩ := X25.specialBack hx (y := (⟨"com/example/vigilant_crawler/vigilantcrawler/model/WordSpan", "<init>", "(II)V"⟩ : MethodName)) rfl hown (mvT hZ (hw _ (List.mem_of_getElem? (i := 11) rfl))) (mvT hZ (hw _ (List.mem_of_getElem? (i := 12) rfl))) (mvT hZ (hw _ (List.mem_of_getElem? (i := 13) rfl))) (by decide) (backOf (W := 1) (rmI l Z a0 hw [] b25 lu hu h25 n0 Zn E_b25 F_from_b25 F_to_b25 g_b25 hk2.1 hk2.2) hZ (hw _ (List.mem_of_getElem? (i := 13) rfl)) (hw _ (List.mem_of_getElem? (i := 10) rfl)) (by decide) (by decide)) (g := (mkF m 94 #[.val (.int i0), .val (.int i1), .val (.int i2), .val (.int i3), .val (.int (i0 &&& (2147483647 : Int32))), .val (.int (i1 &&& (2147483647 : Int32))), .val (.int lo), .val (.int hi), .val (.int (i2 &&& (2147483647 : Int32))), .val (.int (i3 &&& (2147483647 : Int32))), .val (.int lu), .val (.int hu), .val (.ref b21), .val (.ref b23), .unset, .unset, .unset, .unset, .unset] [(.int hu), (.int lu), (.ref b25), (.ref b25)])) rfl (by rw [hml]; rfl) (Steps.refl _) (a := b25) (argsL := [(.int lu), (.int hu)]) (rest := [(.ref b25)]) (lenOf own_f57 rfl) rfl (by show 2 * 0 + _ ≤ _; exact Nat.le_of_eq rfl) (hb hby at_94) (fun _ _ => ⟨rfl, e25, (by dsimp only [Pt.cells, Pt.slots]; decide), (by dsimp only [Pt.cells, Pt.slots]; decide)⟩)
  dsimp only [Pt.U, Pt.locs, Pt.cells, Pt.slots] at X26 l26 y26 z26 st26 hQ26
  subst l26 y26 z26
  obtain ⟨rfl, N26q, K26, F_from_b25, F_to_b25⟩ := hQ26
  have N26 := Fr.app N24 N26q
  refine Go.step (fun _ k => st26.trans k) ?_
  replace E_b21 := E_b21.keep K26
  replace F_from_b21 := F_from_b21.keep K26 (ninS ne_b21_b25 nin0)
  replace F_to_b21 := F_to_b21.keep K26 (ninS ne_b21_b25 nin0)
  replace E_b23 := E_b23.keep K26
  replace F_from_b23 := F_from_b23.keep K26 (ninS ne_b23_b25 nin0)
  replace F_to_b23 := F_to_b23.keep K26 (ninS ne_b23_b25 nin0)
  replace E_b25 := E_b25.keep K26
  replace K0 := K0.trans K26 (allS (Or.inr sz_b25) (all0))
  replace Zn := Nat.le_trans Zn K26.1
  show Go p e below _ T26 (mkF m 97 #[.val (.int i0), .val (.int i1), .val (.int i2), .val (.int i3), .val (.int (i0 &&& (2147483647 : Int32))), .val (.int (i1 &&& (2147483647 : Int32))), .val (.int lo), .val (.int hi), .val (.int (i2 &&& (2147483647 : Int32))), .val (.int (i3 &&& (2147483647 : Int32))), .val (.int lu), .val (.int hu), .val (.ref b21), .val (.ref b23), .unset, .unset, .unset, .unset, .unset] [(.ref b25)])
  refine Go.step (fun _ k => XS.astore X26.here hx rfl (hb hby at_97) rfl rfl (l' := #[.val (.int i0), .val (.int i1), .val (.int i2), .val (.int i3), .val (.int (i0 &&& (2147483647 : Int32))), .val (.int (i1 &&& (2147483647 : Int32))), .val (.int lo), .val (.int hi), .val (.int (i2 &&& (2147483647 : Int32))), .val (.int (i3 &&& (2147483647 : Int32))), .val (.int lu), .val (.int hu), .val (.ref b21), .val (.ref b23), .val (.ref b25), .unset, .unset, .unset, .unset]) rfl k) ?_
  show Go p e below _ T26 (mkF m 99 #[.val (.int i0), .val (.int i1), .val (.int i2), .val (.int i3), .val (.int (i0 &&& (2147483647 : Int32))), .val (.int (i1 &&& (2147483647 : Int32))), .val (.int lo), .val (.int hi), .val (.int (i2 &&& (2147483647 : Int32))), .val (.int (i3 &&& (2147483647 : Int32))), .val (.int lu), .val (.int hu), .val (.ref b21), .val (.ref b23), .val (.ref b25), .unset, .unset, .unset, .unset] [])
  refine Go.step (fun _ k => XS.aload X26.here hx rfl (hb hby at_99) rfl rfl k) ?_
  show Go p e below _ T26 (mkF m 101 #[.val (.int i0), .val (.int i1), .val (.int i2), .val (.int i3), .val (.int (i0 &&& (2147483647 : Int32))), .val (.int (i1 &&& (2147483647 : Int32))), .val (.int lo), .val (.int hi), .val (.int (i2 &&& (2147483647 : Int32))), .val (.int (i3 &&& (2147483647 : Int32))), .val (.int lu), .val (.int hu), .val (.ref b21), .val (.ref b23), .val (.ref b25), .unset, .unset, .unset, .unset] [(.ref b21)])
  obtain ⟨cq27, kq27, q27a, q27b, q27c⟩ := isOf hZ rfl E_b21
  obtain ⟨_, _, ⟨T27, L27, k27, n27⟩, -, X27, ⟨Lc27, hQ27, l27, y27, z27⟩, st27⟩ := X26.virtualBack hx (y := (⟨"com/example/vigilant_crawler/vigilantcrawler/model/WordSpan", "hashCode", "()I"⟩ : MethodName)) (z := (⟨"com/example/vigilant_crawler/vigilantcrawler/model/WordSpan", "hashCode", "()I"⟩ : MethodName)) hown (mvT hZ (hw _ (List.mem_of_getElem? (i := 21) rfl))) (mvT hZ (hw _ (List.mem_of_getElem? (i := 22) rfl))) (notFace_of_selects (args := #[]) (mvT hZ (hw _ (List.mem_of_getElem? (i := 24) rfl)))) (mvT hZ (hw _ (List.mem_of_getElem? (i := 24) rfl))) (mvT hZ (hw _ (List.mem_of_getElem? (i := 23) rfl))) (by decide) (backOf (W := 0) (rmH l Z a0 hw [] b21 lo hi T26.heap n0 Zn F_from_b21 F_to_b21) hZ (hw _ (List.mem_of_getElem? (i := 25) rfl)) (hw _ (List.mem_of_getElem? (i := 10) rfl)) (by decide) (by decide)) q27a q27c (g := (mkF m 101 #[.val (.int i0), .val (.int i1), .val (.int i2), .val (.int i3), .val (.int (i0 &&& (2147483647 : Int32))), .val (.int (i1 &&& (2147483647 : Int32))), .val (.int lo), .val (.int hi), .val (.int (i2 &&& (2147483647 : Int32))), .val (.int (i3 &&& (2147483647 : Int32))), .val (.int lu), .val (.int hu), .val (.ref b21), .val (.ref b23), .val (.ref b25), .unset, .unset, .unset, .unset] [(.ref b21)])) rfl (by rw [hml]; rfl) (Steps.refl _) (argsL := []) (rest := []) (lenOf own_f58 rfl) rfl (by show 2 * 0 + _ ≤ _; exact Nat.le_of_eq rfl) (hb hby at_101) (fun _ _ => ⟨rfl, rfl, (by dsimp only [Pt.cells, Pt.slots]; decide), (by dsimp only [Pt.cells, Pt.slots]; decide)⟩)
  dsimp only [Pt.U, Pt.locs, Pt.cells, Pt.slots] at X27 l27 y27 z27 st27 hQ27
  subst l27 y27 z27
  obtain ⟨rfl, N27q, e27⟩ := hQ27
  have N27 := Fr.app N26 N27q
  refine Go.step (fun _ k => st27.trans k) ?_
  show Go p e below _ T27 (mkF m 104 #[.val (.int i0), .val (.int i1), .val (.int i2), .val (.int i3), .val (.int (i0 &&& (2147483647 : Int32))), .val (.int (i1 &&& (2147483647 : Int32))), .val (.int lo), .val (.int hi), .val (.int (i2 &&& (2147483647 : Int32))), .val (.int (i3 &&& (2147483647 : Int32))), .val (.int lu), .val (.int hu), .val (.ref b21), .val (.ref b23), .val (.ref b25), .unset, .unset, .unset, .unset] [(.int ((31 : Int32) * lo + hi))])
  refine Go.step (fun _ k => XS.istore X27.here hx rfl (hb hby at_104) rfl (l' := #[.val (.int i0), .val (.int i1), .val (.int i2), .val (.int i3), .val (.int (i0 &&& (2147483647 : Int32))), .val (.int (i1 &&& (2147483647 : Int32))), .val (.int lo), .val (.int hi), .val (.int (i2 &&& (2147483647 : Int32))), .val (.int (i3 &&& (2147483647 : Int32))), .val (.int lu), .val (.int hu), .val (.ref b21), .val (.ref b23), .val (.ref b25), .val (.int ((31 : Int32) * lo + hi)), .unset, .unset, .unset]) rfl k) ?_
  show Go p e below _ T27 (mkF m 106 #[.val (.int i0), .val (.int i1), .val (.int i2), .val (.int i3), .val (.int (i0 &&& (2147483647 : Int32))), .val (.int (i1 &&& (2147483647 : Int32))), .val (.int lo), .val (.int hi), .val (.int (i2 &&& (2147483647 : Int32))), .val (.int (i3 &&& (2147483647 : Int32))), .val (.int lu), .val (.int hu), .val (.ref b21), .val (.ref b23), .val (.ref b25), .val (.int ((31 : Int32) * lo + hi)), .unset, .unset, .unset] [])
  refine Go.step (fun _ k => XS.iload X27.here hx rfl (hb hby at_106) rfl k) ?_
  show Go p e below _ T27 (mkF m 108 #[.val (.int i0), .val (.int i1), .val (.int i2), .val (.int i3), .val (.int (i0 &&& (2147483647 : Int32))), .val (.int (i1 &&& (2147483647 : Int32))), .val (.int lo), .val (.int hi), .val (.int (i2 &&& (2147483647 : Int32))), .val (.int (i3 &&& (2147483647 : Int32))), .val (.int lu), .val (.int hu), .val (.ref b21), .val (.ref b23), .val (.ref b25), .val (.int ((31 : Int32) * lo + hi)), .unset, .unset, .unset] [(.int ((31 : Int32) * lo + hi))])
  refine Go.step (fun _ k => XS.aload X27.here hx rfl (hb hby at_108) rfl rfl k) ?_
  show Go p e below _ T27 (mkF m 110 #[.val (.int i0), .val (.int i1), .val (.int i2), .val (.int i3), .val (.int (i0 &&& (2147483647 : Int32))), .val (.int (i1 &&& (2147483647 : Int32))), .val (.int lo), .val (.int hi), .val (.int (i2 &&& (2147483647 : Int32))), .val (.int (i3 &&& (2147483647 : Int32))), .val (.int lu), .val (.int hu), .val (.ref b21), .val (.ref b23), .val (.ref b25), .val (.int ((31 : Int32) * lo + hi)), .unset, .unset, .unset] [(.ref b21), (.int ((31 : Int32) * lo + hi))])
  obtain ⟨cq28, kq28, q28a, q28b, q28c⟩ := isOf hZ e27 E_b21
  obtain ⟨_, _, ⟨T28, L28, k28, n28⟩, -, X28, ⟨Lc28, hQ28, l28, y28, z28⟩, st28⟩ := X27.virtualBack hx (y := (⟨"com/example/vigilant_crawler/vigilantcrawler/model/WordSpan", "hashCode", "()I"⟩ : MethodName)) (z := (⟨"com/example/vigilant_crawler/vigilantcrawler/model/WordSpan", "hashCode", "()I"⟩ : MethodName)) hown (mvT hZ (hw _ (List.mem_of_getElem? (i := 21) rfl))) (mvT hZ (hw _ (List.mem_of_getElem? (i := 22) rfl))) (notFace_of_selects (args := #[]) (mvT hZ (hw _ (List.mem_of_getElem? (i := 24) rfl)))) (mvT hZ (hw _ (List.mem_of_getElem? (i := 24) rfl))) (mvT hZ (hw _ (List.mem_of_getElem? (i := 23) rfl))) (by decide) (backOf (W := 1) (rmH l Z a0 hw [] b21 lo hi T26.heap n0 Zn F_from_b21 F_to_b21) hZ (hw _ (List.mem_of_getElem? (i := 25) rfl)) (hw _ (List.mem_of_getElem? (i := 10) rfl)) (by decide) (by decide)) q28a q28c (g := (mkF m 110 #[.val (.int i0), .val (.int i1), .val (.int i2), .val (.int i3), .val (.int (i0 &&& (2147483647 : Int32))), .val (.int (i1 &&& (2147483647 : Int32))), .val (.int lo), .val (.int hi), .val (.int (i2 &&& (2147483647 : Int32))), .val (.int (i3 &&& (2147483647 : Int32))), .val (.int lu), .val (.int hu), .val (.ref b21), .val (.ref b23), .val (.ref b25), .val (.int ((31 : Int32) * lo + hi)), .unset, .unset, .unset] [(.ref b21), (.int ((31 : Int32) * lo + hi))])) rfl (by rw [hml]; rfl) (Steps.refl _) (argsL := []) (rest := [(.int ((31 : Int32) * lo + hi))]) (lenOf own_f58 rfl) rfl (by show 2 * 0 + _ ≤ _; exact Nat.le_of_eq rfl) (hb hby at_110) (fun _ _ => ⟨rfl, e27, (by dsimp only [Pt.cells, Pt.slots]; decide), (by dsimp only [Pt.cells, Pt.slots]; decide)⟩)
  dsimp only [Pt.U, Pt.locs, Pt.cells, Pt.slots] at X28 l28 y28 z28 st28 hQ28
  subst l28 y28 z28
  obtain ⟨rfl, N28q, e28⟩ := hQ28
  have N28 := Fr.app N27 N28q
  refine Go.step (fun _ k => st28.trans k) ?_
  show Go p e below _ T28 (mkF m 113 #[.val (.int i0), .val (.int i1), .val (.int i2), .val (.int i3), .val (.int (i0 &&& (2147483647 : Int32))), .val (.int (i1 &&& (2147483647 : Int32))), .val (.int lo), .val (.int hi), .val (.int (i2 &&& (2147483647 : Int32))), .val (.int (i3 &&& (2147483647 : Int32))), .val (.int lu), .val (.int hu), .val (.ref b21), .val (.ref b23), .val (.ref b25), .val (.int ((31 : Int32) * lo + hi)), .unset, .unset, .unset] [(.int ((31 : Int32) * lo + hi)), (.int ((31 : Int32) * lo + hi))])
  refine Go.step (fun _ k => XS.icmpNo X28.here hx rfl (hb hby at_113) rfl (teq rfl).2 k) ?_
  show Go p e below _ T28 (mkF m 116 #[.val (.int i0), .val (.int i1), .val (.int i2), .val (.int i3), .val (.int (i0 &&& (2147483647 : Int32))), .val (.int (i1 &&& (2147483647 : Int32))), .val (.int lo), .val (.int hi), .val (.int (i2 &&& (2147483647 : Int32))), .val (.int (i3 &&& (2147483647 : Int32))), .val (.int lu), .val (.int hu), .val (.ref b21), .val (.ref b23), .val (.ref b25), .val (.int ((31 : Int32) * lo + hi)), .unset, .unset, .unset] [])
  refine Go.step (fun _ k => XS.iconst X28.here hx rfl (hb hby at_116) k) ?_
  show Go p e below _ T28 (mkF m 117 #[.val (.int i0), .val (.int i1), .val (.int i2), .val (.int i3), .val (.int (i0 &&& (2147483647 : Int32))), .val (.int (i1 &&& (2147483647 : Int32))), .val (.int lo), .val (.int hi), .val (.int (i2 &&& (2147483647 : Int32))), .val (.int (i3 &&& (2147483647 : Int32))), .val (.int lu), .val (.int hu), .val (.ref b21), .val (.ref b23), .val (.ref b25), .val (.int ((31 : Int32) * lo + hi)), .unset, .unset, .unset] [(.int (1 : Int32))])
  refine Go.step (fun _ k => XS.goto X28.here hx rfl (pc0 := 117) (pc' := 121) rfl (hb hby at_117) (by decide) (by decide) k) ?_
  show Go p e below _ T28 (mkF m 121 #[.val (.int i0), .val (.int i1), .val (.int i2), .val (.int i3), .val (.int (i0 &&& (2147483647 : Int32))), .val (.int (i1 &&& (2147483647 : Int32))), .val (.int lo), .val (.int hi), .val (.int (i2 &&& (2147483647 : Int32))), .val (.int (i3 &&& (2147483647 : Int32))), .val (.int lu), .val (.int hu), .val (.ref b21), .val (.ref b23), .val (.ref b25), .val (.int ((31 : Int32) * lo + hi)), .unset, .unset, .unset] [(.int (1 : Int32))])
  refine Go.step (fun _ k => XS.istore X28.here hx rfl (hb hby at_121) rfl (l' := #[.val (.int i0), .val (.int i1), .val (.int i2), .val (.int i3), .val (.int (i0 &&& (2147483647 : Int32))), .val (.int (i1 &&& (2147483647 : Int32))), .val (.int lo), .val (.int hi), .val (.int (i2 &&& (2147483647 : Int32))), .val (.int (i3 &&& (2147483647 : Int32))), .val (.int lu), .val (.int hu), .val (.ref b21), .val (.ref b23), .val (.ref b25), .val (.int ((31 : Int32) * lo + hi)), .val (.int (1 : Int32)), .unset, .unset]) rfl k) ?_
  show Go p e below _ T28 (mkF m 123 #[.val (.int i0), .val (.int i1), .val (.int i2), .val (.int i3), .val (.int (i0 &&& (2147483647 : Int32))), .val (.int (i1 &&& (2147483647 : Int32))), .val (.int lo), .val (.int hi), .val (.int (i2 &&& (2147483647 : Int32))), .val (.int (i3 &&& (2147483647 : Int32))), .val (.int lu), .val (.int hu), .val (.ref b21), .val (.ref b23), .val (.ref b25), .val (.int ((31 : Int32) * lo + hi)), .val (.int (1 : Int32)), .unset, .unset] [])
  refine Go.step (fun _ k => XS.iload X28.here hx rfl (hb hby at_123) rfl k) ?_
  show Go p e below _ T28 (mkF m 125 #[.val (.int i0), .val (.int i1), .val (.int i2), .val (.int i3), .val (.int (i0 &&& (2147483647 : Int32))), .val (.int (i1 &&& (2147483647 : Int32))), .val (.int lo), .val (.int hi), .val (.int (i2 &&& (2147483647 : Int32))), .val (.int (i3 &&& (2147483647 : Int32))), .val (.int lu), .val (.int hu), .val (.ref b21), .val (.ref b23), .val (.ref b25), .val (.int ((31 : Int32) * lo + hi)), .val (.int (1 : Int32)), .unset, .unset] [(.int ((31 : Int32) * lo + hi))])
  refine Go.step (fun _ k => XS.aload X28.here hx rfl (hb hby at_125) rfl rfl k) ?_
  show Go p e below _ T28 (mkF m 127 #[.val (.int i0), .val (.int i1), .val (.int i2), .val (.int i3), .val (.int (i0 &&& (2147483647 : Int32))), .val (.int (i1 &&& (2147483647 : Int32))), .val (.int lo), .val (.int hi), .val (.int (i2 &&& (2147483647 : Int32))), .val (.int (i3 &&& (2147483647 : Int32))), .val (.int lu), .val (.int hu), .val (.ref b21), .val (.ref b23), .val (.ref b25), .val (.int ((31 : Int32) * lo + hi)), .val (.int (1 : Int32)), .unset, .unset] [(.ref b23), (.int ((31 : Int32) * lo + hi))])
  obtain ⟨cq29, kq29, q29a, q29b, q29c⟩ := isOf hZ e28 E_b23
  obtain ⟨_, _, ⟨T29, L29, k29, n29⟩, -, X29, ⟨Lc29, hQ29, l29, y29, z29⟩, st29⟩ := X28.virtualBack hx (y := (⟨"com/example/vigilant_crawler/vigilantcrawler/model/WordSpan", "hashCode", "()I"⟩ : MethodName)) (z := (⟨"com/example/vigilant_crawler/vigilantcrawler/model/WordSpan", "hashCode", "()I"⟩ : MethodName)) hown (mvT hZ (hw _ (List.mem_of_getElem? (i := 21) rfl))) (mvT hZ (hw _ (List.mem_of_getElem? (i := 22) rfl))) (notFace_of_selects (args := #[]) (mvT hZ (hw _ (List.mem_of_getElem? (i := 24) rfl)))) (mvT hZ (hw _ (List.mem_of_getElem? (i := 24) rfl))) (mvT hZ (hw _ (List.mem_of_getElem? (i := 23) rfl))) (by decide) (backOf (W := 1) (rmH l Z a0 hw [] b23 lo hi T26.heap n0 Zn F_from_b23 F_to_b23) hZ (hw _ (List.mem_of_getElem? (i := 25) rfl)) (hw _ (List.mem_of_getElem? (i := 10) rfl)) (by decide) (by decide)) q29a q29c (g := (mkF m 127 #[.val (.int i0), .val (.int i1), .val (.int i2), .val (.int i3), .val (.int (i0 &&& (2147483647 : Int32))), .val (.int (i1 &&& (2147483647 : Int32))), .val (.int lo), .val (.int hi), .val (.int (i2 &&& (2147483647 : Int32))), .val (.int (i3 &&& (2147483647 : Int32))), .val (.int lu), .val (.int hu), .val (.ref b21), .val (.ref b23), .val (.ref b25), .val (.int ((31 : Int32) * lo + hi)), .val (.int (1 : Int32)), .unset, .unset] [(.ref b23), (.int ((31 : Int32) * lo + hi))])) rfl (by rw [hml]; rfl) (Steps.refl _) (argsL := []) (rest := [(.int ((31 : Int32) * lo + hi))]) (lenOf own_f58 rfl) rfl (by show 2 * 0 + _ ≤ _; exact Nat.le_of_eq rfl) (hb hby at_127) (fun _ _ => ⟨rfl, e28, (by dsimp only [Pt.cells, Pt.slots]; decide), (by dsimp only [Pt.cells, Pt.slots]; decide)⟩)
  dsimp only [Pt.U, Pt.locs, Pt.cells, Pt.slots] at X29 l29 y29 z29 st29 hQ29
  subst l29 y29 z29
  obtain ⟨rfl, N29q, e29⟩ := hQ29
  have N29 := Fr.app N28 N29q
  refine Go.step (fun _ k => st29.trans k) ?_
  show Go p e below _ T29 (mkF m 130 #[.val (.int i0), .val (.int i1), .val (.int i2), .val (.int i3), .val (.int (i0 &&& (2147483647 : Int32))), .val (.int (i1 &&& (2147483647 : Int32))), .val (.int lo), .val (.int hi), .val (.int (i2 &&& (2147483647 : Int32))), .val (.int (i3 &&& (2147483647 : Int32))), .val (.int lu), .val (.int hu), .val (.ref b21), .val (.ref b23), .val (.ref b25), .val (.int ((31 : Int32) * lo + hi)), .val (.int (1 : Int32)), .unset, .unset] [(.int ((31 : Int32) * lo + hi)), (.int ((31 : Int32) * lo + hi))])
  refine Go.step (fun _ k => XS.icmpNo X29.here hx rfl (hb hby at_130) rfl (teq rfl).2 k) ?_
  show Go p e below _ T29 (mkF m 133 #[.val (.int i0), .val (.int i1), .val (.int i2), .val (.int i3), .val (.int (i0 &&& (2147483647 : Int32))), .val (.int (i1 &&& (2147483647 : Int32))), .val (.int lo), .val (.int hi), .val (.int (i2 &&& (2147483647 : Int32))), .val (.int (i3 &&& (2147483647 : Int32))), .val (.int lu), .val (.int hu), .val (.ref b21), .val (.ref b23), .val (.ref b25), .val (.int ((31 : Int32) * lo + hi)), .val (.int (1 : Int32)), .unset, .unset] [])
  refine Go.step (fun _ k => XS.iconst X29.here hx rfl (hb hby at_133) k) ?_
  show Go p e below _ T29 (mkF m 134 #[.val (.int i0), .val (.int i1), .val (.int i2), .val (.int i3), .val (.int (i0 &&& (2147483647 : Int32))), .val (.int (i1 &&& (2147483647 : Int32))), .val (.int lo), .val (.int hi), .val (.int (i2 &&& (2147483647 : Int32))), .val (.int (i3 &&& (2147483647 : Int32))), .val (.int lu), .val (.int hu), .val (.ref b21), .val (.ref b23), .val (.ref b25), .val (.int ((31 : Int32) * lo + hi)), .val (.int (1 : Int32)), .unset, .unset] [(.int (1 : Int32))])
  refine Go.step (fun _ k => XS.goto X29.here hx rfl (pc0 := 134) (pc' := 138) rfl (hb hby at_134) (by decide) (by decide) k) ?_
  show Go p e below _ T29 (mkF m 138 #[.val (.int i0), .val (.int i1), .val (.int i2), .val (.int i3), .val (.int (i0 &&& (2147483647 : Int32))), .val (.int (i1 &&& (2147483647 : Int32))), .val (.int lo), .val (.int hi), .val (.int (i2 &&& (2147483647 : Int32))), .val (.int (i3 &&& (2147483647 : Int32))), .val (.int lu), .val (.int hu), .val (.ref b21), .val (.ref b23), .val (.ref b25), .val (.int ((31 : Int32) * lo + hi)), .val (.int (1 : Int32)), .unset, .unset] [(.int (1 : Int32))])
  refine Go.step (fun _ k => XS.istore X29.here hx rfl (hb hby at_138) rfl (l' := #[.val (.int i0), .val (.int i1), .val (.int i2), .val (.int i3), .val (.int (i0 &&& (2147483647 : Int32))), .val (.int (i1 &&& (2147483647 : Int32))), .val (.int lo), .val (.int hi), .val (.int (i2 &&& (2147483647 : Int32))), .val (.int (i3 &&& (2147483647 : Int32))), .val (.int lu), .val (.int hu), .val (.ref b21), .val (.ref b23), .val (.ref b25), .val (.int ((31 : Int32) * lo + hi)), .val (.int (1 : Int32)), .val (.int (1 : Int32)), .unset]) rfl k) ?_
  show Go p e below _ T29 (mkF m 140 #[.val (.int i0), .val (.int i1), .val (.int i2), .val (.int i3), .val (.int (i0 &&& (2147483647 : Int32))), .val (.int (i1 &&& (2147483647 : Int32))), .val (.int lo), .val (.int hi), .val (.int (i2 &&& (2147483647 : Int32))), .val (.int (i3 &&& (2147483647 : Int32))), .val (.int lu), .val (.int hu), .val (.ref b21), .val (.ref b23), .val (.ref b25), .val (.int ((31 : Int32) * lo + hi)), .val (.int (1 : Int32)), .val (.int (1 : Int32)), .unset] [])
  refine Go.step (fun _ k => XS.aload X29.here hx rfl (hb hby at_140) rfl rfl k) ?_
  show Go p e below _ T29 (mkF m 142 #[.val (.int i0), .val (.int i1), .val (.int i2), .val (.int i3), .val (.int (i0 &&& (2147483647 : Int32))), .val (.int (i1 &&& (2147483647 : Int32))), .val (.int lo), .val (.int hi), .val (.int (i2 &&& (2147483647 : Int32))), .val (.int (i3 &&& (2147483647 : Int32))), .val (.int lu), .val (.int hu), .val (.ref b21), .val (.ref b23), .val (.ref b25), .val (.int ((31 : Int32) * lo + hi)), .val (.int (1 : Int32)), .val (.int (1 : Int32)), .unset] [(.ref b21)])
  refine Go.step (fun _ k => XS.aload X29.here hx rfl (hb hby at_142) rfl rfl k) ?_
  show Go p e below _ T29 (mkF m 144 #[.val (.int i0), .val (.int i1), .val (.int i2), .val (.int i3), .val (.int (i0 &&& (2147483647 : Int32))), .val (.int (i1 &&& (2147483647 : Int32))), .val (.int lo), .val (.int hi), .val (.int (i2 &&& (2147483647 : Int32))), .val (.int (i3 &&& (2147483647 : Int32))), .val (.int lu), .val (.int hu), .val (.ref b21), .val (.ref b23), .val (.ref b25), .val (.int ((31 : Int32) * lo + hi)), .val (.int (1 : Int32)), .val (.int (1 : Int32)), .unset] [(.ref b25), (.ref b21)])
  obtain ⟨cq30, kq30, q30a, q30b, q30c⟩ := isOf hZ e29 E_b21
  obtain ⟨_, _, ⟨T30, L30, k30, n30⟩, -, X30, ⟨Lc30, hQ30, l30, y30, z30⟩, st30⟩ := X29.virtualBack hx (y := (⟨"com/example/vigilant_crawler/vigilantcrawler/model/WordSpan", "equals", "(Ljava/lang/Object;)Z"⟩ : MethodName)) (z := (⟨"com/example/vigilant_crawler/vigilantcrawler/model/WordSpan", "equals", "(Ljava/lang/Object;)Z"⟩ : MethodName)) hown (mvT hZ (hw _ (List.mem_of_getElem? (i := 26) rfl))) (mvT hZ (hw _ (List.mem_of_getElem? (i := 27) rfl))) (notFace_of_selects (args := #[]) (mvT hZ (hw _ (List.mem_of_getElem? (i := 29) rfl)))) (mvT hZ (hw _ (List.mem_of_getElem? (i := 29) rfl))) (mvT hZ (hw _ (List.mem_of_getElem? (i := 28) rfl))) (by decide) (backOf (W := 0) (rmE l Z a0 hw [] b21 b25 lo hi lu hu T26.heap n0 Zn F_from_b21 F_to_b21 E_b25 F_from_b25 F_to_b25) hZ (hw _ (List.mem_of_getElem? (i := 30) rfl)) (hw _ (List.mem_of_getElem? (i := 10) rfl)) (by decide) (by decide)) q30a q30c (g := (mkF m 144 #[.val (.int i0), .val (.int i1), .val (.int i2), .val (.int i3), .val (.int (i0 &&& (2147483647 : Int32))), .val (.int (i1 &&& (2147483647 : Int32))), .val (.int lo), .val (.int hi), .val (.int (i2 &&& (2147483647 : Int32))), .val (.int (i3 &&& (2147483647 : Int32))), .val (.int lu), .val (.int hu), .val (.ref b21), .val (.ref b23), .val (.ref b25), .val (.int ((31 : Int32) * lo + hi)), .val (.int (1 : Int32)), .val (.int (1 : Int32)), .unset] [(.ref b25), (.ref b21)])) rfl (by rw [hml]; rfl) (Steps.refl _) (argsL := [(.ref b25)]) (rest := []) (lenOf own_f59 rfl) rfl (by show 2 * 0 + _ ≤ _; exact Nat.le_of_eq rfl) (hb hby at_144) (fun _ _ => ⟨rfl, e29, (by dsimp only [Pt.cells, Pt.slots]; decide), (by dsimp only [Pt.cells, Pt.slots]; decide)⟩)
  dsimp only [Pt.U, Pt.locs, Pt.cells, Pt.slots] at X30 l30 y30 z30 st30 hQ30
  subst l30 y30 z30
  obtain ⟨rfl, N30q, e30⟩ := hQ30
  have N30 := Fr.app N29 N30q
  refine Go.step (fun _ k => st30.trans k) ?_
  show Go p e below _ T30 (mkF m 147 #[.val (.int i0), .val (.int i1), .val (.int i2), .val (.int i3), .val (.int (i0 &&& (2147483647 : Int32))), .val (.int (i1 &&& (2147483647 : Int32))), .val (.int lo), .val (.int hi), .val (.int (i2 &&& (2147483647 : Int32))), .val (.int (i3 &&& (2147483647 : Int32))), .val (.int lu), .val (.int hu), .val (.ref b21), .val (.ref b23), .val (.ref b25), .val (.int ((31 : Int32) * lo + hi)), .val (.int (1 : Int32)), .val (.int (1 : Int32)), .unset] [(.int (own_eq lo hi lu hu))])
  by_cases hc147_31 : (own_eq lo hi lu hu) = (0 : Int32)
  · show Go p e below _ T30 (mkF m 147 #[.val (.int i0), .val (.int i1), .val (.int i2), .val (.int i3), .val (.int (i0 &&& (2147483647 : Int32))), .val (.int (i1 &&& (2147483647 : Int32))), .val (.int lo), .val (.int hi), .val (.int (i2 &&& (2147483647 : Int32))), .val (.int (i3 &&& (2147483647 : Int32))), .val (.int lu), .val (.int hu), .val (.ref b21), .val (.ref b23), .val (.ref b25), .val (.int ((31 : Int32) * lo + hi)), .val (.int (1 : Int32)), .val (.int (1 : Int32)), .unset] [(.int (own_eq lo hi lu hu))])
    refine Go.step (fun _ k => XS.ifYes X30.here hx rfl (pc0 := 147) (pc' := 160) rfl (hb hby at_147) rfl ((if0 _ _).trans (teq hc147_31).1) (by decide) (by decide) k) ?_
    show Go p e below _ T30 (mkF m 160 #[.val (.int i0), .val (.int i1), .val (.int i2), .val (.int i3), .val (.int (i0 &&& (2147483647 : Int32))), .val (.int (i1 &&& (2147483647 : Int32))), .val (.int lo), .val (.int hi), .val (.int (i2 &&& (2147483647 : Int32))), .val (.int (i3 &&& (2147483647 : Int32))), .val (.int lu), .val (.int hu), .val (.ref b21), .val (.ref b23), .val (.ref b25), .val (.int ((31 : Int32) * lo + hi)), .val (.int (1 : Int32)), .val (.int (1 : Int32)), .unset] [])
    refine Go.step (fun _ k => XS.iconst X30.here hx rfl (hb hby at_160) k) ?_
    show Go p e below _ T30 (mkF m 161 #[.val (.int i0), .val (.int i1), .val (.int i2), .val (.int i3), .val (.int (i0 &&& (2147483647 : Int32))), .val (.int (i1 &&& (2147483647 : Int32))), .val (.int lo), .val (.int hi), .val (.int (i2 &&& (2147483647 : Int32))), .val (.int (i3 &&& (2147483647 : Int32))), .val (.int lu), .val (.int hu), .val (.ref b21), .val (.ref b23), .val (.ref b25), .val (.int ((31 : Int32) * lo + hi)), .val (.int (1 : Int32)), .val (.int (1 : Int32)), .unset] [(.int (1 : Int32))])
    refine Go.step (fun _ k => XS.goto X30.here hx rfl (pc0 := 161) (pc' := 165) rfl (hb hby at_161) (by decide) (by decide) k) ?_
    show Go p e below _ T30 (mkF m 165 #[.val (.int i0), .val (.int i1), .val (.int i2), .val (.int i3), .val (.int (i0 &&& (2147483647 : Int32))), .val (.int (i1 &&& (2147483647 : Int32))), .val (.int lo), .val (.int hi), .val (.int (i2 &&& (2147483647 : Int32))), .val (.int (i3 &&& (2147483647 : Int32))), .val (.int lu), .val (.int hu), .val (.ref b21), .val (.ref b23), .val (.ref b25), .val (.int ((31 : Int32) * lo + hi)), .val (.int (1 : Int32)), .val (.int (1 : Int32)), .unset] [(.int (1 : Int32))])
    refine Go.step (fun _ k => XS.istore X30.here hx rfl (hb hby at_165) rfl (l' := #[.val (.int i0), .val (.int i1), .val (.int i2), .val (.int i3), .val (.int (i0 &&& (2147483647 : Int32))), .val (.int (i1 &&& (2147483647 : Int32))), .val (.int lo), .val (.int hi), .val (.int (i2 &&& (2147483647 : Int32))), .val (.int (i3 &&& (2147483647 : Int32))), .val (.int lu), .val (.int hu), .val (.ref b21), .val (.ref b23), .val (.ref b25), .val (.int ((31 : Int32) * lo + hi)), .val (.int (1 : Int32)), .val (.int (1 : Int32)), .val (.int (1 : Int32))]) rfl k) ?_
    show Go p e below _ T30 (mkF m 167 #[.val (.int i0), .val (.int i1), .val (.int i2), .val (.int i3), .val (.int (i0 &&& (2147483647 : Int32))), .val (.int (i1 &&& (2147483647 : Int32))), .val (.int lo), .val (.int hi), .val (.int (i2 &&& (2147483647 : Int32))), .val (.int (i3 &&& (2147483647 : Int32))), .val (.int lu), .val (.int hu), .val (.ref b21), .val (.ref b23), .val (.ref b25), .val (.int ((31 : Int32) * lo + hi)), .val (.int (1 : Int32)), .val (.int (1 : Int32)), .val (.int (1 : Int32))] [])
    refine Go.step (fun _ k => XS.iload X30.here hx rfl (hb hby at_167) rfl k) ?_
    show Go p e below _ T30 (mkF m 169 #[.val (.int i0), .val (.int i1), .val (.int i2), .val (.int i3), .val (.int (i0 &&& (2147483647 : Int32))), .val (.int (i1 &&& (2147483647 : Int32))), .val (.int lo), .val (.int hi), .val (.int (i2 &&& (2147483647 : Int32))), .val (.int (i3 &&& (2147483647 : Int32))), .val (.int lu), .val (.int hu), .val (.ref b21), .val (.ref b23), .val (.ref b25), .val (.int ((31 : Int32) * lo + hi)), .val (.int (1 : Int32)), .val (.int (1 : Int32)), .val (.int (1 : Int32))] [(.int (1 : Int32))])
    refine Go.step (fun _ k => XS.ifNo X30.here hx rfl (hb hby at_169) rfl ((if0 _ _).trans (feq (by decide)).1) k) ?_
    show Go p e below _ T30 (mkF m 172 #[.val (.int i0), .val (.int i1), .val (.int i2), .val (.int i3), .val (.int (i0 &&& (2147483647 : Int32))), .val (.int (i1 &&& (2147483647 : Int32))), .val (.int lo), .val (.int hi), .val (.int (i2 &&& (2147483647 : Int32))), .val (.int (i3 &&& (2147483647 : Int32))), .val (.int lu), .val (.int hu), .val (.ref b21), .val (.ref b23), .val (.ref b25), .val (.int ((31 : Int32) * lo + hi)), .val (.int (1 : Int32)), .val (.int (1 : Int32)), .val (.int (1 : Int32))] [])
    refine Go.step (fun _ k => XS.iload X30.here hx rfl (hb hby at_172) rfl k) ?_
    show Go p e below _ T30 (mkF m 174 #[.val (.int i0), .val (.int i1), .val (.int i2), .val (.int i3), .val (.int (i0 &&& (2147483647 : Int32))), .val (.int (i1 &&& (2147483647 : Int32))), .val (.int lo), .val (.int hi), .val (.int (i2 &&& (2147483647 : Int32))), .val (.int (i3 &&& (2147483647 : Int32))), .val (.int lu), .val (.int hu), .val (.ref b21), .val (.ref b23), .val (.ref b25), .val (.int ((31 : Int32) * lo + hi)), .val (.int (1 : Int32)), .val (.int (1 : Int32)), .val (.int (1 : Int32))] [(.int (1 : Int32))])
    refine Go.step (fun _ k => XS.ifNo X30.here hx rfl (hb hby at_174) rfl ((if0 _ _).trans (feq (by decide)).1) k) ?_
    show Go p e below _ T30 (mkF m 177 #[.val (.int i0), .val (.int i1), .val (.int i2), .val (.int i3), .val (.int (i0 &&& (2147483647 : Int32))), .val (.int (i1 &&& (2147483647 : Int32))), .val (.int lo), .val (.int hi), .val (.int (i2 &&& (2147483647 : Int32))), .val (.int (i3 &&& (2147483647 : Int32))), .val (.int lu), .val (.int hu), .val (.ref b21), .val (.ref b23), .val (.ref b25), .val (.int ((31 : Int32) * lo + hi)), .val (.int (1 : Int32)), .val (.int (1 : Int32)), .val (.int (1 : Int32))] [])
    refine Go.step (fun _ k => XS.iload X30.here hx rfl (hb hby at_177) rfl k) ?_
    show Go p e below _ T30 (mkF m 179 #[.val (.int i0), .val (.int i1), .val (.int i2), .val (.int i3), .val (.int (i0 &&& (2147483647 : Int32))), .val (.int (i1 &&& (2147483647 : Int32))), .val (.int lo), .val (.int hi), .val (.int (i2 &&& (2147483647 : Int32))), .val (.int (i3 &&& (2147483647 : Int32))), .val (.int lu), .val (.int hu), .val (.ref b21), .val (.ref b23), .val (.ref b25), .val (.int ((31 : Int32) * lo + hi)), .val (.int (1 : Int32)), .val (.int (1 : Int32)), .val (.int (1 : Int32))] [(.int (1 : Int32))])
    refine Go.step (fun _ k => XS.ifNo X30.here hx rfl (hb hby at_179) rfl ((if0 _ _).trans (feq (by decide)).1) k) ?_
    show Go p e below _ T30 (mkF m 182 #[.val (.int i0), .val (.int i1), .val (.int i2), .val (.int i3), .val (.int (i0 &&& (2147483647 : Int32))), .val (.int (i1 &&& (2147483647 : Int32))), .val (.int lo), .val (.int hi), .val (.int (i2 &&& (2147483647 : Int32))), .val (.int (i3 &&& (2147483647 : Int32))), .val (.int lu), .val (.int hu), .val (.ref b21), .val (.ref b23), .val (.ref b25), .val (.int ((31 : Int32) * lo + hi)), .val (.int (1 : Int32)), .val (.int (1 : Int32)), .val (.int (1 : Int32))] [])
    refine Go.step (fun _ k => XS.iconst X30.here hx rfl (hb hby at_182) k) ?_
    show Go p e below _ T30 (mkF m 183 #[.val (.int i0), .val (.int i1), .val (.int i2), .val (.int i3), .val (.int (i0 &&& (2147483647 : Int32))), .val (.int (i1 &&& (2147483647 : Int32))), .val (.int lo), .val (.int hi), .val (.int (i2 &&& (2147483647 : Int32))), .val (.int (i3 &&& (2147483647 : Int32))), .val (.int lu), .val (.int hu), .val (.ref b21), .val (.ref b23), .val (.ref b25), .val (.int ((31 : Int32) * lo + hi)), .val (.int (1 : Int32)), .val (.int (1 : Int32)), .val (.int (1 : Int32))] [(.int (1 : Int32))])
    refine Go.step (fun _ k => XS.goto X30.here hx rfl (pc0 := 183) (pc' := 187) rfl (hb hby at_183) (by decide) (by decide) k) ?_
    show Go p e below _ T30 (mkF m 187 #[.val (.int i0), .val (.int i1), .val (.int i2), .val (.int i3), .val (.int (i0 &&& (2147483647 : Int32))), .val (.int (i1 &&& (2147483647 : Int32))), .val (.int lo), .val (.int hi), .val (.int (i2 &&& (2147483647 : Int32))), .val (.int (i3 &&& (2147483647 : Int32))), .val (.int lu), .val (.int hu), .val (.ref b21), .val (.ref b23), .val (.ref b25), .val (.int ((31 : Int32) * lo + hi)), .val (.int (1 : Int32)), .val (.int (1 : Int32)), .val (.int (1 : Int32))] [(.int (1 : Int32))])
    obtain ⟨fs, hr, hrun, hended, hW, hsame⟩ := X30.leave (v := some (.int (1 : Int32))) (fun h => by rw [Bd.returns] at h; cases h)
    refine Go.fin (retN X30 hx (t := .boolean) Bd.returns (by simp) (hb hby at_187) hr) hrun hended ?_
    refine ⟨_, _, rfl, ?_, ⟨_, rfl⟩, hW, hsame.mono (by decide) (by decide)⟩
    show Q0 Z i0 i1 i2 i3 h0 n0 _ T30.heap _
    rw [e30]
    exact ⟨rfl, N30⟩
  · show Go p e below _ T30 (mkF m 147 #[.val (.int i0), .val (.int i1), .val (.int i2), .val (.int i3), .val (.int (i0 &&& (2147483647 : Int32))), .val (.int (i1 &&& (2147483647 : Int32))), .val (.int lo), .val (.int hi), .val (.int (i2 &&& (2147483647 : Int32))), .val (.int (i3 &&& (2147483647 : Int32))), .val (.int lu), .val (.int hu), .val (.ref b21), .val (.ref b23), .val (.ref b25), .val (.int ((31 : Int32) * lo + hi)), .val (.int (1 : Int32)), .val (.int (1 : Int32)), .unset] [(.int (own_eq lo hi lu hu))])
    refine Go.step (fun _ k => XS.ifNo X30.here hx rfl (hb hby at_147) rfl ((if0 _ _).trans (feq hc147_31).1) k) ?_
    show Go p e below _ T30 (mkF m 150 #[.val (.int i0), .val (.int i1), .val (.int i2), .val (.int i3), .val (.int (i0 &&& (2147483647 : Int32))), .val (.int (i1 &&& (2147483647 : Int32))), .val (.int lo), .val (.int hi), .val (.int (i2 &&& (2147483647 : Int32))), .val (.int (i3 &&& (2147483647 : Int32))), .val (.int lu), .val (.int hu), .val (.ref b21), .val (.ref b23), .val (.ref b25), .val (.int ((31 : Int32) * lo + hi)), .val (.int (1 : Int32)), .val (.int (1 : Int32)), .unset] [])
    refine Go.step (fun _ k => XS.iload X30.here hx rfl (hb hby at_150) rfl k) ?_
    show Go p e below _ T30 (mkF m 152 #[.val (.int i0), .val (.int i1), .val (.int i2), .val (.int i3), .val (.int (i0 &&& (2147483647 : Int32))), .val (.int (i1 &&& (2147483647 : Int32))), .val (.int lo), .val (.int hi), .val (.int (i2 &&& (2147483647 : Int32))), .val (.int (i3 &&& (2147483647 : Int32))), .val (.int lu), .val (.int hu), .val (.ref b21), .val (.ref b23), .val (.ref b25), .val (.int ((31 : Int32) * lo + hi)), .val (.int (1 : Int32)), .val (.int (1 : Int32)), .unset] [(.int ((31 : Int32) * lo + hi))])
    refine Go.step (fun _ k => XS.aload X30.here hx rfl (hb hby at_152) rfl rfl k) ?_
    show Go p e below _ T30 (mkF m 154 #[.val (.int i0), .val (.int i1), .val (.int i2), .val (.int i3), .val (.int (i0 &&& (2147483647 : Int32))), .val (.int (i1 &&& (2147483647 : Int32))), .val (.int lo), .val (.int hi), .val (.int (i2 &&& (2147483647 : Int32))), .val (.int (i3 &&& (2147483647 : Int32))), .val (.int lu), .val (.int hu), .val (.ref b21), .val (.ref b23), .val (.ref b25), .val (.int ((31 : Int32) * lo + hi)), .val (.int (1 : Int32)), .val (.int (1 : Int32)), .unset] [(.ref b25), (.int ((31 : Int32) * lo + hi))])
    obtain ⟨cq32, kq32, q32a, q32b, q32c⟩ := isOf hZ e30 E_b25
    obtain ⟨_, _, ⟨T32, L32, k32, n32⟩, -, X32, ⟨Lc32, hQ32, l32, y32, z32⟩, st32⟩ := X30.virtualBack hx (y := (⟨"com/example/vigilant_crawler/vigilantcrawler/model/WordSpan", "hashCode", "()I"⟩ : MethodName)) (z := (⟨"com/example/vigilant_crawler/vigilantcrawler/model/WordSpan", "hashCode", "()I"⟩ : MethodName)) hown (mvT hZ (hw _ (List.mem_of_getElem? (i := 21) rfl))) (mvT hZ (hw _ (List.mem_of_getElem? (i := 22) rfl))) (notFace_of_selects (args := #[]) (mvT hZ (hw _ (List.mem_of_getElem? (i := 24) rfl)))) (mvT hZ (hw _ (List.mem_of_getElem? (i := 24) rfl))) (mvT hZ (hw _ (List.mem_of_getElem? (i := 23) rfl))) (by decide) (backOf (W := 1) (rmH l Z a0 hw [] b25 lu hu T26.heap n0 Zn F_from_b25 F_to_b25) hZ (hw _ (List.mem_of_getElem? (i := 25) rfl)) (hw _ (List.mem_of_getElem? (i := 10) rfl)) (by decide) (by decide)) q32a q32c (g := (mkF m 154 #[.val (.int i0), .val (.int i1), .val (.int i2), .val (.int i3), .val (.int (i0 &&& (2147483647 : Int32))), .val (.int (i1 &&& (2147483647 : Int32))), .val (.int lo), .val (.int hi), .val (.int (i2 &&& (2147483647 : Int32))), .val (.int (i3 &&& (2147483647 : Int32))), .val (.int lu), .val (.int hu), .val (.ref b21), .val (.ref b23), .val (.ref b25), .val (.int ((31 : Int32) * lo + hi)), .val (.int (1 : Int32)), .val (.int (1 : Int32)), .unset] [(.ref b25), (.int ((31 : Int32) * lo + hi))])) rfl (by rw [hml]; rfl) (Steps.refl _) (argsL := []) (rest := [(.int ((31 : Int32) * lo + hi))]) (lenOf own_f58 rfl) rfl (by show 2 * 0 + _ ≤ _; exact Nat.le_of_eq rfl) (hb hby at_154) (fun _ _ => ⟨rfl, e30, (by dsimp only [Pt.cells, Pt.slots]; decide), (by dsimp only [Pt.cells, Pt.slots]; decide)⟩)
    dsimp only [Pt.U, Pt.locs, Pt.cells, Pt.slots] at X32 l32 y32 z32 st32 hQ32
    subst l32 y32 z32
    obtain ⟨rfl, N32q, e32⟩ := hQ32
    have N32 := Fr.app N30 N32q
    refine Go.step (fun _ k => st32.trans k) ?_
    show Go p e below _ T32 (mkF m 157 #[.val (.int i0), .val (.int i1), .val (.int i2), .val (.int i3), .val (.int (i0 &&& (2147483647 : Int32))), .val (.int (i1 &&& (2147483647 : Int32))), .val (.int lo), .val (.int hi), .val (.int (i2 &&& (2147483647 : Int32))), .val (.int (i3 &&& (2147483647 : Int32))), .val (.int lu), .val (.int hu), .val (.ref b21), .val (.ref b23), .val (.ref b25), .val (.int ((31 : Int32) * lo + hi)), .val (.int (1 : Int32)), .val (.int (1 : Int32)), .unset] [(.int ((31 : Int32) * lu + hu)), (.int ((31 : Int32) * lo + hi))])
    refine Go.step (fun _ k => XS.icmpNo X32.here hx rfl (hb hby at_157) rfl (teq (own_eq_ne hc147_31)).2 k) ?_
    show Go p e below _ T32 (mkF m 160 #[.val (.int i0), .val (.int i1), .val (.int i2), .val (.int i3), .val (.int (i0 &&& (2147483647 : Int32))), .val (.int (i1 &&& (2147483647 : Int32))), .val (.int lo), .val (.int hi), .val (.int (i2 &&& (2147483647 : Int32))), .val (.int (i3 &&& (2147483647 : Int32))), .val (.int lu), .val (.int hu), .val (.ref b21), .val (.ref b23), .val (.ref b25), .val (.int ((31 : Int32) * lo + hi)), .val (.int (1 : Int32)), .val (.int (1 : Int32)), .unset] [])
    refine Go.step (fun _ k => XS.iconst X32.here hx rfl (hb hby at_160) k) ?_
    show Go p e below _ T32 (mkF m 161 #[.val (.int i0), .val (.int i1), .val (.int i2), .val (.int i3), .val (.int (i0 &&& (2147483647 : Int32))), .val (.int (i1 &&& (2147483647 : Int32))), .val (.int lo), .val (.int hi), .val (.int (i2 &&& (2147483647 : Int32))), .val (.int (i3 &&& (2147483647 : Int32))), .val (.int lu), .val (.int hu), .val (.ref b21), .val (.ref b23), .val (.ref b25), .val (.int ((31 : Int32) * lo + hi)), .val (.int (1 : Int32)), .val (.int (1 : Int32)), .unset] [(.int (1 : Int32))])
    refine Go.step (fun _ k => XS.goto X32.here hx rfl (pc0 := 161) (pc' := 165) rfl (hb hby at_161) (by decide) (by decide) k) ?_
    show Go p e below _ T32 (mkF m 165 #[.val (.int i0), .val (.int i1), .val (.int i2), .val (.int i3), .val (.int (i0 &&& (2147483647 : Int32))), .val (.int (i1 &&& (2147483647 : Int32))), .val (.int lo), .val (.int hi), .val (.int (i2 &&& (2147483647 : Int32))), .val (.int (i3 &&& (2147483647 : Int32))), .val (.int lu), .val (.int hu), .val (.ref b21), .val (.ref b23), .val (.ref b25), .val (.int ((31 : Int32) * lo + hi)), .val (.int (1 : Int32)), .val (.int (1 : Int32)), .unset] [(.int (1 : Int32))])
    refine Go.step (fun _ k => XS.istore X32.here hx rfl (hb hby at_165) rfl (l' := #[.val (.int i0), .val (.int i1), .val (.int i2), .val (.int i3), .val (.int (i0 &&& (2147483647 : Int32))), .val (.int (i1 &&& (2147483647 : Int32))), .val (.int lo), .val (.int hi), .val (.int (i2 &&& (2147483647 : Int32))), .val (.int (i3 &&& (2147483647 : Int32))), .val (.int lu), .val (.int hu), .val (.ref b21), .val (.ref b23), .val (.ref b25), .val (.int ((31 : Int32) * lo + hi)), .val (.int (1 : Int32)), .val (.int (1 : Int32)), .val (.int (1 : Int32))]) rfl k) ?_
    show Go p e below _ T32 (mkF m 167 #[.val (.int i0), .val (.int i1), .val (.int i2), .val (.int i3), .val (.int (i0 &&& (2147483647 : Int32))), .val (.int (i1 &&& (2147483647 : Int32))), .val (.int lo), .val (.int hi), .val (.int (i2 &&& (2147483647 : Int32))), .val (.int (i3 &&& (2147483647 : Int32))), .val (.int lu), .val (.int hu), .val (.ref b21), .val (.ref b23), .val (.ref b25), .val (.int ((31 : Int32) * lo + hi)), .val (.int (1 : Int32)), .val (.int (1 : Int32)), .val (.int (1 : Int32))] [])
    refine Go.step (fun _ k => XS.iload X32.here hx rfl (hb hby at_167) rfl k) ?_
    show Go p e below _ T32 (mkF m 169 #[.val (.int i0), .val (.int i1), .val (.int i2), .val (.int i3), .val (.int (i0 &&& (2147483647 : Int32))), .val (.int (i1 &&& (2147483647 : Int32))), .val (.int lo), .val (.int hi), .val (.int (i2 &&& (2147483647 : Int32))), .val (.int (i3 &&& (2147483647 : Int32))), .val (.int lu), .val (.int hu), .val (.ref b21), .val (.ref b23), .val (.ref b25), .val (.int ((31 : Int32) * lo + hi)), .val (.int (1 : Int32)), .val (.int (1 : Int32)), .val (.int (1 : Int32))] [(.int (1 : Int32))])
    refine Go.step (fun _ k => XS.ifNo X32.here hx rfl (hb hby at_169) rfl ((if0 _ _).trans (feq (by decide)).1) k) ?_
    show Go p e below _ T32 (mkF m 172 #[.val (.int i0), .val (.int i1), .val (.int i2), .val (.int i3), .val (.int (i0 &&& (2147483647 : Int32))), .val (.int (i1 &&& (2147483647 : Int32))), .val (.int lo), .val (.int hi), .val (.int (i2 &&& (2147483647 : Int32))), .val (.int (i3 &&& (2147483647 : Int32))), .val (.int lu), .val (.int hu), .val (.ref b21), .val (.ref b23), .val (.ref b25), .val (.int ((31 : Int32) * lo + hi)), .val (.int (1 : Int32)), .val (.int (1 : Int32)), .val (.int (1 : Int32))] [])
    refine Go.step (fun _ k => XS.iload X32.here hx rfl (hb hby at_172) rfl k) ?_
    show Go p e below _ T32 (mkF m 174 #[.val (.int i0), .val (.int i1), .val (.int i2), .val (.int i3), .val (.int (i0 &&& (2147483647 : Int32))), .val (.int (i1 &&& (2147483647 : Int32))), .val (.int lo), .val (.int hi), .val (.int (i2 &&& (2147483647 : Int32))), .val (.int (i3 &&& (2147483647 : Int32))), .val (.int lu), .val (.int hu), .val (.ref b21), .val (.ref b23), .val (.ref b25), .val (.int ((31 : Int32) * lo + hi)), .val (.int (1 : Int32)), .val (.int (1 : Int32)), .val (.int (1 : Int32))] [(.int (1 : Int32))])
    refine Go.step (fun _ k => XS.ifNo X32.here hx rfl (hb hby at_174) rfl ((if0 _ _).trans (feq (by decide)).1) k) ?_
    show Go p e below _ T32 (mkF m 177 #[.val (.int i0), .val (.int i1), .val (.int i2), .val (.int i3), .val (.int (i0 &&& (2147483647 : Int32))), .val (.int (i1 &&& (2147483647 : Int32))), .val (.int lo), .val (.int hi), .val (.int (i2 &&& (2147483647 : Int32))), .val (.int (i3 &&& (2147483647 : Int32))), .val (.int lu), .val (.int hu), .val (.ref b21), .val (.ref b23), .val (.ref b25), .val (.int ((31 : Int32) * lo + hi)), .val (.int (1 : Int32)), .val (.int (1 : Int32)), .val (.int (1 : Int32))] [])
    refine Go.step (fun _ k => XS.iload X32.here hx rfl (hb hby at_177) rfl k) ?_
    show Go p e below _ T32 (mkF m 179 #[.val (.int i0), .val (.int i1), .val (.int i2), .val (.int i3), .val (.int (i0 &&& (2147483647 : Int32))), .val (.int (i1 &&& (2147483647 : Int32))), .val (.int lo), .val (.int hi), .val (.int (i2 &&& (2147483647 : Int32))), .val (.int (i3 &&& (2147483647 : Int32))), .val (.int lu), .val (.int hu), .val (.ref b21), .val (.ref b23), .val (.ref b25), .val (.int ((31 : Int32) * lo + hi)), .val (.int (1 : Int32)), .val (.int (1 : Int32)), .val (.int (1 : Int32))] [(.int (1 : Int32))])
    refine Go.step (fun _ k => XS.ifNo X32.here hx rfl (hb hby at_179) rfl ((if0 _ _).trans (feq (by decide)).1) k) ?_
    show Go p e below _ T32 (mkF m 182 #[.val (.int i0), .val (.int i1), .val (.int i2), .val (.int i3), .val (.int (i0 &&& (2147483647 : Int32))), .val (.int (i1 &&& (2147483647 : Int32))), .val (.int lo), .val (.int hi), .val (.int (i2 &&& (2147483647 : Int32))), .val (.int (i3 &&& (2147483647 : Int32))), .val (.int lu), .val (.int hu), .val (.ref b21), .val (.ref b23), .val (.ref b25), .val (.int ((31 : Int32) * lo + hi)), .val (.int (1 : Int32)), .val (.int (1 : Int32)), .val (.int (1 : Int32))] [])
    refine Go.step (fun _ k => XS.iconst X32.here hx rfl (hb hby at_182) k) ?_
    show Go p e below _ T32 (mkF m 183 #[.val (.int i0), .val (.int i1), .val (.int i2), .val (.int i3), .val (.int (i0 &&& (2147483647 : Int32))), .val (.int (i1 &&& (2147483647 : Int32))), .val (.int lo), .val (.int hi), .val (.int (i2 &&& (2147483647 : Int32))), .val (.int (i3 &&& (2147483647 : Int32))), .val (.int lu), .val (.int hu), .val (.ref b21), .val (.ref b23), .val (.ref b25), .val (.int ((31 : Int32) * lo + hi)), .val (.int (1 : Int32)), .val (.int (1 : Int32)), .val (.int (1 : Int32))] [(.int (1 : Int32))])
    refine Go.step (fun _ k => XS.goto X32.here hx rfl (pc0 := 183) (pc' := 187) rfl (hb hby at_183) (by decide) (by decide) k) ?_
    show Go p e below _ T32 (mkF m 187 #[.val (.int i0), .val (.int i1), .val (.int i2), .val (.int i3), .val (.int (i0 &&& (2147483647 : Int32))), .val (.int (i1 &&& (2147483647 : Int32))), .val (.int lo), .val (.int hi), .val (.int (i2 &&& (2147483647 : Int32))), .val (.int (i3 &&& (2147483647 : Int32))), .val (.int lu), .val (.int hu), .val (.ref b21), .val (.ref b23), .val (.ref b25), .val (.int ((31 : Int32) * lo + hi)), .val (.int (1 : Int32)), .val (.int (1 : Int32)), .val (.int (1 : Int32))] [(.int (1 : Int32))])
    obtain ⟨fs, hr, hrun, hended, hW, hsame⟩ := X32.leave (v := some (.int (1 : Int32))) (fun h => by rw [Bd.returns] at h; cases h)
    refine Go.fin (retN X32 hx (t := .boolean) Bd.returns (by simp) (hb hby at_187) hr) hrun hended ?_
    refine ⟨_, _, rfl, ?_, ⟨_, rfl⟩, hW, hsame.mono (by decide) (by decide)⟩
    show Q0 Z i0 i1 i2 i3 h0 n0 _ T32.heap _
    rw [e32]
    exact ⟨rfl, N32⟩
set_option maxRecDepth 65536 in
set_option maxHeartbeats 40000000 in
theorem comes_1 {Post : Tables → Env → Array Value → State → Outcome → State → Prop} (hpost : ∀ tb e args s v u, (limb_1_1.after args s (.returned v) u = true ∧ limb_1_2.after args s (.returned v) u = true ∧ True) → FrameEnd s (.returned v) u (Jvm.fieldLocs frame_1_writes args s ++ Jvm.arrayLocs frame_1_arrays args s ++ Jvm.staticLocs frame_1_statics s) 16 128 → Post tb e args s (.returned v) u) :
    ArmFor flags0 classFile x code maxLocals ret World_1 tables_1 room_1 Calls_1 rest_1 Pre_1 Post := by
  intro l hfl _ _ p e ha hc hk s m args below hf hA hF happ hP
  obtain ⟨hcalls, hrest, hpre⟩ := hP
  obtain ⟨-, -, -, hnamed, -, -, -, hat⟩ := (Spec.applies_iff hf).mp happ
  obtain ⟨hg, hn⟩ := and_e (Cond.before_iff.mp (show (Jvm.Cond.and given_1 narrow_1).before args s = true from hpre))
  obtain ⟨hg1, hg2⟩ := and_e hg
  obtain ⟨hg3, hg4⟩ := and_e hg2
  obtain ⟨hg5, hg6⟩ := and_e hg4
  obtain ⟨hg7, hg8⟩ := and_e hg6
  obtain ⟨w0, w1, w2, w3, rfl⟩ : ∃ w0 w1 w2 w3 : Value, args = #[w0, w1, w2, w3] := by
    have hs : args.size = 4 := by simpa [Cond.value, given_1] using hg1
    obtain ⟨L⟩ := args
    match L, hs with
    | [w0, w1, w2, w3], _ => exact ⟨w0, w1, w2, w3, rfl⟩
  have hw := fun d (hd : d ∈ tables_1) => atoms_spec (ws := Jvm.Cond.code x code maxLocals ret :: tables_1) hat d (List.mem_cons_of_mem _ hd)
  have hfit : Fit s := fun {y c} hc i hi => by
    obtain ⟨ha, rfl⟩ := Array.getElem?_eq_some_iff.mp hc
    have q := List.all_eq_true.mp ((Array.all_eq_true_iff_forall_mem.mp hF) _ (Array.getElem_mem ha)) i (List.mem_range.mpr hi)
    simpa [Array.getElem?_eq_getElem hi] using q
  obtain ⟨i0, ei0⟩ := is_v hg3
  obtain rfl : w0 = (.int i0) := Option.some.inj ei0
  obtain ⟨i1, ei1⟩ := is_v hg5
  obtain rfl : w1 = (.int i1) := Option.some.inj ei1
  obtain ⟨i2, ei2⟩ := is_v hg7
  obtain rfl : w2 = (.int i2) := Option.some.inj ei2
  obtain ⟨i3, ei3⟩ := is_v hg8
  obtain rfl : w3 = (.int i3) := Option.some.inj ei3
  obtain ⟨n, o, h1, h2, h3, _, L, rfl, ⟨rfl, N⟩, hq⟩ := rm0 l s _ hw tables_1 i0 i1 i2 i3 s.heap s.heap.size (Nat.le_refl _)  p e ha hc hk s m _ below hf ((Spec.applies_iff_loose hf).mp happ).1 ⟨rfl, State.Warmed39.refl s, rfl⟩ trivial
  refine ⟨n, _, h1, h2, h3, hpost _ _ _ _ _ _ ⟨Cond.after_iff.mpr rfl, Cond.after_iff.mpr (eq_i res_at (Term.int_eval (1)) rfl), trivial⟩ ⟨hq.1, hq.2.1, (hq.2.2.sift fun y hy => Or.inr (N y hy)).mono (by decide) (by decide)⟩⟩
theorem main_1_1 : Claimed_1_1 := comes_1 fun _ _ _ _ _ _ h hF => ⟨h.1, hF⟩
theorem main_1_2 : Claimed_1_2 := comes_1 fun _ _ _ _ _ _ h hF => ⟨h.2.1, hF⟩
end Jvm.Pilot.@@N@@
namespace Jvm.Pilot.@@N@@
open Jvm Jvm.ClassFile Sem Op Lib Jvm.Free Jvm.Stand Jvm.Pilot.@@N@@.Jvm.D
/-! MADE BY PROGRAM (witnessworld.py) out of the Statement's table words and the real class files: 10 classes; the members and pool entries that the words name. The judged class is class 1, her method 1. -/
namespace start1
open Jvm.ClassFile
def u (s : String) : CpInfo := .utf8 (stringToUtf16 s)
/-- a pool by its gaps: so many unusable entries, then the entry; so many at the end -/
def gap : Nat → List CpInfo → List CpInfo
  | 0, r => r
  | n + 1, r => .unusable :: gap n r
def poolList (es : List (Nat × CpInfo)) (last : Nat) : List CpInfo := es.foldr (fun e r => gap e.1 (e.2 :: r)) (gap last [])
def pool (es : List (Nat × CpInfo)) (last : Nat) : Array CpInfo := ⟨poolList es last⟩
def fileOf (pool : Array CpInfo) (this : Nat) (attrs : Array Attribute := #[]) (ms : Array MethodInfo := #[]) (fl : Nat := 33) (sup : Nat := 0) (ifs : Array Nat := #[]) (fds : Array FieldInfo := #[]) : ClassFile where
  minorVersion := 0
  majorVersion := 65
  constantPool := pool
  accessFlags := fl
  thisClass := this
  superClass := sup
  interfaces := ifs
  fields := fds
  methods := ms
  attributes := attrs
def plain (name : String) (sup : Option ClassId) : Class where
  name := name
  kind := .ordinary
  loader := none
  accessFlags := 33
  super := sup
  interfaces := #[]
  cf := none
  fields := #[]
  methods := #[]
  instanceTypes := #[]
  staticTypes := #[]
  resolved := #[]
  callSites := []
  init := .initialized
  statics := none
  mirror := none

def pool0 : Array CpInfo := pool [(5, u "<init>"), (0, u "()V"), (1, .class_ 10), (1, u "java/lang/Object")] 113

def k0c0 : Code := { maxStack := 0, maxLocals := 1, code := object_method_1_code, exceptionTable := #[], attributes := #[] }
def k0m0 : Method := { name := "<init>", desc := "()V", sig := { parameters := [], returnType := none }, accessFlags := 1, code := some k0c0 }
/-- java/lang/Object -/
def k0 : Class := { plain "java/lang/Object" none with
  accessFlags := 33
  interfaces := #[]
  cf := some (fileOf pool0 8 #[] #[{ accessFlags := 1, nameIndex := 5, descriptorIndex := 6, attributes := #[] }] 33 0 #[] #[])
  fields := #[]
  methods := #[k0m0]
  instanceTypes := #[]
  staticTypes := #[]
  resolved := Array.replicate 124 none
  statics := none }

def pool1 : Array CpInfo := pool [(2, .class_ 4), (1, u "java/lang/Object"), (0, u "<init>"), (0, u "()V"), (0, .integer 2147483647), (0, .methodref 9 10), (0, .class_ 11), (0, .nameAndType 12 13), (0, u "java/lang/Math"), (0, u "min"), (0, u "(II)I"), (0, .methodref 9 15), (0, .nameAndType 16 13), (0, u "max"), (0, .class_ 18), (0, u "com/example/vigilant_crawler/vigilantcrawler/model/WordSpan"), (0, .methodref 17 20), (0, .nameAndType 5 21), (0, u "(II)V"), (0, .methodref 17 23), (0, .nameAndType 24 25), (0, u "hashCode"), (0, u "()I"), (0, .methodref 17 27), (0, .nameAndType 28 29), (0, u "equals"), (0, u "(Ljava/lang/Object;)Z"), (0, .class_ 31), (0, u "com/example/vigilant_crawler/vigilantcrawler/model/WordSpanHashCodePinLaw"), (2, u "law"), (0, u "(IIII)Z")] 3

def k1m0 : Method := { name := "<init>", desc := "()V", sig := { parameters := [], returnType := none }, accessFlags := 1, code := none }
def k1c1 : Code := { maxStack := 4, maxLocals := 19, code := code, exceptionTable := #[], attributes := #[] }
def k1m1 : Method := { name := "law", desc := "(IIII)Z", sig := { parameters := [.int, .int, .int, .int], returnType := some .boolean }, accessFlags := 9, code := some k1c1 }
/-- com/example/vigilant_crawler/vigilantcrawler/model/WordSpanHashCodePinLaw -/
def k1 : Class := { plain "com/example/vigilant_crawler/vigilantcrawler/model/WordSpanHashCodePinLaw" (some 0) with
  accessFlags := 49
  interfaces := #[]
  cf := some (fileOf pool1 30 #[] #[{ accessFlags := 1, nameIndex := 5, descriptorIndex := 6, attributes := #[] }, { accessFlags := 9, nameIndex := 34, descriptorIndex := 35, attributes := #[] }] 49 2 #[] #[])
  fields := #[]
  methods := #[k1m0, k1m1]
  instanceTypes := #[]
  staticTypes := #[]
  resolved := Array.replicate 39 none
  statics := none }

def pool2 : Array CpInfo := pool [(1, .class_ 2), (0, u "java/lang/Math"), (1, .class_ 6), (1, u "java/lang/Object"), (0, u "<init>"), (0, u "()V"), (89, .class_ 100), (1, u "java/lang/Math$RandomNumberGeneratorHolder"), (71, u "negativeZeroFloatBits"), (0, u "J"), (2, u "negativeZeroDoubleBits"), (21, u "max"), (2, u "min"), (43, u "$assertionsDisabled"), (0, u "Z"), (88, u "(II)I"), (2, u "twoToTheDoubleScaleDown"), (0, u "D"), (4, u "twoToTheDoubleScaleUp"), (9, u "E"), (3, u "PI"), (2, u "TAU"), (2, u "DEGREES_TO_RADIANS"), (0, u "RADIANS_TO_DEGREES")] 94

def k2m0 : Method := { name := "<init>", desc := "()V", sig := { parameters := [], returnType := none }, accessFlags := 2, code := none }
def k2c1 : Code := { maxStack := 2, maxLocals := 2, code := jdk_29_method_65_code, exceptionTable := #[], attributes := #[] }
def k2m1 : Method := { name := "max", desc := "(II)I", sig := { parameters := [.int, .int], returnType := some .int }, accessFlags := 9, code := some k2c1 }
def k2c2 : Code := { maxStack := 2, maxLocals := 2, code := jdk_29_method_69_code, exceptionTable := #[], attributes := #[] }
def k2m2 : Method := { name := "min", desc := "(II)I", sig := { parameters := [.int, .int], returnType := some .int }, accessFlags := 9, code := some k2c2 }
/-- java/lang/Math -/
def k2 : Class := { plain "java/lang/Math" (some 0) with
  accessFlags := 49
  interfaces := #[]
  cf := some (fileOf pool2 1 #[.nestMembers #[98]] #[{ accessFlags := 2, nameIndex := 7, descriptorIndex := 8, attributes := #[] }, { accessFlags := 9, nameIndex := 198, descriptorIndex := 335, attributes := #[] }, { accessFlags := 9, nameIndex := 201, descriptorIndex := 335, attributes := #[] }] 49 4 #[] #[{ accessFlags := 25, nameIndex := 354, descriptorIndex := 339, attributes := #[] }, { accessFlags := 25, nameIndex := 358, descriptorIndex := 339, attributes := #[] }, { accessFlags := 25, nameIndex := 361, descriptorIndex := 339, attributes := #[] }, { accessFlags := 26, nameIndex := 364, descriptorIndex := 339, attributes := #[] }, { accessFlags := 26, nameIndex := 365, descriptorIndex := 339, attributes := #[] }, { accessFlags := 26, nameIndex := 172, descriptorIndex := 173, attributes := #[] }, { accessFlags := 26, nameIndex := 176, descriptorIndex := 173, attributes := #[] }, { accessFlags := 8, nameIndex := 344, descriptorIndex := 339, attributes := #[] }, { accessFlags := 8, nameIndex := 338, descriptorIndex := 339, attributes := #[] }, { accessFlags := 4120, nameIndex := 245, descriptorIndex := 246, attributes := #[] }])
  fields := #[{ name := "E", type := .double, accessFlags := 25, slot := 0, constantValue := 0 }, { name := "PI", type := .double, accessFlags := 25, slot := 1, constantValue := 0 }, { name := "TAU", type := .double, accessFlags := 25, slot := 2, constantValue := 0 }, { name := "DEGREES_TO_RADIANS", type := .double, accessFlags := 26, slot := 3, constantValue := 0 }, { name := "RADIANS_TO_DEGREES", type := .double, accessFlags := 26, slot := 4, constantValue := 0 }, { name := "negativeZeroFloatBits", type := .long, accessFlags := 26, slot := 5, constantValue := 0 }, { name := "negativeZeroDoubleBits", type := .long, accessFlags := 26, slot := 6, constantValue := 0 }, { name := "twoToTheDoubleScaleUp", type := .double, accessFlags := 8, slot := 7, constantValue := 0 }, { name := "twoToTheDoubleScaleDown", type := .double, accessFlags := 8, slot := 8, constantValue := 0 }, { name := "$assertionsDisabled", type := .boolean, accessFlags := 4120, slot := 9, constantValue := 0 }]
  methods := #[k2m0, k2m1, k2m2]
  instanceTypes := #[]
  staticTypes := #[.double, .double, .double, .double, .double, .long, .long, .double, .double, .boolean]
  resolved := Array.replicate 460 none
  statics := none }

def pool3 : Array CpInfo := pool [(1, .methodref 2 3), (0, .class_ 4), (0, .nameAndType 5 6), (0, u "java/lang/Object"), (0, u "<init>"), (0, u "()V"), (9, .fieldref 17 18), (0, .class_ 19), (0, .nameAndType 20 21), (0, u "com/example/vigilant_crawler/vigilantcrawler/model/WordSpan"), (0, u "from"), (0, u "I"), (0, .fieldref 17 23), (0, .nameAndType 24 21), (0, u "to"), (1, u "(II)V"), (3, u "()I"), (1, u "equals"), (0, u "(Ljava/lang/Object;)Z"), (0, u "hashCode")] 21

def k3c0 : Code := { maxStack := 4, maxLocals := 3, code := prog_26_method_1_code, exceptionTable := #[], attributes := #[] }
def k3m0 : Method := { name := "<init>", desc := "(II)V", sig := { parameters := [.int, .int], returnType := none }, accessFlags := 1, code := some k3c0 }
def k3c1 : Code := { maxStack := 2, maxLocals := 2, code := prog_26_method_5_code, exceptionTable := #[], attributes := #[] }
def k3m1 : Method := { name := "equals", desc := "(Ljava/lang/Object;)Z", sig := { parameters := [(.object "java/lang/Object")], returnType := some .boolean }, accessFlags := 1, code := some k3c1 }
def k3c2 : Code := { maxStack := 2, maxLocals := 1, code := prog_26_method_6_code, exceptionTable := #[], attributes := #[] }
def k3m2 : Method := { name := "hashCode", desc := "()I", sig := { parameters := [], returnType := some .int }, accessFlags := 1, code := some k3c2 }
/-- com/example/vigilant_crawler/vigilantcrawler/model/WordSpan -/
def k3 : Class := { plain "com/example/vigilant_crawler/vigilantcrawler/model/WordSpan" (some 0) with
  accessFlags := 33
  interfaces := #[]
  cf := some (fileOf pool3 17 #[] #[{ accessFlags := 1, nameIndex := 5, descriptorIndex := 26, attributes := #[] }, { accessFlags := 1, nameIndex := 32, descriptorIndex := 33, attributes := #[] }, { accessFlags := 1, nameIndex := 34, descriptorIndex := 30, attributes := #[] }] 33 2 #[] #[{ accessFlags := 18, nameIndex := 20, descriptorIndex := 21, attributes := #[] }, { accessFlags := 18, nameIndex := 24, descriptorIndex := 21, attributes := #[] }])
  fields := #[{ name := "from", type := .int, accessFlags := 18, slot := 0, constantValue := 0 }, { name := "to", type := .int, accessFlags := 18, slot := 1, constantValue := 0 }]
  methods := #[k3m0, k3m1, k3m2]
  instanceTypes := #[.int, .int]
  staticTypes := #[]
  resolved := Array.replicate 56 none
  statics := none }

def pool4 : Array CpInfo := pool [(1, u "java/lang/Cloneable"), (0, .class_ 1), (0, u "java/lang/Object"), (0, .class_ 3)] 3

/-- java/lang/Cloneable -/
def k4 : Class := { plain "java/lang/Cloneable" (some 0) with
  accessFlags := 1537
  interfaces := #[]
  cf := some (fileOf pool4 2 #[] #[] 1537 4 #[] #[])
  fields := #[]
  methods := #[]
  instanceTypes := #[]
  staticTypes := #[]
  resolved := Array.replicate 8 none
  statics := none }

def pool5 : Array CpInfo := pool [(1, u "java/io/Serializable"), (0, .class_ 1), (0, u "java/lang/Object"), (0, .class_ 3)] 3

/-- java/io/Serializable -/
def k5 : Class := { plain "java/io/Serializable" (some 0) with
  accessFlags := 1537
  interfaces := #[]
  cf := some (fileOf pool5 2 #[] #[] 1537 4 #[] #[])
  fields := #[]
  methods := #[]
  instanceTypes := #[]
  staticTypes := #[]
  resolved := Array.replicate 8 none
  statics := none }

/-- the primitive byte -/
def k6 : Class := { plain "byte" none with kind := .primitive 'B', accessFlags := 0x411 }
/-- [B -/
def k7 : Class := { plain "[B" (some 0) with kind := .array 6 .byte, interfaces := #[4, 5], accessFlags := 1041 }

/-- the primitive int -/
def k8 : Class := { plain "int" none with kind := .primitive 'I', accessFlags := 0x411 }
/-- [I -/
def k9 : Class := { plain "[I" (some 0) with kind := .array 8 .int, interfaces := #[4, 5], accessFlags := 1041 }

def heap : Heap := #[]
def classes : Array Class := #[k0, k1, k2, k3, k4, k5, k6, k7, k8, k9]
def interned : List (Array UInt16 × Addr) := []
def slotsUsed : Nat := 0
def theMethod : MethodId := ⟨1, 1⟩
def args0 : Array Value := #[.int 5, .int 7, .int 1, .int 2]
def aboutOver (below : List Frame) : State where
  vm := { classes := classes, interned := interned.toArray }
  heap := heap
  slotsUsed := slotsUsed
  threads := #[{ frames := .invoking theMethod args0 :: below }]
def below0 : List Frame := [.native { method := ⟨0, 0⟩, args := #[] }]
def about1 : State := aboutOver below0
def p0 : Program := .bare "" "" ""
def e0 : Env := launch0.env 0 0 0
theorem w_frames : about1.frames = Frame.invoking theMethod args0 :: below0 := rfl
set_option maxRecDepth 65536 in
theorem w_args : argsFit about1.vm theMethod args0 = true := by decide +kernel
set_option maxRecDepth 65536 in
theorem w_heap : heapFits about1 = true := by decide +kernel
set_option maxRecDepth 65536 in
theorem w_runnable : about1.curStatus? = some .runnable := by decide +kernel
set_option maxRecDepth 65536 in
theorem w_alone : about1.alone = true := by decide +kernel
set_option maxRecDepth 65536 in
theorem w_named : about1.methodNamed? x = some theMethod := by decide +kernel
set_option maxRecDepth 65536 in
theorem w_hears : about1.hears theMethod below0 = true := by decide +kernel
set_option maxRecDepth 65536 in
theorem w_ripe : about1.ripe theMethod args0 below0 = true := by decide +kernel
theorem w_running : about1.status = .running := rfl
set_option maxRecDepth 65536 in
theorem w_room : about1.hasRoom e0.platform room_1 = true :=
  launch0.hasRoom_least _ room_1 (by decide +kernel) (by decide +kernel) (by decide +kernel) (by decide +kernel) (by decide +kernel) (by decide +kernel)
theorem allAtoms_all (ts : List Jvm.Cond) (a : Array Jvm.Value) (st : Jvm.State) : (allAtoms ts).before a st = ts.all (fun c => c.before a st) := by
  induction ts with
  | nil => rfl
  | cons c t ih =>
    show (Jvm.Cond.and c (allAtoms t)).before a st = _
    rw [Jvm.Cond.before_and, ih, List.all_cons]
def words1 : List Jvm.Cond := Jvm.Cond.code x code maxLocals ret :: tables_1
/-- a 'code' word, met by the world's own term for the bytes: nothing is compared byte by byte -/
theorem code_word {y : MethodName} {bytes : ByteArray} {mx : Nat} {rt : Option FieldType} {a : Array Value} {s : State} {m : MethodId} {meth : Method} {c : Code} (h1 : s.methodNamed? y = some m) (h2 : s.vm.method? m = some meth) (h3 : meth.code = some c) (h4 : c.code = bytes)
    (h5 : (c.maxLocals == mx && c.exceptionTable.isEmpty && decide (c.maxStack ≤ mostOperands) && decide (meth.sig.returnType = rt) && !meth.locks && decide (parseMethodDescriptor y.desc = some meth.sig)) = true) : (Jvm.Cond.code y bytes mx rt).before a s = true := by
  simp only [Bool.and_eq_true, beq_iff_eq, Bool.not_eq_true', decide_eq_true_eq] at h5
  obtain ⟨⟨⟨⟨⟨g1, g2⟩, g3⟩, g4⟩, g5⟩, g6⟩ := h5
  simp [Cond.before, Cond.holds, Cond.value, h1, h2, h3, h4, g1, g2, g3, g4, g5, g6]
def isCode : Jvm.Cond → Bool
  | .code _ _ _ _ => true
  | _ => false
theorem all_split {L : List Jvm.Cond} {P : Jvm.Cond → Bool} (h1 : L.all (fun c => isCode c || P c) = true) (h2 : ∀ c ∈ L.filter isCode, P c = true) : L.all P = true := by
  refine List.all_eq_true.mpr fun c hc => ?_
  have h := List.all_eq_true.mp h1 c hc
  rcases Bool.eq_false_or_eq_true (isCode c) with hi | hi
  · exact h2 c (List.mem_filter.mpr ⟨hc, hi⟩)
  · simpa [hi] using h
set_option maxRecDepth 65536 in
theorem w_c0 : (Jvm.Cond.code x code maxLocals ret).before args0 about1 = true := code_word (m := ⟨1, 1⟩) (meth := k1m1) (c := k1c1) (by decide +kernel) rfl rfl rfl (by decide +kernel)
set_option maxRecDepth 65536 in
theorem w_c1 : (Jvm.Cond.code ({ cls := "java/lang/Math", name := "min", desc := "(II)I" } : Jvm.MethodName) jdk_29_method_69_code (2 : Nat) (Option.some Jvm.ClassFile.FieldType.int)).before args0 about1 = true := code_word (m := ⟨2, 2⟩) (meth := k2m2) (c := k2c2) (by decide +kernel) rfl rfl rfl (by decide +kernel)
set_option maxRecDepth 65536 in
theorem w_c2 : (Jvm.Cond.code ({ cls := "java/lang/Math", name := "max", desc := "(II)I" } : Jvm.MethodName) jdk_29_method_65_code (2 : Nat) (Option.some Jvm.ClassFile.FieldType.int)).before args0 about1 = true := code_word (m := ⟨2, 1⟩) (meth := k2m1) (c := k2c1) (by decide +kernel) rfl rfl rfl (by decide +kernel)
set_option maxRecDepth 65536 in
theorem w_c3 : (Jvm.Cond.code ({ cls := "com/example/vigilant_crawler/vigilantcrawler/model/WordSpan", name := "<init>", desc := "(II)V" } : Jvm.MethodName) prog_26_method_1_code (3 : Nat) (Option.none : Option Jvm.ClassFile.FieldType)).before args0 about1 = true := code_word (m := ⟨3, 0⟩) (meth := k3m0) (c := k3c0) (by decide +kernel) rfl rfl rfl (by decide +kernel)
set_option maxRecDepth 65536 in
theorem w_c4 : (Jvm.Cond.code ({ cls := "java/lang/Object", name := "<init>", desc := "()V" } : Jvm.MethodName) object_method_1_code (1 : Nat) (Option.none : Option Jvm.ClassFile.FieldType)).before args0 about1 = true := code_word (m := ⟨0, 0⟩) (meth := k0m0) (c := k0c0) (by decide +kernel) rfl rfl rfl (by decide +kernel)
set_option maxRecDepth 65536 in
theorem w_c5 : (Jvm.Cond.code ({ cls := "com/example/vigilant_crawler/vigilantcrawler/model/WordSpan", name := "hashCode", desc := "()I" } : Jvm.MethodName) prog_26_method_6_code (1 : Nat) (Option.some Jvm.ClassFile.FieldType.int)).before args0 about1 = true := code_word (m := ⟨3, 2⟩) (meth := k3m2) (c := k3c2) (by decide +kernel) rfl rfl rfl (by decide +kernel)
set_option maxRecDepth 65536 in
theorem w_c6 : (Jvm.Cond.code ({ cls := "com/example/vigilant_crawler/vigilantcrawler/model/WordSpan", name := "equals", desc := "(Ljava/lang/Object;)Z" } : Jvm.MethodName) prog_26_method_5_code (2 : Nat) (Option.some Jvm.ClassFile.FieldType.boolean)).before args0 about1 = true := code_word (m := ⟨3, 1⟩) (meth := k3m1) (c := k3c1) (by decide +kernel) rfl rfl rfl (by decide +kernel)
def codes1 : List Jvm.Cond := [Jvm.Cond.code x code maxLocals ret, Jvm.Cond.code ({ cls := "java/lang/Math", name := "min", desc := "(II)I" } : Jvm.MethodName) jdk_29_method_69_code (2 : Nat) (Option.some Jvm.ClassFile.FieldType.int), Jvm.Cond.code ({ cls := "java/lang/Math", name := "max", desc := "(II)I" } : Jvm.MethodName) jdk_29_method_65_code (2 : Nat) (Option.some Jvm.ClassFile.FieldType.int), Jvm.Cond.code ({ cls := "com/example/vigilant_crawler/vigilantcrawler/model/WordSpan", name := "<init>", desc := "(II)V" } : Jvm.MethodName) prog_26_method_1_code (3 : Nat) (Option.none : Option Jvm.ClassFile.FieldType), Jvm.Cond.code ({ cls := "java/lang/Object", name := "<init>", desc := "()V" } : Jvm.MethodName) object_method_1_code (1 : Nat) (Option.none : Option Jvm.ClassFile.FieldType), Jvm.Cond.code ({ cls := "com/example/vigilant_crawler/vigilantcrawler/model/WordSpan", name := "hashCode", desc := "()I" } : Jvm.MethodName) prog_26_method_6_code (1 : Nat) (Option.some Jvm.ClassFile.FieldType.int), Jvm.Cond.code ({ cls := "com/example/vigilant_crawler/vigilantcrawler/model/WordSpan", name := "equals", desc := "(Ljava/lang/Object;)Z" } : Jvm.MethodName) prog_26_method_5_code (2 : Nat) (Option.some Jvm.ClassFile.FieldType.boolean)]
set_option maxRecDepth 65536 in
theorem codes_eq : words1.filter isCode = codes1 := rfl
theorem w_codes : ∀ c ∈ words1.filter isCode, c.before args0 about1 = true := by
  rw [codes_eq]
  intro c hc
  simp only [codes1, List.mem_cons, List.not_mem_nil, or_false] at hc
  rcases hc with rfl | rfl | rfl | rfl | rfl | rfl | rfl
  · exact w_c0
  · exact w_c1
  · exact w_c2
  · exact w_c3
  · exact w_c4
  · exact w_c5
  · exact w_c6
set_option maxRecDepth 65536 in
theorem w_t1 : (words1.take 24).all (fun c => isCode c || c.before args0 about1) = true := by decide +kernel
set_option maxRecDepth 65536 in
theorem w_t2 : (words1.drop 24).all (fun c => isCode c || c.before args0 about1) = true := by decide +kernel
theorem w_tables : (allAtoms (Jvm.Cond.code x code maxLocals ret :: tables_1)).before args0 about1 = true := by
  rw [allAtoms_all]
  show words1.all (fun c => c.before args0 about1) = true
  refine all_split ?_ w_codes
  rw [← List.take_append_drop 24 words1, List.all_append, w_t1, w_t2]
  rfl
set_option maxRecDepth 65536 in
theorem w_case : (Jvm.Cond.and given_1 narrow_1).before args0 about1 = true := by decide +kernel
theorem w_applies : (headSpec (Jvm.Cond.code x code maxLocals ret :: tables_1) room_1).applies x e0.platform about1 = true :=
  (Spec.applies_iff w_frames).mpr ⟨w_running, w_runnable, w_alone, w_named, w_hears, w_ripe, w_room, w_tables⟩
theorem atStart : AtStart classFile x code maxLocals ret World_1 tables_1 room_1 Calls_1 rest_1 Pre_1 launch0 p0 e0 about1 theMethod args0 below0 :=
  ⟨lists_1, trivial, launch0.admits_env _ _ _, launch0.least_env, fairChoices_fair.cas, fairChoices_fair.clock, w_frames, w_args, w_heap, w_applies, trivial, trivial, w_case⟩
end start1
theorem witness_1 : WitnessClaimed_1 := ⟨start1.p0, start1.e0, start1.about1, start1.theMethod, start1.args0, start1.below0, start1.atStart⟩
end Jvm.Pilot.@@N@@
