import JvmDerived
import JvmDerived.Pilot.@@N@@Statement
import JvmDerived.Pilot.@@N@@Code
set_option linter.unusedVariables false
set_option linter.unusedSimpArgs false
@@BLOCK:NumsL.lean.txt@@
namespace Jvm.RoadKit
open Sem ClassFile Op Lib Jvm.Stand Jvm.Free Jvm.LawKit
/-- from the frame f over T the run ends as R says -/
def Go (p : Program) (e : Env) (below : List Frame) (R : State → Outcome → Prop) (T : State) (f : JFrame) : Prop := ∃ s₂ o, Steps p.tables e below (T.setTop f) s₂ ∧ s₂.status = .running ∧ Ended s₂ below o ∧ R s₂ o
section New
variable {p : Program} {l : Launch} {e : Env} {R : Room} {s : State} {m : MethodId} {args : Array Value} {below : List Frame} {meth : Method} {c : Code} {T T' : State} {locs : List Loc} {cells slots : Nat} {K : State → Outcome → Prop} {f f' : JFrame}
theorem Go.start (q : f = f') (k : Go p e below K T f') : ∃ s₂ o, Steps p.tables e below (T.setTop f) s₂ ∧ s₂.status = .running ∧ Ended s₂ below o ∧ K s₂ o := q ▸ k
theorem Go.step (h : ∀ t, Steps p.tables e below (T'.setTop f') t → Steps p.tables e below (T.setTop f) t) (k : Go p e below K T' f') : Go p e below K T f := by
  obtain ⟨s₂, o, h1, h2⟩ := k
  exact ⟨s₂, o, h _ h1, h2⟩
theorem Go.fin {S2 : State} {o : Outcome} (hs : Steps p.tables e below (T.setTop f) S2) (h1 : S2.status = .running) (h2 : Ended S2 below o) (h3 : K S2 o) : Go p e below K T f := ⟨_, _, hs, h1, h2, h3⟩
theorem retI (X : Stand p l e R s m args below meth c T locs cells slots) (hx : p.tables.exec = Jvm.exec) {pc : Nat} {Ls : Array Slot} {z : Int32} {rest : List Value} (hret : meth.sig.returnType = some .int) (hd : decode c.code pc = .ok (.ireturn, 1)) {fs : List Frame}
    (hl : ∀ (f : JFrame) (acts : List Action), f.method = m → f.locked = none → f.entered = [] → (doReturn e (T.setTop f) acts (some (.int z))).1 = T.setFrames fs) : Steps p.tables e below (T.setTop (mkF m pc Ls (.int z :: rest))) (T.setFrames fs) := by
  have hm' : T.vm.method? m = some meth := X.method'
  have hn : narrow .int (.int z) = .int z := rfl
  show Steps p.tables e below (T.setTop { method := m, pc := pc, locals := Ls, stack := _ :: rest, locked := none }) _
  jvm_step X.here [X.here.top, hx, hd, hm', hret, hn]
  first | (intro acts; rw [hl _ acts rfl rfl rfl]) | rw [hl _ _ rfl rfl rfl]
  exact Steps.refl _
theorem own_retJ (X : Stand p l e R s m args below meth c T locs cells slots) (hx : p.tables.exec = Jvm.exec) {pc : Nat} {Ls : Array Slot} {z : Int64} {rest : List Value} (hret : meth.sig.returnType = some .long) (hd : decode c.code pc = .ok (.lreturn, 1)) {fs : List Frame}
    (hl : ∀ (f : JFrame) (acts : List Action), f.method = m → f.locked = none → f.entered = [] → (doReturn e (T.setTop f) acts (some (.long z))).1 = T.setFrames fs) : Steps p.tables e below (T.setTop (mkF m pc Ls (.long z :: rest))) (T.setFrames fs) := by
  have hm' : T.vm.method? m = some meth := X.method'
  have hn : narrow .long (.long z) = .long z := rfl
  show Steps p.tables e below (T.setTop { method := m, pc := pc, locals := Ls, stack := _ :: rest, locked := none }) _
  jvm_step X.here [X.here.top, hx, hd, hm', hret, hn]
  first | (intro acts; rw [hl _ acts rfl rfl rfl]) | rw [hl _ _ rfl rfl rfl]
  exact Steps.refl _
end New
end Jvm.RoadKit
namespace Jvm.Pilot.@@N@@
open Jvm Jvm.ClassFile Sem Op Lib Jvm.Free Jvm.Stand Jvm.LawKit Jvm.RoadKit Bundle Jvm.Pilot.@@N@@.Jvm.D
def own_min (a b : Int64) : Int64 := if (0 : Int32) < (lcmpW a b) then b else a
def own_after (p : Int32) (q : Int64) : Int32 := if (lcmpW q ((2147483647 : Int64) - (p.toInt64))) < (0 : Int32) then ((p.toInt64) + q).toInt32 else (2147483647 : Int32)
def own_rf (p : Int32) (q : Int64) : Int64 := if (lcmpW q (4294967296 : Int64)) < (0 : Int32) then own_min ((p.toInt64) + q) (2147483647 : Int64) else (2147483647 : Int64)
theorem own_lc3 (a b : Int64) : (a.toInt < b.toInt ∧ lcmpW a b = -1) ∨ (a.toInt = b.toInt ∧ lcmpW a b = 0) ∨ (b.toInt < a.toInt ∧ lcmpW a b = 1) := by
  simp only [lcmpW, gt_iff_lt, Int64.lt_iff_toInt_lt, ← Int64.toInt_inj]
  by_cases h1 : b.toInt < a.toInt
  · exact Or.inr (Or.inr ⟨h1, if_pos h1⟩)
  · by_cases h2 : a.toInt = b.toInt
    · exact Or.inr (Or.inl ⟨h2, by rw [if_neg h1, if_pos h2]⟩)
    · exact Or.inl ⟨by omega, by rw [if_neg h1, if_neg h2]⟩
theorem own_lc (a b : Int64) : (lcmpW a b < 0 ↔ a.toInt < b.toInt) ∧ ((0 : Int32) < lcmpW a b ↔ b.toInt < a.toInt) ∧ (lcmpW a b = 0 ↔ a.toInt = b.toInt) := by
  rcases own_lc3 a b with ⟨h, e⟩ | ⟨h, e⟩ | ⟨h, e⟩ <;> rw [e] <;> refine ⟨⟨fun q => ?_, fun q => ?_⟩, ⟨fun q => ?_, fun q => ?_⟩, ⟨fun q => ?_, fun q => ?_⟩⟩ <;> first | omega | decide | exact absurd q (by decide)
theorem own_fin (p : Int32) (q : Int64) (hp : 0 ≤ p.toInt) (hq : 0 ≤ q.toInt) : lcmpW ((own_after p q).toInt64) (own_rf p q) = (0 : Int32) := by
  have hp2 : p.toInt < 2 ^ 31 := p.toInt_lt
  have eM : (2147483647 : Int64).toInt = 2147483647 := by decide
  have eM' : (2147483647 : Int32).toInt = 2147483647 := by decide
  have eB : (4294967296 : Int64).toInt = 4294967296 := by decide
  have ep : p.toInt64.toInt = p.toInt := Int32.toInt_toInt64 p
  have e1 : ((2147483647 : Int64) - p.toInt64).toInt = 2147483647 - p.toInt := by rw [Jvm.Kit.i64_sub (by omega) (by omega), eM, ep]
  rw [(own_lc _ _).2.2, Int32.toInt_toInt64]
  unfold own_after own_rf own_min
  simp only [(own_lc _ _).1, (own_lc _ _).2.1, e1, eB, eM]
  by_cases h1 : q.toInt < 2147483647 - p.toInt
  · have es : (p.toInt64 + q).toInt = p.toInt + q.toInt := by rw [Jvm.Kit.i64_add (by omega) (by omega), ep]
    have h2 : q.toInt < 4294967296 := by omega
    have h3 : ¬ 2147483647 < p.toInt + q.toInt := by omega
    simp only [h1, h2, if_true, es, h3, if_false]
    rw [Jvm.Kit.i32_of_i64 (by omega) (by omega), es]
  · by_cases h2 : q.toInt < 4294967296
    · have es : (p.toInt64 + q).toInt = p.toInt + q.toInt := by rw [Jvm.Kit.i64_add (by omega) (by omega), ep]
      simp only [h1, h2, if_true, es, if_false]
      by_cases h3 : 2147483647 < p.toInt + q.toInt
      · simp only [h3, if_true, eM, eM']
      · simp only [h3, if_false, eM', es]; omega
    · simp only [h1, h2, if_false, eM, eM']
theorem own_pos (x : Int32) : 0 ≤ (x &&& (2147483647 : Int32)).toInt := by
  rw [Jvm.Kit.i32_mask x 2147483647 (k := 31) (by decide) (by decide)]; omega
theorem own_posL (x : Int64) : 0 ≤ (x &&& (4294967295 : Int64)).toInt ∧ 0 ≤ (x &&& (9223372036854775807 : Int64)).toInt := by
  rw [Jvm.Kit.i64_mask x 4294967295 (k := 32) (by decide) (by decide), Jvm.Kit.i64_mask x 9223372036854775807 (k := 63) (by decide) (by decide)]; omega

theorem own_f0 : decode jdk_29_method_70_code 0 = .ok (.lload_n 0, 1) := by decide +kernel
theorem own_f1 : decode jdk_29_method_70_code 1 = .ok (.lload_n 2, 1) := by decide +kernel
theorem own_f2 : decode jdk_29_method_70_code 2 = .ok (.lcmp, 1) := by decide +kernel
theorem own_f3 : decode jdk_29_method_70_code 3 = .ok (.ifCond .gt 7, 3) := by decide +kernel
theorem own_f4 : decode jdk_29_method_70_code 10 = .ok (.lload_n 2, 1) := by decide +kernel
theorem own_f5 : decode jdk_29_method_70_code 11 = .ok (.lreturn, 1) := by decide +kernel
theorem own_f6 : decode jdk_29_method_70_code 6 = .ok (.lload_n 0, 1) := by decide +kernel
theorem own_f7 : decode jdk_29_method_70_code 7 = .ok (.goto 4, 3) := by decide +kernel
theorem own_ef_3 (m : MethodId) (q1 : Int64) (q2 : Int64) : entryFrame m #[(.long q1), (.long q2)] 4 = mkF m 0 #[.val (.long q1), .second, .val (.long q2), .second] [] := by first | (simp [entryFrame, mkF, argsToLocals, Value.category]; done) | rfl
def Q3 (Z : State) (q1 : Int64) (q2 : Int64) (h0 : Heap) (n0 : Nat) (v : Option Value) (h : Heap) (L : List Loc) : Prop := v = some (.long (own_min q1 q2)) ∧ Fr n0 L ∧ h = h0
set_option maxRecDepth 65536 in
set_option maxHeartbeats 40000000 in
theorem rm3 (l : Launch) (Z : State) (a0 : Array Value) (hw : ∀ d ∈ tables_1, d.before a0 Z = true) (ws : List Jvm.Cond) (q1 : Int64) (q2 : Int64) (h0 : Heap) (n0 : Nat) (Z0 : n0 ≤ h0.size)  :
    MetFree l (⟨"java/lang/Math", "min", "(JJ)J"⟩ : MethodName) (head1 (Jvm.Cond.code (⟨"java/lang/Math", "min", "(JJ)J"⟩ : MethodName) jdk_29_method_70_code 4 (some .long) :: ws) ({ frames := 0, cells := 0, slots := 0, locals := 0 } : Room)) (fun a U => a = #[(.long q1), (.long q2)] ∧ Z.Warmed39 U.vm ∧ U.heap = h0) (fun _ _ _ _ _ => True) (fun _ U o U' => ∃ v L, o = .returned v ∧ Q3 Z q1 q2 h0 n0 v U'.heap L ∧ FrameEnd U o U' L ({ frames := 0, cells := 0, slots := 0, locals := 0 } : Room).cells ({ frames := 0, cells := 0, slots := 0, locals := 0 } : Room).slots) := by
  refine MetFree.of_bodySF (Jvm.Free.JP.mathPlain rfl (by decide +kernel)) hisR ?_
  intro p e s m args below meth c s₁ Bd hml0 hP hK
  obtain ⟨rfl, hZ, hh⟩ := hP
  have hx := Bd.exec
  have hby := Bd.bytes
  have hml : c.maxLocals = 4 := hml0
  have hown : s.vm.findClass "java/lang/Math" = some m.cls := findClass_of_methodNamed Bd.named
  have hnm := (name_of_methodNamed Bd.named Bd.method).1
  have X0 : Stand p l e ({ frames := 0, cells := 0, slots := 0, locals := 0 } : Room) s m #[(.long q1), (.long q2)] below meth c s₁ [] 0 0 := Stand.of_body Bd
  have e0 : s₁.heap = h0 := by rw [← hh, Bd.state]; rfl
  have N0 := Fr.nil n0
  refine Go.start (own_ef_3 m q1 q2) ?_
  show Go p e below _ s₁ (mkF m 0 #[.val (.long q1), .second, .val (.long q2), .second] [])
  refine Go.step (fun _ k => XS.lloadN X0.here hx rfl (hb hby own_f0) rfl k) ?_
  show Go p e below _ s₁ (mkF m 1 #[.val (.long q1), .second, .val (.long q2), .second] [(.long q1)])
  refine Go.step (fun _ k => XS.lloadN X0.here hx rfl (hb hby own_f1) rfl k) ?_
  show Go p e below _ s₁ (mkF m 2 #[.val (.long q1), .second, .val (.long q2), .second] [(.long q2), (.long q1)])
  refine Go.step (fun _ k => XS.lcmp X0.here hx rfl (hb hby own_f2) rfl k) ?_
  show Go p e below _ s₁ (mkF m 3 #[.val (.long q1), .second, .val (.long q2), .second] [(.int (lcmpW q1 q2))])
  by_cases hc3_1 : (0 : Int32) < (lcmpW q1 q2)
  · show Go p e below _ s₁ (mkF m 3 #[.val (.long q1), .second, .val (.long q2), .second] [(.int (lcmpW q1 q2))])
    refine Go.step (fun _ k => XS.ifYes X0.here hx rfl (pc0 := 3) (pc' := 10) rfl (hb hby own_f3) rfl ((if0 _ _).trans (tlt hc3_1).2.2.1) (by decide) (by decide) k) ?_
    show Go p e below _ s₁ (mkF m 10 #[.val (.long q1), .second, .val (.long q2), .second] [])
    refine Go.step (fun _ k => XS.lloadN X0.here hx rfl (hb hby own_f4) rfl k) ?_
    show Go p e below _ s₁ (mkF m 11 #[.val (.long q1), .second, .val (.long q2), .second] [(.long q2)])
    have er : (own_min q1 q2) = q2 := by simp [own_min, hc3_1]
    obtain ⟨fs, hr, hrun, hended, hW, hsame⟩ := X0.leave (v := some (.long q2)) (fun h => by rw [Bd.returns] at h; cases h)
    refine Go.fin (own_retJ X0 hx Bd.returns (hb hby own_f5) hr) hrun hended ?_
    refine ⟨_, _, rfl, ?_, ⟨_, rfl⟩, hW, hsame.mono (by decide) (by decide)⟩
    show Q3 Z q1 q2 h0 n0 _ s₁.heap _
    rw [e0]
    exact ⟨by rw [er], N0, rfl⟩
  · show Go p e below _ s₁ (mkF m 3 #[.val (.long q1), .second, .val (.long q2), .second] [(.int (lcmpW q1 q2))])
    refine Go.step (fun _ k => XS.ifNo X0.here hx rfl (hb hby own_f3) rfl ((if0 _ _).trans (flt hc3_1).2.2.1) k) ?_
    show Go p e below _ s₁ (mkF m 6 #[.val (.long q1), .second, .val (.long q2), .second] [])
    refine Go.step (fun _ k => XS.lloadN X0.here hx rfl (hb hby own_f6) rfl k) ?_
    show Go p e below _ s₁ (mkF m 7 #[.val (.long q1), .second, .val (.long q2), .second] [(.long q1)])
    refine Go.step (fun _ k => XS.goto X0.here hx rfl (pc0 := 7) (pc' := 11) rfl (hb hby own_f7) (by decide) (by decide) k) ?_
    show Go p e below _ s₁ (mkF m 11 #[.val (.long q1), .second, .val (.long q2), .second] [(.long q1)])
    have er : (own_min q1 q2) = q1 := by simp [own_min, hc3_1]
    obtain ⟨fs, hr, hrun, hended, hW, hsame⟩ := X0.leave (v := some (.long q1)) (fun h => by rw [Bd.returns] at h; cases h)
    refine Go.fin (own_retJ X0 hx Bd.returns (hb hby own_f5) hr) hrun hended ?_
    refine ⟨_, _, rfl, ?_, ⟨_, rfl⟩, hW, hsame.mono (by decide) (by decide)⟩
    show Q3 Z q1 q2 h0 n0 _ s₁.heap _
    rw [e0]
    exact ⟨by rw [er], N0, rfl⟩
theorem own_f8 : decode prog_14_method_3_code 0 = .ok (.lload_n 1, 1) := by decide +kernel
theorem own_f9 : decode prog_14_method_3_code 1 = .ok (.ldc2_w 37, 3) := by decide +kernel
theorem own_f10 : decode prog_14_method_3_code 4 = .ok (.iload_n 0, 1) := by decide +kernel
theorem own_f11 : decode prog_14_method_3_code 5 = .ok (.i2l, 1) := by decide +kernel
theorem own_f12 : decode prog_14_method_3_code 6 = .ok (.lsub, 1) := by decide +kernel
theorem own_f13 : decode prog_14_method_3_code 7 = .ok (.lcmp, 1) := by decide +kernel
theorem own_f14 : decode prog_14_method_3_code 8 = .ok (.ifCond .lt 6, 3) := by decide +kernel
theorem own_f15 : decode prog_14_method_3_code 14 = .ok (.iload_n 0, 1) := by decide +kernel
theorem own_f16 : decode prog_14_method_3_code 15 = .ok (.i2l, 1) := by decide +kernel
theorem own_f17 : decode prog_14_method_3_code 16 = .ok (.lload_n 1, 1) := by decide +kernel
theorem own_f18 : decode prog_14_method_3_code 17 = .ok (.ladd, 1) := by decide +kernel
theorem own_f19 : decode prog_14_method_3_code 18 = .ok (.l2i, 1) := by decide +kernel
theorem own_f20 : decode prog_14_method_3_code 19 = .ok (.ireturn, 1) := by decide +kernel
theorem own_f21 : decode prog_14_method_3_code 11 = .ok (.ldc 48, 2) := by decide +kernel
theorem own_f22 : decode prog_14_method_3_code 13 = .ok (.ireturn, 1) := by decide +kernel
theorem own_f23 : plainName "com/example/mazu/mazu/base/Time" = true := by first | (simp [plainName, overriddenIn]; done) | decide +kernel
theorem own_ef_1 (m : MethodId) (p1 : Int32) (q1 : Int64) : entryFrame m #[(.int p1), (.long q1)] 3 = mkF m 0 #[.val (.int p1), .val (.long q1), .second] [] := by first | (simp [entryFrame, mkF, argsToLocals, Value.category]; done) | rfl
def Q1 (Z : State) (p1 : Int32) (q1 : Int64) (h0 : Heap) (n0 : Nat) (v : Option Value) (h : Heap) (L : List Loc) : Prop := v = some (.int (own_after p1 q1)) ∧ Fr n0 L ∧ h = h0
set_option maxRecDepth 65536 in
set_option maxHeartbeats 40000000 in
theorem rm1 (l : Launch) (Z : State) (a0 : Array Value) (hw : ∀ d ∈ tables_1, d.before a0 Z = true) (ws : List Jvm.Cond) (p1 : Int32) (q1 : Int64) (h0 : Heap) (n0 : Nat) (Z0 : n0 ≤ h0.size)  :
    MetFree l (⟨"com/example/mazu/mazu/base/Time", "after", "(IJ)I"⟩ : MethodName) (head1 (Jvm.Cond.code (⟨"com/example/mazu/mazu/base/Time", "after", "(IJ)I"⟩ : MethodName) prog_14_method_3_code 3 (some .int) :: ws) ({ frames := 0, cells := 0, slots := 0, locals := 0 } : Room)) (fun a U => a = #[(.int p1), (.long q1)] ∧ Z.Warmed39 U.vm ∧ U.heap = h0) (fun _ _ _ _ _ => True) (fun _ U o U' => ∃ v L, o = .returned v ∧ Q1 Z p1 q1 h0 n0 v U'.heap L ∧ FrameEnd U o U' L ({ frames := 0, cells := 0, slots := 0, locals := 0 } : Room).cells ({ frames := 0, cells := 0, slots := 0, locals := 0 } : Room).slots) := by
  refine MetFree.of_bodySF (plainFor_of_name own_f23) hisR ?_
  intro p e s m args below meth c s₁ Bd hml0 hP hK
  obtain ⟨rfl, hZ, hh⟩ := hP
  have hx := Bd.exec
  have hby := Bd.bytes
  have hml : c.maxLocals = 3 := hml0
  have hown : s.vm.findClass "com/example/mazu/mazu/base/Time" = some m.cls := findClass_of_methodNamed Bd.named
  have hnm := (name_of_methodNamed Bd.named Bd.method).1
  have X0 : Stand p l e ({ frames := 0, cells := 0, slots := 0, locals := 0 } : Room) s m #[(.int p1), (.long q1)] below meth c s₁ [] 0 0 := Stand.of_body Bd
  have e0 : s₁.heap = h0 := by rw [← hh, Bd.state]; rfl
  have N0 := Fr.nil n0
  refine Go.start (own_ef_1 m p1 q1) ?_
  show Go p e below _ s₁ (mkF m 0 #[.val (.int p1), .val (.long q1), .second] [])
  refine Go.step (fun _ k => XS.lloadN X0.here hx rfl (hb hby own_f8) rfl k) ?_
  show Go p e below _ s₁ (mkF m 1 #[.val (.int p1), .val (.long q1), .second] [(.long q1)])
  refine Go.step (X0.ldc2Long hx hown (mvT hZ (hw _ (List.mem_of_getElem? (i := 6) rfl))) (g := (mkF m 1 #[.val (.int p1), .val (.long q1), .second] [(.long q1)])) rfl (hb hby own_f9)) ?_
  show Go p e below _ s₁ (mkF m 4 #[.val (.int p1), .val (.long q1), .second] [(.long (2147483647 : Int64)), (.long q1)])
  refine Go.step (fun _ k => XS.iloadN X0.here hx rfl (hb hby own_f10) rfl k) ?_
  show Go p e below _ s₁ (mkF m 5 #[.val (.int p1), .val (.long q1), .second] [(.int p1), (.long (2147483647 : Int64)), (.long q1)])
  refine Go.step (fun _ k => XS.i2l X0.here hx rfl (hb hby own_f11) rfl k) ?_
  show Go p e below _ s₁ (mkF m 6 #[.val (.int p1), .val (.long q1), .second] [(.long (p1.toInt64)), (.long (2147483647 : Int64)), (.long q1)])
  refine Go.step (fun _ k => XS.lsub X0.here hx rfl (hb hby own_f12) rfl k) ?_
  show Go p e below _ s₁ (mkF m 7 #[.val (.int p1), .val (.long q1), .second] [(.long ((2147483647 : Int64) - (p1.toInt64))), (.long q1)])
  refine Go.step (fun _ k => XS.lcmp X0.here hx rfl (hb hby own_f13) rfl k) ?_
  show Go p e below _ s₁ (mkF m 8 #[.val (.int p1), .val (.long q1), .second] [(.int (lcmpW q1 ((2147483647 : Int64) - (p1.toInt64))))])
  by_cases hc8_2 : (lcmpW q1 ((2147483647 : Int64) - (p1.toInt64))) < (0 : Int32)
  · show Go p e below _ s₁ (mkF m 8 #[.val (.int p1), .val (.long q1), .second] [(.int (lcmpW q1 ((2147483647 : Int64) - (p1.toInt64))))])
    refine Go.step (fun _ k => XS.ifYes X0.here hx rfl (pc0 := 8) (pc' := 14) rfl (hb hby own_f14) rfl ((if0 _ _).trans (tlt hc8_2).1) (by decide) (by decide) k) ?_
    show Go p e below _ s₁ (mkF m 14 #[.val (.int p1), .val (.long q1), .second] [])
    refine Go.step (fun _ k => XS.iloadN X0.here hx rfl (hb hby own_f15) rfl k) ?_
    show Go p e below _ s₁ (mkF m 15 #[.val (.int p1), .val (.long q1), .second] [(.int p1)])
    refine Go.step (fun _ k => XS.i2l X0.here hx rfl (hb hby own_f16) rfl k) ?_
    show Go p e below _ s₁ (mkF m 16 #[.val (.int p1), .val (.long q1), .second] [(.long (p1.toInt64))])
    refine Go.step (fun _ k => XS.lloadN X0.here hx rfl (hb hby own_f17) rfl k) ?_
    show Go p e below _ s₁ (mkF m 17 #[.val (.int p1), .val (.long q1), .second] [(.long q1), (.long (p1.toInt64))])
    refine Go.step (fun _ k => XS.ladd X0.here hx rfl (hb hby own_f18) rfl k) ?_
    show Go p e below _ s₁ (mkF m 18 #[.val (.int p1), .val (.long q1), .second] [(.long ((p1.toInt64) + q1))])
    refine Go.step (fun _ k => XS.l2i X0.here hx rfl (hb hby own_f19) rfl k) ?_
    show Go p e below _ s₁ (mkF m 19 #[.val (.int p1), .val (.long q1), .second] [(.int (((p1.toInt64) + q1).toInt32))])
    have er : (own_after p1 q1) = (((p1.toInt64) + q1).toInt32) := by simp [own_after, hc8_2]
    obtain ⟨fs, hr, hrun, hended, hW, hsame⟩ := X0.leave (v := some (.int (((p1.toInt64) + q1).toInt32))) (fun h => by rw [Bd.returns] at h; cases h)
    refine Go.fin (retI X0 hx Bd.returns (hb hby own_f20) hr) hrun hended ?_
    refine ⟨_, _, rfl, ?_, ⟨_, rfl⟩, hW, hsame.mono (by decide) (by decide)⟩
    show Q1 Z p1 q1 h0 n0 _ s₁.heap _
    rw [e0]
    exact ⟨by rw [er], N0, rfl⟩
  · show Go p e below _ s₁ (mkF m 8 #[.val (.int p1), .val (.long q1), .second] [(.int (lcmpW q1 ((2147483647 : Int64) - (p1.toInt64))))])
    refine Go.step (fun _ k => XS.ifNo X0.here hx rfl (hb hby own_f14) rfl ((if0 _ _).trans (flt hc8_2).1) k) ?_
    show Go p e below _ s₁ (mkF m 11 #[.val (.int p1), .val (.long q1), .second] [])
    refine Go.step (X0.ldcInt hx hown (mvT hZ (hw _ (List.mem_of_getElem? (i := 18) rfl))) (g := (mkF m 11 #[.val (.int p1), .val (.long q1), .second] [])) rfl (hb hby own_f21)) ?_
    show Go p e below _ s₁ (mkF m 13 #[.val (.int p1), .val (.long q1), .second] [(.int (2147483647 : Int32))])
    have er : (own_after p1 q1) = (2147483647 : Int32) := by simp [own_after, hc8_2]
    obtain ⟨fs, hr, hrun, hended, hW, hsame⟩ := X0.leave (v := some (.int (2147483647 : Int32))) (fun h => by rw [Bd.returns] at h; cases h)
    refine Go.fin (retI X0 hx Bd.returns (hb hby own_f22) hr) hrun hended ?_
    refine ⟨_, _, rfl, ?_, ⟨_, rfl⟩, hW, hsame.mono (by decide) (by decide)⟩
    show Q1 Z p1 q1 h0 n0 _ s₁.heap _
    rw [e0]
    exact ⟨by rw [er], N0, rfl⟩
theorem own_f24 : decode method_2_code 0 = .ok (.lload_n 1, 1) := by decide +kernel
theorem own_f25 : decode method_2_code 1 = .ok (.ldc2_w 7, 3) := by decide +kernel
theorem own_f26 : decode method_2_code 4 = .ok (.lcmp, 1) := by decide +kernel
theorem own_f27 : decode method_2_code 5 = .ok (.ifCond .lt 7, 3) := by decide +kernel
theorem own_f28 : decode method_2_code 12 = .ok (.iload_n 0, 1) := by decide +kernel
theorem own_f29 : decode method_2_code 13 = .ok (.i2l, 1) := by decide +kernel
theorem own_f30 : decode method_2_code 14 = .ok (.lload_n 1, 1) := by decide +kernel
theorem own_f31 : decode method_2_code 15 = .ok (.ladd, 1) := by decide +kernel
theorem own_f32 : decode method_2_code 16 = .ok (.lstore_n 3, 1) := by decide +kernel
theorem own_f33 : decode method_2_code 17 = .ok (.lload_n 3, 1) := by decide +kernel
theorem own_f34 : decode method_2_code 18 = .ok (.ldc2_w 11, 3) := by decide +kernel
theorem own_f35 : parseMethodDescriptor "(JJ)J" = some ⟨[.long, .long], some .long⟩ := by decide +kernel
theorem own_f36 : decode method_2_code 21 = .ok (.invokestatic 13, 3) := by decide +kernel
theorem own_f37 : decode method_2_code 24 = .ok (.lreturn, 1) := by decide +kernel
theorem own_f38 : decode method_2_code 8 = .ok (.ldc2_w 11, 3) := by decide +kernel
theorem own_f39 : decode method_2_code 11 = .ok (.lreturn, 1) := by decide +kernel
theorem own_f40 : plainName "com/example/mazu/mazu/base/TimeAfterPinLaw" = true := by first | (simp [plainName, overriddenIn]; done) | decide +kernel
theorem own_ef_2 (m : MethodId) (p1 : Int32) (q1 : Int64) : entryFrame m #[(.int p1), (.long q1)] 5 = mkF m 0 #[.val (.int p1), .val (.long q1), .second, .unset, .unset] [] := by first | (simp [entryFrame, mkF, argsToLocals, Value.category]; done) | rfl
def Q2 (Z : State) (p1 : Int32) (q1 : Int64) (h0 : Heap) (n0 : Nat) (v : Option Value) (h : Heap) (L : List Loc) : Prop := v = some (.long (own_rf p1 q1)) ∧ Fr n0 L ∧ h = h0
set_option maxRecDepth 65536 in
set_option maxHeartbeats 40000000 in
theorem rm2 (l : Launch) (Z : State) (a0 : Array Value) (hw : ∀ d ∈ tables_1, d.before a0 Z = true) (ws : List Jvm.Cond) (p1 : Int32) (q1 : Int64) (h0 : Heap) (n0 : Nat) (Z0 : n0 ≤ h0.size)  :
    MetFree l (⟨"com/example/mazu/mazu/base/TimeAfterPinLaw", "reference", "(IJ)J"⟩ : MethodName) (head1 (Jvm.Cond.code (⟨"com/example/mazu/mazu/base/TimeAfterPinLaw", "reference", "(IJ)J"⟩ : MethodName) method_2_code 5 (some .long) :: ws) ({ frames := 1, cells := 0, slots := 0, locals := 15 } : Room)) (fun a U => a = #[(.int p1), (.long q1)] ∧ Z.Warmed39 U.vm ∧ U.heap = h0) (fun _ _ _ _ _ => True) (fun _ U o U' => ∃ v L, o = .returned v ∧ Q2 Z p1 q1 h0 n0 v U'.heap L ∧ FrameEnd U o U' L ({ frames := 1, cells := 0, slots := 0, locals := 15 } : Room).cells ({ frames := 1, cells := 0, slots := 0, locals := 15 } : Room).slots) := by
  refine MetFree.of_bodySF (plainFor_of_name own_f40) hisR ?_
  intro p e s m args below meth c s₁ Bd hml0 hP hK
  obtain ⟨rfl, hZ, hh⟩ := hP
  have hx := Bd.exec
  have hby := Bd.bytes
  have hml : c.maxLocals = 5 := hml0
  have hown : s.vm.findClass "com/example/mazu/mazu/base/TimeAfterPinLaw" = some m.cls := findClass_of_methodNamed Bd.named
  have hnm := (name_of_methodNamed Bd.named Bd.method).1
  have X0 : Stand p l e ({ frames := 1, cells := 0, slots := 0, locals := 15 } : Room) s m #[(.int p1), (.long q1)] below meth c s₁ [] 0 0 := Stand.of_body Bd
  have e0 : s₁.heap = h0 := by rw [← hh, Bd.state]; rfl
  have N0 := Fr.nil n0
  refine Go.start (own_ef_2 m p1 q1) ?_
  show Go p e below _ s₁ (mkF m 0 #[.val (.int p1), .val (.long q1), .second, .unset, .unset] [])
  refine Go.step (fun _ k => XS.lloadN X0.here hx rfl (hb hby own_f24) rfl k) ?_
  show Go p e below _ s₁ (mkF m 1 #[.val (.int p1), .val (.long q1), .second, .unset, .unset] [(.long q1)])
  refine Go.step (X0.ldc2Long hx hown (mvT hZ (hw _ (List.mem_of_getElem? (i := 11) rfl))) (g := (mkF m 1 #[.val (.int p1), .val (.long q1), .second, .unset, .unset] [(.long q1)])) rfl (hb hby own_f25)) ?_
  show Go p e below _ s₁ (mkF m 4 #[.val (.int p1), .val (.long q1), .second, .unset, .unset] [(.long (4294967296 : Int64)), (.long q1)])
  refine Go.step (fun _ k => XS.lcmp X0.here hx rfl (hb hby own_f26) rfl k) ?_
  show Go p e below _ s₁ (mkF m 5 #[.val (.int p1), .val (.long q1), .second, .unset, .unset] [(.int (lcmpW q1 (4294967296 : Int64)))])
  by_cases hc5_3 : (lcmpW q1 (4294967296 : Int64)) < (0 : Int32)
  · show Go p e below _ s₁ (mkF m 5 #[.val (.int p1), .val (.long q1), .second, .unset, .unset] [(.int (lcmpW q1 (4294967296 : Int64)))])
    refine Go.step (fun _ k => XS.ifYes X0.here hx rfl (pc0 := 5) (pc' := 12) rfl (hb hby own_f27) rfl ((if0 _ _).trans (tlt hc5_3).1) (by decide) (by decide) k) ?_
    show Go p e below _ s₁ (mkF m 12 #[.val (.int p1), .val (.long q1), .second, .unset, .unset] [])
    refine Go.step (fun _ k => XS.iloadN X0.here hx rfl (hb hby own_f28) rfl k) ?_
    show Go p e below _ s₁ (mkF m 13 #[.val (.int p1), .val (.long q1), .second, .unset, .unset] [(.int p1)])
    refine Go.step (fun _ k => XS.i2l X0.here hx rfl (hb hby own_f29) rfl k) ?_
    show Go p e below _ s₁ (mkF m 14 #[.val (.int p1), .val (.long q1), .second, .unset, .unset] [(.long (p1.toInt64))])
    refine Go.step (fun _ k => XS.lloadN X0.here hx rfl (hb hby own_f30) rfl k) ?_
    show Go p e below _ s₁ (mkF m 15 #[.val (.int p1), .val (.long q1), .second, .unset, .unset] [(.long q1), (.long (p1.toInt64))])
    refine Go.step (fun _ k => XS.ladd X0.here hx rfl (hb hby own_f31) rfl k) ?_
    show Go p e below _ s₁ (mkF m 16 #[.val (.int p1), .val (.long q1), .second, .unset, .unset] [(.long ((p1.toInt64) + q1))])
    refine Go.step (fun _ k => XS.lstoreN X0.here hx rfl (hb hby own_f32) rfl (l' := #[.val (.int p1), .val (.long q1), .second, .val (.long ((p1.toInt64) + q1)), .second]) rfl k) ?_
    show Go p e below _ s₁ (mkF m 17 #[.val (.int p1), .val (.long q1), .second, .val (.long ((p1.toInt64) + q1)), .second] [])
    refine Go.step (fun _ k => XS.lloadN X0.here hx rfl (hb hby own_f33) rfl k) ?_
    show Go p e below _ s₁ (mkF m 18 #[.val (.int p1), .val (.long q1), .second, .val (.long ((p1.toInt64) + q1)), .second] [(.long ((p1.toInt64) + q1))])
    refine Go.step (X0.ldc2Long hx hown (mvT hZ (hw _ (List.mem_of_getElem? (i := 12) rfl))) (g := (mkF m 18 #[.val (.int p1), .val (.long q1), .second, .val (.long ((p1.toInt64) + q1)), .second] [(.long ((p1.toInt64) + q1))])) rfl (hb hby own_f34)) ?_
    show Go p e below _ s₁ (mkF m 21 #[.val (.int p1), .val (.long q1), .second, .val (.long ((p1.toInt64) + q1)), .second] [(.long (2147483647 : Int64)), (.long ((p1.toInt64) + q1))])
    obtain ⟨_, _, ⟨T4, L4, k4, n4⟩, -, X4, ⟨Lc4, hQ4, l4, y4, z4⟩, st4⟩ := Jvm.LawKit.callS X0 hx (y := (⟨"java/lang/Math", "min", "(JJ)J"⟩ : MethodName)) hown (mvT hZ (hw _ (List.mem_of_getElem? (i := 13) rfl))) (mvT hZ (hw _ (List.mem_of_getElem? (i := 14) rfl))) (mvT hZ (hw _ (List.mem_of_getElem? (i := 15) rfl))) (mvT hZ (hw _ (List.mem_of_getElem? (i := 16) rfl))) (by decide) (backOf (W := 0) (rm3 l Z a0 hw [] ((p1.toInt64) + q1) (2147483647 : Int64) h0 n0 Z0) hZ (hw _ (List.mem_of_getElem? (i := 16) rfl)) (hw _ (List.mem_of_getElem? (i := 15) rfl)) (by decide) (by decide)) (g := (mkF m 21 #[.val (.int p1), .val (.long q1), .second, .val (.long ((p1.toInt64) + q1)), .second] [(.long (2147483647 : Int64)), (.long ((p1.toInt64) + q1))])) rfl (by rw [hml]; rfl) (argsL := [(.long ((p1.toInt64) + q1)), (.long (2147483647 : Int64))]) (rest := []) (lenOf own_f35 rfl) rfl (by show 2 * 0 + _ ≤ _; exact Nat.le_of_eq rfl) (hb hby own_f36) (fun _ _ => ⟨rfl, e0, (by dsimp only [Pt.cells, Pt.slots]; decide), (by dsimp only [Pt.cells, Pt.slots]; decide)⟩)
    dsimp only [Pt.U, Pt.locs, Pt.cells, Pt.slots] at X4 l4 y4 z4 st4 hQ4
    subst l4 y4 z4
    obtain ⟨rfl, N4q, e4⟩ := hQ4
    have N4 := Fr.app N0 N4q
    refine Go.step st4 ?_
    show Go p e below _ T4 (mkF m 24 #[.val (.int p1), .val (.long q1), .second, .val (.long ((p1.toInt64) + q1)), .second] [(.long (own_min ((p1.toInt64) + q1) (2147483647 : Int64)))])
    have er : (own_rf p1 q1) = (own_min ((p1.toInt64) + q1) (2147483647 : Int64)) := by simp [own_rf, hc5_3]
    obtain ⟨fs, hr, hrun, hended, hW, hsame⟩ := X4.leave (v := some (.long (own_min ((p1.toInt64) + q1) (2147483647 : Int64)))) (fun h => by rw [Bd.returns] at h; cases h)
    refine Go.fin (own_retJ X4 hx Bd.returns (hb hby own_f37) hr) hrun hended ?_
    refine ⟨_, _, rfl, ?_, ⟨_, rfl⟩, hW, hsame.mono (by decide) (by decide)⟩
    show Q2 Z p1 q1 h0 n0 _ T4.heap _
    rw [e4]
    exact ⟨by rw [er], N4, rfl⟩
  · show Go p e below _ s₁ (mkF m 5 #[.val (.int p1), .val (.long q1), .second, .unset, .unset] [(.int (lcmpW q1 (4294967296 : Int64)))])
    refine Go.step (fun _ k => XS.ifNo X0.here hx rfl (hb hby own_f27) rfl ((if0 _ _).trans (flt hc5_3).1) k) ?_
    show Go p e below _ s₁ (mkF m 8 #[.val (.int p1), .val (.long q1), .second, .unset, .unset] [])
    refine Go.step (X0.ldc2Long hx hown (mvT hZ (hw _ (List.mem_of_getElem? (i := 12) rfl))) (g := (mkF m 8 #[.val (.int p1), .val (.long q1), .second, .unset, .unset] [])) rfl (hb hby own_f38)) ?_
    show Go p e below _ s₁ (mkF m 11 #[.val (.int p1), .val (.long q1), .second, .unset, .unset] [(.long (2147483647 : Int64))])
    have er : (own_rf p1 q1) = (2147483647 : Int64) := by simp [own_rf, hc5_3]
    obtain ⟨fs, hr, hrun, hended, hW, hsame⟩ := X0.leave (v := some (.long (2147483647 : Int64))) (fun h => by rw [Bd.returns] at h; cases h)
    refine Go.fin (own_retJ X0 hx Bd.returns (hb hby own_f39) hr) hrun hended ?_
    refine ⟨_, _, rfl, ?_, ⟨_, rfl⟩, hW, hsame.mono (by decide) (by decide)⟩
    show Q2 Z p1 q1 h0 n0 _ s₁.heap _
    rw [e0]
    exact ⟨by rw [er], N0, rfl⟩
theorem own_f41 : parseMethodDescriptor "(IJ)I" = some ⟨[.int, .long], some .int⟩ := by decide +kernel
theorem own_f42 : parseMethodDescriptor "(IJ)J" = some ⟨[.int, .long], some .long⟩ := by decide +kernel
theorem own_ef_0 (m : MethodId) (p1 : Int32) (q1 : Int64) (p2 : Int32) : entryFrame m #[(.int p1), (.long q1), (.int p2)] maxLocals = mkF m 0 #[.val (.int p1), .val (.long q1), .second, .val (.int p2), .unset, .unset, .unset, .unset] [] := by first | (simp [entryFrame, mkF, argsToLocals, Value.category, maxLocals]; done) | rfl
def Q0 (Z : State) (p1 : Int32) (q1 : Int64) (p2 : Int32) (h0 : Heap) (n0 : Nat) (v : Option Value) (h : Heap) (L : List Loc) : Prop := v = some (.int 1) ∧ Fr n0 L
set_option maxRecDepth 65536 in
set_option maxHeartbeats 40000000 in
theorem rm0 (l : Launch) (Z : State) (a0 : Array Value) (hw : ∀ d ∈ tables_1, d.before a0 Z = true) (ws : List Jvm.Cond) (p1 : Int32) (q1 : Int64) (p2 : Int32) (h0 : Heap) (n0 : Nat) (Z0 : n0 ≤ h0.size)  :
    MetFree l x (head1 (Jvm.Cond.code x code maxLocals ret :: ws) room_1) (fun a U => a = #[(.int p1), (.long q1), (.int p2)] ∧ Z.Warmed39 U.vm ∧ U.heap = h0) (fun _ _ _ _ _ => True) (fun _ U o U' => ∃ v L, o = .returned v ∧ Q0 Z p1 q1 p2 h0 n0 v U'.heap L ∧ FrameEnd U o U' L 0 0) := by
  refine MetFree.of_bodySF (plainFor_of_name own_f40) hisR ?_
  intro p e s m args below meth c s₁ Bd hml0 hP hK
  obtain ⟨rfl, hZ, hh⟩ := hP
  have hx := Bd.exec
  have hby := Bd.bytes
  have hml : c.maxLocals = 8 := hml0
  have hown : s.vm.findClass "com/example/mazu/mazu/base/TimeAfterPinLaw" = some m.cls := findClass_of_methodNamed Bd.named
  have hnm := (name_of_methodNamed Bd.named Bd.method).1
  have X0 : Stand p l e room_1 s m #[(.int p1), (.long q1), (.int p2)] below meth c s₁ [] 0 0 := Stand.of_body Bd
  have e0 : s₁.heap = h0 := by rw [← hh, Bd.state]; rfl
  have N0 := Fr.nil n0
  refine Go.start (own_ef_0 m p1 q1 p2) ?_
  show Go p e below _ s₁ (mkF m 0 #[.val (.int p1), .val (.long q1), .second, .val (.int p2), .unset, .unset, .unset, .unset] [])
  refine Go.step (fun _ k => XS.iloadN X0.here hx rfl (hb hby at_0) rfl k) ?_
  show Go p e below _ s₁ (mkF m 1 #[.val (.int p1), .val (.long q1), .second, .val (.int p2), .unset, .unset, .unset, .unset] [(.int p1)])
  refine Go.step (X0.ldcInt hx hown (mvT hZ (hw _ (List.mem_of_getElem? (i := 0) rfl))) (g := (mkF m 1 #[.val (.int p1), .val (.long q1), .second, .val (.int p2), .unset, .unset, .unset, .unset] [(.int p1)])) rfl (hb hby at_1)) ?_
  show Go p e below _ s₁ (mkF m 3 #[.val (.int p1), .val (.long q1), .second, .val (.int p2), .unset, .unset, .unset, .unset] [(.int (2147483647 : Int32)), (.int p1)])
  refine Go.step (fun _ k => XS.iand X0.here hx rfl (hb hby at_3) rfl k) ?_
  show Go p e below _ s₁ (mkF m 4 #[.val (.int p1), .val (.long q1), .second, .val (.int p2), .unset, .unset, .unset, .unset] [(.int (p1 &&& (2147483647 : Int32)))])
  refine Go.step (fun _ k => XS.istore X0.here hx rfl (hb hby at_4) rfl (l' := #[.val (.int p1), .val (.long q1), .second, .val (.int p2), .val (.int (p1 &&& (2147483647 : Int32))), .unset, .unset, .unset]) rfl k) ?_
  show Go p e below _ s₁ (mkF m 6 #[.val (.int p1), .val (.long q1), .second, .val (.int p2), .val (.int (p1 &&& (2147483647 : Int32))), .unset, .unset, .unset] [])
  refine Go.step (fun _ k => XS.iloadN X0.here hx rfl (hb hby at_6) rfl k) ?_
  show Go p e below _ s₁ (mkF m 7 #[.val (.int p1), .val (.long q1), .second, .val (.int p2), .val (.int (p1 &&& (2147483647 : Int32))), .unset, .unset, .unset] [(.int p2)])
  refine Go.step (fun _ k => XS.iconst X0.here hx rfl (hb hby at_7) k) ?_
  show Go p e below _ s₁ (mkF m 8 #[.val (.int p1), .val (.long q1), .second, .val (.int p2), .val (.int (p1 &&& (2147483647 : Int32))), .unset, .unset, .unset] [(.int (1 : Int32)), (.int p2)])
  refine Go.step (fun _ k => XS.iand X0.here hx rfl (hb hby at_8) rfl k) ?_
  show Go p e below _ s₁ (mkF m 9 #[.val (.int p1), .val (.long q1), .second, .val (.int p2), .val (.int (p1 &&& (2147483647 : Int32))), .unset, .unset, .unset] [(.int (p2 &&& (1 : Int32)))])
  by_cases hc9_5 : (p2 &&& (1 : Int32)) = (0 : Int32)
  · show Go p e below _ s₁ (mkF m 9 #[.val (.int p1), .val (.long q1), .second, .val (.int p2), .val (.int (p1 &&& (2147483647 : Int32))), .unset, .unset, .unset] [(.int (p2 &&& (1 : Int32)))])
    refine Go.step (fun _ k => XS.ifYes X0.here hx rfl (pc0 := 9) (pc' := 22) rfl (hb hby at_9) rfl ((if0 _ _).trans (teq hc9_5).1) (by decide) (by decide) k) ?_
    show Go p e below _ s₁ (mkF m 22 #[.val (.int p1), .val (.long q1), .second, .val (.int p2), .val (.int (p1 &&& (2147483647 : Int32))), .unset, .unset, .unset] [])
    refine Go.step (fun _ k => XS.lloadN X0.here hx rfl (hb hby at_22) rfl k) ?_
    show Go p e below _ s₁ (mkF m 23 #[.val (.int p1), .val (.long q1), .second, .val (.int p2), .val (.int (p1 &&& (2147483647 : Int32))), .unset, .unset, .unset] [(.long q1)])
    refine Go.step (X0.ldc2Long hx hown (mvT hZ (hw _ (List.mem_of_getElem? (i := 17) rfl))) (g := (mkF m 23 #[.val (.int p1), .val (.long q1), .second, .val (.int p2), .val (.int (p1 &&& (2147483647 : Int32))), .unset, .unset, .unset] [(.long q1)])) rfl (hb hby at_23)) ?_
    show Go p e below _ s₁ (mkF m 26 #[.val (.int p1), .val (.long q1), .second, .val (.int p2), .val (.int (p1 &&& (2147483647 : Int32))), .unset, .unset, .unset] [(.long (9223372036854775807 : Int64)), (.long q1)])
    refine Go.step (fun _ k => XS.land X0.here hx rfl (hb hby at_26) rfl k) ?_
    show Go p e below _ s₁ (mkF m 27 #[.val (.int p1), .val (.long q1), .second, .val (.int p2), .val (.int (p1 &&& (2147483647 : Int32))), .unset, .unset, .unset] [(.long (q1 &&& (9223372036854775807 : Int64)))])
    refine Go.step (fun _ k => XS.lstore X0.here hx rfl (hb hby at_27) rfl (l' := #[.val (.int p1), .val (.long q1), .second, .val (.int p2), .val (.int (p1 &&& (2147483647 : Int32))), .val (.long (q1 &&& (9223372036854775807 : Int64))), .second, .unset]) rfl k) ?_
    show Go p e below _ s₁ (mkF m 29 #[.val (.int p1), .val (.long q1), .second, .val (.int p2), .val (.int (p1 &&& (2147483647 : Int32))), .val (.long (q1 &&& (9223372036854775807 : Int64))), .second, .unset] [])
    refine Go.step (fun _ k => XS.iload X0.here hx rfl (hb hby at_29) rfl k) ?_
    show Go p e below _ s₁ (mkF m 31 #[.val (.int p1), .val (.long q1), .second, .val (.int p2), .val (.int (p1 &&& (2147483647 : Int32))), .val (.long (q1 &&& (9223372036854775807 : Int64))), .second, .unset] [(.int (p1 &&& (2147483647 : Int32)))])
    refine Go.step (fun _ k => XS.lload X0.here hx rfl (hb hby at_31) rfl k) ?_
    show Go p e below _ s₁ (mkF m 33 #[.val (.int p1), .val (.long q1), .second, .val (.int p2), .val (.int (p1 &&& (2147483647 : Int32))), .val (.long (q1 &&& (9223372036854775807 : Int64))), .second, .unset] [(.long (q1 &&& (9223372036854775807 : Int64))), (.int (p1 &&& (2147483647 : Int32)))])
    obtain ⟨_, _, ⟨T6, L6, k6, n6⟩, -, X6, ⟨Lc6, hQ6, l6, y6, z6⟩, st6⟩ := Jvm.LawKit.callS X0 hx (y := (⟨"com/example/mazu/mazu/base/Time", "after", "(IJ)I"⟩ : MethodName)) hown (mvT hZ (hw _ (List.mem_of_getElem? (i := 2) rfl))) (mvT hZ (hw _ (List.mem_of_getElem? (i := 3) rfl))) (mvT hZ (hw _ (List.mem_of_getElem? (i := 4) rfl))) (mvT hZ (hw _ (List.mem_of_getElem? (i := 5) rfl))) (by decide) (backOf (W := 0) (rm1 l Z a0 hw [] (p1 &&& (2147483647 : Int32)) (q1 &&& (9223372036854775807 : Int64)) h0 n0 Z0) hZ (hw _ (List.mem_of_getElem? (i := 5) rfl)) (hw _ (List.mem_of_getElem? (i := 4) rfl)) (by decide) (by decide)) (g := (mkF m 33 #[.val (.int p1), .val (.long q1), .second, .val (.int p2), .val (.int (p1 &&& (2147483647 : Int32))), .val (.long (q1 &&& (9223372036854775807 : Int64))), .second, .unset] [(.long (q1 &&& (9223372036854775807 : Int64))), (.int (p1 &&& (2147483647 : Int32)))])) rfl (by rw [hml]; rfl) (argsL := [(.int (p1 &&& (2147483647 : Int32))), (.long (q1 &&& (9223372036854775807 : Int64)))]) (rest := []) (lenOf own_f41 rfl) rfl (by show 2 * 0 + _ ≤ _; exact Nat.le_of_eq rfl) (hb hby at_33) (fun _ _ => ⟨rfl, e0, (by dsimp only [Pt.cells, Pt.slots]; decide), (by dsimp only [Pt.cells, Pt.slots]; decide)⟩)
    dsimp only [Pt.U, Pt.locs, Pt.cells, Pt.slots] at X6 l6 y6 z6 st6 hQ6
    subst l6 y6 z6
    obtain ⟨rfl, N6q, e6⟩ := hQ6
    have N6 := Fr.app N0 N6q
    refine Go.step st6 ?_
    show Go p e below _ T6 (mkF m 36 #[.val (.int p1), .val (.long q1), .second, .val (.int p2), .val (.int (p1 &&& (2147483647 : Int32))), .val (.long (q1 &&& (9223372036854775807 : Int64))), .second, .unset] [(.int (own_after (p1 &&& (2147483647 : Int32)) (q1 &&& (9223372036854775807 : Int64))))])
    refine Go.step (fun _ k => XS.istore X6.here hx rfl (hb hby at_36) rfl (l' := #[.val (.int p1), .val (.long q1), .second, .val (.int p2), .val (.int (p1 &&& (2147483647 : Int32))), .val (.long (q1 &&& (9223372036854775807 : Int64))), .second, .val (.int (own_after (p1 &&& (2147483647 : Int32)) (q1 &&& (9223372036854775807 : Int64))))]) rfl k) ?_
    show Go p e below _ T6 (mkF m 38 #[.val (.int p1), .val (.long q1), .second, .val (.int p2), .val (.int (p1 &&& (2147483647 : Int32))), .val (.long (q1 &&& (9223372036854775807 : Int64))), .second, .val (.int (own_after (p1 &&& (2147483647 : Int32)) (q1 &&& (9223372036854775807 : Int64))))] [])
    refine Go.step (fun _ k => XS.iload X6.here hx rfl (hb hby at_38) rfl k) ?_
    show Go p e below _ T6 (mkF m 40 #[.val (.int p1), .val (.long q1), .second, .val (.int p2), .val (.int (p1 &&& (2147483647 : Int32))), .val (.long (q1 &&& (9223372036854775807 : Int64))), .second, .val (.int (own_after (p1 &&& (2147483647 : Int32)) (q1 &&& (9223372036854775807 : Int64))))] [(.int (own_after (p1 &&& (2147483647 : Int32)) (q1 &&& (9223372036854775807 : Int64))))])
    refine Go.step (fun _ k => XS.i2l X6.here hx rfl (hb hby at_40) rfl k) ?_
    show Go p e below _ T6 (mkF m 41 #[.val (.int p1), .val (.long q1), .second, .val (.int p2), .val (.int (p1 &&& (2147483647 : Int32))), .val (.long (q1 &&& (9223372036854775807 : Int64))), .second, .val (.int (own_after (p1 &&& (2147483647 : Int32)) (q1 &&& (9223372036854775807 : Int64))))] [(.long ((own_after (p1 &&& (2147483647 : Int32)) (q1 &&& (9223372036854775807 : Int64))).toInt64))])
    refine Go.step (fun _ k => XS.iload X6.here hx rfl (hb hby at_41) rfl k) ?_
    show Go p e below _ T6 (mkF m 43 #[.val (.int p1), .val (.long q1), .second, .val (.int p2), .val (.int (p1 &&& (2147483647 : Int32))), .val (.long (q1 &&& (9223372036854775807 : Int64))), .second, .val (.int (own_after (p1 &&& (2147483647 : Int32)) (q1 &&& (9223372036854775807 : Int64))))] [(.int (p1 &&& (2147483647 : Int32))), (.long ((own_after (p1 &&& (2147483647 : Int32)) (q1 &&& (9223372036854775807 : Int64))).toInt64))])
    refine Go.step (fun _ k => XS.lload X6.here hx rfl (hb hby at_43) rfl k) ?_
    show Go p e below _ T6 (mkF m 45 #[.val (.int p1), .val (.long q1), .second, .val (.int p2), .val (.int (p1 &&& (2147483647 : Int32))), .val (.long (q1 &&& (9223372036854775807 : Int64))), .second, .val (.int (own_after (p1 &&& (2147483647 : Int32)) (q1 &&& (9223372036854775807 : Int64))))] [(.long (q1 &&& (9223372036854775807 : Int64))), (.int (p1 &&& (2147483647 : Int32))), (.long ((own_after (p1 &&& (2147483647 : Int32)) (q1 &&& (9223372036854775807 : Int64))).toInt64))])
    obtain ⟨_, _, ⟨T7, L7, k7, n7⟩, -, X7, ⟨Lc7, hQ7, l7, y7, z7⟩, st7⟩ := Jvm.LawKit.callS X6 hx (y := (⟨"com/example/mazu/mazu/base/TimeAfterPinLaw", "reference", "(IJ)J"⟩ : MethodName)) hown (mvT hZ (hw _ (List.mem_of_getElem? (i := 7) rfl))) (mvT hZ (hw _ (List.mem_of_getElem? (i := 8) rfl))) (mvT hZ (hw _ (List.mem_of_getElem? (i := 9) rfl))) (mvT hZ (hw _ (List.mem_of_getElem? (i := 10) rfl))) (by decide) (backOf (W := 2) (rm2 l Z a0 hw [] (p1 &&& (2147483647 : Int32)) (q1 &&& (9223372036854775807 : Int64)) h0 n0 Z0) hZ (hw _ (List.mem_of_getElem? (i := 10) rfl)) (hw _ (List.mem_of_getElem? (i := 9) rfl)) (by decide) (by decide)) (g := (mkF m 45 #[.val (.int p1), .val (.long q1), .second, .val (.int p2), .val (.int (p1 &&& (2147483647 : Int32))), .val (.long (q1 &&& (9223372036854775807 : Int64))), .second, .val (.int (own_after (p1 &&& (2147483647 : Int32)) (q1 &&& (9223372036854775807 : Int64))))] [(.long (q1 &&& (9223372036854775807 : Int64))), (.int (p1 &&& (2147483647 : Int32))), (.long ((own_after (p1 &&& (2147483647 : Int32)) (q1 &&& (9223372036854775807 : Int64))).toInt64))])) rfl (by rw [hml]; rfl) (argsL := [(.int (p1 &&& (2147483647 : Int32))), (.long (q1 &&& (9223372036854775807 : Int64)))]) (rest := [(.long ((own_after (p1 &&& (2147483647 : Int32)) (q1 &&& (9223372036854775807 : Int64))).toInt64))]) (lenOf own_f42 rfl) rfl (by show 2 * 0 + _ ≤ _; exact Nat.le_of_eq rfl) (hb hby at_45) (fun _ _ => ⟨rfl, e6, (by dsimp only [Pt.cells, Pt.slots]; decide), (by dsimp only [Pt.cells, Pt.slots]; decide)⟩)
    dsimp only [Pt.U, Pt.locs, Pt.cells, Pt.slots] at X7 l7 y7 z7 st7 hQ7
    subst l7 y7 z7
    obtain ⟨rfl, N7q, e7⟩ := hQ7
    have N7 := Fr.app N6 N7q
    refine Go.step st7 ?_
    show Go p e below _ T7 (mkF m 48 #[.val (.int p1), .val (.long q1), .second, .val (.int p2), .val (.int (p1 &&& (2147483647 : Int32))), .val (.long (q1 &&& (9223372036854775807 : Int64))), .second, .val (.int (own_after (p1 &&& (2147483647 : Int32)) (q1 &&& (9223372036854775807 : Int64))))] [(.long (own_rf (p1 &&& (2147483647 : Int32)) (q1 &&& (9223372036854775807 : Int64)))), (.long ((own_after (p1 &&& (2147483647 : Int32)) (q1 &&& (9223372036854775807 : Int64))).toInt64))])
    refine Go.step (fun _ k => XS.lcmp X7.here hx rfl (hb hby at_48) rfl k) ?_
    show Go p e below _ T7 (mkF m 49 #[.val (.int p1), .val (.long q1), .second, .val (.int p2), .val (.int (p1 &&& (2147483647 : Int32))), .val (.long (q1 &&& (9223372036854775807 : Int64))), .second, .val (.int (own_after (p1 &&& (2147483647 : Int32)) (q1 &&& (9223372036854775807 : Int64))))] [(.int (lcmpW ((own_after (p1 &&& (2147483647 : Int32)) (q1 &&& (9223372036854775807 : Int64))).toInt64) (own_rf (p1 &&& (2147483647 : Int32)) (q1 &&& (9223372036854775807 : Int64)))))])
    refine Go.step (fun _ k => XS.ifNo X7.here hx rfl (hb hby at_49) rfl ((if0 _ _).trans (teq (own_fin _ _ (own_pos _) (own_posL _).2)).2) k) ?_
    show Go p e below _ T7 (mkF m 52 #[.val (.int p1), .val (.long q1), .second, .val (.int p2), .val (.int (p1 &&& (2147483647 : Int32))), .val (.long (q1 &&& (9223372036854775807 : Int64))), .second, .val (.int (own_after (p1 &&& (2147483647 : Int32)) (q1 &&& (9223372036854775807 : Int64))))] [])
    refine Go.step (fun _ k => XS.iconst X7.here hx rfl (hb hby at_52) k) ?_
    show Go p e below _ T7 (mkF m 53 #[.val (.int p1), .val (.long q1), .second, .val (.int p2), .val (.int (p1 &&& (2147483647 : Int32))), .val (.long (q1 &&& (9223372036854775807 : Int64))), .second, .val (.int (own_after (p1 &&& (2147483647 : Int32)) (q1 &&& (9223372036854775807 : Int64))))] [(.int (1 : Int32))])
    refine Go.step (fun _ k => XS.goto X7.here hx rfl (pc0 := 53) (pc' := 57) rfl (hb hby at_53) (by decide) (by decide) k) ?_
    show Go p e below _ T7 (mkF m 57 #[.val (.int p1), .val (.long q1), .second, .val (.int p2), .val (.int (p1 &&& (2147483647 : Int32))), .val (.long (q1 &&& (9223372036854775807 : Int64))), .second, .val (.int (own_after (p1 &&& (2147483647 : Int32)) (q1 &&& (9223372036854775807 : Int64))))] [(.int (1 : Int32))])
    obtain ⟨fs, hr, hrun, hended, hW, hsame⟩ := X7.leave (v := some (.int (1 : Int32))) (fun h => by rw [Bd.returns] at h; cases h)
    refine Go.fin (retN X7 hx (t := .boolean) Bd.returns (by simp) (hb hby at_57) hr) hrun hended ?_
    refine ⟨_, _, rfl, ?_, ⟨_, rfl⟩, hW, hsame.mono (by decide) (by decide)⟩
    show Q0 Z p1 q1 p2 h0 n0 _ T7.heap _
    rw [e7]
    exact ⟨rfl, N7⟩
  · show Go p e below _ s₁ (mkF m 9 #[.val (.int p1), .val (.long q1), .second, .val (.int p2), .val (.int (p1 &&& (2147483647 : Int32))), .unset, .unset, .unset] [(.int (p2 &&& (1 : Int32)))])
    refine Go.step (fun _ k => XS.ifNo X0.here hx rfl (hb hby at_9) rfl ((if0 _ _).trans (feq hc9_5).1) k) ?_
    show Go p e below _ s₁ (mkF m 12 #[.val (.int p1), .val (.long q1), .second, .val (.int p2), .val (.int (p1 &&& (2147483647 : Int32))), .unset, .unset, .unset] [])
    refine Go.step (fun _ k => XS.lloadN X0.here hx rfl (hb hby at_12) rfl k) ?_
    show Go p e below _ s₁ (mkF m 13 #[.val (.int p1), .val (.long q1), .second, .val (.int p2), .val (.int (p1 &&& (2147483647 : Int32))), .unset, .unset, .unset] [(.long q1)])
    refine Go.step (X0.ldc2Long hx hown (mvT hZ (hw _ (List.mem_of_getElem? (i := 1) rfl))) (g := (mkF m 13 #[.val (.int p1), .val (.long q1), .second, .val (.int p2), .val (.int (p1 &&& (2147483647 : Int32))), .unset, .unset, .unset] [(.long q1)])) rfl (hb hby at_13)) ?_
    show Go p e below _ s₁ (mkF m 16 #[.val (.int p1), .val (.long q1), .second, .val (.int p2), .val (.int (p1 &&& (2147483647 : Int32))), .unset, .unset, .unset] [(.long (4294967295 : Int64)), (.long q1)])
    refine Go.step (fun _ k => XS.land X0.here hx rfl (hb hby at_16) rfl k) ?_
    show Go p e below _ s₁ (mkF m 17 #[.val (.int p1), .val (.long q1), .second, .val (.int p2), .val (.int (p1 &&& (2147483647 : Int32))), .unset, .unset, .unset] [(.long (q1 &&& (4294967295 : Int64)))])
    refine Go.step (fun _ k => XS.lstore X0.here hx rfl (hb hby at_17) rfl (l' := #[.val (.int p1), .val (.long q1), .second, .val (.int p2), .val (.int (p1 &&& (2147483647 : Int32))), .val (.long (q1 &&& (4294967295 : Int64))), .second, .unset]) rfl k) ?_
    show Go p e below _ s₁ (mkF m 19 #[.val (.int p1), .val (.long q1), .second, .val (.int p2), .val (.int (p1 &&& (2147483647 : Int32))), .val (.long (q1 &&& (4294967295 : Int64))), .second, .unset] [])
    refine Go.step (fun _ k => XS.goto X0.here hx rfl (pc0 := 19) (pc' := 29) rfl (hb hby at_19) (by decide) (by decide) k) ?_
    show Go p e below _ s₁ (mkF m 29 #[.val (.int p1), .val (.long q1), .second, .val (.int p2), .val (.int (p1 &&& (2147483647 : Int32))), .val (.long (q1 &&& (4294967295 : Int64))), .second, .unset] [])
    refine Go.step (fun _ k => XS.iload X0.here hx rfl (hb hby at_29) rfl k) ?_
    show Go p e below _ s₁ (mkF m 31 #[.val (.int p1), .val (.long q1), .second, .val (.int p2), .val (.int (p1 &&& (2147483647 : Int32))), .val (.long (q1 &&& (4294967295 : Int64))), .second, .unset] [(.int (p1 &&& (2147483647 : Int32)))])
    refine Go.step (fun _ k => XS.lload X0.here hx rfl (hb hby at_31) rfl k) ?_
    show Go p e below _ s₁ (mkF m 33 #[.val (.int p1), .val (.long q1), .second, .val (.int p2), .val (.int (p1 &&& (2147483647 : Int32))), .val (.long (q1 &&& (4294967295 : Int64))), .second, .unset] [(.long (q1 &&& (4294967295 : Int64))), (.int (p1 &&& (2147483647 : Int32)))])
    obtain ⟨_, _, ⟨T8, L8, k8, n8⟩, -, X8, ⟨Lc8, hQ8, l8, y8, z8⟩, st8⟩ := Jvm.LawKit.callS X0 hx (y := (⟨"com/example/mazu/mazu/base/Time", "after", "(IJ)I"⟩ : MethodName)) hown (mvT hZ (hw _ (List.mem_of_getElem? (i := 2) rfl))) (mvT hZ (hw _ (List.mem_of_getElem? (i := 3) rfl))) (mvT hZ (hw _ (List.mem_of_getElem? (i := 4) rfl))) (mvT hZ (hw _ (List.mem_of_getElem? (i := 5) rfl))) (by decide) (backOf (W := 0) (rm1 l Z a0 hw [] (p1 &&& (2147483647 : Int32)) (q1 &&& (4294967295 : Int64)) h0 n0 Z0) hZ (hw _ (List.mem_of_getElem? (i := 5) rfl)) (hw _ (List.mem_of_getElem? (i := 4) rfl)) (by decide) (by decide)) (g := (mkF m 33 #[.val (.int p1), .val (.long q1), .second, .val (.int p2), .val (.int (p1 &&& (2147483647 : Int32))), .val (.long (q1 &&& (4294967295 : Int64))), .second, .unset] [(.long (q1 &&& (4294967295 : Int64))), (.int (p1 &&& (2147483647 : Int32)))])) rfl (by rw [hml]; rfl) (argsL := [(.int (p1 &&& (2147483647 : Int32))), (.long (q1 &&& (4294967295 : Int64)))]) (rest := []) (lenOf own_f41 rfl) rfl (by show 2 * 0 + _ ≤ _; exact Nat.le_of_eq rfl) (hb hby at_33) (fun _ _ => ⟨rfl, e0, (by dsimp only [Pt.cells, Pt.slots]; decide), (by dsimp only [Pt.cells, Pt.slots]; decide)⟩)
    dsimp only [Pt.U, Pt.locs, Pt.cells, Pt.slots] at X8 l8 y8 z8 st8 hQ8
    subst l8 y8 z8
    obtain ⟨rfl, N8q, e8⟩ := hQ8
    have N8 := Fr.app N0 N8q
    refine Go.step st8 ?_
    show Go p e below _ T8 (mkF m 36 #[.val (.int p1), .val (.long q1), .second, .val (.int p2), .val (.int (p1 &&& (2147483647 : Int32))), .val (.long (q1 &&& (4294967295 : Int64))), .second, .unset] [(.int (own_after (p1 &&& (2147483647 : Int32)) (q1 &&& (4294967295 : Int64))))])
    refine Go.step (fun _ k => XS.istore X8.here hx rfl (hb hby at_36) rfl (l' := #[.val (.int p1), .val (.long q1), .second, .val (.int p2), .val (.int (p1 &&& (2147483647 : Int32))), .val (.long (q1 &&& (4294967295 : Int64))), .second, .val (.int (own_after (p1 &&& (2147483647 : Int32)) (q1 &&& (4294967295 : Int64))))]) rfl k) ?_
    show Go p e below _ T8 (mkF m 38 #[.val (.int p1), .val (.long q1), .second, .val (.int p2), .val (.int (p1 &&& (2147483647 : Int32))), .val (.long (q1 &&& (4294967295 : Int64))), .second, .val (.int (own_after (p1 &&& (2147483647 : Int32)) (q1 &&& (4294967295 : Int64))))] [])
    refine Go.step (fun _ k => XS.iload X8.here hx rfl (hb hby at_38) rfl k) ?_
    show Go p e below _ T8 (mkF m 40 #[.val (.int p1), .val (.long q1), .second, .val (.int p2), .val (.int (p1 &&& (2147483647 : Int32))), .val (.long (q1 &&& (4294967295 : Int64))), .second, .val (.int (own_after (p1 &&& (2147483647 : Int32)) (q1 &&& (4294967295 : Int64))))] [(.int (own_after (p1 &&& (2147483647 : Int32)) (q1 &&& (4294967295 : Int64))))])
    refine Go.step (fun _ k => XS.i2l X8.here hx rfl (hb hby at_40) rfl k) ?_
    show Go p e below _ T8 (mkF m 41 #[.val (.int p1), .val (.long q1), .second, .val (.int p2), .val (.int (p1 &&& (2147483647 : Int32))), .val (.long (q1 &&& (4294967295 : Int64))), .second, .val (.int (own_after (p1 &&& (2147483647 : Int32)) (q1 &&& (4294967295 : Int64))))] [(.long ((own_after (p1 &&& (2147483647 : Int32)) (q1 &&& (4294967295 : Int64))).toInt64))])
    refine Go.step (fun _ k => XS.iload X8.here hx rfl (hb hby at_41) rfl k) ?_
    show Go p e below _ T8 (mkF m 43 #[.val (.int p1), .val (.long q1), .second, .val (.int p2), .val (.int (p1 &&& (2147483647 : Int32))), .val (.long (q1 &&& (4294967295 : Int64))), .second, .val (.int (own_after (p1 &&& (2147483647 : Int32)) (q1 &&& (4294967295 : Int64))))] [(.int (p1 &&& (2147483647 : Int32))), (.long ((own_after (p1 &&& (2147483647 : Int32)) (q1 &&& (4294967295 : Int64))).toInt64))])
    refine Go.step (fun _ k => XS.lload X8.here hx rfl (hb hby at_43) rfl k) ?_
    show Go p e below _ T8 (mkF m 45 #[.val (.int p1), .val (.long q1), .second, .val (.int p2), .val (.int (p1 &&& (2147483647 : Int32))), .val (.long (q1 &&& (4294967295 : Int64))), .second, .val (.int (own_after (p1 &&& (2147483647 : Int32)) (q1 &&& (4294967295 : Int64))))] [(.long (q1 &&& (4294967295 : Int64))), (.int (p1 &&& (2147483647 : Int32))), (.long ((own_after (p1 &&& (2147483647 : Int32)) (q1 &&& (4294967295 : Int64))).toInt64))])
    obtain ⟨_, _, ⟨T9, L9, k9, n9⟩, -, X9, ⟨Lc9, hQ9, l9, y9, z9⟩, st9⟩ := Jvm.LawKit.callS X8 hx (y := (⟨"com/example/mazu/mazu/base/TimeAfterPinLaw", "reference", "(IJ)J"⟩ : MethodName)) hown (mvT hZ (hw _ (List.mem_of_getElem? (i := 7) rfl))) (mvT hZ (hw _ (List.mem_of_getElem? (i := 8) rfl))) (mvT hZ (hw _ (List.mem_of_getElem? (i := 9) rfl))) (mvT hZ (hw _ (List.mem_of_getElem? (i := 10) rfl))) (by decide) (backOf (W := 2) (rm2 l Z a0 hw [] (p1 &&& (2147483647 : Int32)) (q1 &&& (4294967295 : Int64)) h0 n0 Z0) hZ (hw _ (List.mem_of_getElem? (i := 10) rfl)) (hw _ (List.mem_of_getElem? (i := 9) rfl)) (by decide) (by decide)) (g := (mkF m 45 #[.val (.int p1), .val (.long q1), .second, .val (.int p2), .val (.int (p1 &&& (2147483647 : Int32))), .val (.long (q1 &&& (4294967295 : Int64))), .second, .val (.int (own_after (p1 &&& (2147483647 : Int32)) (q1 &&& (4294967295 : Int64))))] [(.long (q1 &&& (4294967295 : Int64))), (.int (p1 &&& (2147483647 : Int32))), (.long ((own_after (p1 &&& (2147483647 : Int32)) (q1 &&& (4294967295 : Int64))).toInt64))])) rfl (by rw [hml]; rfl) (argsL := [(.int (p1 &&& (2147483647 : Int32))), (.long (q1 &&& (4294967295 : Int64)))]) (rest := [(.long ((own_after (p1 &&& (2147483647 : Int32)) (q1 &&& (4294967295 : Int64))).toInt64))]) (lenOf own_f42 rfl) rfl (by show 2 * 0 + _ ≤ _; exact Nat.le_of_eq rfl) (hb hby at_45) (fun _ _ => ⟨rfl, e8, (by dsimp only [Pt.cells, Pt.slots]; decide), (by dsimp only [Pt.cells, Pt.slots]; decide)⟩)
    dsimp only [Pt.U, Pt.locs, Pt.cells, Pt.slots] at X9 l9 y9 z9 st9 hQ9
    subst l9 y9 z9
    obtain ⟨rfl, N9q, e9⟩ := hQ9
    have N9 := Fr.app N8 N9q
    refine Go.step st9 ?_
    show Go p e below _ T9 (mkF m 48 #[.val (.int p1), .val (.long q1), .second, .val (.int p2), .val (.int (p1 &&& (2147483647 : Int32))), .val (.long (q1 &&& (4294967295 : Int64))), .second, .val (.int (own_after (p1 &&& (2147483647 : Int32)) (q1 &&& (4294967295 : Int64))))] [(.long (own_rf (p1 &&& (2147483647 : Int32)) (q1 &&& (4294967295 : Int64)))), (.long ((own_after (p1 &&& (2147483647 : Int32)) (q1 &&& (4294967295 : Int64))).toInt64))])
    refine Go.step (fun _ k => XS.lcmp X9.here hx rfl (hb hby at_48) rfl k) ?_
    show Go p e below _ T9 (mkF m 49 #[.val (.int p1), .val (.long q1), .second, .val (.int p2), .val (.int (p1 &&& (2147483647 : Int32))), .val (.long (q1 &&& (4294967295 : Int64))), .second, .val (.int (own_after (p1 &&& (2147483647 : Int32)) (q1 &&& (4294967295 : Int64))))] [(.int (lcmpW ((own_after (p1 &&& (2147483647 : Int32)) (q1 &&& (4294967295 : Int64))).toInt64) (own_rf (p1 &&& (2147483647 : Int32)) (q1 &&& (4294967295 : Int64)))))])
    refine Go.step (fun _ k => XS.ifNo X9.here hx rfl (hb hby at_49) rfl ((if0 _ _).trans (teq (own_fin _ _ (own_pos _) (own_posL _).1)).2) k) ?_
    show Go p e below _ T9 (mkF m 52 #[.val (.int p1), .val (.long q1), .second, .val (.int p2), .val (.int (p1 &&& (2147483647 : Int32))), .val (.long (q1 &&& (4294967295 : Int64))), .second, .val (.int (own_after (p1 &&& (2147483647 : Int32)) (q1 &&& (4294967295 : Int64))))] [])
    refine Go.step (fun _ k => XS.iconst X9.here hx rfl (hb hby at_52) k) ?_
    show Go p e below _ T9 (mkF m 53 #[.val (.int p1), .val (.long q1), .second, .val (.int p2), .val (.int (p1 &&& (2147483647 : Int32))), .val (.long (q1 &&& (4294967295 : Int64))), .second, .val (.int (own_after (p1 &&& (2147483647 : Int32)) (q1 &&& (4294967295 : Int64))))] [(.int (1 : Int32))])
    refine Go.step (fun _ k => XS.goto X9.here hx rfl (pc0 := 53) (pc' := 57) rfl (hb hby at_53) (by decide) (by decide) k) ?_
    show Go p e below _ T9 (mkF m 57 #[.val (.int p1), .val (.long q1), .second, .val (.int p2), .val (.int (p1 &&& (2147483647 : Int32))), .val (.long (q1 &&& (4294967295 : Int64))), .second, .val (.int (own_after (p1 &&& (2147483647 : Int32)) (q1 &&& (4294967295 : Int64))))] [(.int (1 : Int32))])
    obtain ⟨fs, hr, hrun, hended, hW, hsame⟩ := X9.leave (v := some (.int (1 : Int32))) (fun h => by rw [Bd.returns] at h; cases h)
    refine Go.fin (retN X9 hx (t := .boolean) Bd.returns (by simp) (hb hby at_57) hr) hrun hended ?_
    refine ⟨_, _, rfl, ?_, ⟨_, rfl⟩, hW, hsame.mono (by decide) (by decide)⟩
    show Q0 Z p1 q1 p2 h0 n0 _ T9.heap _
    rw [e9]
    exact ⟨rfl, N9⟩
set_option maxRecDepth 65536 in
set_option maxHeartbeats 40000000 in
theorem comes_1 {Post : Tables → Env → Array Value → State → Outcome → State → Prop} (hpost : ∀ tb e args s v u, (limb_1_1.after args s (.returned v) u = true ∧ limb_1_2.after args s (.returned v) u = true ∧ True) → FrameEnd s (.returned v) u (Jvm.fieldLocs frame_1_writes args s ++ Jvm.arrayLocs frame_1_arrays args s ++ Jvm.staticLocs frame_1_statics s) 0 0 → Post tb e args s (.returned v) u) :
    ArmFor flags0 classFile x code maxLocals ret World_1 tables_1 room_1 Calls_1 rest_1 Pre_1 Post := by
  intro l hfl _ _ p e ha hc hk s m args below hf hA hF happ hP
  obtain ⟨hcalls, hrest, hpre⟩ := hP
  obtain ⟨-, -, -, hnamed, -, -, -, hat⟩ := (Spec.applies_iff hf).mp happ
  obtain ⟨hg, hn⟩ := and_e (Cond.before_iff.mp (show (Jvm.Cond.and given_1 narrow_1).before args s = true from hpre))
  obtain ⟨hg1, hg2⟩ := and_e hg
  obtain ⟨hg3, hg4⟩ := and_e hg2
  obtain ⟨hg5, hg6⟩ := and_e hg4
  obtain ⟨w0, w1, w2, rfl⟩ : ∃ w0 w1 w2 : Value, args = #[w0, w1, w2] := by
    have hs : args.size = 3 := by simpa [Cond.value, given_1] using hg1
    obtain ⟨L⟩ := args
    match L, hs with
    | [w0, w1, w2], _ => exact ⟨w0, w1, w2, rfl⟩
  have hw := fun d (hd : d ∈ tables_1) => atoms_spec (ws := Jvm.Cond.code x code maxLocals ret :: tables_1) hat d (List.mem_cons_of_mem _ hd)
  have hfit : Fit s := fun {y c} hc i hi => by
    obtain ⟨ha, rfl⟩ := Array.getElem?_eq_some_iff.mp hc
    have q := List.all_eq_true.mp ((Array.all_eq_true_iff_forall_mem.mp hF) _ (Array.getElem_mem ha)) i (List.mem_range.mpr hi)
    simpa [Array.getElem?_eq_getElem hi] using q
  obtain ⟨i0, ei0⟩ := is_v hg3
  obtain rfl : w0 = (.int i0) := Option.some.inj ei0
  obtain ⟨i1, ei1⟩ := isL_v hg5
  obtain rfl : w1 = (.long i1) := Option.some.inj ei1
  obtain ⟨i2, ei2⟩ := is_v hg6
  obtain rfl : w2 = (.int i2) := Option.some.inj ei2
  obtain ⟨n, o, h1, h2, h3, _, L, rfl, ⟨rfl, N⟩, hq⟩ := rm0 l s _ hw tables_1 i0 i1 i2 s.heap s.heap.size (Nat.le_refl _)  p e ha hc hk s m _ below hf ((Spec.applies_iff_loose hf).mp happ).1 ⟨rfl, State.Warmed39.refl s, rfl⟩ trivial
  refine ⟨n, _, h1, h2, h3, hpost _ _ _ _ _ _ ⟨Cond.after_iff.mpr rfl, Cond.after_iff.mpr (eq_i res_at (Term.int_eval (1)) rfl), trivial⟩ ⟨hq.1, hq.2.1, (hq.2.2.sift fun y hy => Or.inr (N y hy)).mono (by decide) (by decide)⟩⟩
theorem main_1_1 : Claimed_1_1 := comes_1 fun _ _ _ _ _ _ h hF => ⟨h.1, hF⟩
theorem main_1_2 : Claimed_1_2 := comes_1 fun _ _ _ _ _ _ h hF => ⟨h.2.1, hF⟩
end Jvm.Pilot.@@N@@
namespace Jvm.Pilot.@@N@@
open Jvm Jvm.ClassFile Sem Op Lib Jvm.Free Jvm.Stand Jvm.Pilot.@@N@@.Jvm.D
/-! MADE BY PROGRAM (witnessworld.py) out of the Statement's table words and the real class files: 10 classes; the members and pool entries that the words name. The judged class is class 1, her method 2. -/
namespace start1
open Jvm.ClassFile
def u (s : String) : CpInfo := .utf8 (stringToUtf16 s)
/-- a pool by its gaps: so many unusable entries, then the entry; so many at the end -/
def gap : Nat → List CpInfo → List CpInfo
  | 0, r => r
  | n + 1, r => .unusable :: gap n r
def poolList (es : List (Nat × CpInfo)) (last : Nat) : List CpInfo := es.foldr (fun e r => gap e.1 (e.2 :: r)) (gap last [])
def pool (es : List (Nat × CpInfo)) (last : Nat) : Array CpInfo := ⟨poolList es last⟩
def fileOf (pool : Array CpInfo) (this : Nat) (attrs : Array Attribute := #[]) (ms : Array MethodInfo := #[]) (fl : Nat := 33) (sup : Nat := 0) (ifs : Array Nat := #[]) (fds : Array FieldInfo := #[]) : ClassFile where
  minorVersion := 0
  majorVersion := 65
  constantPool := pool
  accessFlags := fl
  thisClass := this
  superClass := sup
  interfaces := ifs
  fields := fds
  methods := ms
  attributes := attrs
def plain (name : String) (sup : Option ClassId) : Class where
  name := name
  kind := .ordinary
  loader := none
  accessFlags := 33
  super := sup
  interfaces := #[]
  cf := none
  fields := #[]
  methods := #[]
  instanceTypes := #[]
  staticTypes := #[]
  resolved := #[]
  callSites := []
  init := .initialized
  statics := none
  mirror := none

def pool0 : Array CpInfo := pool [(5, u "<init>"), (0, u "()V"), (1, .class_ 10), (1, u "java/lang/Object")] 113

def k0m0 : Method := { name := "<init>", desc := "()V", sig := { parameters := [], returnType := none }, accessFlags := 1, code := none }
/-- java/lang/Object -/
def k0 : Class := { plain "java/lang/Object" none with
  accessFlags := 33
  interfaces := #[]
  cf := some (fileOf pool0 8 #[] #[{ accessFlags := 1, nameIndex := 5, descriptorIndex := 6, attributes := #[] }] 33 0 #[] #[])
  fields := #[]
  methods := #[k0m0]
  instanceTypes := #[]
  staticTypes := #[]
  resolved := Array.replicate 124 none
  statics := none }

def pool1 : Array CpInfo := pool [(2, .class_ 4), (1, u "java/lang/Object"), (0, u "<init>"), (0, u "()V"), (0, .long 4294967296), (3, .long 2147483647), (1, .methodref 14 15), (0, .class_ 16), (0, .nameAndType 17 18), (0, u "java/lang/Math"), (0, u "min"), (0, u "(JJ)J"), (0, .integer 2147483647), (0, .long 4294967295), (3, .long 9223372036854775807), (1, .methodref 27 28), (0, .class_ 29), (0, .nameAndType 30 31), (0, u "com/example/mazu/mazu/base/Time"), (0, u "after"), (0, u "(IJ)I"), (0, .methodref 33 34), (0, .class_ 35), (0, .nameAndType 36 37), (0, u "com/example/mazu/mazu/base/TimeAfterPinLaw"), (0, u "reference"), (0, u "(IJ)J"), (3, u "law"), (0, u "(IJI)Z")] 2

def k1m0 : Method := { name := "<init>", desc := "()V", sig := { parameters := [], returnType := none }, accessFlags := 2, code := none }
def k1c1 : Code := { maxStack := 4, maxLocals := 5, code := method_2_code, exceptionTable := #[], attributes := #[] }
def k1m1 : Method := { name := "reference", desc := "(IJ)J", sig := { parameters := [.int, .long], returnType := some .long }, accessFlags := 10, code := some k1c1 }
def k1c2 : Code := { maxStack := 5, maxLocals := 8, code := code, exceptionTable := #[], attributes := #[] }
def k1m2 : Method := { name := "law", desc := "(IJI)Z", sig := { parameters := [.int, .long, .int], returnType := some .boolean }, accessFlags := 9, code := some k1c2 }
/-- com/example/mazu/mazu/base/TimeAfterPinLaw -/
def k1 : Class := { plain "com/example/mazu/mazu/base/TimeAfterPinLaw" (some 0) with
  accessFlags := 49
  interfaces := #[]
  cf := some (fileOf pool1 33 #[] #[{ accessFlags := 2, nameIndex := 5, descriptorIndex := 6, attributes := #[] }, { accessFlags := 10, nameIndex := 36, descriptorIndex := 37, attributes := #[] }, { accessFlags := 9, nameIndex := 41, descriptorIndex := 42, attributes := #[] }] 49 2 #[] #[])
  fields := #[]
  methods := #[k1m0, k1m1, k1m2]
  instanceTypes := #[]
  staticTypes := #[]
  resolved := Array.replicate 45 none
  statics := none }

def pool2 : Array CpInfo := pool [(1, .class_ 2), (0, u "com/example/mazu/mazu/base/Time"), (1, .class_ 6), (1, u "java/lang/Object"), (0, u "<init>"), (0, u "()V"), (28, .long 2147483647), (10, .integer 2147483647), (36, u "MINUTE"), (0, u "I"), (2, u "HOUR"), (6, u "after"), (0, u "(IJ)I")] 22

def k2m0 : Method := { name := "<init>", desc := "()V", sig := { parameters := [], returnType := none }, accessFlags := 2, code := none }
def k2c1 : Code := { maxStack := 6, maxLocals := 3, code := prog_14_method_3_code, exceptionTable := #[], attributes := #[] }
def k2m1 : Method := { name := "after", desc := "(IJ)I", sig := { parameters := [.int, .long], returnType := some .int }, accessFlags := 9, code := some k2c1 }
/-- com/example/mazu/mazu/base/Time -/
def k2 : Class := { plain "com/example/mazu/mazu/base/Time" (some 0) with
  accessFlags := 33
  interfaces := #[]
  cf := some (fileOf pool2 1 #[] #[{ accessFlags := 2, nameIndex := 7, descriptorIndex := 8, attributes := #[] }, { accessFlags := 9, nameIndex := 96, descriptorIndex := 97, attributes := #[] }] 33 4 #[] #[{ accessFlags := 26, nameIndex := 85, descriptorIndex := 86, attributes := #[] }, { accessFlags := 26, nameIndex := 89, descriptorIndex := 86, attributes := #[] }])
  fields := #[{ name := "MINUTE", type := .int, accessFlags := 26, slot := 0, constantValue := 0 }, { name := "HOUR", type := .int, accessFlags := 26, slot := 1, constantValue := 0 }]
  methods := #[k2m0, k2m1]
  instanceTypes := #[]
  staticTypes := #[.int, .int]
  resolved := Array.replicate 120 none
  statics := none }

def pool3 : Array CpInfo := pool [(1, .class_ 2), (0, u "java/lang/Math"), (1, .class_ 6), (1, u "java/lang/Object"), (0, u "<init>"), (0, u "()V"), (89, .class_ 100), (1, u "java/lang/Math$RandomNumberGeneratorHolder"), (20, u "(JJ)J"), (50, u "negativeZeroFloatBits"), (0, u "J"), (2, u "negativeZeroDoubleBits"), (24, u "min"), (43, u "$assertionsDisabled"), (0, u "Z"), (91, u "twoToTheDoubleScaleDown"), (0, u "D"), (4, u "twoToTheDoubleScaleUp"), (9, u "E"), (3, u "PI"), (2, u "TAU"), (2, u "DEGREES_TO_RADIANS"), (0, u "RADIANS_TO_DEGREES")] 94

def k3m0 : Method := { name := "<init>", desc := "()V", sig := { parameters := [], returnType := none }, accessFlags := 2, code := none }
def k3c1 : Code := { maxStack := 4, maxLocals := 4, code := jdk_29_method_70_code, exceptionTable := #[], attributes := #[] }
def k3m1 : Method := { name := "min", desc := "(JJ)J", sig := { parameters := [.long, .long], returnType := some .long }, accessFlags := 9, code := some k3c1 }
/-- java/lang/Math -/
def k3 : Class := { plain "java/lang/Math" (some 0) with
  accessFlags := 49
  interfaces := #[]
  cf := some (fileOf pool3 1 #[.nestMembers #[98]] #[{ accessFlags := 2, nameIndex := 7, descriptorIndex := 8, attributes := #[] }, { accessFlags := 9, nameIndex := 201, descriptorIndex := 121, attributes := #[] }] 49 4 #[] #[{ accessFlags := 25, nameIndex := 354, descriptorIndex := 339, attributes := #[] }, { accessFlags := 25, nameIndex := 358, descriptorIndex := 339, attributes := #[] }, { accessFlags := 25, nameIndex := 361, descriptorIndex := 339, attributes := #[] }, { accessFlags := 26, nameIndex := 364, descriptorIndex := 339, attributes := #[] }, { accessFlags := 26, nameIndex := 365, descriptorIndex := 339, attributes := #[] }, { accessFlags := 26, nameIndex := 172, descriptorIndex := 173, attributes := #[] }, { accessFlags := 26, nameIndex := 176, descriptorIndex := 173, attributes := #[] }, { accessFlags := 8, nameIndex := 344, descriptorIndex := 339, attributes := #[] }, { accessFlags := 8, nameIndex := 338, descriptorIndex := 339, attributes := #[] }, { accessFlags := 4120, nameIndex := 245, descriptorIndex := 246, attributes := #[] }])
  fields := #[{ name := "E", type := .double, accessFlags := 25, slot := 0, constantValue := 0 }, { name := "PI", type := .double, accessFlags := 25, slot := 1, constantValue := 0 }, { name := "TAU", type := .double, accessFlags := 25, slot := 2, constantValue := 0 }, { name := "DEGREES_TO_RADIANS", type := .double, accessFlags := 26, slot := 3, constantValue := 0 }, { name := "RADIANS_TO_DEGREES", type := .double, accessFlags := 26, slot := 4, constantValue := 0 }, { name := "negativeZeroFloatBits", type := .long, accessFlags := 26, slot := 5, constantValue := 0 }, { name := "negativeZeroDoubleBits", type := .long, accessFlags := 26, slot := 6, constantValue := 0 }, { name := "twoToTheDoubleScaleUp", type := .double, accessFlags := 8, slot := 7, constantValue := 0 }, { name := "twoToTheDoubleScaleDown", type := .double, accessFlags := 8, slot := 8, constantValue := 0 }, { name := "$assertionsDisabled", type := .boolean, accessFlags := 4120, slot := 9, constantValue := 0 }]
  methods := #[k3m0, k3m1]
  instanceTypes := #[]
  staticTypes := #[.double, .double, .double, .double, .double, .long, .long, .double, .double, .boolean]
  resolved := Array.replicate 460 none
  statics := none }

def pool4 : Array CpInfo := pool [(1, u "java/lang/Cloneable"), (0, .class_ 1), (0, u "java/lang/Object"), (0, .class_ 3)] 3

/-- java/lang/Cloneable -/
def k4 : Class := { plain "java/lang/Cloneable" (some 0) with
  accessFlags := 1537
  interfaces := #[]
  cf := some (fileOf pool4 2 #[] #[] 1537 4 #[] #[])
  fields := #[]
  methods := #[]
  instanceTypes := #[]
  staticTypes := #[]
  resolved := Array.replicate 8 none
  statics := none }

def pool5 : Array CpInfo := pool [(1, u "java/io/Serializable"), (0, .class_ 1), (0, u "java/lang/Object"), (0, .class_ 3)] 3

/-- java/io/Serializable -/
def k5 : Class := { plain "java/io/Serializable" (some 0) with
  accessFlags := 1537
  interfaces := #[]
  cf := some (fileOf pool5 2 #[] #[] 1537 4 #[] #[])
  fields := #[]
  methods := #[]
  instanceTypes := #[]
  staticTypes := #[]
  resolved := Array.replicate 8 none
  statics := none }

/-- the primitive byte -/
def k6 : Class := { plain "byte" none with kind := .primitive 'B', accessFlags := 0x411 }
/-- [B -/
def k7 : Class := { plain "[B" (some 0) with kind := .array 6 .byte, interfaces := #[4, 5], accessFlags := 1041 }

/-- the primitive int -/
def k8 : Class := { plain "int" none with kind := .primitive 'I', accessFlags := 0x411 }
/-- [I -/
def k9 : Class := { plain "[I" (some 0) with kind := .array 8 .int, interfaces := #[4, 5], accessFlags := 1041 }

def heap : Heap := #[]
def classes : Array Class := #[k0, k1, k2, k3, k4, k5, k6, k7, k8, k9]
def interned : List (Array UInt16 × Addr) := []
def slotsUsed : Nat := 0
def theMethod : MethodId := ⟨1, 2⟩
def args0 : Array Value := #[.int 5, .long 7, .int 1]
def aboutOver (below : List Frame) : State where
  vm := { classes := classes, interned := interned.toArray }
  heap := heap
  slotsUsed := slotsUsed
  threads := #[{ frames := .invoking theMethod args0 :: below }]
def below0 : List Frame := [.native { method := ⟨0, 0⟩, args := #[] }]
def about1 : State := aboutOver below0
def p0 : Program := .bare "" "" ""
def e0 : Env := launch0.env 0 0 0
theorem w_frames : about1.frames = Frame.invoking theMethod args0 :: below0 := rfl
set_option maxRecDepth 65536 in
theorem w_args : argsFit about1.vm theMethod args0 = true := by decide +kernel
set_option maxRecDepth 65536 in
theorem w_heap : heapFits about1 = true := by decide +kernel
set_option maxRecDepth 65536 in
theorem w_runnable : about1.curStatus? = some .runnable := by decide +kernel
set_option maxRecDepth 65536 in
theorem w_alone : about1.alone = true := by decide +kernel
set_option maxRecDepth 65536 in
theorem w_named : about1.methodNamed? x = some theMethod := by decide +kernel
set_option maxRecDepth 65536 in
theorem w_hears : about1.hears theMethod below0 = true := by decide +kernel
set_option maxRecDepth 65536 in
theorem w_ripe : about1.ripe theMethod args0 below0 = true := by decide +kernel
theorem w_running : about1.status = .running := rfl
set_option maxRecDepth 65536 in
theorem w_room : about1.hasRoom e0.platform room_1 = true :=
  launch0.hasRoom_least _ room_1 (by decide +kernel) (by decide +kernel) (by decide +kernel) (by decide +kernel) (by decide +kernel) (by decide +kernel)
theorem allAtoms_all (ts : List Jvm.Cond) (a : Array Jvm.Value) (st : Jvm.State) : (allAtoms ts).before a st = ts.all (fun c => c.before a st) := by
  induction ts with
  | nil => rfl
  | cons c t ih =>
    show (Jvm.Cond.and c (allAtoms t)).before a st = _
    rw [Jvm.Cond.before_and, ih, List.all_cons]
def words1 : List Jvm.Cond := Jvm.Cond.code x code maxLocals ret :: tables_1
/-- a 'code' word, met by the world's own term for the bytes: nothing is compared byte by byte -/
theorem code_word {y : MethodName} {bytes : ByteArray} {mx : Nat} {rt : Option FieldType} {a : Array Value} {s : State} {m : MethodId} {meth : Method} {c : Code} (h1 : s.methodNamed? y = some m) (h2 : s.vm.method? m = some meth) (h3 : meth.code = some c) (h4 : c.code = bytes)
    (h5 : (c.maxLocals == mx && c.exceptionTable.isEmpty && decide (c.maxStack ≤ mostOperands) && decide (meth.sig.returnType = rt) && !meth.locks && decide (parseMethodDescriptor y.desc = some meth.sig)) = true) : (Jvm.Cond.code y bytes mx rt).before a s = true := by
  simp only [Bool.and_eq_true, beq_iff_eq, Bool.not_eq_true', decide_eq_true_eq] at h5
  obtain ⟨⟨⟨⟨⟨g1, g2⟩, g3⟩, g4⟩, g5⟩, g6⟩ := h5
  simp [Cond.before, Cond.holds, Cond.value, h1, h2, h3, h4, g1, g2, g3, g4, g5, g6]
def isCode : Jvm.Cond → Bool
  | .code _ _ _ _ => true
  | _ => false
theorem all_split {L : List Jvm.Cond} {P : Jvm.Cond → Bool} (h1 : L.all (fun c => isCode c || P c) = true) (h2 : ∀ c ∈ L.filter isCode, P c = true) : L.all P = true := by
  refine List.all_eq_true.mpr fun c hc => ?_
  have h := List.all_eq_true.mp h1 c hc
  rcases Bool.eq_false_or_eq_true (isCode c) with hi | hi
  · exact h2 c (List.mem_filter.mpr ⟨hc, hi⟩)
  · simpa [hi] using h
set_option maxRecDepth 65536 in
theorem w_c0 : (Jvm.Cond.code x code maxLocals ret).before args0 about1 = true := code_word (m := ⟨1, 2⟩) (meth := k1m2) (c := k1c2) (by decide +kernel) rfl rfl rfl (by decide +kernel)
set_option maxRecDepth 65536 in
theorem w_c1 : (Jvm.Cond.code ({ cls := "com/example/mazu/mazu/base/Time", name := "after", desc := "(IJ)I" } : Jvm.MethodName) prog_14_method_3_code (3 : Nat) (Option.some Jvm.ClassFile.FieldType.int)).before args0 about1 = true := code_word (m := ⟨2, 1⟩) (meth := k2m1) (c := k2c1) (by decide +kernel) rfl rfl rfl (by decide +kernel)
set_option maxRecDepth 65536 in
theorem w_c2 : (Jvm.Cond.code ({ cls := "com/example/mazu/mazu/base/TimeAfterPinLaw", name := "reference", desc := "(IJ)J" } : Jvm.MethodName) method_2_code (5 : Nat) (Option.some Jvm.ClassFile.FieldType.long)).before args0 about1 = true := code_word (m := ⟨1, 1⟩) (meth := k1m1) (c := k1c1) (by decide +kernel) rfl rfl rfl (by decide +kernel)
set_option maxRecDepth 65536 in
theorem w_c3 : (Jvm.Cond.code ({ cls := "java/lang/Math", name := "min", desc := "(JJ)J" } : Jvm.MethodName) jdk_29_method_70_code (4 : Nat) (Option.some Jvm.ClassFile.FieldType.long)).before args0 about1 = true := code_word (m := ⟨3, 1⟩) (meth := k3m1) (c := k3c1) (by decide +kernel) rfl rfl rfl (by decide +kernel)
def codes1 : List Jvm.Cond := [Jvm.Cond.code x code maxLocals ret, Jvm.Cond.code ({ cls := "com/example/mazu/mazu/base/Time", name := "after", desc := "(IJ)I" } : Jvm.MethodName) prog_14_method_3_code (3 : Nat) (Option.some Jvm.ClassFile.FieldType.int), Jvm.Cond.code ({ cls := "com/example/mazu/mazu/base/TimeAfterPinLaw", name := "reference", desc := "(IJ)J" } : Jvm.MethodName) method_2_code (5 : Nat) (Option.some Jvm.ClassFile.FieldType.long), Jvm.Cond.code ({ cls := "java/lang/Math", name := "min", desc := "(JJ)J" } : Jvm.MethodName) jdk_29_method_70_code (4 : Nat) (Option.some Jvm.ClassFile.FieldType.long)]
set_option maxRecDepth 65536 in
theorem codes_eq : words1.filter isCode = codes1 := rfl
theorem w_codes : ∀ c ∈ words1.filter isCode, c.before args0 about1 = true := by
  rw [codes_eq]
  intro c hc
  simp only [codes1, List.mem_cons, List.not_mem_nil, or_false] at hc
  rcases hc with rfl | rfl | rfl | rfl
  · exact w_c0
  · exact w_c1
  · exact w_c2
  · exact w_c3
set_option maxRecDepth 65536 in
theorem w_t1 : words1.all (fun c => isCode c || c.before args0 about1) = true := by decide +kernel
theorem w_tables : (allAtoms (Jvm.Cond.code x code maxLocals ret :: tables_1)).before args0 about1 = true := by
  rw [allAtoms_all]
  show words1.all (fun c => c.before args0 about1) = true
  refine all_split ?_ w_codes
  rw [w_t1]
set_option maxRecDepth 65536 in
theorem w_case : (Jvm.Cond.and given_1 narrow_1).before args0 about1 = true := by decide +kernel
theorem w_applies : (headSpec (Jvm.Cond.code x code maxLocals ret :: tables_1) room_1).applies x e0.platform about1 = true :=
  (Spec.applies_iff w_frames).mpr ⟨w_running, w_runnable, w_alone, w_named, w_hears, w_ripe, w_room, w_tables⟩
theorem atStart : AtStart classFile x code maxLocals ret World_1 tables_1 room_1 Calls_1 rest_1 Pre_1 launch0 p0 e0 about1 theMethod args0 below0 :=
  ⟨lists_1, trivial, launch0.admits_env _ _ _, launch0.least_env, fairChoices_fair.cas, fairChoices_fair.clock, w_frames, w_args, w_heap, w_applies, trivial, trivial, w_case⟩
end start1
theorem witness_1 : WitnessClaimed_1 := ⟨start1.p0, start1.e0, start1.about1, start1.theMethod, start1.args0, start1.below0, start1.atStart⟩
end Jvm.Pilot.@@N@@
