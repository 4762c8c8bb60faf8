import JvmDerived
import JvmDerived.Pilot.@@N@@Statement
import JvmDerived.Pilot.@@N@@Code
set_option linter.unusedVariables false
set_option linter.unusedSimpArgs false
namespace Jvm.RoadKit
open Sem ClassFile Op Lib Jvm.Stand Jvm.Free Jvm.LawKit
/-- from the frame f over T the run ends as R says -/
def Go (p : Program) (e : Env) (below : List Frame) (R : State → Outcome → Prop) (T : State) (f : JFrame) : Prop := ∃ s₂ o, Steps p.tables e below (T.setTop f) s₂ ∧ s₂.status = .running ∧ Ended s₂ below o ∧ R s₂ o
section New
variable {p : Program} {l : Launch} {e : Env} {R : Room} {s : State} {m : MethodId} {args : Array Value} {below : List Frame} {meth : Method} {c : Code} {T T' : State} {locs : List Loc} {cells slots : Nat} {K : State → Outcome → Prop} {f f' : JFrame}
theorem Go.start (q : f = f') (k : Go p e below K T f') : ∃ s₂ o, Steps p.tables e below (T.setTop f) s₂ ∧ s₂.status = .running ∧ Ended s₂ below o ∧ K s₂ o := q ▸ k
theorem Go.step (h : ∀ t, Steps p.tables e below (T'.setTop f') t → Steps p.tables e below (T.setTop f) t) (k : Go p e below K T' f') : Go p e below K T f := by
  obtain ⟨s₂, o, h1, h2⟩ := k
  exact ⟨s₂, o, h _ h1, h2⟩
theorem Go.fin {S2 : State} {o : Outcome} (hs : Steps p.tables e below (T.setTop f) S2) (h1 : S2.status = .running) (h2 : Ended S2 below o) (h3 : K S2 o) : Go p e below K T f := ⟨_, _, hs, h1, h2, h3⟩
theorem retI (X : Stand p l e R s m args below meth c T locs cells slots) (hx : p.tables.exec = Jvm.exec) {pc : Nat} {Ls : Array Slot} {z : Int32} {rest : List Value} (hret : meth.sig.returnType = some .int) (hd : decode c.code pc = .ok (.ireturn, 1)) {fs : List Frame}
    (hl : ∀ (f : JFrame) (acts : List Action), f.method = m → f.locked = none → f.entered = [] → (doReturn e (T.setTop f) acts (some (.int z))).1 = T.setFrames fs) : Steps p.tables e below (T.setTop (mkF m pc Ls (.int z :: rest))) (T.setFrames fs) := by
  have hm' : T.vm.method? m = some meth := X.method'
  have hn : narrow .int (.int z) = .int z := rfl
  show Steps p.tables e below (T.setTop { method := m, pc := pc, locals := Ls, stack := _ :: rest, locked := none }) _
  jvm_step X.here [X.here.top, hx, hd, hm', hret, hn]
  first | (intro acts; rw [hl _ acts rfl rfl rfl]) | rw [hl _ _ rfl rfl rfl]
  exact Steps.refl _
end New
end Jvm.RoadKit
namespace Jvm.Pilot.@@N@@
open Jvm Jvm.ClassFile Sem Op Lib Jvm.Free Jvm.Stand Jvm.LawKit Jvm.RoadKit Bundle Jvm.Pilot.@@N@@.Jvm.D
def own_cc (z : Int32) : Int32 := if (32 : Int32) < z then (if (126 : Int32) < z then 0 else if z = (62 : Int32) then 0 else if z = (44 : Int32) then 0 else if z = (58 : Int32) then 0 else 1) else 0
def own_in (a b z : Int32) : Int32 := if z < a then 0 else if b < z then 0 else 1
def own_ref (z : Int32) : Int32 := if own_in 33 43 z = 0 then (if own_in 45 57 z = 0 then (if own_in 59 61 z = 0 then (if own_in 63 126 z = 0 then 0 else 1) else 1) else 1) else 1
theorem own_in0 (a b z : Int32) : own_in a b z = 0 ↔ (z.toInt < a.toInt ∨ b.toInt < z.toInt) := by
  unfold own_in
  by_cases h1 : z < a
  · simp [h1, Int32.lt_iff_toInt_lt.mp h1]
  · by_cases h2 : b < z
    · simp [h1, h2, Int32.lt_iff_toInt_lt.mp h2]
    · have g1 : ¬ z.toInt < a.toInt := fun q => h1 (Int32.lt_iff_toInt_lt.mpr q)
      have g2 : ¬ b.toInt < z.toInt := fun q => h2 (Int32.lt_iff_toInt_lt.mpr q)
      simp [h1, h2, g1, g2]
set_option maxHeartbeats 4000000 in
theorem own_same (z : Int32) : own_ref z = own_cc z := by
  have e33 : (33 : Int32).toInt = 33 := by decide
  have e43 : (43 : Int32).toInt = 43 := by decide
  have e45 : (45 : Int32).toInt = 45 := by decide
  have e57 : (57 : Int32).toInt = 57 := by decide
  have e59 : (59 : Int32).toInt = 59 := by decide
  have e61 : (61 : Int32).toInt = 61 := by decide
  have e63 : (63 : Int32).toInt = 63 := by decide
  have e126 : (126 : Int32).toInt = 126 := by decide
  have e32 : (32 : Int32).toInt = 32 := by decide
  have e62 : (62 : Int32).toInt = 62 := by decide
  have e44 : (44 : Int32).toInt = 44 := by decide
  have e58 : (58 : Int32).toInt = 58 := by decide
  simp only [own_ref, own_cc, own_in0, Int32.lt_iff_toInt_lt, ← Int32.toInt_inj (y := 62), ← Int32.toInt_inj (y := 44), ← Int32.toInt_inj (y := 58), e33, e43, e45, e57, e59, e61, e63, e126, e32, e62, e44, e58]
  generalize z.toInt = n
  (repeat' split) <;> first | rfl | (exfalso; omega)

theorem own_f0 : decode prog_42_method_10_code 0 = .ok (.iload_n 0, 1) := by decide +kernel
theorem own_f1 : decode prog_42_method_10_code 1 = .ok (.bipush 32, 2) := by decide +kernel
theorem own_f2 : decode prog_42_method_10_code 3 = .ok (.if_icmp .le 31, 3) := by decide +kernel
theorem own_f3 : decode prog_42_method_10_code 6 = .ok (.iload_n 0, 1) := by decide +kernel
theorem own_f4 : decode prog_42_method_10_code 7 = .ok (.bipush 126, 2) := by decide +kernel
theorem own_f5 : decode prog_42_method_10_code 9 = .ok (.if_icmp .gt 25, 3) := by decide +kernel
theorem own_f6 : decode prog_42_method_10_code 34 = .ok (.iconst 0, 1) := by decide +kernel
theorem own_f7 : decode prog_42_method_10_code 35 = .ok (.ireturn, 1) := by decide +kernel
theorem own_f8 : decode prog_42_method_10_code 12 = .ok (.iload_n 0, 1) := by decide +kernel
theorem own_f9 : decode prog_42_method_10_code 13 = .ok (.bipush 62, 2) := by decide +kernel
theorem own_f10 : decode prog_42_method_10_code 15 = .ok (.if_icmp .eq 19, 3) := by decide +kernel
theorem own_f11 : decode prog_42_method_10_code 18 = .ok (.iload_n 0, 1) := by decide +kernel
theorem own_f12 : decode prog_42_method_10_code 19 = .ok (.bipush 44, 2) := by decide +kernel
theorem own_f13 : decode prog_42_method_10_code 21 = .ok (.if_icmp .eq 13, 3) := by decide +kernel
theorem own_f14 : decode prog_42_method_10_code 24 = .ok (.iload_n 0, 1) := by decide +kernel
theorem own_f15 : decode prog_42_method_10_code 25 = .ok (.bipush 58, 2) := by decide +kernel
theorem own_f16 : decode prog_42_method_10_code 27 = .ok (.if_icmp .eq 7, 3) := by decide +kernel
theorem own_f17 : decode prog_42_method_10_code 30 = .ok (.iconst 1, 1) := by decide +kernel
theorem own_f18 : decode prog_42_method_10_code 31 = .ok (.goto 4, 3) := by decide +kernel
theorem own_f19 : plainName "com/example/frugal_sieve/frugalsieve/parse/PacketParser" = true := by first | (simp [plainName, overriddenIn]; done) | decide +kernel
theorem own_ef_1 (m : MethodId) (p1 : Int32) : entryFrame m #[(.int p1)] 1 = mkF m 0 #[.val (.int p1)] [] := by first | (simp [entryFrame, mkF, argsToLocals, Value.category]; done) | rfl
def Q1 (Z : State) (p1 : Int32) (h0 : Heap) (n0 : Nat) (v : Option Value) (h : Heap) (L : List Loc) : Prop := v = some (.int (own_cc p1)) ∧ Fr n0 L ∧ h = h0
set_option maxRecDepth 65536 in
set_option maxHeartbeats 40000000 in
theorem rm1 (l : Launch) (Z : State) (a0 : Array Value) (hw : ∀ d ∈ tables_1, d.before a0 Z = true) (ws : List Jvm.Cond) (p1 : Int32) (h0 : Heap) (n0 : Nat) (Z0 : n0 ≤ h0.size)  :
    MetFree l (⟨"com/example/frugal_sieve/frugalsieve/parse/PacketParser", "isCallCharacter", "(I)Z"⟩ : MethodName) (head1 (Jvm.Cond.code (⟨"com/example/frugal_sieve/frugalsieve/parse/PacketParser", "isCallCharacter", "(I)Z"⟩ : MethodName) prog_42_method_10_code 1 (some .boolean) :: ws) ({ frames := 0, cells := 0, slots := 0, locals := 0 } : Room)) (fun a U => a = #[(.int p1)] ∧ Z.Warmed39 U.vm ∧ U.heap = h0) (fun _ _ _ _ _ => True) (fun _ U o U' => ∃ v L, o = .returned v ∧ Q1 Z p1 h0 n0 v U'.heap L ∧ FrameEnd U o U' L ({ frames := 0, cells := 0, slots := 0, locals := 0 } : Room).cells ({ frames := 0, cells := 0, slots := 0, locals := 0 } : Room).slots) := by
  refine MetFree.of_bodySF (plainFor_of_name own_f19) hisR ?_
  intro p e s m args below meth c s₁ Bd hml0 hP hK
  obtain ⟨rfl, hZ, hh⟩ := hP
  have hx := Bd.exec
  have hby := Bd.bytes
  have hml : c.maxLocals = 1 := hml0
  have hown : s.vm.findClass "com/example/frugal_sieve/frugalsieve/parse/PacketParser" = some m.cls := findClass_of_methodNamed Bd.named
  have hnm := (name_of_methodNamed Bd.named Bd.method).1
  have X0 : Stand p l e ({ frames := 0, cells := 0, slots := 0, locals := 0 } : Room) s m #[(.int p1)] below meth c s₁ [] 0 0 := Stand.of_body Bd
  have e0 : s₁.heap = h0 := by rw [← hh, Bd.state]; rfl
  have N0 := Fr.nil n0
  refine Go.start (own_ef_1 m p1) ?_
  show Go p e below _ s₁ (mkF m 0 #[.val (.int p1)] [])
  refine Go.step (fun _ k => XS.iloadN X0.here hx rfl (hb hby own_f0) rfl k) ?_
  show Go p e below _ s₁ (mkF m 1 #[.val (.int p1)] [(.int p1)])
  refine Go.step (fun _ k => XS.bipush X0.here hx rfl (hb hby own_f1) k) ?_
  show Go p e below _ s₁ (mkF m 3 #[.val (.int p1)] [(.int (32 : Int32)), (.int p1)])
  by_cases hc3_1 : (32 : Int32) < p1
  · show Go p e below _ s₁ (mkF m 3 #[.val (.int p1)] [(.int (32 : Int32)), (.int p1)])
    refine Go.step (fun _ k => XS.icmpNo X0.here hx rfl (hb hby own_f2) rfl (tlt hc3_1).2.2.2 k) ?_
    show Go p e below _ s₁ (mkF m 6 #[.val (.int p1)] [])
    refine Go.step (fun _ k => XS.iloadN X0.here hx rfl (hb hby own_f3) rfl k) ?_
    show Go p e below _ s₁ (mkF m 7 #[.val (.int p1)] [(.int p1)])
    refine Go.step (fun _ k => XS.bipush X0.here hx rfl (hb hby own_f4) k) ?_
    show Go p e below _ s₁ (mkF m 9 #[.val (.int p1)] [(.int (126 : Int32)), (.int p1)])
    by_cases hc9_2 : (126 : Int32) < p1
    · show Go p e below _ s₁ (mkF m 9 #[.val (.int p1)] [(.int (126 : Int32)), (.int p1)])
      refine Go.step (fun _ k => XS.icmpYes X0.here hx rfl (pc0 := 9) (pc' := 34) rfl (hb hby own_f5) rfl (tlt hc9_2).2.2.1 (by decide) (by decide) k) ?_
      show Go p e below _ s₁ (mkF m 34 #[.val (.int p1)] [])
      refine Go.step (fun _ k => XS.iconst X0.here hx rfl (hb hby own_f6) k) ?_
      show Go p e below _ s₁ (mkF m 35 #[.val (.int p1)] [(.int (0 : Int32))])
      have er : own_cc p1 = (0 : Int32) := by simp [own_cc, hc3_1, hc9_2]
      obtain ⟨fs, hr, hrun, hended, hW, hsame⟩ := X0.leave (v := some (.int (0 : Int32))) (fun h => by rw [Bd.returns] at h; cases h)
      refine Go.fin (retN X0 hx (t := .boolean) Bd.returns (by simp) (hb hby own_f7) hr) hrun hended ?_
      refine ⟨_, _, rfl, ?_, ⟨_, rfl⟩, hW, hsame.mono (by decide) (by decide)⟩
      show Q1 Z p1 h0 n0 _ s₁.heap _
      rw [e0]
      exact ⟨by rw [er], N0, rfl⟩
    · show Go p e below _ s₁ (mkF m 9 #[.val (.int p1)] [(.int (126 : Int32)), (.int p1)])
      refine Go.step (fun _ k => XS.icmpNo X0.here hx rfl (hb hby own_f5) rfl (flt hc9_2).2.2.1 k) ?_
      show Go p e below _ s₁ (mkF m 12 #[.val (.int p1)] [])
      refine Go.step (fun _ k => XS.iloadN X0.here hx rfl (hb hby own_f8) rfl k) ?_
      show Go p e below _ s₁ (mkF m 13 #[.val (.int p1)] [(.int p1)])
      refine Go.step (fun _ k => XS.bipush X0.here hx rfl (hb hby own_f9) k) ?_
      show Go p e below _ s₁ (mkF m 15 #[.val (.int p1)] [(.int (62 : Int32)), (.int p1)])
      by_cases hc15_3 : p1 = (62 : Int32)
      · show Go p e below _ s₁ (mkF m 15 #[.val (.int p1)] [(.int (62 : Int32)), (.int p1)])
        refine Go.step (fun _ k => XS.icmpYes X0.here hx rfl (pc0 := 15) (pc' := 34) rfl (hb hby own_f10) rfl (teq hc15_3).1 (by decide) (by decide) k) ?_
        show Go p e below _ s₁ (mkF m 34 #[.val (.int p1)] [])
        refine Go.step (fun _ k => XS.iconst X0.here hx rfl (hb hby own_f6) k) ?_
        show Go p e below _ s₁ (mkF m 35 #[.val (.int p1)] [(.int (0 : Int32))])
        have er : own_cc p1 = (0 : Int32) := by simp [own_cc, hc3_1, hc9_2, hc15_3]
        obtain ⟨fs, hr, hrun, hended, hW, hsame⟩ := X0.leave (v := some (.int (0 : Int32))) (fun h => by rw [Bd.returns] at h; cases h)
        refine Go.fin (retN X0 hx (t := .boolean) Bd.returns (by simp) (hb hby own_f7) hr) hrun hended ?_
        refine ⟨_, _, rfl, ?_, ⟨_, rfl⟩, hW, hsame.mono (by decide) (by decide)⟩
        show Q1 Z p1 h0 n0 _ s₁.heap _
        rw [e0]
        exact ⟨by rw [er], N0, rfl⟩
      · show Go p e below _ s₁ (mkF m 15 #[.val (.int p1)] [(.int (62 : Int32)), (.int p1)])
        refine Go.step (fun _ k => XS.icmpNo X0.here hx rfl (hb hby own_f10) rfl (feq hc15_3).1 k) ?_
        show Go p e below _ s₁ (mkF m 18 #[.val (.int p1)] [])
        refine Go.step (fun _ k => XS.iloadN X0.here hx rfl (hb hby own_f11) rfl k) ?_
        show Go p e below _ s₁ (mkF m 19 #[.val (.int p1)] [(.int p1)])
        refine Go.step (fun _ k => XS.bipush X0.here hx rfl (hb hby own_f12) k) ?_
        show Go p e below _ s₁ (mkF m 21 #[.val (.int p1)] [(.int (44 : Int32)), (.int p1)])
        by_cases hc21_4 : p1 = (44 : Int32)
        · show Go p e below _ s₁ (mkF m 21 #[.val (.int p1)] [(.int (44 : Int32)), (.int p1)])
          refine Go.step (fun _ k => XS.icmpYes X0.here hx rfl (pc0 := 21) (pc' := 34) rfl (hb hby own_f13) rfl (teq hc21_4).1 (by decide) (by decide) k) ?_
          show Go p e below _ s₁ (mkF m 34 #[.val (.int p1)] [])
          refine Go.step (fun _ k => XS.iconst X0.here hx rfl (hb hby own_f6) k) ?_
          show Go p e below _ s₁ (mkF m 35 #[.val (.int p1)] [(.int (0 : Int32))])
          have er : own_cc p1 = (0 : Int32) := by simp [own_cc, hc3_1, hc9_2, hc15_3, hc21_4]
          obtain ⟨fs, hr, hrun, hended, hW, hsame⟩ := X0.leave (v := some (.int (0 : Int32))) (fun h => by rw [Bd.returns] at h; cases h)
          refine Go.fin (retN X0 hx (t := .boolean) Bd.returns (by simp) (hb hby own_f7) hr) hrun hended ?_
          refine ⟨_, _, rfl, ?_, ⟨_, rfl⟩, hW, hsame.mono (by decide) (by decide)⟩
          show Q1 Z p1 h0 n0 _ s₁.heap _
          rw [e0]
          exact ⟨by rw [er], N0, rfl⟩
        · show Go p e below _ s₁ (mkF m 21 #[.val (.int p1)] [(.int (44 : Int32)), (.int p1)])
          refine Go.step (fun _ k => XS.icmpNo X0.here hx rfl (hb hby own_f13) rfl (feq hc21_4).1 k) ?_
          show Go p e below _ s₁ (mkF m 24 #[.val (.int p1)] [])
          refine Go.step (fun _ k => XS.iloadN X0.here hx rfl (hb hby own_f14) rfl k) ?_
          show Go p e below _ s₁ (mkF m 25 #[.val (.int p1)] [(.int p1)])
          refine Go.step (fun _ k => XS.bipush X0.here hx rfl (hb hby own_f15) k) ?_
          show Go p e below _ s₁ (mkF m 27 #[.val (.int p1)] [(.int (58 : Int32)), (.int p1)])
          by_cases hc27_5 : p1 = (58 : Int32)
          · show Go p e below _ s₁ (mkF m 27 #[.val (.int p1)] [(.int (58 : Int32)), (.int p1)])
            refine Go.step (fun _ k => XS.icmpYes X0.here hx rfl (pc0 := 27) (pc' := 34) rfl (hb hby own_f16) rfl (teq hc27_5).1 (by decide) (by decide) k) ?_
            show Go p e below _ s₁ (mkF m 34 #[.val (.int p1)] [])
            refine Go.step (fun _ k => XS.iconst X0.here hx rfl (hb hby own_f6) k) ?_
            show Go p e below _ s₁ (mkF m 35 #[.val (.int p1)] [(.int (0 : Int32))])
            have er : own_cc p1 = (0 : Int32) := by simp [own_cc, hc3_1, hc9_2, hc15_3, hc21_4, hc27_5]
            obtain ⟨fs, hr, hrun, hended, hW, hsame⟩ := X0.leave (v := some (.int (0 : Int32))) (fun h => by rw [Bd.returns] at h; cases h)
            refine Go.fin (retN X0 hx (t := .boolean) Bd.returns (by simp) (hb hby own_f7) hr) hrun hended ?_
            refine ⟨_, _, rfl, ?_, ⟨_, rfl⟩, hW, hsame.mono (by decide) (by decide)⟩
            show Q1 Z p1 h0 n0 _ s₁.heap _
            rw [e0]
            exact ⟨by rw [er], N0, rfl⟩
          · show Go p e below _ s₁ (mkF m 27 #[.val (.int p1)] [(.int (58 : Int32)), (.int p1)])
            refine Go.step (fun _ k => XS.icmpNo X0.here hx rfl (hb hby own_f16) rfl (feq hc27_5).1 k) ?_
            show Go p e below _ s₁ (mkF m 30 #[.val (.int p1)] [])
            refine Go.step (fun _ k => XS.iconst X0.here hx rfl (hb hby own_f17) k) ?_
            show Go p e below _ s₁ (mkF m 31 #[.val (.int p1)] [(.int (1 : Int32))])
            refine Go.step (fun _ k => XS.goto X0.here hx rfl (pc0 := 31) (pc' := 35) rfl (hb hby own_f18) (by decide) (by decide) k) ?_
            show Go p e below _ s₁ (mkF m 35 #[.val (.int p1)] [(.int (1 : Int32))])
            have er : own_cc p1 = (1 : Int32) := by simp [own_cc, hc3_1, hc9_2, hc15_3, hc21_4, hc27_5]
            obtain ⟨fs, hr, hrun, hended, hW, hsame⟩ := X0.leave (v := some (.int (1 : Int32))) (fun h => by rw [Bd.returns] at h; cases h)
            refine Go.fin (retN X0 hx (t := .boolean) Bd.returns (by simp) (hb hby own_f7) hr) hrun hended ?_
            refine ⟨_, _, rfl, ?_, ⟨_, rfl⟩, hW, hsame.mono (by decide) (by decide)⟩
            show Q1 Z p1 h0 n0 _ s₁.heap _
            rw [e0]
            exact ⟨by rw [er], N0, rfl⟩
  · show Go p e below _ s₁ (mkF m 3 #[.val (.int p1)] [(.int (32 : Int32)), (.int p1)])
    refine Go.step (fun _ k => XS.icmpYes X0.here hx rfl (pc0 := 3) (pc' := 34) rfl (hb hby own_f2) rfl (flt hc3_1).2.2.2 (by decide) (by decide) k) ?_
    show Go p e below _ s₁ (mkF m 34 #[.val (.int p1)] [])
    refine Go.step (fun _ k => XS.iconst X0.here hx rfl (hb hby own_f6) k) ?_
    show Go p e below _ s₁ (mkF m 35 #[.val (.int p1)] [(.int (0 : Int32))])
    have er : own_cc p1 = (0 : Int32) := by simp [own_cc, hc3_1]
    obtain ⟨fs, hr, hrun, hended, hW, hsame⟩ := X0.leave (v := some (.int (0 : Int32))) (fun h => by rw [Bd.returns] at h; cases h)
    refine Go.fin (retN X0 hx (t := .boolean) Bd.returns (by simp) (hb hby own_f7) hr) hrun hended ?_
    refine ⟨_, _, rfl, ?_, ⟨_, rfl⟩, hW, hsame.mono (by decide) (by decide)⟩
    show Q1 Z p1 h0 n0 _ s₁.heap _
    rw [e0]
    exact ⟨by rw [er], N0, rfl⟩
theorem own_f20 : decode method_2_code 0 = .ok (.iload_n 0, 1) := by decide +kernel
theorem own_f21 : decode method_2_code 1 = .ok (.bipush 33, 2) := by decide +kernel
theorem own_f22 : decode method_2_code 3 = .ok (.if_icmp .lt 13, 3) := by decide +kernel
theorem own_f23 : decode method_2_code 16 = .ok (.iconst 0, 1) := by decide +kernel
theorem own_f24 : decode method_2_code 17 = .ok (.istore_n 1, 1) := by decide +kernel
theorem own_f25 : decode method_2_code 6 = .ok (.iload_n 0, 1) := by decide +kernel
theorem own_f26 : decode method_2_code 7 = .ok (.bipush 43, 2) := by decide +kernel
theorem own_f27 : decode method_2_code 9 = .ok (.if_icmp .gt 7, 3) := by decide +kernel
theorem own_f28 : decode method_2_code 12 = .ok (.iconst 1, 1) := by decide +kernel
theorem own_f29 : decode method_2_code 13 = .ok (.goto 4, 3) := by decide +kernel
theorem own_f30 : decode method_2_code 18 = .ok (.iload_n 0, 1) := by decide +kernel
theorem own_f31 : decode method_2_code 19 = .ok (.bipush 45, 2) := by decide +kernel
theorem own_f32 : decode method_2_code 21 = .ok (.if_icmp .lt 13, 3) := by decide +kernel
theorem own_f33 : decode method_2_code 34 = .ok (.iconst 0, 1) := by decide +kernel
theorem own_f34 : decode method_2_code 35 = .ok (.istore_n 2, 1) := by decide +kernel
theorem own_f35 : decode method_2_code 24 = .ok (.iload_n 0, 1) := by decide +kernel
theorem own_f36 : decode method_2_code 25 = .ok (.bipush 57, 2) := by decide +kernel
theorem own_f37 : decode method_2_code 27 = .ok (.if_icmp .gt 7, 3) := by decide +kernel
theorem own_f38 : decode method_2_code 30 = .ok (.iconst 1, 1) := by decide +kernel
theorem own_f39 : decode method_2_code 31 = .ok (.goto 4, 3) := by decide +kernel
theorem own_f40 : decode method_2_code 36 = .ok (.iload_n 0, 1) := by decide +kernel
theorem own_f41 : decode method_2_code 37 = .ok (.bipush 59, 2) := by decide +kernel
theorem own_f42 : decode method_2_code 39 = .ok (.if_icmp .lt 13, 3) := by decide +kernel
theorem own_f43 : decode method_2_code 52 = .ok (.iconst 0, 1) := by decide +kernel
theorem own_f44 : decode method_2_code 53 = .ok (.istore_n 3, 1) := by decide +kernel
theorem own_f45 : decode method_2_code 42 = .ok (.iload_n 0, 1) := by decide +kernel
theorem own_f46 : decode method_2_code 43 = .ok (.bipush 61, 2) := by decide +kernel
theorem own_f47 : decode method_2_code 45 = .ok (.if_icmp .gt 7, 3) := by decide +kernel
theorem own_f48 : decode method_2_code 48 = .ok (.iconst 1, 1) := by decide +kernel
theorem own_f49 : decode method_2_code 49 = .ok (.goto 4, 3) := by decide +kernel
theorem own_f50 : decode method_2_code 54 = .ok (.iload_n 0, 1) := by decide +kernel
theorem own_f51 : decode method_2_code 55 = .ok (.bipush 63, 2) := by decide +kernel
theorem own_f52 : decode method_2_code 57 = .ok (.if_icmp .lt 13, 3) := by decide +kernel
theorem own_f53 : decode method_2_code 70 = .ok (.iconst 0, 1) := by decide +kernel
theorem own_f54 : decode method_2_code 71 = .ok (.istore 4, 2) := by decide +kernel
theorem own_f55 : decode method_2_code 60 = .ok (.iload_n 0, 1) := by decide +kernel
theorem own_f56 : decode method_2_code 61 = .ok (.bipush 126, 2) := by decide +kernel
theorem own_f57 : decode method_2_code 63 = .ok (.if_icmp .gt 7, 3) := by decide +kernel
theorem own_f58 : decode method_2_code 66 = .ok (.iconst 1, 1) := by decide +kernel
theorem own_f59 : decode method_2_code 67 = .ok (.goto 4, 3) := by decide +kernel
theorem own_f60 : decode method_2_code 73 = .ok (.iload_n 1, 1) := by decide +kernel
theorem own_f61 : decode method_2_code 74 = .ok (.ifCond .ne 16, 3) := by decide +kernel
theorem own_f62 : decode method_2_code 77 = .ok (.iload_n 2, 1) := by decide +kernel
theorem own_f63 : decode method_2_code 78 = .ok (.ifCond .ne 12, 3) := by decide +kernel
theorem own_f64 : decode method_2_code 81 = .ok (.iload_n 3, 1) := by decide +kernel
theorem own_f65 : decode method_2_code 82 = .ok (.ifCond .ne 8, 3) := by decide +kernel
theorem own_f66 : decode method_2_code 85 = .ok (.iload 4, 2) := by decide +kernel
theorem own_f67 : decode method_2_code 87 = .ok (.ifCond .eq 7, 3) := by decide +kernel
theorem own_f68 : decode method_2_code 94 = .ok (.iconst 0, 1) := by decide +kernel
theorem own_f69 : decode method_2_code 95 = .ok (.ireturn, 1) := by decide +kernel
theorem own_f70 : decode method_2_code 90 = .ok (.iconst 1, 1) := by decide +kernel
theorem own_f71 : decode method_2_code 91 = .ok (.goto 4, 3) := by decide +kernel
theorem own_f72 : plainName "com/example/frugal_sieve/frugalsieve/parse/PacketParserIsCallCharacterPinLaw" = true := by first | (simp [plainName, overriddenIn]; done) | decide +kernel
theorem own_ef_2 (m : MethodId) (p1 : Int32) : entryFrame m #[(.int p1)] 5 = mkF m 0 #[.val (.int p1), .unset, .unset, .unset, .unset] [] := by first | (simp [entryFrame, mkF, argsToLocals, Value.category]; done) | rfl
def Q2 (Z : State) (p1 : Int32) (h0 : Heap) (n0 : Nat) (v : Option Value) (h : Heap) (L : List Loc) : Prop := v = some (.int (own_ref p1)) ∧ Fr n0 L ∧ h = h0
set_option maxRecDepth 65536 in
set_option maxHeartbeats 40000000 in
theorem rm2 (l : Launch) (Z : State) (a0 : Array Value) (hw : ∀ d ∈ tables_1, d.before a0 Z = true) (ws : List Jvm.Cond) (p1 : Int32) (h0 : Heap) (n0 : Nat) (Z0 : n0 ≤ h0.size)  :
    MetFree l (⟨"com/example/frugal_sieve/frugalsieve/parse/PacketParserIsCallCharacterPinLaw", "reference", "(I)Z"⟩ : MethodName) (head1 (Jvm.Cond.code (⟨"com/example/frugal_sieve/frugalsieve/parse/PacketParserIsCallCharacterPinLaw", "reference", "(I)Z"⟩ : MethodName) method_2_code 5 (some .boolean) :: ws) ({ frames := 0, cells := 0, slots := 0, locals := 0 } : Room)) (fun a U => a = #[(.int p1)] ∧ Z.Warmed39 U.vm ∧ U.heap = h0) (fun _ _ _ _ _ => True) (fun _ U o U' => ∃ v L, o = .returned v ∧ Q2 Z p1 h0 n0 v U'.heap L ∧ FrameEnd U o U' L ({ frames := 0, cells := 0, slots := 0, locals := 0 } : Room).cells ({ frames := 0, cells := 0, slots := 0, locals := 0 } : Room).slots) := by
  refine MetFree.of_bodySF (plainFor_of_name own_f72) hisR ?_
  intro p e s m args below meth c s₁ Bd hml0 hP hK
  obtain ⟨rfl, hZ, hh⟩ := hP
  have hx := Bd.exec
  have hby := Bd.bytes
  have hml : c.maxLocals = 5 := hml0
  have hown : s.vm.findClass "com/example/frugal_sieve/frugalsieve/parse/PacketParserIsCallCharacterPinLaw" = some m.cls := findClass_of_methodNamed Bd.named
  have hnm := (name_of_methodNamed Bd.named Bd.method).1
  have X0 : Stand p l e ({ frames := 0, cells := 0, slots := 0, locals := 0 } : Room) s m #[(.int p1)] below meth c s₁ [] 0 0 := Stand.of_body Bd
  have e0 : s₁.heap = h0 := by rw [← hh, Bd.state]; rfl
  have N0 := Fr.nil n0
  refine Go.start (own_ef_2 m p1) ?_
  show Go p e below _ s₁ (mkF m 0 #[.val (.int p1), .unset, .unset, .unset, .unset] [])
  have J0 : ∀ {K : State → Outcome → Prop}, Go p e below K s₁ (mkF m 18 #[.val (.int p1), .val (.int (own_in 33 43 p1)), .unset, .unset, .unset] []) → Go p e below K s₁ (mkF m 0 #[.val (.int p1), .unset, .unset, .unset, .unset] []) := by
    intro K kt
    show Go p e below _ s₁ (mkF m 0 #[.val (.int p1), .unset, .unset, .unset, .unset] [])
    refine Go.step (fun _ k => XS.iloadN X0.here hx rfl (hb hby own_f20) rfl k) ?_
    show Go p e below _ s₁ (mkF m 1 #[.val (.int p1), .unset, .unset, .unset, .unset] [(.int p1)])
    refine Go.step (fun _ k => XS.bipush X0.here hx rfl (hb hby own_f21) k) ?_
    show Go p e below _ s₁ (mkF m 3 #[.val (.int p1), .unset, .unset, .unset, .unset] [(.int (33 : Int32)), (.int p1)])
    by_cases hc3_6 : p1 < (33 : Int32)
    · show Go p e below _ s₁ (mkF m 3 #[.val (.int p1), .unset, .unset, .unset, .unset] [(.int (33 : Int32)), (.int p1)])
      refine Go.step (fun _ k => XS.icmpYes X0.here hx rfl (pc0 := 3) (pc' := 16) rfl (hb hby own_f22) rfl (tlt hc3_6).1 (by decide) (by decide) k) ?_
      show Go p e below _ s₁ (mkF m 16 #[.val (.int p1), .unset, .unset, .unset, .unset] [])
      refine Go.step (fun _ k => XS.iconst X0.here hx rfl (hb hby own_f23) k) ?_
      show Go p e below _ s₁ (mkF m 17 #[.val (.int p1), .unset, .unset, .unset, .unset] [(.int (0 : Int32))])
      refine Go.step (fun _ k => XS.istoreN X0.here hx rfl (hb hby own_f24) rfl (l' := #[.val (.int p1), .val (.int (0 : Int32)), .unset, .unset, .unset]) rfl k) ?_
      show Go p e below _ s₁ (mkF m 18 #[.val (.int p1), .val (.int (0 : Int32)), .unset, .unset, .unset] [])
      have er : (own_in 33 43 p1) = (0 : Int32) := by simp [own_in, hc3_6]
      rw [er] at kt
      exact kt
    · show Go p e below _ s₁ (mkF m 3 #[.val (.int p1), .unset, .unset, .unset, .unset] [(.int (33 : Int32)), (.int p1)])
      refine Go.step (fun _ k => XS.icmpNo X0.here hx rfl (hb hby own_f22) rfl (flt hc3_6).1 k) ?_
      show Go p e below _ s₁ (mkF m 6 #[.val (.int p1), .unset, .unset, .unset, .unset] [])
      refine Go.step (fun _ k => XS.iloadN X0.here hx rfl (hb hby own_f25) rfl k) ?_
      show Go p e below _ s₁ (mkF m 7 #[.val (.int p1), .unset, .unset, .unset, .unset] [(.int p1)])
      refine Go.step (fun _ k => XS.bipush X0.here hx rfl (hb hby own_f26) k) ?_
      show Go p e below _ s₁ (mkF m 9 #[.val (.int p1), .unset, .unset, .unset, .unset] [(.int (43 : Int32)), (.int p1)])
      by_cases hc9_7 : (43 : Int32) < p1
      · show Go p e below _ s₁ (mkF m 9 #[.val (.int p1), .unset, .unset, .unset, .unset] [(.int (43 : Int32)), (.int p1)])
        refine Go.step (fun _ k => XS.icmpYes X0.here hx rfl (pc0 := 9) (pc' := 16) rfl (hb hby own_f27) rfl (tlt hc9_7).2.2.1 (by decide) (by decide) k) ?_
        show Go p e below _ s₁ (mkF m 16 #[.val (.int p1), .unset, .unset, .unset, .unset] [])
        refine Go.step (fun _ k => XS.iconst X0.here hx rfl (hb hby own_f23) k) ?_
        show Go p e below _ s₁ (mkF m 17 #[.val (.int p1), .unset, .unset, .unset, .unset] [(.int (0 : Int32))])
        refine Go.step (fun _ k => XS.istoreN X0.here hx rfl (hb hby own_f24) rfl (l' := #[.val (.int p1), .val (.int (0 : Int32)), .unset, .unset, .unset]) rfl k) ?_
        show Go p e below _ s₁ (mkF m 18 #[.val (.int p1), .val (.int (0 : Int32)), .unset, .unset, .unset] [])
        have er : (own_in 33 43 p1) = (0 : Int32) := by simp [own_in, hc3_6, hc9_7]
        rw [er] at kt
        exact kt
      · show Go p e below _ s₁ (mkF m 9 #[.val (.int p1), .unset, .unset, .unset, .unset] [(.int (43 : Int32)), (.int p1)])
        refine Go.step (fun _ k => XS.icmpNo X0.here hx rfl (hb hby own_f27) rfl (flt hc9_7).2.2.1 k) ?_
        show Go p e below _ s₁ (mkF m 12 #[.val (.int p1), .unset, .unset, .unset, .unset] [])
        refine Go.step (fun _ k => XS.iconst X0.here hx rfl (hb hby own_f28) k) ?_
        show Go p e below _ s₁ (mkF m 13 #[.val (.int p1), .unset, .unset, .unset, .unset] [(.int (1 : Int32))])
        refine Go.step (fun _ k => XS.goto X0.here hx rfl (pc0 := 13) (pc' := 17) rfl (hb hby own_f29) (by decide) (by decide) k) ?_
        show Go p e below _ s₁ (mkF m 17 #[.val (.int p1), .unset, .unset, .unset, .unset] [(.int (1 : Int32))])
        refine Go.step (fun _ k => XS.istoreN X0.here hx rfl (hb hby own_f24) rfl (l' := #[.val (.int p1), .val (.int (1 : Int32)), .unset, .unset, .unset]) rfl k) ?_
        show Go p e below _ s₁ (mkF m 18 #[.val (.int p1), .val (.int (1 : Int32)), .unset, .unset, .unset] [])
        have er : (own_in 33 43 p1) = (1 : Int32) := by simp [own_in, hc3_6, hc9_7]
        rw [er] at kt
        exact kt
  refine J0 ?_
  show Go p e below _ s₁ (mkF m 18 #[.val (.int p1), .val (.int (own_in 33 43 p1)), .unset, .unset, .unset] [])
  have J18 : ∀ {K : State → Outcome → Prop}, Go p e below K s₁ (mkF m 36 #[.val (.int p1), .val (.int (own_in 33 43 p1)), .val (.int (own_in 45 57 p1)), .unset, .unset] []) → Go p e below K s₁ (mkF m 18 #[.val (.int p1), .val (.int (own_in 33 43 p1)), .unset, .unset, .unset] []) := by
    intro K kt
    show Go p e below _ s₁ (mkF m 18 #[.val (.int p1), .val (.int (own_in 33 43 p1)), .unset, .unset, .unset] [])
    refine Go.step (fun _ k => XS.iloadN X0.here hx rfl (hb hby own_f30) rfl k) ?_
    show Go p e below _ s₁ (mkF m 19 #[.val (.int p1), .val (.int (own_in 33 43 p1)), .unset, .unset, .unset] [(.int p1)])
    refine Go.step (fun _ k => XS.bipush X0.here hx rfl (hb hby own_f31) k) ?_
    show Go p e below _ s₁ (mkF m 21 #[.val (.int p1), .val (.int (own_in 33 43 p1)), .unset, .unset, .unset] [(.int (45 : Int32)), (.int p1)])
    by_cases hc21_8 : p1 < (45 : Int32)
    · show Go p e below _ s₁ (mkF m 21 #[.val (.int p1), .val (.int (own_in 33 43 p1)), .unset, .unset, .unset] [(.int (45 : Int32)), (.int p1)])
      refine Go.step (fun _ k => XS.icmpYes X0.here hx rfl (pc0 := 21) (pc' := 34) rfl (hb hby own_f32) rfl (tlt hc21_8).1 (by decide) (by decide) k) ?_
      show Go p e below _ s₁ (mkF m 34 #[.val (.int p1), .val (.int (own_in 33 43 p1)), .unset, .unset, .unset] [])
      refine Go.step (fun _ k => XS.iconst X0.here hx rfl (hb hby own_f33) k) ?_
      show Go p e below _ s₁ (mkF m 35 #[.val (.int p1), .val (.int (own_in 33 43 p1)), .unset, .unset, .unset] [(.int (0 : Int32))])
      refine Go.step (fun _ k => XS.istoreN X0.here hx rfl (hb hby own_f34) rfl (l' := #[.val (.int p1), .val (.int (own_in 33 43 p1)), .val (.int (0 : Int32)), .unset, .unset]) rfl k) ?_
      show Go p e below _ s₁ (mkF m 36 #[.val (.int p1), .val (.int (own_in 33 43 p1)), .val (.int (0 : Int32)), .unset, .unset] [])
      have er : (own_in 45 57 p1) = (0 : Int32) := by simp [own_in, hc21_8]
      rw [er] at kt
      exact kt
    · show Go p e below _ s₁ (mkF m 21 #[.val (.int p1), .val (.int (own_in 33 43 p1)), .unset, .unset, .unset] [(.int (45 : Int32)), (.int p1)])
      refine Go.step (fun _ k => XS.icmpNo X0.here hx rfl (hb hby own_f32) rfl (flt hc21_8).1 k) ?_
      show Go p e below _ s₁ (mkF m 24 #[.val (.int p1), .val (.int (own_in 33 43 p1)), .unset, .unset, .unset] [])
      refine Go.step (fun _ k => XS.iloadN X0.here hx rfl (hb hby own_f35) rfl k) ?_
      show Go p e below _ s₁ (mkF m 25 #[.val (.int p1), .val (.int (own_in 33 43 p1)), .unset, .unset, .unset] [(.int p1)])
      refine Go.step (fun _ k => XS.bipush X0.here hx rfl (hb hby own_f36) k) ?_
      show Go p e below _ s₁ (mkF m 27 #[.val (.int p1), .val (.int (own_in 33 43 p1)), .unset, .unset, .unset] [(.int (57 : Int32)), (.int p1)])
      by_cases hc27_9 : (57 : Int32) < p1
      · show Go p e below _ s₁ (mkF m 27 #[.val (.int p1), .val (.int (own_in 33 43 p1)), .unset, .unset, .unset] [(.int (57 : Int32)), (.int p1)])
        refine Go.step (fun _ k => XS.icmpYes X0.here hx rfl (pc0 := 27) (pc' := 34) rfl (hb hby own_f37) rfl (tlt hc27_9).2.2.1 (by decide) (by decide) k) ?_
        show Go p e below _ s₁ (mkF m 34 #[.val (.int p1), .val (.int (own_in 33 43 p1)), .unset, .unset, .unset] [])
        refine Go.step (fun _ k => XS.iconst X0.here hx rfl (hb hby own_f33) k) ?_
        show Go p e below _ s₁ (mkF m 35 #[.val (.int p1), .val (.int (own_in 33 43 p1)), .unset, .unset, .unset] [(.int (0 : Int32))])
        refine Go.step (fun _ k => XS.istoreN X0.here hx rfl (hb hby own_f34) rfl (l' := #[.val (.int p1), .val (.int (own_in 33 43 p1)), .val (.int (0 : Int32)), .unset, .unset]) rfl k) ?_
        show Go p e below _ s₁ (mkF m 36 #[.val (.int p1), .val (.int (own_in 33 43 p1)), .val (.int (0 : Int32)), .unset, .unset] [])
        have er : (own_in 45 57 p1) = (0 : Int32) := by simp [own_in, hc21_8, hc27_9]
        rw [er] at kt
        exact kt
      · show Go p e below _ s₁ (mkF m 27 #[.val (.int p1), .val (.int (own_in 33 43 p1)), .unset, .unset, .unset] [(.int (57 : Int32)), (.int p1)])
        refine Go.step (fun _ k => XS.icmpNo X0.here hx rfl (hb hby own_f37) rfl (flt hc27_9).2.2.1 k) ?_
        show Go p e below _ s₁ (mkF m 30 #[.val (.int p1), .val (.int (own_in 33 43 p1)), .unset, .unset, .unset] [])
        refine Go.step (fun _ k => XS.iconst X0.here hx rfl (hb hby own_f38) k) ?_
        show Go p e below _ s₁ (mkF m 31 #[.val (.int p1), .val (.int (own_in 33 43 p1)), .unset, .unset, .unset] [(.int (1 : Int32))])
        refine Go.step (fun _ k => XS.goto X0.here hx rfl (pc0 := 31) (pc' := 35) rfl (hb hby own_f39) (by decide) (by decide) k) ?_
        show Go p e below _ s₁ (mkF m 35 #[.val (.int p1), .val (.int (own_in 33 43 p1)), .unset, .unset, .unset] [(.int (1 : Int32))])
        refine Go.step (fun _ k => XS.istoreN X0.here hx rfl (hb hby own_f34) rfl (l' := #[.val (.int p1), .val (.int (own_in 33 43 p1)), .val (.int (1 : Int32)), .unset, .unset]) rfl k) ?_
        show Go p e below _ s₁ (mkF m 36 #[.val (.int p1), .val (.int (own_in 33 43 p1)), .val (.int (1 : Int32)), .unset, .unset] [])
        have er : (own_in 45 57 p1) = (1 : Int32) := by simp [own_in, hc21_8, hc27_9]
        rw [er] at kt
        exact kt
  refine J18 ?_
  show Go p e below _ s₁ (mkF m 36 #[.val (.int p1), .val (.int (own_in 33 43 p1)), .val (.int (own_in 45 57 p1)), .unset, .unset] [])
  have J36 : ∀ {K : State → Outcome → Prop}, Go p e below K s₁ (mkF m 54 #[.val (.int p1), .val (.int (own_in 33 43 p1)), .val (.int (own_in 45 57 p1)), .val (.int (own_in 59 61 p1)), .unset] []) → Go p e below K s₁ (mkF m 36 #[.val (.int p1), .val (.int (own_in 33 43 p1)), .val (.int (own_in 45 57 p1)), .unset, .unset] []) := by
    intro K kt
    show Go p e below _ s₁ (mkF m 36 #[.val (.int p1), .val (.int (own_in 33 43 p1)), .val (.int (own_in 45 57 p1)), .unset, .unset] [])
    refine Go.step (fun _ k => XS.iloadN X0.here hx rfl (hb hby own_f40) rfl k) ?_
    show Go p e below _ s₁ (mkF m 37 #[.val (.int p1), .val (.int (own_in 33 43 p1)), .val (.int (own_in 45 57 p1)), .unset, .unset] [(.int p1)])
    refine Go.step (fun _ k => XS.bipush X0.here hx rfl (hb hby own_f41) k) ?_
    show Go p e below _ s₁ (mkF m 39 #[.val (.int p1), .val (.int (own_in 33 43 p1)), .val (.int (own_in 45 57 p1)), .unset, .unset] [(.int (59 : Int32)), (.int p1)])
    by_cases hc39_10 : p1 < (59 : Int32)
    · show Go p e below _ s₁ (mkF m 39 #[.val (.int p1), .val (.int (own_in 33 43 p1)), .val (.int (own_in 45 57 p1)), .unset, .unset] [(.int (59 : Int32)), (.int p1)])
      refine Go.step (fun _ k => XS.icmpYes X0.here hx rfl (pc0 := 39) (pc' := 52) rfl (hb hby own_f42) rfl (tlt hc39_10).1 (by decide) (by decide) k) ?_
      show Go p e below _ s₁ (mkF m 52 #[.val (.int p1), .val (.int (own_in 33 43 p1)), .val (.int (own_in 45 57 p1)), .unset, .unset] [])
      refine Go.step (fun _ k => XS.iconst X0.here hx rfl (hb hby own_f43) k) ?_
      show Go p e below _ s₁ (mkF m 53 #[.val (.int p1), .val (.int (own_in 33 43 p1)), .val (.int (own_in 45 57 p1)), .unset, .unset] [(.int (0 : Int32))])
      refine Go.step (fun _ k => XS.istoreN X0.here hx rfl (hb hby own_f44) rfl (l' := #[.val (.int p1), .val (.int (own_in 33 43 p1)), .val (.int (own_in 45 57 p1)), .val (.int (0 : Int32)), .unset]) rfl k) ?_
      show Go p e below _ s₁ (mkF m 54 #[.val (.int p1), .val (.int (own_in 33 43 p1)), .val (.int (own_in 45 57 p1)), .val (.int (0 : Int32)), .unset] [])
      have er : (own_in 59 61 p1) = (0 : Int32) := by simp [own_in, hc39_10]
      rw [er] at kt
      exact kt
    · show Go p e below _ s₁ (mkF m 39 #[.val (.int p1), .val (.int (own_in 33 43 p1)), .val (.int (own_in 45 57 p1)), .unset, .unset] [(.int (59 : Int32)), (.int p1)])
      refine Go.step (fun _ k => XS.icmpNo X0.here hx rfl (hb hby own_f42) rfl (flt hc39_10).1 k) ?_
      show Go p e below _ s₁ (mkF m 42 #[.val (.int p1), .val (.int (own_in 33 43 p1)), .val (.int (own_in 45 57 p1)), .unset, .unset] [])
      refine Go.step (fun _ k => XS.iloadN X0.here hx rfl (hb hby own_f45) rfl k) ?_
      show Go p e below _ s₁ (mkF m 43 #[.val (.int p1), .val (.int (own_in 33 43 p1)), .val (.int (own_in 45 57 p1)), .unset, .unset] [(.int p1)])
      refine Go.step (fun _ k => XS.bipush X0.here hx rfl (hb hby own_f46) k) ?_
      show Go p e below _ s₁ (mkF m 45 #[.val (.int p1), .val (.int (own_in 33 43 p1)), .val (.int (own_in 45 57 p1)), .unset, .unset] [(.int (61 : Int32)), (.int p1)])
      by_cases hc45_11 : (61 : Int32) < p1
      · show Go p e below _ s₁ (mkF m 45 #[.val (.int p1), .val (.int (own_in 33 43 p1)), .val (.int (own_in 45 57 p1)), .unset, .unset] [(.int (61 : Int32)), (.int p1)])
        refine Go.step (fun _ k => XS.icmpYes X0.here hx rfl (pc0 := 45) (pc' := 52) rfl (hb hby own_f47) rfl (tlt hc45_11).2.2.1 (by decide) (by decide) k) ?_
        show Go p e below _ s₁ (mkF m 52 #[.val (.int p1), .val (.int (own_in 33 43 p1)), .val (.int (own_in 45 57 p1)), .unset, .unset] [])
        refine Go.step (fun _ k => XS.iconst X0.here hx rfl (hb hby own_f43) k) ?_
        show Go p e below _ s₁ (mkF m 53 #[.val (.int p1), .val (.int (own_in 33 43 p1)), .val (.int (own_in 45 57 p1)), .unset, .unset] [(.int (0 : Int32))])
        refine Go.step (fun _ k => XS.istoreN X0.here hx rfl (hb hby own_f44) rfl (l' := #[.val (.int p1), .val (.int (own_in 33 43 p1)), .val (.int (own_in 45 57 p1)), .val (.int (0 : Int32)), .unset]) rfl k) ?_
        show Go p e below _ s₁ (mkF m 54 #[.val (.int p1), .val (.int (own_in 33 43 p1)), .val (.int (own_in 45 57 p1)), .val (.int (0 : Int32)), .unset] [])
        have er : (own_in 59 61 p1) = (0 : Int32) := by simp [own_in, hc39_10, hc45_11]
        rw [er] at kt
        exact kt
      · show Go p e below _ s₁ (mkF m 45 #[.val (.int p1), .val (.int (own_in 33 43 p1)), .val (.int (own_in 45 57 p1)), .unset, .unset] [(.int (61 : Int32)), (.int p1)])
        refine Go.step (fun _ k => XS.icmpNo X0.here hx rfl (hb hby own_f47) rfl (flt hc45_11).2.2.1 k) ?_
        show Go p e below _ s₁ (mkF m 48 #[.val (.int p1), .val (.int (own_in 33 43 p1)), .val (.int (own_in 45 57 p1)), .unset, .unset] [])
        refine Go.step (fun _ k => XS.iconst X0.here hx rfl (hb hby own_f48) k) ?_
        show Go p e below _ s₁ (mkF m 49 #[.val (.int p1), .val (.int (own_in 33 43 p1)), .val (.int (own_in 45 57 p1)), .unset, .unset] [(.int (1 : Int32))])
        refine Go.step (fun _ k => XS.goto X0.here hx rfl (pc0 := 49) (pc' := 53) rfl (hb hby own_f49) (by decide) (by decide) k) ?_
        show Go p e below _ s₁ (mkF m 53 #[.val (.int p1), .val (.int (own_in 33 43 p1)), .val (.int (own_in 45 57 p1)), .unset, .unset] [(.int (1 : Int32))])
        refine Go.step (fun _ k => XS.istoreN X0.here hx rfl (hb hby own_f44) rfl (l' := #[.val (.int p1), .val (.int (own_in 33 43 p1)), .val (.int (own_in 45 57 p1)), .val (.int (1 : Int32)), .unset]) rfl k) ?_
        show Go p e below _ s₁ (mkF m 54 #[.val (.int p1), .val (.int (own_in 33 43 p1)), .val (.int (own_in 45 57 p1)), .val (.int (1 : Int32)), .unset] [])
        have er : (own_in 59 61 p1) = (1 : Int32) := by simp [own_in, hc39_10, hc45_11]
        rw [er] at kt
        exact kt
  refine J36 ?_
  show Go p e below _ s₁ (mkF m 54 #[.val (.int p1), .val (.int (own_in 33 43 p1)), .val (.int (own_in 45 57 p1)), .val (.int (own_in 59 61 p1)), .unset] [])
  have J54 : ∀ {K : State → Outcome → Prop}, Go p e below K s₁ (mkF m 73 #[.val (.int p1), .val (.int (own_in 33 43 p1)), .val (.int (own_in 45 57 p1)), .val (.int (own_in 59 61 p1)), .val (.int (own_in 63 126 p1))] []) → Go p e below K s₁ (mkF m 54 #[.val (.int p1), .val (.int (own_in 33 43 p1)), .val (.int (own_in 45 57 p1)), .val (.int (own_in 59 61 p1)), .unset] []) := by
    intro K kt
    show Go p e below _ s₁ (mkF m 54 #[.val (.int p1), .val (.int (own_in 33 43 p1)), .val (.int (own_in 45 57 p1)), .val (.int (own_in 59 61 p1)), .unset] [])
    refine Go.step (fun _ k => XS.iloadN X0.here hx rfl (hb hby own_f50) rfl k) ?_
    show Go p e below _ s₁ (mkF m 55 #[.val (.int p1), .val (.int (own_in 33 43 p1)), .val (.int (own_in 45 57 p1)), .val (.int (own_in 59 61 p1)), .unset] [(.int p1)])
    refine Go.step (fun _ k => XS.bipush X0.here hx rfl (hb hby own_f51) k) ?_
    show Go p e below _ s₁ (mkF m 57 #[.val (.int p1), .val (.int (own_in 33 43 p1)), .val (.int (own_in 45 57 p1)), .val (.int (own_in 59 61 p1)), .unset] [(.int (63 : Int32)), (.int p1)])
    by_cases hc57_12 : p1 < (63 : Int32)
    · show Go p e below _ s₁ (mkF m 57 #[.val (.int p1), .val (.int (own_in 33 43 p1)), .val (.int (own_in 45 57 p1)), .val (.int (own_in 59 61 p1)), .unset] [(.int (63 : Int32)), (.int p1)])
      refine Go.step (fun _ k => XS.icmpYes X0.here hx rfl (pc0 := 57) (pc' := 70) rfl (hb hby own_f52) rfl (tlt hc57_12).1 (by decide) (by decide) k) ?_
      show Go p e below _ s₁ (mkF m 70 #[.val (.int p1), .val (.int (own_in 33 43 p1)), .val (.int (own_in 45 57 p1)), .val (.int (own_in 59 61 p1)), .unset] [])
      refine Go.step (fun _ k => XS.iconst X0.here hx rfl (hb hby own_f53) k) ?_
      show Go p e below _ s₁ (mkF m 71 #[.val (.int p1), .val (.int (own_in 33 43 p1)), .val (.int (own_in 45 57 p1)), .val (.int (own_in 59 61 p1)), .unset] [(.int (0 : Int32))])
      refine Go.step (fun _ k => XS.istore X0.here hx rfl (hb hby own_f54) rfl (l' := #[.val (.int p1), .val (.int (own_in 33 43 p1)), .val (.int (own_in 45 57 p1)), .val (.int (own_in 59 61 p1)), .val (.int (0 : Int32))]) rfl k) ?_
      show Go p e below _ s₁ (mkF m 73 #[.val (.int p1), .val (.int (own_in 33 43 p1)), .val (.int (own_in 45 57 p1)), .val (.int (own_in 59 61 p1)), .val (.int (0 : Int32))] [])
      have er : (own_in 63 126 p1) = (0 : Int32) := by simp [own_in, hc57_12]
      rw [er] at kt
      exact kt
    · show Go p e below _ s₁ (mkF m 57 #[.val (.int p1), .val (.int (own_in 33 43 p1)), .val (.int (own_in 45 57 p1)), .val (.int (own_in 59 61 p1)), .unset] [(.int (63 : Int32)), (.int p1)])
      refine Go.step (fun _ k => XS.icmpNo X0.here hx rfl (hb hby own_f52) rfl (flt hc57_12).1 k) ?_
      show Go p e below _ s₁ (mkF m 60 #[.val (.int p1), .val (.int (own_in 33 43 p1)), .val (.int (own_in 45 57 p1)), .val (.int (own_in 59 61 p1)), .unset] [])
      refine Go.step (fun _ k => XS.iloadN X0.here hx rfl (hb hby own_f55) rfl k) ?_
      show Go p e below _ s₁ (mkF m 61 #[.val (.int p1), .val (.int (own_in 33 43 p1)), .val (.int (own_in 45 57 p1)), .val (.int (own_in 59 61 p1)), .unset] [(.int p1)])
      refine Go.step (fun _ k => XS.bipush X0.here hx rfl (hb hby own_f56) k) ?_
      show Go p e below _ s₁ (mkF m 63 #[.val (.int p1), .val (.int (own_in 33 43 p1)), .val (.int (own_in 45 57 p1)), .val (.int (own_in 59 61 p1)), .unset] [(.int (126 : Int32)), (.int p1)])
      by_cases hc63_13 : (126 : Int32) < p1
      · show Go p e below _ s₁ (mkF m 63 #[.val (.int p1), .val (.int (own_in 33 43 p1)), .val (.int (own_in 45 57 p1)), .val (.int (own_in 59 61 p1)), .unset] [(.int (126 : Int32)), (.int p1)])
        refine Go.step (fun _ k => XS.icmpYes X0.here hx rfl (pc0 := 63) (pc' := 70) rfl (hb hby own_f57) rfl (tlt hc63_13).2.2.1 (by decide) (by decide) k) ?_
        show Go p e below _ s₁ (mkF m 70 #[.val (.int p1), .val (.int (own_in 33 43 p1)), .val (.int (own_in 45 57 p1)), .val (.int (own_in 59 61 p1)), .unset] [])
        refine Go.step (fun _ k => XS.iconst X0.here hx rfl (hb hby own_f53) k) ?_
        show Go p e below _ s₁ (mkF m 71 #[.val (.int p1), .val (.int (own_in 33 43 p1)), .val (.int (own_in 45 57 p1)), .val (.int (own_in 59 61 p1)), .unset] [(.int (0 : Int32))])
        refine Go.step (fun _ k => XS.istore X0.here hx rfl (hb hby own_f54) rfl (l' := #[.val (.int p1), .val (.int (own_in 33 43 p1)), .val (.int (own_in 45 57 p1)), .val (.int (own_in 59 61 p1)), .val (.int (0 : Int32))]) rfl k) ?_
        show Go p e below _ s₁ (mkF m 73 #[.val (.int p1), .val (.int (own_in 33 43 p1)), .val (.int (own_in 45 57 p1)), .val (.int (own_in 59 61 p1)), .val (.int (0 : Int32))] [])
        have er : (own_in 63 126 p1) = (0 : Int32) := by simp [own_in, hc57_12, hc63_13]
        rw [er] at kt
        exact kt
      · show Go p e below _ s₁ (mkF m 63 #[.val (.int p1), .val (.int (own_in 33 43 p1)), .val (.int (own_in 45 57 p1)), .val (.int (own_in 59 61 p1)), .unset] [(.int (126 : Int32)), (.int p1)])
        refine Go.step (fun _ k => XS.icmpNo X0.here hx rfl (hb hby own_f57) rfl (flt hc63_13).2.2.1 k) ?_
        show Go p e below _ s₁ (mkF m 66 #[.val (.int p1), .val (.int (own_in 33 43 p1)), .val (.int (own_in 45 57 p1)), .val (.int (own_in 59 61 p1)), .unset] [])
        refine Go.step (fun _ k => XS.iconst X0.here hx rfl (hb hby own_f58) k) ?_
        show Go p e below _ s₁ (mkF m 67 #[.val (.int p1), .val (.int (own_in 33 43 p1)), .val (.int (own_in 45 57 p1)), .val (.int (own_in 59 61 p1)), .unset] [(.int (1 : Int32))])
        refine Go.step (fun _ k => XS.goto X0.here hx rfl (pc0 := 67) (pc' := 71) rfl (hb hby own_f59) (by decide) (by decide) k) ?_
        show Go p e below _ s₁ (mkF m 71 #[.val (.int p1), .val (.int (own_in 33 43 p1)), .val (.int (own_in 45 57 p1)), .val (.int (own_in 59 61 p1)), .unset] [(.int (1 : Int32))])
        refine Go.step (fun _ k => XS.istore X0.here hx rfl (hb hby own_f54) rfl (l' := #[.val (.int p1), .val (.int (own_in 33 43 p1)), .val (.int (own_in 45 57 p1)), .val (.int (own_in 59 61 p1)), .val (.int (1 : Int32))]) rfl k) ?_
        show Go p e below _ s₁ (mkF m 73 #[.val (.int p1), .val (.int (own_in 33 43 p1)), .val (.int (own_in 45 57 p1)), .val (.int (own_in 59 61 p1)), .val (.int (1 : Int32))] [])
        have er : (own_in 63 126 p1) = (1 : Int32) := by simp [own_in, hc57_12, hc63_13]
        rw [er] at kt
        exact kt
  refine J54 ?_
  show Go p e below _ s₁ (mkF m 73 #[.val (.int p1), .val (.int (own_in 33 43 p1)), .val (.int (own_in 45 57 p1)), .val (.int (own_in 59 61 p1)), .val (.int (own_in 63 126 p1))] [])
  refine Go.step (fun _ k => XS.iloadN X0.here hx rfl (hb hby own_f60) rfl k) ?_
  show Go p e below _ s₁ (mkF m 74 #[.val (.int p1), .val (.int (own_in 33 43 p1)), .val (.int (own_in 45 57 p1)), .val (.int (own_in 59 61 p1)), .val (.int (own_in 63 126 p1))] [(.int (own_in 33 43 p1))])
  by_cases hc74_14 : (own_in 33 43 p1) = (0 : Int32)
  · show Go p e below _ s₁ (mkF m 74 #[.val (.int p1), .val (.int (own_in 33 43 p1)), .val (.int (own_in 45 57 p1)), .val (.int (own_in 59 61 p1)), .val (.int (own_in 63 126 p1))] [(.int (own_in 33 43 p1))])
    refine Go.step (fun _ k => XS.ifNo X0.here hx rfl (hb hby own_f61) rfl ((if0 _ _).trans (teq hc74_14).2) k) ?_
    show Go p e below _ s₁ (mkF m 77 #[.val (.int p1), .val (.int (own_in 33 43 p1)), .val (.int (own_in 45 57 p1)), .val (.int (own_in 59 61 p1)), .val (.int (own_in 63 126 p1))] [])
    refine Go.step (fun _ k => XS.iloadN X0.here hx rfl (hb hby own_f62) rfl k) ?_
    show Go p e below _ s₁ (mkF m 78 #[.val (.int p1), .val (.int (own_in 33 43 p1)), .val (.int (own_in 45 57 p1)), .val (.int (own_in 59 61 p1)), .val (.int (own_in 63 126 p1))] [(.int (own_in 45 57 p1))])
    by_cases hc78_15 : (own_in 45 57 p1) = (0 : Int32)
    · show Go p e below _ s₁ (mkF m 78 #[.val (.int p1), .val (.int (own_in 33 43 p1)), .val (.int (own_in 45 57 p1)), .val (.int (own_in 59 61 p1)), .val (.int (own_in 63 126 p1))] [(.int (own_in 45 57 p1))])
      refine Go.step (fun _ k => XS.ifNo X0.here hx rfl (hb hby own_f63) rfl ((if0 _ _).trans (teq hc78_15).2) k) ?_
      show Go p e below _ s₁ (mkF m 81 #[.val (.int p1), .val (.int (own_in 33 43 p1)), .val (.int (own_in 45 57 p1)), .val (.int (own_in 59 61 p1)), .val (.int (own_in 63 126 p1))] [])
      refine Go.step (fun _ k => XS.iloadN X0.here hx rfl (hb hby own_f64) rfl k) ?_
      show Go p e below _ s₁ (mkF m 82 #[.val (.int p1), .val (.int (own_in 33 43 p1)), .val (.int (own_in 45 57 p1)), .val (.int (own_in 59 61 p1)), .val (.int (own_in 63 126 p1))] [(.int (own_in 59 61 p1))])
      by_cases hc82_16 : (own_in 59 61 p1) = (0 : Int32)
      · show Go p e below _ s₁ (mkF m 82 #[.val (.int p1), .val (.int (own_in 33 43 p1)), .val (.int (own_in 45 57 p1)), .val (.int (own_in 59 61 p1)), .val (.int (own_in 63 126 p1))] [(.int (own_in 59 61 p1))])
        refine Go.step (fun _ k => XS.ifNo X0.here hx rfl (hb hby own_f65) rfl ((if0 _ _).trans (teq hc82_16).2) k) ?_
        show Go p e below _ s₁ (mkF m 85 #[.val (.int p1), .val (.int (own_in 33 43 p1)), .val (.int (own_in 45 57 p1)), .val (.int (own_in 59 61 p1)), .val (.int (own_in 63 126 p1))] [])
        refine Go.step (fun _ k => XS.iload X0.here hx rfl (hb hby own_f66) rfl k) ?_
        show Go p e below _ s₁ (mkF m 87 #[.val (.int p1), .val (.int (own_in 33 43 p1)), .val (.int (own_in 45 57 p1)), .val (.int (own_in 59 61 p1)), .val (.int (own_in 63 126 p1))] [(.int (own_in 63 126 p1))])
        by_cases hc87_17 : (own_in 63 126 p1) = (0 : Int32)
        · show Go p e below _ s₁ (mkF m 87 #[.val (.int p1), .val (.int (own_in 33 43 p1)), .val (.int (own_in 45 57 p1)), .val (.int (own_in 59 61 p1)), .val (.int (own_in 63 126 p1))] [(.int (own_in 63 126 p1))])
          refine Go.step (fun _ k => XS.ifYes X0.here hx rfl (pc0 := 87) (pc' := 94) rfl (hb hby own_f67) rfl ((if0 _ _).trans (teq hc87_17).1) (by decide) (by decide) k) ?_
          show Go p e below _ s₁ (mkF m 94 #[.val (.int p1), .val (.int (own_in 33 43 p1)), .val (.int (own_in 45 57 p1)), .val (.int (own_in 59 61 p1)), .val (.int (own_in 63 126 p1))] [])
          refine Go.step (fun _ k => XS.iconst X0.here hx rfl (hb hby own_f68) k) ?_
          show Go p e below _ s₁ (mkF m 95 #[.val (.int p1), .val (.int (own_in 33 43 p1)), .val (.int (own_in 45 57 p1)), .val (.int (own_in 59 61 p1)), .val (.int (own_in 63 126 p1))] [(.int (0 : Int32))])
          have er : own_ref p1 = (0 : Int32) := by simp [own_ref, hc74_14, hc78_15, hc82_16, hc87_17]
          obtain ⟨fs, hr, hrun, hended, hW, hsame⟩ := X0.leave (v := some (.int (0 : Int32))) (fun h => by rw [Bd.returns] at h; cases h)
          refine Go.fin (retN X0 hx (t := .boolean) Bd.returns (by simp) (hb hby own_f69) hr) hrun hended ?_
          refine ⟨_, _, rfl, ?_, ⟨_, rfl⟩, hW, hsame.mono (by decide) (by decide)⟩
          show Q2 Z p1 h0 n0 _ s₁.heap _
          rw [e0]
          exact ⟨by rw [er], N0, rfl⟩
        · show Go p e below _ s₁ (mkF m 87 #[.val (.int p1), .val (.int (own_in 33 43 p1)), .val (.int (own_in 45 57 p1)), .val (.int (own_in 59 61 p1)), .val (.int (own_in 63 126 p1))] [(.int (own_in 63 126 p1))])
          refine Go.step (fun _ k => XS.ifNo X0.here hx rfl (hb hby own_f67) rfl ((if0 _ _).trans (feq hc87_17).1) k) ?_
          show Go p e below _ s₁ (mkF m 90 #[.val (.int p1), .val (.int (own_in 33 43 p1)), .val (.int (own_in 45 57 p1)), .val (.int (own_in 59 61 p1)), .val (.int (own_in 63 126 p1))] [])
          refine Go.step (fun _ k => XS.iconst X0.here hx rfl (hb hby own_f70) k) ?_
          show Go p e below _ s₁ (mkF m 91 #[.val (.int p1), .val (.int (own_in 33 43 p1)), .val (.int (own_in 45 57 p1)), .val (.int (own_in 59 61 p1)), .val (.int (own_in 63 126 p1))] [(.int (1 : Int32))])
          refine Go.step (fun _ k => XS.goto X0.here hx rfl (pc0 := 91) (pc' := 95) rfl (hb hby own_f71) (by decide) (by decide) k) ?_
          show Go p e below _ s₁ (mkF m 95 #[.val (.int p1), .val (.int (own_in 33 43 p1)), .val (.int (own_in 45 57 p1)), .val (.int (own_in 59 61 p1)), .val (.int (own_in 63 126 p1))] [(.int (1 : Int32))])
          have er : own_ref p1 = (1 : Int32) := by simp [own_ref, hc74_14, hc78_15, hc82_16, hc87_17]
          obtain ⟨fs, hr, hrun, hended, hW, hsame⟩ := X0.leave (v := some (.int (1 : Int32))) (fun h => by rw [Bd.returns] at h; cases h)
          refine Go.fin (retN X0 hx (t := .boolean) Bd.returns (by simp) (hb hby own_f69) hr) hrun hended ?_
          refine ⟨_, _, rfl, ?_, ⟨_, rfl⟩, hW, hsame.mono (by decide) (by decide)⟩
          show Q2 Z p1 h0 n0 _ s₁.heap _
          rw [e0]
          exact ⟨by rw [er], N0, rfl⟩
      · show Go p e below _ s₁ (mkF m 82 #[.val (.int p1), .val (.int (own_in 33 43 p1)), .val (.int (own_in 45 57 p1)), .val (.int (own_in 59 61 p1)), .val (.int (own_in 63 126 p1))] [(.int (own_in 59 61 p1))])
        refine Go.step (fun _ k => XS.ifYes X0.here hx rfl (pc0 := 82) (pc' := 90) rfl (hb hby own_f65) rfl ((if0 _ _).trans (feq hc82_16).2) (by decide) (by decide) k) ?_
        show Go p e below _ s₁ (mkF m 90 #[.val (.int p1), .val (.int (own_in 33 43 p1)), .val (.int (own_in 45 57 p1)), .val (.int (own_in 59 61 p1)), .val (.int (own_in 63 126 p1))] [])
        refine Go.step (fun _ k => XS.iconst X0.here hx rfl (hb hby own_f70) k) ?_
        show Go p e below _ s₁ (mkF m 91 #[.val (.int p1), .val (.int (own_in 33 43 p1)), .val (.int (own_in 45 57 p1)), .val (.int (own_in 59 61 p1)), .val (.int (own_in 63 126 p1))] [(.int (1 : Int32))])
        refine Go.step (fun _ k => XS.goto X0.here hx rfl (pc0 := 91) (pc' := 95) rfl (hb hby own_f71) (by decide) (by decide) k) ?_
        show Go p e below _ s₁ (mkF m 95 #[.val (.int p1), .val (.int (own_in 33 43 p1)), .val (.int (own_in 45 57 p1)), .val (.int (own_in 59 61 p1)), .val (.int (own_in 63 126 p1))] [(.int (1 : Int32))])
        have er : own_ref p1 = (1 : Int32) := by simp [own_ref, hc74_14, hc78_15, hc82_16]
        obtain ⟨fs, hr, hrun, hended, hW, hsame⟩ := X0.leave (v := some (.int (1 : Int32))) (fun h => by rw [Bd.returns] at h; cases h)
        refine Go.fin (retN X0 hx (t := .boolean) Bd.returns (by simp) (hb hby own_f69) hr) hrun hended ?_
        refine ⟨_, _, rfl, ?_, ⟨_, rfl⟩, hW, hsame.mono (by decide) (by decide)⟩
        show Q2 Z p1 h0 n0 _ s₁.heap _
        rw [e0]
        exact ⟨by rw [er], N0, rfl⟩
    · show Go p e below _ s₁ (mkF m 78 #[.val (.int p1), .val (.int (own_in 33 43 p1)), .val (.int (own_in 45 57 p1)), .val (.int (own_in 59 61 p1)), .val (.int (own_in 63 126 p1))] [(.int (own_in 45 57 p1))])
      refine Go.step (fun _ k => XS.ifYes X0.here hx rfl (pc0 := 78) (pc' := 90) rfl (hb hby own_f63) rfl ((if0 _ _).trans (feq hc78_15).2) (by decide) (by decide) k) ?_
      show Go p e below _ s₁ (mkF m 90 #[.val (.int p1), .val (.int (own_in 33 43 p1)), .val (.int (own_in 45 57 p1)), .val (.int (own_in 59 61 p1)), .val (.int (own_in 63 126 p1))] [])
      refine Go.step (fun _ k => XS.iconst X0.here hx rfl (hb hby own_f70) k) ?_
      show Go p e below _ s₁ (mkF m 91 #[.val (.int p1), .val (.int (own_in 33 43 p1)), .val (.int (own_in 45 57 p1)), .val (.int (own_in 59 61 p1)), .val (.int (own_in 63 126 p1))] [(.int (1 : Int32))])
      refine Go.step (fun _ k => XS.goto X0.here hx rfl (pc0 := 91) (pc' := 95) rfl (hb hby own_f71) (by decide) (by decide) k) ?_
      show Go p e below _ s₁ (mkF m 95 #[.val (.int p1), .val (.int (own_in 33 43 p1)), .val (.int (own_in 45 57 p1)), .val (.int (own_in 59 61 p1)), .val (.int (own_in 63 126 p1))] [(.int (1 : Int32))])
      have er : own_ref p1 = (1 : Int32) := by simp [own_ref, hc74_14, hc78_15]
      obtain ⟨fs, hr, hrun, hended, hW, hsame⟩ := X0.leave (v := some (.int (1 : Int32))) (fun h => by rw [Bd.returns] at h; cases h)
      refine Go.fin (retN X0 hx (t := .boolean) Bd.returns (by simp) (hb hby own_f69) hr) hrun hended ?_
      refine ⟨_, _, rfl, ?_, ⟨_, rfl⟩, hW, hsame.mono (by decide) (by decide)⟩
      show Q2 Z p1 h0 n0 _ s₁.heap _
      rw [e0]
      exact ⟨by rw [er], N0, rfl⟩
  · show Go p e below _ s₁ (mkF m 74 #[.val (.int p1), .val (.int (own_in 33 43 p1)), .val (.int (own_in 45 57 p1)), .val (.int (own_in 59 61 p1)), .val (.int (own_in 63 126 p1))] [(.int (own_in 33 43 p1))])
    refine Go.step (fun _ k => XS.ifYes X0.here hx rfl (pc0 := 74) (pc' := 90) rfl (hb hby own_f61) rfl ((if0 _ _).trans (feq hc74_14).2) (by decide) (by decide) k) ?_
    show Go p e below _ s₁ (mkF m 90 #[.val (.int p1), .val (.int (own_in 33 43 p1)), .val (.int (own_in 45 57 p1)), .val (.int (own_in 59 61 p1)), .val (.int (own_in 63 126 p1))] [])
    refine Go.step (fun _ k => XS.iconst X0.here hx rfl (hb hby own_f70) k) ?_
    show Go p e below _ s₁ (mkF m 91 #[.val (.int p1), .val (.int (own_in 33 43 p1)), .val (.int (own_in 45 57 p1)), .val (.int (own_in 59 61 p1)), .val (.int (own_in 63 126 p1))] [(.int (1 : Int32))])
    refine Go.step (fun _ k => XS.goto X0.here hx rfl (pc0 := 91) (pc' := 95) rfl (hb hby own_f71) (by decide) (by decide) k) ?_
    show Go p e below _ s₁ (mkF m 95 #[.val (.int p1), .val (.int (own_in 33 43 p1)), .val (.int (own_in 45 57 p1)), .val (.int (own_in 59 61 p1)), .val (.int (own_in 63 126 p1))] [(.int (1 : Int32))])
    have er : own_ref p1 = (1 : Int32) := by simp [own_ref, hc74_14]
    obtain ⟨fs, hr, hrun, hended, hW, hsame⟩ := X0.leave (v := some (.int (1 : Int32))) (fun h => by rw [Bd.returns] at h; cases h)
    refine Go.fin (retN X0 hx (t := .boolean) Bd.returns (by simp) (hb hby own_f69) hr) hrun hended ?_
    refine ⟨_, _, rfl, ?_, ⟨_, rfl⟩, hW, hsame.mono (by decide) (by decide)⟩
    show Q2 Z p1 h0 n0 _ s₁.heap _
    rw [e0]
    exact ⟨by rw [er], N0, rfl⟩
theorem own_f73 : parseMethodDescriptor "(I)Z" = some ⟨[.int], some .boolean⟩ := by decide +kernel
theorem own_ef_0 (m : MethodId) (p0 : Int32) : entryFrame m #[(.int p0)] maxLocals = mkF m 0 #[.val (.int p0), .unset, .unset, .unset, .unset] [] := by first | (simp [entryFrame, mkF, argsToLocals, Value.category, maxLocals]; done) | rfl
def Q0 (Z : State) (p0 : Int32) (h0 : Heap) (n0 : Nat) (v : Option Value) (h : Heap) (L : List Loc) : Prop := v = some (.int 1) ∧ Fr n0 L
set_option maxRecDepth 65536 in
set_option maxHeartbeats 40000000 in
theorem rm0 (l : Launch) (Z : State) (a0 : Array Value) (hw : ∀ d ∈ tables_1, d.before a0 Z = true) (ws : List Jvm.Cond) (p0 : Int32) (h0 : Heap) (n0 : Nat) (Z0 : n0 ≤ h0.size)  :
    MetFree l x (head1 (Jvm.Cond.code x code maxLocals ret :: ws) room_1) (fun a U => a = #[(.int p0)] ∧ Z.Warmed39 U.vm ∧ U.heap = h0) (fun _ _ _ _ _ => True) (fun _ U o U' => ∃ v L, o = .returned v ∧ Q0 Z p0 h0 n0 v U'.heap L ∧ FrameEnd U o U' L 0 0) := by
  refine MetFree.of_bodySF (plainFor_of_name own_f72) hisR ?_
  intro p e s m args below meth c s₁ Bd hml0 hP hK
  obtain ⟨rfl, hZ, hh⟩ := hP
  have hx := Bd.exec
  have hby := Bd.bytes
  have hml : c.maxLocals = 5 := hml0
  have hown : s.vm.findClass "com/example/frugal_sieve/frugalsieve/parse/PacketParserIsCallCharacterPinLaw" = some m.cls := findClass_of_methodNamed Bd.named
  have hnm := (name_of_methodNamed Bd.named Bd.method).1
  have X0 : Stand p l e room_1 s m #[(.int p0)] below meth c s₁ [] 0 0 := Stand.of_body Bd
  have e0 : s₁.heap = h0 := by rw [← hh, Bd.state]; rfl
  have N0 := Fr.nil n0
  refine Go.start (own_ef_0 m p0) ?_
  show Go p e below _ s₁ (mkF m 0 #[.val (.int p0), .unset, .unset, .unset, .unset] [])
  refine Go.step (fun _ k => XS.iloadN X0.here hx rfl (hb hby at_0) rfl k) ?_
  show Go p e below _ s₁ (mkF m 1 #[.val (.int p0), .unset, .unset, .unset, .unset] [(.int p0)])
  refine Go.step (fun _ k => XS.istoreN X0.here hx rfl (hb hby at_1) rfl (l' := #[.val (.int p0), .val (.int p0), .unset, .unset, .unset]) rfl k) ?_
  show Go p e below _ s₁ (mkF m 2 #[.val (.int p0), .val (.int p0), .unset, .unset, .unset] [])
  refine Go.step (fun _ k => XS.iloadN X0.here hx rfl (hb hby at_2) rfl k) ?_
  show Go p e below _ s₁ (mkF m 3 #[.val (.int p0), .val (.int p0), .unset, .unset, .unset] [(.int p0)])
  refine Go.step (fun _ k => XS.sipush X0.here hx rfl (hb hby at_3) k) ?_
  show Go p e below _ s₁ (mkF m 6 #[.val (.int p0), .val (.int p0), .unset, .unset, .unset] [(.int (255 : Int32)), (.int p0)])
  refine Go.step (fun _ k => XS.iand X0.here hx rfl (hb hby at_6) rfl k) ?_
  show Go p e below _ s₁ (mkF m 7 #[.val (.int p0), .val (.int p0), .unset, .unset, .unset] [(.int (p0 &&& (255 : Int32)))])
  refine Go.step (fun _ k => XS.istoreN X0.here hx rfl (hb hby at_7) rfl (l' := #[.val (.int p0), .val (.int p0), .val (.int (p0 &&& (255 : Int32))), .unset, .unset]) rfl k) ?_
  show Go p e below _ s₁ (mkF m 8 #[.val (.int p0), .val (.int p0), .val (.int (p0 &&& (255 : Int32))), .unset, .unset] [])
  refine Go.step (fun _ k => XS.iloadN X0.here hx rfl (hb hby at_8) rfl k) ?_
  show Go p e below _ s₁ (mkF m 9 #[.val (.int p0), .val (.int p0), .val (.int (p0 &&& (255 : Int32))), .unset, .unset] [(.int p0)])
  obtain ⟨_, _, ⟨T18, L18, k18, n18⟩, -, X18, ⟨Lc18, hQ18, l18, y18, z18⟩, st18⟩ := Jvm.LawKit.callS X0 hx (y := (⟨"com/example/frugal_sieve/frugalsieve/parse/PacketParser", "isCallCharacter", "(I)Z"⟩ : MethodName)) hown (mvT hZ (hw _ (List.mem_of_getElem? (i := 0) rfl))) (mvT hZ (hw _ (List.mem_of_getElem? (i := 1) rfl))) (mvT hZ (hw _ (List.mem_of_getElem? (i := 2) rfl))) (mvT hZ (hw _ (List.mem_of_getElem? (i := 3) rfl))) (by decide) (backOf (W := 0) (rm1 l Z a0 hw [] p0 h0 n0 Z0) hZ (hw _ (List.mem_of_getElem? (i := 3) rfl)) (hw _ (List.mem_of_getElem? (i := 2) rfl)) (by decide) (by decide)) (g := (mkF m 9 #[.val (.int p0), .val (.int p0), .val (.int (p0 &&& (255 : Int32))), .unset, .unset] [(.int p0)])) rfl (by rw [hml]; rfl) (argsL := [(.int p0)]) (rest := []) (lenOf own_f73 rfl) rfl (by show 2 * 0 + _ ≤ _; exact Nat.le_of_eq rfl) (hb hby at_9) (fun _ _ => ⟨rfl, e0, (by dsimp only [Pt.cells, Pt.slots]; decide), (by dsimp only [Pt.cells, Pt.slots]; decide)⟩)
  dsimp only [Pt.U, Pt.locs, Pt.cells, Pt.slots] at X18 l18 y18 z18 st18 hQ18
  subst l18 y18 z18
  obtain ⟨rfl, N18q, e18⟩ := hQ18
  have N18 := Fr.app N0 N18q
  refine Go.step st18 ?_
  show Go p e below _ T18 (mkF m 12 #[.val (.int p0), .val (.int p0), .val (.int (p0 &&& (255 : Int32))), .unset, .unset] [(.int (own_cc p0))])
  refine Go.step (fun _ k => XS.iloadN X18.here hx rfl (hb hby at_12) rfl k) ?_
  show Go p e below _ T18 (mkF m 13 #[.val (.int p0), .val (.int p0), .val (.int (p0 &&& (255 : Int32))), .unset, .unset] [(.int p0), (.int (own_cc p0))])
  obtain ⟨_, _, ⟨T19, L19, k19, n19⟩, -, X19, ⟨Lc19, hQ19, l19, y19, z19⟩, st19⟩ := Jvm.LawKit.callS X18 hx (y := (⟨"com/example/frugal_sieve/frugalsieve/parse/PacketParserIsCallCharacterPinLaw", "reference", "(I)Z"⟩ : MethodName)) hown (mvT hZ (hw _ (List.mem_of_getElem? (i := 4) rfl))) (mvT hZ (hw _ (List.mem_of_getElem? (i := 5) rfl))) (mvT hZ (hw _ (List.mem_of_getElem? (i := 6) rfl))) (mvT hZ (hw _ (List.mem_of_getElem? (i := 7) rfl))) (by decide) (backOf (W := 1) (rm2 l Z a0 hw [] p0 h0 n0 Z0) hZ (hw _ (List.mem_of_getElem? (i := 7) rfl)) (hw _ (List.mem_of_getElem? (i := 6) rfl)) (by decide) (by decide)) (g := (mkF m 13 #[.val (.int p0), .val (.int p0), .val (.int (p0 &&& (255 : Int32))), .unset, .unset] [(.int p0), (.int (own_cc p0))])) rfl (by rw [hml]; rfl) (argsL := [(.int p0)]) (rest := [(.int (own_cc p0))]) (lenOf own_f73 rfl) rfl (by show 2 * 0 + _ ≤ _; exact Nat.le_of_eq rfl) (hb hby at_13) (fun _ _ => ⟨rfl, e18, (by dsimp only [Pt.cells, Pt.slots]; decide), (by dsimp only [Pt.cells, Pt.slots]; decide)⟩)
  dsimp only [Pt.U, Pt.locs, Pt.cells, Pt.slots] at X19 l19 y19 z19 st19 hQ19
  subst l19 y19 z19
  obtain ⟨rfl, N19q, e19⟩ := hQ19
  have N19 := Fr.app N18 N19q
  refine Go.step st19 ?_
  show Go p e below _ T19 (mkF m 16 #[.val (.int p0), .val (.int p0), .val (.int (p0 &&& (255 : Int32))), .unset, .unset] [(.int (own_ref p0)), (.int (own_cc p0))])
  refine Go.step (fun _ k => XS.icmpNo X19.here hx rfl (hb hby at_16) rfl (teq (own_same _).symm).2 k) ?_
  show Go p e below _ T19 (mkF m 19 #[.val (.int p0), .val (.int p0), .val (.int (p0 &&& (255 : Int32))), .unset, .unset] [])
  refine Go.step (fun _ k => XS.iconst X19.here hx rfl (hb hby at_19) k) ?_
  show Go p e below _ T19 (mkF m 20 #[.val (.int p0), .val (.int p0), .val (.int (p0 &&& (255 : Int32))), .unset, .unset] [(.int (1 : Int32))])
  refine Go.step (fun _ k => XS.goto X19.here hx rfl (pc0 := 20) (pc' := 24) rfl (hb hby at_20) (by decide) (by decide) k) ?_
  show Go p e below _ T19 (mkF m 24 #[.val (.int p0), .val (.int p0), .val (.int (p0 &&& (255 : Int32))), .unset, .unset] [(.int (1 : Int32))])
  refine Go.step (fun _ k => XS.istoreN X19.here hx rfl (hb hby at_24) rfl (l' := #[.val (.int p0), .val (.int p0), .val (.int (p0 &&& (255 : Int32))), .val (.int (1 : Int32)), .unset]) rfl k) ?_
  show Go p e below _ T19 (mkF m 25 #[.val (.int p0), .val (.int p0), .val (.int (p0 &&& (255 : Int32))), .val (.int (1 : Int32)), .unset] [])
  refine Go.step (fun _ k => XS.iloadN X19.here hx rfl (hb hby at_25) rfl k) ?_
  show Go p e below _ T19 (mkF m 26 #[.val (.int p0), .val (.int p0), .val (.int (p0 &&& (255 : Int32))), .val (.int (1 : Int32)), .unset] [(.int (p0 &&& (255 : Int32)))])
  obtain ⟨_, _, ⟨T20, L20, k20, n20⟩, -, X20, ⟨Lc20, hQ20, l20, y20, z20⟩, st20⟩ := Jvm.LawKit.callS X19 hx (y := (⟨"com/example/frugal_sieve/frugalsieve/parse/PacketParser", "isCallCharacter", "(I)Z"⟩ : MethodName)) hown (mvT hZ (hw _ (List.mem_of_getElem? (i := 0) rfl))) (mvT hZ (hw _ (List.mem_of_getElem? (i := 1) rfl))) (mvT hZ (hw _ (List.mem_of_getElem? (i := 2) rfl))) (mvT hZ (hw _ (List.mem_of_getElem? (i := 3) rfl))) (by decide) (backOf (W := 0) (rm1 l Z a0 hw [] (p0 &&& (255 : Int32)) h0 n0 Z0) hZ (hw _ (List.mem_of_getElem? (i := 3) rfl)) (hw _ (List.mem_of_getElem? (i := 2) rfl)) (by decide) (by decide)) (g := (mkF m 26 #[.val (.int p0), .val (.int p0), .val (.int (p0 &&& (255 : Int32))), .val (.int (1 : Int32)), .unset] [(.int (p0 &&& (255 : Int32)))])) rfl (by rw [hml]; rfl) (argsL := [(.int (p0 &&& (255 : Int32)))]) (rest := []) (lenOf own_f73 rfl) rfl (by show 2 * 0 + _ ≤ _; exact Nat.le_of_eq rfl) (hb hby at_26) (fun _ _ => ⟨rfl, e19, (by dsimp only [Pt.cells, Pt.slots]; decide), (by dsimp only [Pt.cells, Pt.slots]; decide)⟩)
  dsimp only [Pt.U, Pt.locs, Pt.cells, Pt.slots] at X20 l20 y20 z20 st20 hQ20
  subst l20 y20 z20
  obtain ⟨rfl, N20q, e20⟩ := hQ20
  have N20 := Fr.app N19 N20q
  refine Go.step st20 ?_
  show Go p e below _ T20 (mkF m 29 #[.val (.int p0), .val (.int p0), .val (.int (p0 &&& (255 : Int32))), .val (.int (1 : Int32)), .unset] [(.int (own_cc (p0 &&& (255 : Int32))))])
  refine Go.step (fun _ k => XS.iloadN X20.here hx rfl (hb hby at_29) rfl k) ?_
  show Go p e below _ T20 (mkF m 30 #[.val (.int p0), .val (.int p0), .val (.int (p0 &&& (255 : Int32))), .val (.int (1 : Int32)), .unset] [(.int (p0 &&& (255 : Int32))), (.int (own_cc (p0 &&& (255 : Int32))))])
  obtain ⟨_, _, ⟨T21, L21, k21, n21⟩, -, X21, ⟨Lc21, hQ21, l21, y21, z21⟩, st21⟩ := Jvm.LawKit.callS X20 hx (y := (⟨"com/example/frugal_sieve/frugalsieve/parse/PacketParserIsCallCharacterPinLaw", "reference", "(I)Z"⟩ : MethodName)) hown (mvT hZ (hw _ (List.mem_of_getElem? (i := 4) rfl))) (mvT hZ (hw _ (List.mem_of_getElem? (i := 5) rfl))) (mvT hZ (hw _ (List.mem_of_getElem? (i := 6) rfl))) (mvT hZ (hw _ (List.mem_of_getElem? (i := 7) rfl))) (by decide) (backOf (W := 1) (rm2 l Z a0 hw [] (p0 &&& (255 : Int32)) h0 n0 Z0) hZ (hw _ (List.mem_of_getElem? (i := 7) rfl)) (hw _ (List.mem_of_getElem? (i := 6) rfl)) (by decide) (by decide)) (g := (mkF m 30 #[.val (.int p0), .val (.int p0), .val (.int (p0 &&& (255 : Int32))), .val (.int (1 : Int32)), .unset] [(.int (p0 &&& (255 : Int32))), (.int (own_cc (p0 &&& (255 : Int32))))])) rfl (by rw [hml]; rfl) (argsL := [(.int (p0 &&& (255 : Int32)))]) (rest := [(.int (own_cc (p0 &&& (255 : Int32))))]) (lenOf own_f73 rfl) rfl (by show 2 * 0 + _ ≤ _; exact Nat.le_of_eq rfl) (hb hby at_30) (fun _ _ => ⟨rfl, e20, (by dsimp only [Pt.cells, Pt.slots]; decide), (by dsimp only [Pt.cells, Pt.slots]; decide)⟩)
  dsimp only [Pt.U, Pt.locs, Pt.cells, Pt.slots] at X21 l21 y21 z21 st21 hQ21
  subst l21 y21 z21
  obtain ⟨rfl, N21q, e21⟩ := hQ21
  have N21 := Fr.app N20 N21q
  refine Go.step st21 ?_
  show Go p e below _ T21 (mkF m 33 #[.val (.int p0), .val (.int p0), .val (.int (p0 &&& (255 : Int32))), .val (.int (1 : Int32)), .unset] [(.int (own_ref (p0 &&& (255 : Int32)))), (.int (own_cc (p0 &&& (255 : Int32))))])
  refine Go.step (fun _ k => XS.icmpNo X21.here hx rfl (hb hby at_33) rfl (teq (own_same _).symm).2 k) ?_
  show Go p e below _ T21 (mkF m 36 #[.val (.int p0), .val (.int p0), .val (.int (p0 &&& (255 : Int32))), .val (.int (1 : Int32)), .unset] [])
  refine Go.step (fun _ k => XS.iconst X21.here hx rfl (hb hby at_36) k) ?_
  show Go p e below _ T21 (mkF m 37 #[.val (.int p0), .val (.int p0), .val (.int (p0 &&& (255 : Int32))), .val (.int (1 : Int32)), .unset] [(.int (1 : Int32))])
  refine Go.step (fun _ k => XS.goto X21.here hx rfl (pc0 := 37) (pc' := 41) rfl (hb hby at_37) (by decide) (by decide) k) ?_
  show Go p e below _ T21 (mkF m 41 #[.val (.int p0), .val (.int p0), .val (.int (p0 &&& (255 : Int32))), .val (.int (1 : Int32)), .unset] [(.int (1 : Int32))])
  refine Go.step (fun _ k => XS.istore X21.here hx rfl (hb hby at_41) rfl (l' := #[.val (.int p0), .val (.int p0), .val (.int (p0 &&& (255 : Int32))), .val (.int (1 : Int32)), .val (.int (1 : Int32))]) rfl k) ?_
  show Go p e below _ T21 (mkF m 43 #[.val (.int p0), .val (.int p0), .val (.int (p0 &&& (255 : Int32))), .val (.int (1 : Int32)), .val (.int (1 : Int32))] [])
  refine Go.step (fun _ k => XS.iloadN X21.here hx rfl (hb hby at_43) rfl k) ?_
  show Go p e below _ T21 (mkF m 44 #[.val (.int p0), .val (.int p0), .val (.int (p0 &&& (255 : Int32))), .val (.int (1 : Int32)), .val (.int (1 : Int32))] [(.int (1 : Int32))])
  refine Go.step (fun _ k => XS.ifNo X21.here hx rfl (hb hby at_44) rfl ((if0 _ _).trans (feq (by decide : ¬ ((1 : Int32) = 0))).1) k) ?_
  show Go p e below _ T21 (mkF m 47 #[.val (.int p0), .val (.int p0), .val (.int (p0 &&& (255 : Int32))), .val (.int (1 : Int32)), .val (.int (1 : Int32))] [])
  refine Go.step (fun _ k => XS.iload X21.here hx rfl (hb hby at_47) rfl k) ?_
  show Go p e below _ T21 (mkF m 49 #[.val (.int p0), .val (.int p0), .val (.int (p0 &&& (255 : Int32))), .val (.int (1 : Int32)), .val (.int (1 : Int32))] [(.int (1 : Int32))])
  refine Go.step (fun _ k => XS.ifNo X21.here hx rfl (hb hby at_49) rfl ((if0 _ _).trans (feq (by decide : ¬ ((1 : Int32) = 0))).1) k) ?_
  show Go p e below _ T21 (mkF m 52 #[.val (.int p0), .val (.int p0), .val (.int (p0 &&& (255 : Int32))), .val (.int (1 : Int32)), .val (.int (1 : Int32))] [])
  refine Go.step (fun _ k => XS.iconst X21.here hx rfl (hb hby at_52) k) ?_
  show Go p e below _ T21 (mkF m 53 #[.val (.int p0), .val (.int p0), .val (.int (p0 &&& (255 : Int32))), .val (.int (1 : Int32)), .val (.int (1 : Int32))] [(.int (1 : Int32))])
  refine Go.step (fun _ k => XS.goto X21.here hx rfl (pc0 := 53) (pc' := 57) rfl (hb hby at_53) (by decide) (by decide) k) ?_
  show Go p e below _ T21 (mkF m 57 #[.val (.int p0), .val (.int p0), .val (.int (p0 &&& (255 : Int32))), .val (.int (1 : Int32)), .val (.int (1 : Int32))] [(.int (1 : Int32))])
  obtain ⟨fs, hr, hrun, hended, hW, hsame⟩ := X21.leave (v := some (.int (1 : Int32))) (fun h => by rw [Bd.returns] at h; cases h)
  refine Go.fin (retN X21 hx (t := .boolean) Bd.returns (by simp) (hb hby at_57) hr) hrun hended ?_
  refine ⟨_, _, rfl, ?_, ⟨_, rfl⟩, hW, hsame.mono (by decide) (by decide)⟩
  show Q0 Z p0 h0 n0 _ T21.heap _
  rw [e21]
  exact ⟨rfl, N21⟩
set_option maxRecDepth 65536 in
set_option maxHeartbeats 40000000 in
theorem comes_1 {Post : Tables → Env → Array Value → State → Outcome → State → Prop} (hpost : ∀ tb e args s v u, (limb_1_1.after args s (.returned v) u = true ∧ limb_1_2.after args s (.returned v) u = true ∧ True) → FrameEnd s (.returned v) u (Jvm.fieldLocs frame_1_writes args s ++ Jvm.arrayLocs frame_1_arrays args s ++ Jvm.staticLocs frame_1_statics s) 0 0 → Post tb e args s (.returned v) u) :
    ArmFor flags0 classFile x code maxLocals ret World_1 tables_1 room_1 Calls_1 rest_1 Pre_1 Post := by
  intro l hfl _ _ p e ha hc hk s m args below hf hA hF happ hP
  obtain ⟨hcalls, hrest, hpre⟩ := hP
  obtain ⟨-, -, -, hnamed, -, -, -, hat⟩ := (Spec.applies_iff hf).mp happ
  obtain ⟨hg, hn⟩ := and_e (Cond.before_iff.mp (show (Jvm.Cond.and given_1 narrow_1).before args s = true from hpre))
  obtain ⟨hg1, hg2⟩ := and_e hg
  obtain ⟨w0, rfl⟩ : ∃ w0 : Value, args = #[w0] := by
    have hs : args.size = 1 := by simpa [Cond.value, given_1] using hg1
    obtain ⟨L⟩ := args
    match L, hs with
    | [w0], _ => exact ⟨w0, rfl⟩
  have hw := fun d (hd : d ∈ tables_1) => atoms_spec (ws := Jvm.Cond.code x code maxLocals ret :: tables_1) hat d (List.mem_cons_of_mem _ hd)
  have hfit : Fit s := fun {y c} hc i hi => by
    obtain ⟨ha, rfl⟩ := Array.getElem?_eq_some_iff.mp hc
    have q := List.all_eq_true.mp ((Array.all_eq_true_iff_forall_mem.mp hF) _ (Array.getElem_mem ha)) i (List.mem_range.mpr hi)
    simpa [Array.getElem?_eq_getElem hi] using q
  obtain ⟨i0, ei0⟩ := is_v hg2
  obtain rfl : w0 = (.int i0) := Option.some.inj ei0
  obtain ⟨n, o, h1, h2, h3, _, L, rfl, ⟨rfl, N⟩, hq⟩ := rm0 l s _ hw tables_1 i0 s.heap s.heap.size (Nat.le_refl _)  p e ha hc hk s m _ below hf ((Spec.applies_iff_loose hf).mp happ).1 ⟨rfl, State.Warmed39.refl s, rfl⟩ trivial
  refine ⟨n, _, h1, h2, h3, hpost _ _ _ _ _ _ ⟨Cond.after_iff.mpr rfl, Cond.after_iff.mpr (eq_i res_at (Term.int_eval (1)) rfl), trivial⟩ ⟨hq.1, hq.2.1, (hq.2.2.sift fun y hy => Or.inr (N y hy)).mono (by decide) (by decide)⟩⟩
theorem main_1_1 : Claimed_1_1 := comes_1 fun _ _ _ _ _ _ h hF => ⟨h.1, hF⟩
theorem main_1_2 : Claimed_1_2 := comes_1 fun _ _ _ _ _ _ h hF => ⟨h.2.1, hF⟩
end Jvm.Pilot.@@N@@
namespace Jvm.Pilot.@@N@@
open Jvm Jvm.ClassFile Sem Op Lib Jvm.Free Jvm.Stand Jvm.Pilot.@@N@@.Jvm.D
/-! MADE BY PROGRAM (witnessworld.py) out of the Statement's table words and the real class files: 9 classes; the members and pool entries that the words name. The judged class is class 1, her method 2. -/
namespace start1
open Jvm.ClassFile
def u (s : String) : CpInfo := .utf8 (stringToUtf16 s)
/-- a pool by its gaps: so many unusable entries, then the entry; so many at the end -/
def gap : Nat → List CpInfo → List CpInfo
  | 0, r => r
  | n + 1, r => .unusable :: gap n r
def poolList (es : List (Nat × CpInfo)) (last : Nat) : List CpInfo := es.foldr (fun e r => gap e.1 (e.2 :: r)) (gap last [])
def pool (es : List (Nat × CpInfo)) (last : Nat) : Array CpInfo := ⟨poolList es last⟩
def fileOf (pool : Array CpInfo) (this : Nat) (attrs : Array Attribute := #[]) (ms : Array MethodInfo := #[]) (fl : Nat := 33) (sup : Nat := 0) (ifs : Array Nat := #[]) (fds : Array FieldInfo := #[]) : ClassFile where
  minorVersion := 0
  majorVersion := 65
  constantPool := pool
  accessFlags := fl
  thisClass := this
  superClass := sup
  interfaces := ifs
  fields := fds
  methods := ms
  attributes := attrs
def plain (name : String) (sup : Option ClassId) : Class where
  name := name
  kind := .ordinary
  loader := none
  accessFlags := 33
  super := sup
  interfaces := #[]
  cf := none
  fields := #[]
  methods := #[]
  instanceTypes := #[]
  staticTypes := #[]
  resolved := #[]
  callSites := []
  init := .initialized
  statics := none
  mirror := none

def pool0 : Array CpInfo := pool [(5, u "<init>"), (0, u "()V"), (1, .class_ 10), (1, u "java/lang/Object")] 113

def k0m0 : Method := { name := "<init>", desc := "()V", sig := { parameters := [], returnType := none }, accessFlags := 1, code := none }
/-- java/lang/Object -/
def k0 : Class := { plain "java/lang/Object" none with
  accessFlags := 33
  interfaces := #[]
  cf := some (fileOf pool0 8 #[] #[{ accessFlags := 1, nameIndex := 5, descriptorIndex := 6, attributes := #[] }] 33 0 #[] #[])
  fields := #[]
  methods := #[k0m0]
  instanceTypes := #[]
  staticTypes := #[]
  resolved := Array.replicate 124 none
  statics := none }

def pool1 : Array CpInfo := pool [(2, .class_ 4), (1, u "java/lang/Object"), (0, u "<init>"), (0, u "()V"), (0, .methodref 8 9), (0, .class_ 10), (0, .nameAndType 11 12), (0, u "com/example/frugal_sieve/frugalsieve/parse/PacketParser"), (0, u "isCallCharacter"), (0, u "(I)Z"), (0, .methodref 14 15), (0, .class_ 16), (0, .nameAndType 17 12), (0, u "com/example/frugal_sieve/frugalsieve/parse/PacketParserIsCallCharacterPinLaw"), (0, u "reference"), (3, u "law")] 2

def k1m0 : Method := { name := "<init>", desc := "()V", sig := { parameters := [], returnType := none }, accessFlags := 2, code := none }
def k1c1 : Code := { maxStack := 2, maxLocals := 5, code := method_2_code, exceptionTable := #[], attributes := #[] }
def k1m1 : Method := { name := "reference", desc := "(I)Z", sig := { parameters := [.int], returnType := some .boolean }, accessFlags := 10, code := some k1c1 }
def k1c2 : Code := { maxStack := 2, maxLocals := 5, code := code, exceptionTable := #[], attributes := #[] }
def k1m2 : Method := { name := "law", desc := "(I)Z", sig := { parameters := [.int], returnType := some .boolean }, accessFlags := 9, code := some k1c2 }
/-- com/example/frugal_sieve/frugalsieve/parse/PacketParserIsCallCharacterPinLaw -/
def k1 : Class := { plain "com/example/frugal_sieve/frugalsieve/parse/PacketParserIsCallCharacterPinLaw" (some 0) with
  accessFlags := 49
  interfaces := #[]
  cf := some (fileOf pool1 14 #[] #[{ accessFlags := 2, nameIndex := 5, descriptorIndex := 6, attributes := #[] }, { accessFlags := 10, nameIndex := 17, descriptorIndex := 12, attributes := #[] }, { accessFlags := 9, nameIndex := 21, descriptorIndex := 12, attributes := #[] }] 49 2 #[] #[])
  fields := #[]
  methods := #[k1m0, k1m1, k1m2]
  instanceTypes := #[]
  staticTypes := #[]
  resolved := Array.replicate 24 none
  statics := none }

def pool2 : Array CpInfo := pool [(2, .class_ 4), (1, u "java/lang/Object"), (0, u "<init>"), (0, u "()V"), (1, .class_ 10), (1, u "com/example/frugal_sieve/frugalsieve/parse/PacketParser"), (102, u "Q_CONSTRUCT_LENGTH"), (0, u "I"), (20, u "isCallCharacter"), (0, u "(I)Z"), (21, u "Q_CONSTRUCT_START"), (0, u "Ljava/lang/String;")] 36

def k2m0 : Method := { name := "<init>", desc := "()V", sig := { parameters := [], returnType := none }, accessFlags := 2, code := none }
def k2c1 : Code := { maxStack := 2, maxLocals := 1, code := prog_42_method_10_code, exceptionTable := #[], attributes := #[] }
def k2m1 : Method := { name := "isCallCharacter", desc := "(I)Z", sig := { parameters := [.int], returnType := some .boolean }, accessFlags := 8, code := some k2c1 }
/-- com/example/frugal_sieve/frugalsieve/parse/PacketParser -/
def k2 : Class := { plain "com/example/frugal_sieve/frugalsieve/parse/PacketParser" (some 0) with
  accessFlags := 49
  interfaces := #[]
  cf := some (fileOf pool2 8 #[] #[{ accessFlags := 2, nameIndex := 5, descriptorIndex := 6, attributes := #[] }, { accessFlags := 8, nameIndex := 135, descriptorIndex := 136, attributes := #[] }] 49 2 #[] #[{ accessFlags := 26, nameIndex := 158, descriptorIndex := 159, attributes := #[] }, { accessFlags := 26, nameIndex := 113, descriptorIndex := 114, attributes := #[] }])
  fields := #[{ name := "Q_CONSTRUCT_START", type := (.object "java/lang/String"), accessFlags := 26, slot := 0, constantValue := 0 }, { name := "Q_CONSTRUCT_LENGTH", type := .int, accessFlags := 26, slot := 1, constantValue := 0 }]
  methods := #[k2m0, k2m1]
  instanceTypes := #[]
  staticTypes := #[(.object "java/lang/String"), .int]
  resolved := Array.replicate 196 none
  statics := none }

def pool3 : Array CpInfo := pool [(1, u "java/lang/Cloneable"), (0, .class_ 1), (0, u "java/lang/Object"), (0, .class_ 3)] 3

/-- java/lang/Cloneable -/
def k3 : Class := { plain "java/lang/Cloneable" (some 0) with
  accessFlags := 1537
  interfaces := #[]
  cf := some (fileOf pool3 2 #[] #[] 1537 4 #[] #[])
  fields := #[]
  methods := #[]
  instanceTypes := #[]
  staticTypes := #[]
  resolved := Array.replicate 8 none
  statics := none }

def pool4 : Array CpInfo := pool [(1, u "java/io/Serializable"), (0, .class_ 1), (0, u "java/lang/Object"), (0, .class_ 3)] 3

/-- java/io/Serializable -/
def k4 : Class := { plain "java/io/Serializable" (some 0) with
  accessFlags := 1537
  interfaces := #[]
  cf := some (fileOf pool4 2 #[] #[] 1537 4 #[] #[])
  fields := #[]
  methods := #[]
  instanceTypes := #[]
  staticTypes := #[]
  resolved := Array.replicate 8 none
  statics := none }

/-- the primitive byte -/
def k5 : Class := { plain "byte" none with kind := .primitive 'B', accessFlags := 0x411 }
/-- [B -/
def k6 : Class := { plain "[B" (some 0) with kind := .array 5 .byte, interfaces := #[3, 4], accessFlags := 1041 }

/-- the primitive int -/
def k7 : Class := { plain "int" none with kind := .primitive 'I', accessFlags := 0x411 }
/-- [I -/
def k8 : Class := { plain "[I" (some 0) with kind := .array 7 .int, interfaces := #[3, 4], accessFlags := 1041 }

def heap : Heap := #[]
def classes : Array Class := #[k0, k1, k2, k3, k4, k5, k6, k7, k8]
def interned : List (Array UInt16 × Addr) := []
def slotsUsed : Nat := 0
def theMethod : MethodId := ⟨1, 2⟩
def args0 : Array Value := #[.int 5]
def aboutOver (below : List Frame) : State where
  vm := { classes := classes, interned := interned.toArray }
  heap := heap
  slotsUsed := slotsUsed
  threads := #[{ frames := .invoking theMethod args0 :: below }]
def below0 : List Frame := [.native { method := ⟨0, 0⟩, args := #[] }]
def about1 : State := aboutOver below0
def p0 : Program := .bare "" "" ""
def e0 : Env := launch0.env 0 0 0
theorem w_frames : about1.frames = Frame.invoking theMethod args0 :: below0 := rfl
set_option maxRecDepth 65536 in
theorem w_args : argsFit about1.vm theMethod args0 = true := by decide +kernel
set_option maxRecDepth 65536 in
theorem w_heap : heapFits about1 = true := by decide +kernel
set_option maxRecDepth 65536 in
theorem w_runnable : about1.curStatus? = some .runnable := by decide +kernel
set_option maxRecDepth 65536 in
theorem w_alone : about1.alone = true := by decide +kernel
set_option maxRecDepth 65536 in
theorem w_named : about1.methodNamed? x = some theMethod := by decide +kernel
set_option maxRecDepth 65536 in
theorem w_hears : about1.hears theMethod below0 = true := by decide +kernel
set_option maxRecDepth 65536 in
theorem w_ripe : about1.ripe theMethod args0 below0 = true := by decide +kernel
theorem w_running : about1.status = .running := rfl
set_option maxRecDepth 65536 in
theorem w_room : about1.hasRoom e0.platform room_1 = true :=
  launch0.hasRoom_least _ room_1 (by decide +kernel) (by decide +kernel) (by decide +kernel) (by decide +kernel) (by decide +kernel) (by decide +kernel)
theorem allAtoms_all (ts : List Jvm.Cond) (a : Array Jvm.Value) (st : Jvm.State) : (allAtoms ts).before a st = ts.all (fun c => c.before a st) := by
  induction ts with
  | nil => rfl
  | cons c t ih =>
    show (Jvm.Cond.and c (allAtoms t)).before a st = _
    rw [Jvm.Cond.before_and, ih, List.all_cons]
def words1 : List Jvm.Cond := Jvm.Cond.code x code maxLocals ret :: tables_1
/-- a 'code' word, met by the world's own term for the bytes: nothing is compared byte by byte -/
theorem code_word {y : MethodName} {bytes : ByteArray} {mx : Nat} {rt : Option FieldType} {a : Array Value} {s : State} {m : MethodId} {meth : Method} {c : Code} (h1 : s.methodNamed? y = some m) (h2 : s.vm.method? m = some meth) (h3 : meth.code = some c) (h4 : c.code = bytes)
    (h5 : (c.maxLocals == mx && c.exceptionTable.isEmpty && decide (c.maxStack ≤ mostOperands) && decide (meth.sig.returnType = rt) && !meth.locks && decide (parseMethodDescriptor y.desc = some meth.sig)) = true) : (Jvm.Cond.code y bytes mx rt).before a s = true := by
  simp only [Bool.and_eq_true, beq_iff_eq, Bool.not_eq_true', decide_eq_true_eq] at h5
  obtain ⟨⟨⟨⟨⟨g1, g2⟩, g3⟩, g4⟩, g5⟩, g6⟩ := h5
  simp [Cond.before, Cond.holds, Cond.value, h1, h2, h3, h4, g1, g2, g3, g4, g5, g6]
def isCode : Jvm.Cond → Bool
  | .code _ _ _ _ => true
  | _ => false
theorem all_split {L : List Jvm.Cond} {P : Jvm.Cond → Bool} (h1 : L.all (fun c => isCode c || P c) = true) (h2 : ∀ c ∈ L.filter isCode, P c = true) : L.all P = true := by
  refine List.all_eq_true.mpr fun c hc => ?_
  have h := List.all_eq_true.mp h1 c hc
  rcases Bool.eq_false_or_eq_true (isCode c) with hi | hi
  · exact h2 c (List.mem_filter.mpr ⟨hc, hi⟩)
  · simpa [hi] using h
set_option maxRecDepth 65536 in
theorem w_c0 : (Jvm.Cond.code x code maxLocals ret).before args0 about1 = true := code_word (m := ⟨1, 2⟩) (meth := k1m2) (c := k1c2) (by decide +kernel) rfl rfl rfl (by decide +kernel)
set_option maxRecDepth 65536 in
theorem w_c1 : (Jvm.Cond.code ({ cls := "com/example/frugal_sieve/frugalsieve/parse/PacketParser", name := "isCallCharacter", desc := "(I)Z" } : Jvm.MethodName) prog_42_method_10_code (1 : Nat) (Option.some Jvm.ClassFile.FieldType.boolean)).before args0 about1 = true := code_word (m := ⟨2, 1⟩) (meth := k2m1) (c := k2c1) (by decide +kernel) rfl rfl rfl (by decide +kernel)
set_option maxRecDepth 65536 in
theorem w_c2 : (Jvm.Cond.code ({ cls := "com/example/frugal_sieve/frugalsieve/parse/PacketParserIsCallCharacterPinLaw", name := "reference", desc := "(I)Z" } : Jvm.MethodName) method_2_code (5 : Nat) (Option.some Jvm.ClassFile.FieldType.boolean)).before args0 about1 = true := code_word (m := ⟨1, 1⟩) (meth := k1m1) (c := k1c1) (by decide +kernel) rfl rfl rfl (by decide +kernel)
def codes1 : List Jvm.Cond := [Jvm.Cond.code x code maxLocals ret, Jvm.Cond.code ({ cls := "com/example/frugal_sieve/frugalsieve/parse/PacketParser", name := "isCallCharacter", desc := "(I)Z" } : Jvm.MethodName) prog_42_method_10_code (1 : Nat) (Option.some Jvm.ClassFile.FieldType.boolean), Jvm.Cond.code ({ cls := "com/example/frugal_sieve/frugalsieve/parse/PacketParserIsCallCharacterPinLaw", name := "reference", desc := "(I)Z" } : Jvm.MethodName) method_2_code (5 : Nat) (Option.some Jvm.ClassFile.FieldType.boolean)]
set_option maxRecDepth 65536 in
theorem codes_eq : words1.filter isCode = codes1 := rfl
theorem w_codes : ∀ c ∈ words1.filter isCode, c.before args0 about1 = true := by
  rw [codes_eq]
  intro c hc
  simp only [codes1, List.mem_cons, List.not_mem_nil, or_false] at hc
  rcases hc with rfl | rfl | rfl
  · exact w_c0
  · exact w_c1
  · exact w_c2
set_option maxRecDepth 65536 in
theorem w_t1 : words1.all (fun c => isCode c || c.before args0 about1) = true := by decide +kernel
theorem w_tables : (allAtoms (Jvm.Cond.code x code maxLocals ret :: tables_1)).before args0 about1 = true := by
  rw [allAtoms_all]
  show words1.all (fun c => c.before args0 about1) = true
  refine all_split ?_ w_codes
  rw [w_t1]
set_option maxRecDepth 65536 in
theorem w_case : (Jvm.Cond.and given_1 narrow_1).before args0 about1 = true := by decide +kernel
theorem w_applies : (headSpec (Jvm.Cond.code x code maxLocals ret :: tables_1) room_1).applies x e0.platform about1 = true :=
  (Spec.applies_iff w_frames).mpr ⟨w_running, w_runnable, w_alone, w_named, w_hears, w_ripe, w_room, w_tables⟩
theorem atStart : AtStart classFile x code maxLocals ret World_1 tables_1 room_1 Calls_1 rest_1 Pre_1 launch0 p0 e0 about1 theMethod args0 below0 :=
  ⟨lists_1, trivial, launch0.admits_env _ _ _, launch0.least_env, fairChoices_fair.cas, fairChoices_fair.clock, w_frames, w_args, w_heap, w_applies, trivial, trivial, w_case⟩
end start1
theorem witness_1 : WitnessClaimed_1 := ⟨start1.p0, start1.e0, start1.about1, start1.theMethod, start1.args0, start1.below0, start1.atStart⟩
end Jvm.Pilot.@@N@@
