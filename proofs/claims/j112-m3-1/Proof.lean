import JvmDerived
import JvmDerived.Pilot.@@N@@Statement
import JvmDerived.Pilot.@@N@@Code
set_option linter.unusedVariables false
set_option linter.unusedSimpArgs false
@@BLOCK:NumsL.lean.txt@@
namespace Jvm.RoadKit
open Sem ClassFile Op Lib Jvm.Stand Jvm.Free Jvm.LawKit
/-- from the frame f over T the run ends as R says -/
def Go (p : Program) (e : Env) (below : List Frame) (R : State → Outcome → Prop) (T : State) (f : JFrame) : Prop := ∃ s₂ o, Steps p.tables e below (T.setTop f) s₂ ∧ s₂.status = .running ∧ Ended s₂ below o ∧ R s₂ o
section New
variable {p : Program} {l : Launch} {e : Env} {R : Room} {s : State} {m : MethodId} {args : Array Value} {below : List Frame} {meth : Method} {c : Code} {T T' : State} {locs : List Loc} {cells slots : Nat} {K : State → Outcome → Prop} {f f' : JFrame}
theorem Go.start (q : f = f') (k : Go p e below K T f') : ∃ s₂ o, Steps p.tables e below (T.setTop f) s₂ ∧ s₂.status = .running ∧ Ended s₂ below o ∧ K s₂ o := q ▸ k
theorem Go.step (h : ∀ t, Steps p.tables e below (T'.setTop f') t → Steps p.tables e below (T.setTop f) t) (k : Go p e below K T' f') : Go p e below K T f := by
  obtain ⟨s₂, o, h1, h2⟩ := k
  exact ⟨s₂, o, h _ h1, h2⟩
theorem Go.fin {S2 : State} {o : Outcome} (hs : Steps p.tables e below (T.setTop f) S2) (h1 : S2.status = .running) (h2 : Ended S2 below o) (h3 : K S2 o) : Go p e below K T f := ⟨_, _, hs, h1, h2, h3⟩
theorem retI (X : Stand p l e R s m args below meth c T locs cells slots) (hx : p.tables.exec = Jvm.exec) {pc : Nat} {Ls : Array Slot} {z : Int32} {rest : List Value} (hret : meth.sig.returnType = some .int) (hd : decode c.code pc = .ok (.ireturn, 1)) {fs : List Frame}
    (hl : ∀ (f : JFrame) (acts : List Action), f.method = m → f.locked = none → f.entered = [] → (doReturn e (T.setTop f) acts (some (.int z))).1 = T.setFrames fs) : Steps p.tables e below (T.setTop (mkF m pc Ls (.int z :: rest))) (T.setFrames fs) := by
  have hm' : T.vm.method? m = some meth := X.method'
  have hn : narrow .int (.int z) = .int z := rfl
  show Steps p.tables e below (T.setTop { method := m, pc := pc, locals := Ls, stack := _ :: rest, locked := none }) _
  jvm_step X.here [X.here.top, hx, hd, hm', hret, hn]
  first | (intro acts; rw [hl _ acts rfl rfl rfl]) | rw [hl _ _ rfl rfl rfl]
  exact Steps.refl _
theorem own_retD (X : Stand p l e R s m args below meth c T locs cells slots) (hx : p.tables.exec = Jvm.exec) {pc : Nat} {Ls : Array Slot} {z : UInt64} {rest : List Value} (hret : meth.sig.returnType = some .double) (hd : decode c.code pc = .ok (.dreturn, 1)) {fs : List Frame}
    (hl : ∀ (f : JFrame) (acts : List Action), f.method = m → f.locked = none → f.entered = [] → (doReturn e (T.setTop f) acts (some (.double z))).1 = T.setFrames fs) : Steps p.tables e below (T.setTop (mkF m pc Ls (.double z :: rest))) (T.setFrames fs) := by
  have hm' : T.vm.method? m = some meth := X.method'
  have hn : narrow .double (.double z) = .double z := rfl
  show Steps p.tables e below (T.setTop { method := m, pc := pc, locals := Ls, stack := _ :: rest, locked := none }) _
  jvm_step X.here [X.here.top, hx, hd, hm', hret, hn]
  first | (intro acts; rw [hl _ acts rfl rfl rfl]) | rw [hl _ _ rfl rfl rfl]
  exact Steps.refl _
theorem own_fldD {Z : State} {t : Term} {a : Addr} {C n : String} {k : Int64} (ev : t.eval args Z none [] Z = some (.ref a)) (h : (Cond.eq (.field t C n "D") (.op1 .bitsD (.long k))).value args Z none Z [] = some true) : Fld Z Z.heap a C n "D" (.double k.toUInt64) := by
  obtain ⟨x, y, hx, hy, hk, -⟩ := cmp_v (Or.inl h)
  have e1 : (Term.op1 Unary.bitsD (.long k)).eval args Z none [] Z = some (.double k.toUInt64) := rfl
  have e2 : (Term.field t C n "D").eval args Z none [] Z = Z.fieldOf? a C n "D" := fld_at ev
  rw [e1] at hy
  cases hy
  cases x <;> simp [Cond.value, hx, e1] at h
  rw [e2] at hx
  rw [h] at hx
  exact Fld.start hx
theorem own_fldI {Z : State} {t : Term} {a : Addr} {C n : String} {k : Int32} (ev : t.eval args Z none [] Z = some (.ref a)) (h : (Cond.eq (.field t C n "I") (.int k)).value args Z none Z [] = some true) : Fld Z Z.heap a C n "I" (.int k) := by
  obtain ⟨x, y, hx, hy, hk, -⟩ := cmp_v (Or.inl h)
  have e1 : (Term.int k).eval args Z none [] Z = some (.int k) := rfl
  have e2 : (Term.field t C n "I").eval args Z none [] Z = Z.fieldOf? a C n "I" := fld_at ev
  rw [e1] at hy
  cases hy
  cases x <;> simp [Cond.value, hx, e1] at h
  rw [e2] at hx
  rw [h] at hx
  exact Fld.start hx
end New
end Jvm.RoadKit
namespace Jvm.Pilot.@@N@@
open Jvm Jvm.ClassFile Sem Op Lib Jvm.Free Jvm.Stand Jvm.LawKit Jvm.RoadKit Bundle Jvm.Pilot.@@N@@.Jvm.D
theorem own_b15 (x : Int32) : ¬ ((1 : Int32) <<< ((x &&& (15 : Int32)) &&& 31)) = 0 := by
  have e := Jvm.Kit.i32_mask x 15 (k := 4) (by decide) (by decide)
  have q : ∀ k : Int32, k = (x &&& (15 : Int32)) → ¬ ((1 : Int32) <<< (k &&& 31)) = 0 := by
    intro k hk
    have hk' : 0 ≤ k.toInt ∧ k.toInt < 16 := by rw [hk]; omega
    have hc : k = 0 ∨ k = 1 ∨ k = 2 ∨ k = 3 ∨ k = 4 ∨ k = 5 ∨ k = 6 ∨ k = 7 ∨ k = 8 ∨ k = 9 ∨ k = 10 ∨ k = 11 ∨ k = 12 ∨ k = 13 ∨ k = 14 ∨ k = 15 := by
      simp only [← Int32.toInt_inj, show (0 : Int32).toInt = 0 by decide, show (1 : Int32).toInt = 1 by decide, show (2 : Int32).toInt = 2 by decide, show (3 : Int32).toInt = 3 by decide, show (4 : Int32).toInt = 4 by decide, show (5 : Int32).toInt = 5 by decide, show (6 : Int32).toInt = 6 by decide, show (7 : Int32).toInt = 7 by decide, show (8 : Int32).toInt = 8 by decide, show (9 : Int32).toInt = 9 by decide, show (10 : Int32).toInt = 10 by decide, show (11 : Int32).toInt = 11 by decide, show (12 : Int32).toInt = 12 by decide, show (13 : Int32).toInt = 13 by decide, show (14 : Int32).toInt = 14 by decide, show (15 : Int32).toInt = 15 by decide]
      omega
    clear hk hk'
    rcases hc with rfl | rfl | rfl | rfl | rfl | rfl | rfl | rfl | rfl | rfl | rfl | rfl | rfl | rfl | rfl | rfl <;> decide
  exact q _ rfl
theorem own_nnv (a b : Int32) (h : ¬ b = 0) : Jvm.Free.Fl.NoNaN64 (FP.ddiv (FP.i2d a) (FP.i2d b)) := Jvm.Free.Fl.ddiv_out (Jvm.Free.Fl.i2d_fin a).noNaN (Jvm.Free.Fl.i2d_fin b) (Jvm.Free.Fl.i2d_nz h)
theorem own_one {x : UInt64} (h : Jvm.Free.Fl.NoNaN64 x) : FP.ddiv x (4607182418800017408 : UInt64) = x := Jvm.FP.Core.ddiv_one (a := x) (by
  have q := Jvm.Free.Fl.dcmp_of_noNaN64 h
  intro e
  have n : FP.dcmp x x = none := (Jvm.FP.Core.dcmp_none x x).mpr (Or.inl e)
  rw [n] at q; exact absurd q (by decide))

theorem own_f0 : decode prog_48_method_8_code 0 = .ok (.aload_n 0, 1) := by decide +kernel
theorem own_f1 : decode prog_48_method_8_code 1 = .ok (.getfield 29, 3) := by decide +kernel
theorem own_f2 : decode prog_48_method_8_code 4 = .ok (.dconst 0, 1) := by decide +kernel
theorem own_f3 : decode prog_48_method_8_code 5 = .ok (.dcmp .l, 1) := by decide +kernel
theorem own_f4 : decode prog_48_method_8_code 6 = .ok (.ifCond .ne 7, 3) := by decide +kernel
theorem own_f5 : decode prog_48_method_8_code 9 = .ok (.ldc2_w 39, 3) := by decide +kernel
theorem own_f6 : decode prog_48_method_8_code 12 = .ok (.dreturn, 1) := by decide +kernel
theorem own_f7 : plainName "com/example/bidkeel/bidkeel/Objective" = true := by first | (simp [plainName, overriddenIn]; done) | decide +kernel
theorem own_ef_R (m : MethodId) (a1 : Addr) (d1 : UInt64) : entryFrame m #[(.ref a1), (.double d1)] 3 = mkF m 0 #[.val (.ref a1), .val (.double d1), .second] [] := by first | (simp [entryFrame, mkF, argsToLocals, Value.category]; done) | rfl
def QR (Z : State) (a1 : Addr) (d1 : UInt64) (h0 : Heap) (n0 : Nat) (v : Option Value) (h : Heap) (L : List Loc) : Prop := v = some (.double (9218868437227405312 : UInt64)) ∧ Fr n0 L ∧ h = h0
set_option maxRecDepth 65536 in
set_option maxHeartbeats 40000000 in
theorem rmR (l : Launch) (Z : State) (a0 : Array Value) (hw : ∀ d ∈ tables_1, d.before a0 Z = true) (ws : List Jvm.Cond) (a1 : Addr) (d1 : UInt64) (h0 : Heap) (n0 : Nat) (Z0 : n0 ≤ h0.size) (F_priceShare_a1 : Fld Z h0 a1 "com/example/bidkeel/bidkeel/Objective" "priceShare" "D" (.double 0)) :
    MetFree l (⟨"com/example/bidkeel/bidkeel/Objective", "breakEvenPrice", "(D)D"⟩ : MethodName) (head1 (Jvm.Cond.code (⟨"com/example/bidkeel/bidkeel/Objective", "breakEvenPrice", "(D)D"⟩ : MethodName) prog_48_method_8_code 3 (some .double) :: ws) ({ frames := 0, cells := 0, slots := 0, locals := 0 } : Room)) (fun a U => a = #[(.ref a1), (.double d1)] ∧ Z.Warmed39 U.vm ∧ U.heap = h0) (fun _ _ _ _ _ => True) (fun _ U o U' => ∃ v L, o = .returned v ∧ QR Z a1 d1 h0 n0 v U'.heap L ∧ FrameEnd U o U' L ({ frames := 0, cells := 0, slots := 0, locals := 0 } : Room).cells ({ frames := 0, cells := 0, slots := 0, locals := 0 } : Room).slots) := by
  refine MetFree.of_bodySF (plainFor_of_name own_f7) hisR ?_
  intro p e s m args below meth c s₁ Bd hml0 hP hK
  obtain ⟨rfl, hZ, hh⟩ := hP
  have hx := Bd.exec
  have hby := Bd.bytes
  have hml : c.maxLocals = 3 := hml0
  have hown : s.vm.findClass "com/example/bidkeel/bidkeel/Objective" = some m.cls := findClass_of_methodNamed Bd.named
  have hnm := (name_of_methodNamed Bd.named Bd.method).1
  have X0 : Stand p l e ({ frames := 0, cells := 0, slots := 0, locals := 0 } : Room) s m #[(.ref a1), (.double d1)] below meth c s₁ [] 0 0 := Stand.of_body Bd
  have e0 : s₁.heap = h0 := by rw [← hh, Bd.state]; rfl
  have N0 := Fr.nil n0
  refine Go.start (own_ef_R m a1 d1) ?_
  show Go p e below _ s₁ (mkF m 0 #[.val (.ref a1), .val (.double d1), .second] [])
  refine Go.step (fun _ k => XS.aloadN X0.here hx rfl (hb hby own_f0) rfl rfl k) ?_
  show Go p e below _ s₁ (mkF m 1 #[.val (.ref a1), .val (.double d1), .second] [(.ref a1)])
  obtain ⟨T1, X1, e1, st1⟩ := getF X0 hx hZ hown (host := "") (Or.inl (hw _ (List.mem_of_getElem? (i := 9) rfl))) Via.refl e0 F_priceShare_a1 (g := (mkF m 1 #[.val (.ref a1), .val (.double d1), .second] [(.ref a1)])) rfl rfl (hb hby own_f1)
  refine Go.step st1 ?_
  show Go p e below _ T1 (mkF m 4 #[.val (.ref a1), .val (.double d1), .second] [(.double 0)])
  refine Go.step (fun _ k => XS.dconst0 X1.here hx rfl (hb hby own_f2) rfl k) ?_
  show Go p e below _ T1 (mkF m 5 #[.val (.ref a1), .val (.double d1), .second] [(.double FP.dconst0), (.double 0)])
  refine Go.step (fun _ k => XS.dcmpS X1.here hx rfl (hb hby own_f3) rfl rfl k) ?_
  show Go p e below _ T1 (mkF m 6 #[.val (.ref a1), .val (.double d1), .second] [(.int (cmpValue (FP.dcmp 0 FP.dconst0) .l))])
  refine Go.step (fun _ k => XS.ifNo X1.here hx rfl (hb hby own_f4) rfl ((if0 _ _).trans (teq (by decide +kernel)).2) k) ?_
  show Go p e below _ T1 (mkF m 9 #[.val (.ref a1), .val (.double d1), .second] [])
  refine Go.step (X1.ldc2DoubleC hx hown (mvT hZ (hw _ (List.mem_of_getElem? (i := 11) rfl))) (g := (mkF m 9 #[.val (.ref a1), .val (.double d1), .second] [])) rfl (hb hby own_f5)) ?_
  show Go p e below _ T1 (mkF m 12 #[.val (.ref a1), .val (.double d1), .second] [(.double (9218868437227405312 : UInt64))])
  obtain ⟨fs, hr, hrun, hended, hW, hsame⟩ := X1.leave (v := some (.double (9218868437227405312 : UInt64))) (fun h => by rw [Bd.returns] at h; cases h)
  refine Go.fin (own_retD X1 hx Bd.returns (hb hby own_f6) hr) hrun hended ?_
  refine ⟨_, _, rfl, ?_, ⟨_, rfl⟩, hW, hsame.mono (by decide) (by decide)⟩
  show QR Z a1 d1 h0 n0 _ T1.heap _
  rw [e1]
  exact ⟨rfl, N0, rfl⟩
theorem own_f8 : decode prog_48_method_8_code 13 = .ok (.dload_n 1, 1) := by decide +kernel
theorem own_f9 : decode prog_48_method_8_code 14 = .ok (.aload_n 0, 1) := by decide +kernel
theorem own_f10 : decode prog_48_method_8_code 15 = .ok (.getfield 29, 3) := by decide +kernel
theorem own_f11 : decode prog_48_method_8_code 18 = .ok (.ddiv, 1) := by decide +kernel
theorem own_f12 : decode prog_48_method_8_code 19 = .ok (.dreturn, 1) := by decide +kernel
theorem own_ef_P (m : MethodId) (a1 : Addr) (d1 : UInt64) : entryFrame m #[(.ref a1), (.double d1)] 3 = mkF m 0 #[.val (.ref a1), .val (.double d1), .second] [] := by first | (simp [entryFrame, mkF, argsToLocals, Value.category]; done) | rfl
def QP (Z : State) (a1 : Addr) (d1 : UInt64) (h0 : Heap) (n0 : Nat) (v : Option Value) (h : Heap) (L : List Loc) : Prop := v = some (.double d1) ∧ Fr n0 L ∧ h = h0
set_option maxRecDepth 65536 in
set_option maxHeartbeats 40000000 in
theorem rmP (l : Launch) (Z : State) (a0 : Array Value) (hw : ∀ d ∈ tables_1, d.before a0 Z = true) (ws : List Jvm.Cond) (a1 : Addr) (d1 : UInt64) (h0 : Heap) (n0 : Nat) (Z0 : n0 ≤ h0.size) (F_priceShare_a1 : Fld Z h0 a1 "com/example/bidkeel/bidkeel/Objective" "priceShare" "D" (.double (4607182418800017408 : UInt64))) (hn1 : Jvm.Free.Fl.NoNaN64 d1) :
    MetFree l (⟨"com/example/bidkeel/bidkeel/Objective", "breakEvenPrice", "(D)D"⟩ : MethodName) (head1 (Jvm.Cond.code (⟨"com/example/bidkeel/bidkeel/Objective", "breakEvenPrice", "(D)D"⟩ : MethodName) prog_48_method_8_code 3 (some .double) :: ws) ({ frames := 0, cells := 0, slots := 0, locals := 0 } : Room)) (fun a U => a = #[(.ref a1), (.double d1)] ∧ Z.Warmed39 U.vm ∧ U.heap = h0) (fun _ _ _ _ _ => True) (fun _ U o U' => ∃ v L, o = .returned v ∧ QP Z a1 d1 h0 n0 v U'.heap L ∧ FrameEnd U o U' L ({ frames := 0, cells := 0, slots := 0, locals := 0 } : Room).cells ({ frames := 0, cells := 0, slots := 0, locals := 0 } : Room).slots) := by
  refine MetFree.of_bodySF (plainFor_of_name own_f7) hisR ?_
  intro p e s m args below meth c s₁ Bd hml0 hP hK
  obtain ⟨rfl, hZ, hh⟩ := hP
  have hx := Bd.exec
  have hby := Bd.bytes
  have hml : c.maxLocals = 3 := hml0
  have hown : s.vm.findClass "com/example/bidkeel/bidkeel/Objective" = some m.cls := findClass_of_methodNamed Bd.named
  have hnm := (name_of_methodNamed Bd.named Bd.method).1
  have X0 : Stand p l e ({ frames := 0, cells := 0, slots := 0, locals := 0 } : Room) s m #[(.ref a1), (.double d1)] below meth c s₁ [] 0 0 := Stand.of_body Bd
  have e0 : s₁.heap = h0 := by rw [← hh, Bd.state]; rfl
  have N0 := Fr.nil n0
  refine Go.start (own_ef_P m a1 d1) ?_
  show Go p e below _ s₁ (mkF m 0 #[.val (.ref a1), .val (.double d1), .second] [])
  refine Go.step (fun _ k => XS.aloadN X0.here hx rfl (hb hby own_f0) rfl rfl k) ?_
  show Go p e below _ s₁ (mkF m 1 #[.val (.ref a1), .val (.double d1), .second] [(.ref a1)])
  obtain ⟨T2, X2, e2, st2⟩ := getF X0 hx hZ hown (host := "") (Or.inl (hw _ (List.mem_of_getElem? (i := 9) rfl))) Via.refl e0 F_priceShare_a1 (g := (mkF m 1 #[.val (.ref a1), .val (.double d1), .second] [(.ref a1)])) rfl rfl (hb hby own_f1)
  refine Go.step st2 ?_
  show Go p e below _ T2 (mkF m 4 #[.val (.ref a1), .val (.double d1), .second] [(.double (4607182418800017408 : UInt64))])
  refine Go.step (fun _ k => XS.dconst0 X2.here hx rfl (hb hby own_f2) rfl k) ?_
  show Go p e below _ T2 (mkF m 5 #[.val (.ref a1), .val (.double d1), .second] [(.double FP.dconst0), (.double (4607182418800017408 : UInt64))])
  refine Go.step (fun _ k => XS.dcmpS X2.here hx rfl (hb hby own_f3) rfl rfl k) ?_
  show Go p e below _ T2 (mkF m 6 #[.val (.ref a1), .val (.double d1), .second] [(.int (cmpValue (FP.dcmp (4607182418800017408 : UInt64) FP.dconst0) .l))])
  refine Go.step (fun _ k => XS.ifYes X2.here hx rfl (pc0 := 6) (pc' := 13) rfl (hb hby own_f4) rfl ((if0 _ _).trans (feq (by decide +kernel)).2) (by decide) (by decide) k) ?_
  show Go p e below _ T2 (mkF m 13 #[.val (.ref a1), .val (.double d1), .second] [])
  refine Go.step (fun _ k => XS.dloadN X2.here hx rfl (hb hby own_f8) rfl k) ?_
  show Go p e below _ T2 (mkF m 14 #[.val (.ref a1), .val (.double d1), .second] [(.double d1)])
  refine Go.step (fun _ k => XS.aloadN X2.here hx rfl (hb hby own_f9) rfl rfl k) ?_
  show Go p e below _ T2 (mkF m 15 #[.val (.ref a1), .val (.double d1), .second] [(.ref a1), (.double d1)])
  obtain ⟨T3, X3, e3, st3⟩ := getF X2 hx hZ hown (host := "") (Or.inl (hw _ (List.mem_of_getElem? (i := 9) rfl))) Via.refl e2 F_priceShare_a1 (g := (mkF m 15 #[.val (.ref a1), .val (.double d1), .second] [(.ref a1), (.double d1)])) rfl rfl (hb hby own_f10)
  refine Go.step st3 ?_
  show Go p e below _ T3 (mkF m 18 #[.val (.ref a1), .val (.double d1), .second] [(.double (4607182418800017408 : UInt64)), (.double d1)])
  obtain ⟨dv, e_dv⟩ : ∃ z : UInt64, z = FP.ddiv d1 (4607182418800017408 : UInt64) := ⟨_, rfl⟩
  have ed : dv = d1 := by rw [e_dv]; exact own_one hn1
  refine Go.step (fun _ k => XS.ddivS X3.here hx rfl (hb hby own_f11) rfl (by rw [← e_dv, ed]; exact hn1) e_dv.symm k) ?_
  show Go p e below _ T3 (mkF m 19 #[.val (.ref a1), .val (.double d1), .second] [(.double dv)])
  rw [ed]
  show Go p e below _ T3 (mkF m 19 #[.val (.ref a1), .val (.double d1), .second] [(.double d1)])
  obtain ⟨fs, hr, hrun, hended, hW, hsame⟩ := X3.leave (v := some (.double d1)) (fun h => by rw [Bd.returns] at h; cases h)
  refine Go.fin (own_retD X3 hx Bd.returns (hb hby own_f12) hr) hrun hended ?_
  refine ⟨_, _, rfl, ?_, ⟨_, rfl⟩, hW, hsame.mono (by decide) (by decide)⟩
  show QP Z a1 d1 h0 n0 _ T3.heap _
  rw [e3]
  exact ⟨rfl, N0, rfl⟩
theorem own_f13 : parseMethodDescriptor "(D)D" = some ⟨[.double], some .double⟩ := by decide +kernel
theorem own_f14 : plainName "com/example/bidkeel/bidkeel/ObjectiveBreakEvenPricePinLaw" = true := by first | (simp [plainName, overriddenIn]; done) | decide +kernel
theorem own_ef_0 (m : MethodId) (i0 : Int32) (i1 : Int32) (i2 : Int32) : entryFrame m #[(.int i0), (.int i1), (.int i2)] maxLocals = mkF m 0 #[.val (.int i0), .val (.int i1), .val (.int i2), .unset, .unset, .unset, .unset, .unset, .unset] [] := by first | (simp [entryFrame, mkF, argsToLocals, Value.category, maxLocals]; done) | rfl
def Q0 (Z : State) (i0 : Int32) (i1 : Int32) (i2 : Int32) (aR aP : Addr) (h0 : Heap) (n0 : Nat) (v : Option Value) (h : Heap) (L : List Loc) : Prop := v = some (.int 1) ∧ Fr n0 L
set_option maxRecDepth 65536 in
set_option maxHeartbeats 40000000 in
theorem rm0 (l : Launch) (Z : State) (a0 : Array Value) (hw : ∀ d ∈ tables_1, d.before a0 Z = true) (ws : List Jvm.Cond) (i0 : Int32) (i1 : Int32) (i2 : Int32) (aR aP : Addr) (h0 : Heap) (n0 : Nat) (Z0 : n0 ≤ h0.size) (S_REVENUE : Sta Z h0 "com/example/bidkeel/bidkeel/Objective" "REVENUE" "Lcom/example/bidkeel/bidkeel/Objective;" (.ref aR)) (S_PROFIT : Sta Z h0 "com/example/bidkeel/bidkeel/Objective" "PROFIT" "Lcom/example/bidkeel/bidkeel/Objective;" (.ref aP)) (E_aR : Exa Z h0 aR "com/example/bidkeel/bidkeel/Objective") (E_aP : Exa Z h0 aP "com/example/bidkeel/bidkeel/Objective") (FR : Fld Z h0 aR "com/example/bidkeel/bidkeel/Objective" "priceShare" "D" (.double 0)) (FP_ : Fld Z h0 aP "com/example/bidkeel/bidkeel/Objective" "priceShare" "D" (.double (4607182418800017408 : UInt64))) :
    MetFree l x (head1 (Jvm.Cond.code x code maxLocals ret :: ws) room_1) (fun a U => a = #[(.int i0), (.int i1), (.int i2)] ∧ Z.Warmed39 U.vm ∧ U.heap = h0) (fun _ _ _ _ _ => True) (fun _ U o U' => ∃ v L, o = .returned v ∧ Q0 Z i0 i1 i2 aR aP h0 n0 v U'.heap L ∧ FrameEnd U o U' L 0 0) := by
  refine MetFree.of_bodySF (plainFor_of_name own_f14) hisR ?_
  intro p e s m args below meth c s₁ Bd hml0 hP hK
  obtain ⟨rfl, hZ, hh⟩ := hP
  have hx := Bd.exec
  have hby := Bd.bytes
  have hml : c.maxLocals = 9 := hml0
  have hown : s.vm.findClass "com/example/bidkeel/bidkeel/ObjectiveBreakEvenPricePinLaw" = some m.cls := findClass_of_methodNamed Bd.named
  have hnm := (name_of_methodNamed Bd.named Bd.method).1
  have X0 : Stand p l e room_1 s m #[(.int i0), (.int i1), (.int i2)] below meth c s₁ [] 0 0 := Stand.of_body Bd
  have e0 : s₁.heap = h0 := by rw [← hh, Bd.state]; rfl
  have N0 := Fr.nil n0
  refine Go.start (own_ef_0 m i0 i1 i2) ?_
  show Go p e below _ s₁ (mkF m 0 #[.val (.int i0), .val (.int i1), .val (.int i2), .unset, .unset, .unset, .unset, .unset, .unset] [])
  have Zn := Z0
  have K0 : Keep h0 h0 [] := Keep.refl h0 _
  refine Go.step (fun _ k => XS.iloadN X0.here hx rfl (hb hby at_0) rfl k) ?_
  show Go p e below _ s₁ (mkF m 1 #[.val (.int i0), .val (.int i1), .val (.int i2), .unset, .unset, .unset, .unset, .unset, .unset] [(.int i0)])
  refine Go.step (fun _ k => XS.iconst X0.here hx rfl (hb hby at_1) k) ?_
  show Go p e below _ s₁ (mkF m 2 #[.val (.int i0), .val (.int i1), .val (.int i2), .unset, .unset, .unset, .unset, .unset, .unset] [(.int (1 : Int32)), (.int i0)])
  refine Go.step (fun _ k => XS.iand X0.here hx rfl (hb hby at_2) rfl k) ?_
  show Go p e below _ s₁ (mkF m 3 #[.val (.int i0), .val (.int i1), .val (.int i2), .unset, .unset, .unset, .unset, .unset, .unset] [(.int (i0 &&& (1 : Int32)))])
  by_cases hc3_4 : (i0 &&& (1 : Int32)) = (0 : Int32)
  · show Go p e below _ s₁ (mkF m 3 #[.val (.int i0), .val (.int i1), .val (.int i2), .unset, .unset, .unset, .unset, .unset, .unset] [(.int (i0 &&& (1 : Int32)))])
    refine Go.step (fun _ k => XS.ifYes X0.here hx rfl (pc0 := 3) (pc' := 10) rfl (hb hby at_3) rfl ((if0 _ _).trans (teq hc3_4).1) (by decide) (by decide) k) ?_
    show Go p e below _ s₁ (mkF m 10 #[.val (.int i0), .val (.int i1), .val (.int i2), .unset, .unset, .unset, .unset, .unset, .unset] [])
    refine Go.step (fun _ k => XS.iconst X0.here hx rfl (hb hby at_10) k) ?_
    show Go p e below _ s₁ (mkF m 11 #[.val (.int i0), .val (.int i1), .val (.int i2), .unset, .unset, .unset, .unset, .unset, .unset] [(.int (0 : Int32))])
    refine Go.step (fun _ k => XS.istoreN X0.here hx rfl (hb hby at_11) rfl (l' := #[.val (.int i0), .val (.int i1), .val (.int i2), .val (.int (0 : Int32)), .unset, .unset, .unset, .unset, .unset]) rfl k) ?_
    show Go p e below _ s₁ (mkF m 12 #[.val (.int i0), .val (.int i1), .val (.int i2), .val (.int (0 : Int32)), .unset, .unset, .unset, .unset, .unset] [])
    refine Go.step (fun _ k => XS.iloadN X0.here hx rfl (hb hby at_12) rfl k) ?_
    show Go p e below _ s₁ (mkF m 13 #[.val (.int i0), .val (.int i1), .val (.int i2), .val (.int (0 : Int32)), .unset, .unset, .unset, .unset, .unset] [(.int (0 : Int32))])
    refine Go.step (fun _ k => XS.ifYes X0.here hx rfl (pc0 := 13) (pc' := 22) rfl (hb hby at_13) rfl ((if0 _ _).trans (teq rfl).1) (by decide) (by decide) k) ?_
    show Go p e below _ s₁ (mkF m 22 #[.val (.int i0), .val (.int i1), .val (.int i2), .val (.int (0 : Int32)), .unset, .unset, .unset, .unset, .unset] [])
    obtain ⟨T5, X5, e5, st5⟩ := getS2 X0 hx hZ hown (host := "") (Or.inl (hw _ (List.mem_of_getElem? (i := 0) rfl))) Via.refl e0 S_REVENUE (g := (mkF m 22 #[.val (.int i0), .val (.int i1), .val (.int i2), .val (.int (0 : Int32)), .unset, .unset, .unset, .unset, .unset] [])) rfl (hb hby at_22)
    refine Go.step st5 ?_
    show Go p e below _ T5 (mkF m 25 #[.val (.int i0), .val (.int i1), .val (.int i2), .val (.int (0 : Int32)), .unset, .unset, .unset, .unset, .unset] [(.ref aR)])
    refine Go.step (fun _ k => XS.astore X5.here hx rfl (hb hby at_25) rfl rfl (l' := #[.val (.int i0), .val (.int i1), .val (.int i2), .val (.int (0 : Int32)), .val (.ref aR), .unset, .unset, .unset, .unset]) rfl k) ?_
    show Go p e below _ T5 (mkF m 27 #[.val (.int i0), .val (.int i1), .val (.int i2), .val (.int (0 : Int32)), .val (.ref aR), .unset, .unset, .unset, .unset] [])
    refine Go.step (fun _ k => XS.iloadN X5.here hx rfl (hb hby at_27) rfl k) ?_
    show Go p e below _ T5 (mkF m 28 #[.val (.int i0), .val (.int i1), .val (.int i2), .val (.int (0 : Int32)), .val (.ref aR), .unset, .unset, .unset, .unset] [(.int i1)])
    refine Go.step (X5.ldcInt hx hown (mvT hZ (hw _ (List.mem_of_getElem? (i := 3) rfl))) (g := (mkF m 28 #[.val (.int i0), .val (.int i1), .val (.int i2), .val (.int (0 : Int32)), .val (.ref aR), .unset, .unset, .unset, .unset] [(.int i1)])) rfl (hb hby at_28)) ?_
    show Go p e below _ T5 (mkF m 30 #[.val (.int i0), .val (.int i1), .val (.int i2), .val (.int (0 : Int32)), .val (.ref aR), .unset, .unset, .unset, .unset] [(.int (2147483647 : Int32)), (.int i1)])
    refine Go.step (fun _ k => XS.iand X5.here hx rfl (hb hby at_30) rfl k) ?_
    show Go p e below _ T5 (mkF m 31 #[.val (.int i0), .val (.int i1), .val (.int i2), .val (.int (0 : Int32)), .val (.ref aR), .unset, .unset, .unset, .unset] [(.int (i1 &&& (2147483647 : Int32)))])
    refine Go.step (fun _ k => XS.i2dS X5.here hx rfl (hb hby at_31) rfl rfl k) ?_
    show Go p e below _ T5 (mkF m 32 #[.val (.int i0), .val (.int i1), .val (.int i2), .val (.int (0 : Int32)), .val (.ref aR), .unset, .unset, .unset, .unset] [(.double (FP.i2d (i1 &&& (2147483647 : Int32))))])
    refine Go.step (fun _ k => XS.iconst X5.here hx rfl (hb hby at_32) k) ?_
    show Go p e below _ T5 (mkF m 33 #[.val (.int i0), .val (.int i1), .val (.int i2), .val (.int (0 : Int32)), .val (.ref aR), .unset, .unset, .unset, .unset] [(.int (1 : Int32)), (.double (FP.i2d (i1 &&& (2147483647 : Int32))))])
    refine Go.step (fun _ k => XS.iloadN X5.here hx rfl (hb hby at_33) rfl k) ?_
    show Go p e below _ T5 (mkF m 34 #[.val (.int i0), .val (.int i1), .val (.int i2), .val (.int (0 : Int32)), .val (.ref aR), .unset, .unset, .unset, .unset] [(.int i2), (.int (1 : Int32)), (.double (FP.i2d (i1 &&& (2147483647 : Int32))))])
    refine Go.step (fun _ k => XS.bipush X5.here hx rfl (hb hby at_34) k) ?_
    show Go p e below _ T5 (mkF m 36 #[.val (.int i0), .val (.int i1), .val (.int i2), .val (.int (0 : Int32)), .val (.ref aR), .unset, .unset, .unset, .unset] [(.int (15 : Int32)), (.int i2), (.int (1 : Int32)), (.double (FP.i2d (i1 &&& (2147483647 : Int32))))])
    refine Go.step (fun _ k => XS.iand X5.here hx rfl (hb hby at_36) rfl k) ?_
    show Go p e below _ T5 (mkF m 37 #[.val (.int i0), .val (.int i1), .val (.int i2), .val (.int (0 : Int32)), .val (.ref aR), .unset, .unset, .unset, .unset] [(.int (i2 &&& (15 : Int32))), (.int (1 : Int32)), (.double (FP.i2d (i1 &&& (2147483647 : Int32))))])
    refine Go.step (fun _ k => XS.ishl X5.here hx rfl (hb hby at_37) rfl k) ?_
    show Go p e below _ T5 (mkF m 38 #[.val (.int i0), .val (.int i1), .val (.int i2), .val (.int (0 : Int32)), .val (.ref aR), .unset, .unset, .unset, .unset] [(.int ((1 : Int32) <<< ((i2 &&& (15 : Int32)) &&& 31))), (.double (FP.i2d (i1 &&& (2147483647 : Int32))))])
    refine Go.step (fun _ k => XS.i2dS X5.here hx rfl (hb hby at_38) rfl rfl k) ?_
    show Go p e below _ T5 (mkF m 39 #[.val (.int i0), .val (.int i1), .val (.int i2), .val (.int (0 : Int32)), .val (.ref aR), .unset, .unset, .unset, .unset] [(.double (FP.i2d ((1 : Int32) <<< ((i2 &&& (15 : Int32)) &&& 31)))), (.double (FP.i2d (i1 &&& (2147483647 : Int32))))])
    obtain ⟨vv, e_vv⟩ : ∃ z : UInt64, z = FP.ddiv (FP.i2d (i1 &&& (2147483647 : Int32))) (FP.i2d ((1 : Int32) <<< ((i2 &&& (15 : Int32)) &&& 31))) := ⟨_, rfl⟩
    have hnn : Jvm.Free.Fl.NoNaN64 vv := by rw [e_vv]; exact own_nnv _ _ (own_b15 _)
    refine Go.step (fun _ k => XS.ddivS X5.here hx rfl (hb hby at_39) rfl (by rw [← e_vv]; exact hnn) e_vv.symm k) ?_
    show Go p e below _ T5 (mkF m 40 #[.val (.int i0), .val (.int i1), .val (.int i2), .val (.int (0 : Int32)), .val (.ref aR), .unset, .unset, .unset, .unset] [(.double vv)])
    refine Go.step (fun _ k => XS.dstore X5.here hx rfl (hb hby at_40) rfl (l' := #[.val (.int i0), .val (.int i1), .val (.int i2), .val (.int (0 : Int32)), .val (.ref aR), .val (.double vv), .second, .unset, .unset]) rfl k) ?_
    show Go p e below _ T5 (mkF m 42 #[.val (.int i0), .val (.int i1), .val (.int i2), .val (.int (0 : Int32)), .val (.ref aR), .val (.double vv), .second, .unset, .unset] [])
    refine Go.step (fun _ k => XS.aload X5.here hx rfl (hb hby at_42) rfl rfl k) ?_
    show Go p e below _ T5 (mkF m 44 #[.val (.int i0), .val (.int i1), .val (.int i2), .val (.int (0 : Int32)), .val (.ref aR), .val (.double vv), .second, .unset, .unset] [(.ref aR)])
    refine Go.step (fun _ k => XS.dload X5.here hx rfl (hb hby at_44) rfl k) ?_
    show Go p e below _ T5 (mkF m 46 #[.val (.int i0), .val (.int i1), .val (.int i2), .val (.int (0 : Int32)), .val (.ref aR), .val (.double vv), .second, .unset, .unset] [(.double vv), (.ref aR)])
    obtain ⟨cq6, kq6, q6a, q6b, q6c⟩ := isOf hZ e5 E_aR
    obtain ⟨_, _, ⟨T6, L6, k6, n6⟩, -, X6, ⟨Lc6, hQ6, l6, y6, z6⟩, st6⟩ := X5.virtualBack hx (y := (⟨"com/example/bidkeel/bidkeel/Objective", "breakEvenPrice", "(D)D"⟩ : MethodName)) (z := (⟨"com/example/bidkeel/bidkeel/Objective", "breakEvenPrice", "(D)D"⟩ : MethodName)) hown (mvT hZ (hw _ (List.mem_of_getElem? (i := 4) rfl))) (mvT hZ (hw _ (List.mem_of_getElem? (i := 5) rfl))) (notFace_of_selects (args := #[]) (mvT hZ (hw _ (List.mem_of_getElem? (i := 7) rfl)))) (mvT hZ (hw _ (List.mem_of_getElem? (i := 7) rfl))) (mvT hZ (hw _ (List.mem_of_getElem? (i := 6) rfl))) (by decide) (backOf (W := 0) (rmR l Z a0 hw [] aR vv h0 n0 Zn FR) hZ (hw _ (List.mem_of_getElem? (i := 8) rfl)) (hw _ (List.mem_of_getElem? (i := 1) rfl)) (by decide) (by decide)) q6a q6c (g := (mkF m 46 #[.val (.int i0), .val (.int i1), .val (.int i2), .val (.int (0 : Int32)), .val (.ref aR), .val (.double vv), .second, .unset, .unset] [(.double vv), (.ref aR)])) rfl (by rw [hml]; rfl) (Steps.refl _) (argsL := [(.double vv)]) (rest := []) (lenOf own_f13 rfl) rfl (by show 2 * 0 + _ ≤ _; exact Nat.le_of_eq rfl) (hb hby at_46) (fun _ _ => ⟨rfl, e5, (by dsimp only [Pt.cells, Pt.slots]; decide), (by dsimp only [Pt.cells, Pt.slots]; decide)⟩)
    dsimp only [Pt.U, Pt.locs, Pt.cells, Pt.slots] at X6 l6 y6 z6 st6 hQ6
    subst l6 y6 z6
    obtain ⟨rfl, N6q, e6⟩ := hQ6
    have N6 := Fr.app N0 N6q
    refine Go.step (fun _ k => st6.trans k) ?_
    show Go p e below _ T6 (mkF m 49 #[.val (.int i0), .val (.int i1), .val (.int i2), .val (.int (0 : Int32)), .val (.ref aR), .val (.double vv), .second, .unset, .unset] [(.double (9218868437227405312 : UInt64))])
    refine Go.step (fun _ k => XS.dstore X6.here hx rfl (hb hby at_49) rfl (l' := #[.val (.int i0), .val (.int i1), .val (.int i2), .val (.int (0 : Int32)), .val (.ref aR), .val (.double vv), .second, .val (.double (9218868437227405312 : UInt64)), .second]) rfl k) ?_
    show Go p e below _ T6 (mkF m 51 #[.val (.int i0), .val (.int i1), .val (.int i2), .val (.int (0 : Int32)), .val (.ref aR), .val (.double vv), .second, .val (.double (9218868437227405312 : UInt64)), .second] [])
    refine Go.step (fun _ k => XS.iloadN X6.here hx rfl (hb hby at_51) rfl k) ?_
    show Go p e below _ T6 (mkF m 52 #[.val (.int i0), .val (.int i1), .val (.int i2), .val (.int (0 : Int32)), .val (.ref aR), .val (.double vv), .second, .val (.double (9218868437227405312 : UInt64)), .second] [(.int (0 : Int32))])
    refine Go.step (fun _ k => XS.ifYes X6.here hx rfl (pc0 := 52) (pc' := 69) rfl (hb hby at_52) rfl ((if0 _ _).trans (teq rfl).1) (by decide) (by decide) k) ?_
    show Go p e below _ T6 (mkF m 69 #[.val (.int i0), .val (.int i1), .val (.int i2), .val (.int (0 : Int32)), .val (.ref aR), .val (.double vv), .second, .val (.double (9218868437227405312 : UInt64)), .second] [])
    refine Go.step (fun _ k => XS.dload X6.here hx rfl (hb hby at_69) rfl k) ?_
    show Go p e below _ T6 (mkF m 71 #[.val (.int i0), .val (.int i1), .val (.int i2), .val (.int (0 : Int32)), .val (.ref aR), .val (.double vv), .second, .val (.double (9218868437227405312 : UInt64)), .second] [(.double (9218868437227405312 : UInt64))])
    refine Go.step (X6.ldc2DoubleC hx hown (mvT hZ (hw _ (List.mem_of_getElem? (i := 12) rfl))) (g := (mkF m 71 #[.val (.int i0), .val (.int i1), .val (.int i2), .val (.int (0 : Int32)), .val (.ref aR), .val (.double vv), .second, .val (.double (9218868437227405312 : UInt64)), .second] [(.double (9218868437227405312 : UInt64))])) rfl (hb hby at_71)) ?_
    show Go p e below _ T6 (mkF m 74 #[.val (.int i0), .val (.int i1), .val (.int i2), .val (.int (0 : Int32)), .val (.ref aR), .val (.double vv), .second, .val (.double (9218868437227405312 : UInt64)), .second] [(.double (9218868437227405312 : UInt64)), (.double (9218868437227405312 : UInt64))])
    refine Go.step (fun _ k => XS.dcmpS X6.here hx rfl (hb hby at_74) rfl rfl k) ?_
    show Go p e below _ T6 (mkF m 75 #[.val (.int i0), .val (.int i1), .val (.int i2), .val (.int (0 : Int32)), .val (.ref aR), .val (.double vv), .second, .val (.double (9218868437227405312 : UInt64)), .second] [(.int (cmpValue (FP.dcmp (9218868437227405312 : UInt64) (9218868437227405312 : UInt64)) .l))])
    refine Go.step (fun _ k => XS.ifNo X6.here hx rfl (hb hby at_75) rfl ((if0 _ _).trans (teq (by decide +kernel)).2) k) ?_
    show Go p e below _ T6 (mkF m 78 #[.val (.int i0), .val (.int i1), .val (.int i2), .val (.int (0 : Int32)), .val (.ref aR), .val (.double vv), .second, .val (.double (9218868437227405312 : UInt64)), .second] [])
    refine Go.step (fun _ k => XS.iconst X6.here hx rfl (hb hby at_78) k) ?_
    show Go p e below _ T6 (mkF m 79 #[.val (.int i0), .val (.int i1), .val (.int i2), .val (.int (0 : Int32)), .val (.ref aR), .val (.double vv), .second, .val (.double (9218868437227405312 : UInt64)), .second] [(.int (1 : Int32))])
    refine Go.step (fun _ k => XS.goto X6.here hx rfl (pc0 := 79) (pc' := 83) rfl (hb hby at_79) (by decide) (by decide) k) ?_
    show Go p e below _ T6 (mkF m 83 #[.val (.int i0), .val (.int i1), .val (.int i2), .val (.int (0 : Int32)), .val (.ref aR), .val (.double vv), .second, .val (.double (9218868437227405312 : UInt64)), .second] [(.int (1 : Int32))])
    obtain ⟨fs, hr, hrun, hended, hW, hsame⟩ := X6.leave (v := some (.int (1 : Int32))) (fun h => by rw [Bd.returns] at h; cases h)
    refine Go.fin (retN X6 hx (t := .boolean) Bd.returns (by simp) (hb hby at_83) hr) hrun hended ?_
    refine ⟨_, _, rfl, ?_, ⟨_, rfl⟩, hW, hsame.mono (by decide) (by decide)⟩
    show Q0 Z i0 i1 i2 aR aP h0 n0 _ T6.heap _
    rw [e6]
    exact ⟨rfl, N6⟩
  · show Go p e below _ s₁ (mkF m 3 #[.val (.int i0), .val (.int i1), .val (.int i2), .unset, .unset, .unset, .unset, .unset, .unset] [(.int (i0 &&& (1 : Int32)))])
    refine Go.step (fun _ k => XS.ifNo X0.here hx rfl (hb hby at_3) rfl ((if0 _ _).trans (feq hc3_4).1) k) ?_
    show Go p e below _ s₁ (mkF m 6 #[.val (.int i0), .val (.int i1), .val (.int i2), .unset, .unset, .unset, .unset, .unset, .unset] [])
    refine Go.step (fun _ k => XS.iconst X0.here hx rfl (hb hby at_6) k) ?_
    show Go p e below _ s₁ (mkF m 7 #[.val (.int i0), .val (.int i1), .val (.int i2), .unset, .unset, .unset, .unset, .unset, .unset] [(.int (1 : Int32))])
    refine Go.step (fun _ k => XS.goto X0.here hx rfl (pc0 := 7) (pc' := 11) rfl (hb hby at_7) (by decide) (by decide) k) ?_
    show Go p e below _ s₁ (mkF m 11 #[.val (.int i0), .val (.int i1), .val (.int i2), .unset, .unset, .unset, .unset, .unset, .unset] [(.int (1 : Int32))])
    refine Go.step (fun _ k => XS.istoreN X0.here hx rfl (hb hby at_11) rfl (l' := #[.val (.int i0), .val (.int i1), .val (.int i2), .val (.int (1 : Int32)), .unset, .unset, .unset, .unset, .unset]) rfl k) ?_
    show Go p e below _ s₁ (mkF m 12 #[.val (.int i0), .val (.int i1), .val (.int i2), .val (.int (1 : Int32)), .unset, .unset, .unset, .unset, .unset] [])
    refine Go.step (fun _ k => XS.iloadN X0.here hx rfl (hb hby at_12) rfl k) ?_
    show Go p e below _ s₁ (mkF m 13 #[.val (.int i0), .val (.int i1), .val (.int i2), .val (.int (1 : Int32)), .unset, .unset, .unset, .unset, .unset] [(.int (1 : Int32))])
    refine Go.step (fun _ k => XS.ifNo X0.here hx rfl (hb hby at_13) rfl ((if0 _ _).trans (feq (by decide)).1) k) ?_
    show Go p e below _ s₁ (mkF m 16 #[.val (.int i0), .val (.int i1), .val (.int i2), .val (.int (1 : Int32)), .unset, .unset, .unset, .unset, .unset] [])
    obtain ⟨T7, X7, e7, st7⟩ := getS2 X0 hx hZ hown (host := "") (Or.inl (hw _ (List.mem_of_getElem? (i := 13) rfl))) Via.refl e0 S_PROFIT (g := (mkF m 16 #[.val (.int i0), .val (.int i1), .val (.int i2), .val (.int (1 : Int32)), .unset, .unset, .unset, .unset, .unset] [])) rfl (hb hby at_16)
    refine Go.step st7 ?_
    show Go p e below _ T7 (mkF m 19 #[.val (.int i0), .val (.int i1), .val (.int i2), .val (.int (1 : Int32)), .unset, .unset, .unset, .unset, .unset] [(.ref aP)])
    refine Go.step (fun _ k => XS.goto X7.here hx rfl (pc0 := 19) (pc' := 25) rfl (hb hby at_19) (by decide) (by decide) k) ?_
    show Go p e below _ T7 (mkF m 25 #[.val (.int i0), .val (.int i1), .val (.int i2), .val (.int (1 : Int32)), .unset, .unset, .unset, .unset, .unset] [(.ref aP)])
    refine Go.step (fun _ k => XS.astore X7.here hx rfl (hb hby at_25) rfl rfl (l' := #[.val (.int i0), .val (.int i1), .val (.int i2), .val (.int (1 : Int32)), .val (.ref aP), .unset, .unset, .unset, .unset]) rfl k) ?_
    show Go p e below _ T7 (mkF m 27 #[.val (.int i0), .val (.int i1), .val (.int i2), .val (.int (1 : Int32)), .val (.ref aP), .unset, .unset, .unset, .unset] [])
    refine Go.step (fun _ k => XS.iloadN X7.here hx rfl (hb hby at_27) rfl k) ?_
    show Go p e below _ T7 (mkF m 28 #[.val (.int i0), .val (.int i1), .val (.int i2), .val (.int (1 : Int32)), .val (.ref aP), .unset, .unset, .unset, .unset] [(.int i1)])
    refine Go.step (X7.ldcInt hx hown (mvT hZ (hw _ (List.mem_of_getElem? (i := 3) rfl))) (g := (mkF m 28 #[.val (.int i0), .val (.int i1), .val (.int i2), .val (.int (1 : Int32)), .val (.ref aP), .unset, .unset, .unset, .unset] [(.int i1)])) rfl (hb hby at_28)) ?_
    show Go p e below _ T7 (mkF m 30 #[.val (.int i0), .val (.int i1), .val (.int i2), .val (.int (1 : Int32)), .val (.ref aP), .unset, .unset, .unset, .unset] [(.int (2147483647 : Int32)), (.int i1)])
    refine Go.step (fun _ k => XS.iand X7.here hx rfl (hb hby at_30) rfl k) ?_
    show Go p e below _ T7 (mkF m 31 #[.val (.int i0), .val (.int i1), .val (.int i2), .val (.int (1 : Int32)), .val (.ref aP), .unset, .unset, .unset, .unset] [(.int (i1 &&& (2147483647 : Int32)))])
    refine Go.step (fun _ k => XS.i2dS X7.here hx rfl (hb hby at_31) rfl rfl k) ?_
    show Go p e below _ T7 (mkF m 32 #[.val (.int i0), .val (.int i1), .val (.int i2), .val (.int (1 : Int32)), .val (.ref aP), .unset, .unset, .unset, .unset] [(.double (FP.i2d (i1 &&& (2147483647 : Int32))))])
    refine Go.step (fun _ k => XS.iconst X7.here hx rfl (hb hby at_32) k) ?_
    show Go p e below _ T7 (mkF m 33 #[.val (.int i0), .val (.int i1), .val (.int i2), .val (.int (1 : Int32)), .val (.ref aP), .unset, .unset, .unset, .unset] [(.int (1 : Int32)), (.double (FP.i2d (i1 &&& (2147483647 : Int32))))])
    refine Go.step (fun _ k => XS.iloadN X7.here hx rfl (hb hby at_33) rfl k) ?_
    show Go p e below _ T7 (mkF m 34 #[.val (.int i0), .val (.int i1), .val (.int i2), .val (.int (1 : Int32)), .val (.ref aP), .unset, .unset, .unset, .unset] [(.int i2), (.int (1 : Int32)), (.double (FP.i2d (i1 &&& (2147483647 : Int32))))])
    refine Go.step (fun _ k => XS.bipush X7.here hx rfl (hb hby at_34) k) ?_
    show Go p e below _ T7 (mkF m 36 #[.val (.int i0), .val (.int i1), .val (.int i2), .val (.int (1 : Int32)), .val (.ref aP), .unset, .unset, .unset, .unset] [(.int (15 : Int32)), (.int i2), (.int (1 : Int32)), (.double (FP.i2d (i1 &&& (2147483647 : Int32))))])
    refine Go.step (fun _ k => XS.iand X7.here hx rfl (hb hby at_36) rfl k) ?_
    show Go p e below _ T7 (mkF m 37 #[.val (.int i0), .val (.int i1), .val (.int i2), .val (.int (1 : Int32)), .val (.ref aP), .unset, .unset, .unset, .unset] [(.int (i2 &&& (15 : Int32))), (.int (1 : Int32)), (.double (FP.i2d (i1 &&& (2147483647 : Int32))))])
    refine Go.step (fun _ k => XS.ishl X7.here hx rfl (hb hby at_37) rfl k) ?_
    show Go p e below _ T7 (mkF m 38 #[.val (.int i0), .val (.int i1), .val (.int i2), .val (.int (1 : Int32)), .val (.ref aP), .unset, .unset, .unset, .unset] [(.int ((1 : Int32) <<< ((i2 &&& (15 : Int32)) &&& 31))), (.double (FP.i2d (i1 &&& (2147483647 : Int32))))])
    refine Go.step (fun _ k => XS.i2dS X7.here hx rfl (hb hby at_38) rfl rfl k) ?_
    show Go p e below _ T7 (mkF m 39 #[.val (.int i0), .val (.int i1), .val (.int i2), .val (.int (1 : Int32)), .val (.ref aP), .unset, .unset, .unset, .unset] [(.double (FP.i2d ((1 : Int32) <<< ((i2 &&& (15 : Int32)) &&& 31)))), (.double (FP.i2d (i1 &&& (2147483647 : Int32))))])
    obtain ⟨vv, e_vv⟩ : ∃ z : UInt64, z = FP.ddiv (FP.i2d (i1 &&& (2147483647 : Int32))) (FP.i2d ((1 : Int32) <<< ((i2 &&& (15 : Int32)) &&& 31))) := ⟨_, rfl⟩
    have hnn : Jvm.Free.Fl.NoNaN64 vv := by rw [e_vv]; exact own_nnv _ _ (own_b15 _)
    refine Go.step (fun _ k => XS.ddivS X7.here hx rfl (hb hby at_39) rfl (by rw [← e_vv]; exact hnn) e_vv.symm k) ?_
    show Go p e below _ T7 (mkF m 40 #[.val (.int i0), .val (.int i1), .val (.int i2), .val (.int (1 : Int32)), .val (.ref aP), .unset, .unset, .unset, .unset] [(.double vv)])
    refine Go.step (fun _ k => XS.dstore X7.here hx rfl (hb hby at_40) rfl (l' := #[.val (.int i0), .val (.int i1), .val (.int i2), .val (.int (1 : Int32)), .val (.ref aP), .val (.double vv), .second, .unset, .unset]) rfl k) ?_
    show Go p e below _ T7 (mkF m 42 #[.val (.int i0), .val (.int i1), .val (.int i2), .val (.int (1 : Int32)), .val (.ref aP), .val (.double vv), .second, .unset, .unset] [])
    refine Go.step (fun _ k => XS.aload X7.here hx rfl (hb hby at_42) rfl rfl k) ?_
    show Go p e below _ T7 (mkF m 44 #[.val (.int i0), .val (.int i1), .val (.int i2), .val (.int (1 : Int32)), .val (.ref aP), .val (.double vv), .second, .unset, .unset] [(.ref aP)])
    refine Go.step (fun _ k => XS.dload X7.here hx rfl (hb hby at_44) rfl k) ?_
    show Go p e below _ T7 (mkF m 46 #[.val (.int i0), .val (.int i1), .val (.int i2), .val (.int (1 : Int32)), .val (.ref aP), .val (.double vv), .second, .unset, .unset] [(.double vv), (.ref aP)])
    obtain ⟨cq8, kq8, q8a, q8b, q8c⟩ := isOf hZ e7 E_aP
    obtain ⟨_, _, ⟨T8, L8, k8, n8⟩, -, X8, ⟨Lc8, hQ8, l8, y8, z8⟩, st8⟩ := X7.virtualBack hx (y := (⟨"com/example/bidkeel/bidkeel/Objective", "breakEvenPrice", "(D)D"⟩ : MethodName)) (z := (⟨"com/example/bidkeel/bidkeel/Objective", "breakEvenPrice", "(D)D"⟩ : MethodName)) hown (mvT hZ (hw _ (List.mem_of_getElem? (i := 4) rfl))) (mvT hZ (hw _ (List.mem_of_getElem? (i := 5) rfl))) (notFace_of_selects (args := #[]) (mvT hZ (hw _ (List.mem_of_getElem? (i := 7) rfl)))) (mvT hZ (hw _ (List.mem_of_getElem? (i := 7) rfl))) (mvT hZ (hw _ (List.mem_of_getElem? (i := 6) rfl))) (by decide) (backOf (W := 0) (rmP l Z a0 hw [] aP vv h0 n0 Zn FP_ hnn) hZ (hw _ (List.mem_of_getElem? (i := 8) rfl)) (hw _ (List.mem_of_getElem? (i := 1) rfl)) (by decide) (by decide)) q8a q8c (g := (mkF m 46 #[.val (.int i0), .val (.int i1), .val (.int i2), .val (.int (1 : Int32)), .val (.ref aP), .val (.double vv), .second, .unset, .unset] [(.double vv), (.ref aP)])) rfl (by rw [hml]; rfl) (Steps.refl _) (argsL := [(.double vv)]) (rest := []) (lenOf own_f13 rfl) rfl (by show 2 * 0 + _ ≤ _; exact Nat.le_of_eq rfl) (hb hby at_46) (fun _ _ => ⟨rfl, e7, (by dsimp only [Pt.cells, Pt.slots]; decide), (by dsimp only [Pt.cells, Pt.slots]; decide)⟩)
    dsimp only [Pt.U, Pt.locs, Pt.cells, Pt.slots] at X8 l8 y8 z8 st8 hQ8
    subst l8 y8 z8
    obtain ⟨rfl, N8q, e8⟩ := hQ8
    have N8 := Fr.app N0 N8q
    refine Go.step (fun _ k => st8.trans k) ?_
    show Go p e below _ T8 (mkF m 49 #[.val (.int i0), .val (.int i1), .val (.int i2), .val (.int (1 : Int32)), .val (.ref aP), .val (.double vv), .second, .unset, .unset] [(.double vv)])
    refine Go.step (fun _ k => XS.dstore X8.here hx rfl (hb hby at_49) rfl (l' := #[.val (.int i0), .val (.int i1), .val (.int i2), .val (.int (1 : Int32)), .val (.ref aP), .val (.double vv), .second, .val (.double vv), .second]) rfl k) ?_
    show Go p e below _ T8 (mkF m 51 #[.val (.int i0), .val (.int i1), .val (.int i2), .val (.int (1 : Int32)), .val (.ref aP), .val (.double vv), .second, .val (.double vv), .second] [])
    refine Go.step (fun _ k => XS.iloadN X8.here hx rfl (hb hby at_51) rfl k) ?_
    show Go p e below _ T8 (mkF m 52 #[.val (.int i0), .val (.int i1), .val (.int i2), .val (.int (1 : Int32)), .val (.ref aP), .val (.double vv), .second, .val (.double vv), .second] [(.int (1 : Int32))])
    refine Go.step (fun _ k => XS.ifNo X8.here hx rfl (hb hby at_52) rfl ((if0 _ _).trans (feq (by decide)).1) k) ?_
    show Go p e below _ T8 (mkF m 55 #[.val (.int i0), .val (.int i1), .val (.int i2), .val (.int (1 : Int32)), .val (.ref aP), .val (.double vv), .second, .val (.double vv), .second] [])
    refine Go.step (fun _ k => XS.dload X8.here hx rfl (hb hby at_55) rfl k) ?_
    show Go p e below _ T8 (mkF m 57 #[.val (.int i0), .val (.int i1), .val (.int i2), .val (.int (1 : Int32)), .val (.ref aP), .val (.double vv), .second, .val (.double vv), .second] [(.double vv)])
    refine Go.step (fun _ k => XS.dload X8.here hx rfl (hb hby at_57) rfl k) ?_
    show Go p e below _ T8 (mkF m 59 #[.val (.int i0), .val (.int i1), .val (.int i2), .val (.int (1 : Int32)), .val (.ref aP), .val (.double vv), .second, .val (.double vv), .second] [(.double vv), (.double vv)])
    refine Go.step (fun _ k => XS.dcmpS X8.here hx rfl (hb hby at_59) rfl rfl k) ?_
    show Go p e below _ T8 (mkF m 60 #[.val (.int i0), .val (.int i1), .val (.int i2), .val (.int (1 : Int32)), .val (.ref aP), .val (.double vv), .second, .val (.double vv), .second] [(.int (cmpValue (FP.dcmp vv vv) .l))])
    refine Go.step (fun _ k => XS.ifNo X8.here hx rfl (hb hby at_60) rfl ((if0 _ _).trans (teq (dcmpV_self hnn .l)).2) k) ?_
    show Go p e below _ T8 (mkF m 63 #[.val (.int i0), .val (.int i1), .val (.int i2), .val (.int (1 : Int32)), .val (.ref aP), .val (.double vv), .second, .val (.double vv), .second] [])
    refine Go.step (fun _ k => XS.iconst X8.here hx rfl (hb hby at_63) k) ?_
    show Go p e below _ T8 (mkF m 64 #[.val (.int i0), .val (.int i1), .val (.int i2), .val (.int (1 : Int32)), .val (.ref aP), .val (.double vv), .second, .val (.double vv), .second] [(.int (1 : Int32))])
    refine Go.step (fun _ k => XS.goto X8.here hx rfl (pc0 := 64) (pc' := 68) rfl (hb hby at_64) (by decide) (by decide) k) ?_
    show Go p e below _ T8 (mkF m 68 #[.val (.int i0), .val (.int i1), .val (.int i2), .val (.int (1 : Int32)), .val (.ref aP), .val (.double vv), .second, .val (.double vv), .second] [(.int (1 : Int32))])
    obtain ⟨fs, hr, hrun, hended, hW, hsame⟩ := X8.leave (v := some (.int (1 : Int32))) (fun h => by rw [Bd.returns] at h; cases h)
    refine Go.fin (retN X8 hx (t := .boolean) Bd.returns (by simp) (hb hby at_68) hr) hrun hended ?_
    refine ⟨_, _, rfl, ?_, ⟨_, rfl⟩, hW, hsame.mono (by decide) (by decide)⟩
    show Q0 Z i0 i1 i2 aR aP h0 n0 _ T8.heap _
    rw [e8]
    exact ⟨rfl, N8⟩
set_option maxRecDepth 65536 in
set_option maxHeartbeats 40000000 in
theorem comes_1 {Post : Tables → Env → Array Value → State → Outcome → State → Prop} (hpost : ∀ tb e args s v u, (limb_1_1.after args s (.returned v) u = true ∧ limb_1_2.after args s (.returned v) u = true ∧ True) → FrameEnd s (.returned v) u (Jvm.fieldLocs frame_1_writes args s ++ Jvm.arrayLocs frame_1_arrays args s ++ Jvm.staticLocs frame_1_statics s) 0 0 → Post tb e args s (.returned v) u) :
    ArmFor flags0 classFile x code maxLocals ret World_1 tables_1 room_1 Calls_1 rest_1 Pre_1 Post := by
  intro l hfl _ _ p e ha hc hk s m args below hf hA hF happ hP
  obtain ⟨hcalls, hrest, hpre⟩ := hP
  obtain ⟨-, -, -, hnamed, -, -, -, hat⟩ := (Spec.applies_iff hf).mp happ
  obtain ⟨hg, hn⟩ := and_e (Cond.before_iff.mp (show (Jvm.Cond.and given_1 narrow_1).before args s = true from hpre))
  obtain ⟨hg1, hg2⟩ := and_e hg
  obtain ⟨hg3, hg4⟩ := and_e hg2
  obtain ⟨hg5, hg6⟩ := and_e hg4
  obtain ⟨w0, w1, w2, rfl⟩ : ∃ w0 w1 w2 : Value, args = #[w0, w1, w2] := by
    have hs : args.size = 3 := by simpa [Cond.value, given_1] using hg1
    obtain ⟨L⟩ := args
    match L, hs with
    | [w0, w1, w2], _ => exact ⟨w0, w1, w2, rfl⟩
  have hw := fun d (hd : d ∈ tables_1) => atoms_spec (ws := Jvm.Cond.code x code maxLocals ret :: tables_1) hat d (List.mem_cons_of_mem _ hd)
  have hfit : Fit s := fun {y c} hc i hi => by
    obtain ⟨ha, rfl⟩ := Array.getElem?_eq_some_iff.mp hc
    have q := List.all_eq_true.mp ((Array.all_eq_true_iff_forall_mem.mp hF) _ (Array.getElem_mem ha)) i (List.mem_range.mpr hi)
    simpa [Array.getElem?_eq_getElem hi] using q
  obtain ⟨i0, ei0⟩ := is_v hg3
  obtain rfl : w0 = (.int i0) := Option.some.inj ei0
  obtain ⟨i1, ei1⟩ := is_v hg5
  obtain rfl : w1 = (.int i1) := Option.some.inj ei1
  obtain ⟨i2, ei2⟩ := is_v hg6
  obtain rfl : w2 = (.int i2) := Option.some.inj ei2
  obtain ⟨n1, n23⟩ := and_e (show (narrow_1).value _ s none s [] = some true from hn)
  obtain ⟨n2, n33⟩ := and_e n23
  obtain ⟨n3, n4⟩ := and_e n33
  obtain ⟨aR, evR⟩ := exa_v n1
  obtain ⟨aP, evP⟩ := exa_v n3
  have ER := Exa.start evR n1
  have EP := Exa.start evP n3
  have FR := own_fldD evR n2
  have FP' := own_fldD evP n4
  have SR := Sta.start evR (Or.inr ⟨(hw _ (List.mem_of_getElem? (i := 1) rfl)), (hw _ (List.mem_of_getElem? (i := 2) rfl))⟩)
  have SP := Sta.start evP (Or.inr ⟨(hw _ (List.mem_of_getElem? (i := 1) rfl)), (hw _ (List.mem_of_getElem? (i := 14) rfl))⟩)
  obtain ⟨n, o, h1, h2, h3, _, L, rfl, ⟨rfl, N⟩, hq⟩ := rm0 l s _ hw tables_1 i0 i1 i2 aR aP s.heap s.heap.size (Nat.le_refl _) SR SP ER EP FR FP' p e ha hc hk s m _ below hf ((Spec.applies_iff_loose hf).mp happ).1 ⟨rfl, State.Warmed39.refl s, rfl⟩ trivial
  refine ⟨n, _, h1, h2, h3, hpost _ _ _ _ _ _ ⟨Cond.after_iff.mpr rfl, Cond.after_iff.mpr (eq_i res_at (Term.int_eval (1)) rfl), trivial⟩ ⟨hq.1, hq.2.1, (hq.2.2.sift fun y hy => Or.inr (N y hy)).mono (by decide) (by decide)⟩⟩
theorem main_1_1 : Claimed_1_1 := comes_1 fun _ _ _ _ _ _ h hF => ⟨h.1, hF⟩
theorem main_1_2 : Claimed_1_2 := comes_1 fun _ _ _ _ _ _ h hF => ⟨h.2.1, hF⟩
end Jvm.Pilot.@@N@@
namespace Jvm.Pilot.@@N@@
open Jvm Jvm.ClassFile Sem Op Lib Jvm.Free Jvm.Stand Jvm.Pilot.@@N@@.Jvm.D
/-! MADE BY PROGRAM (witnessworld.py) out of the Statement's table words and the real class files: 12 classes; the members and pool entries that the words name. The judged class is class 1, her method 1. -/
namespace start1
open Jvm.ClassFile
def u (s : String) : CpInfo := .utf8 (stringToUtf16 s)
/-- a pool by its gaps: so many unusable entries, then the entry; so many at the end -/
def gap : Nat → List CpInfo → List CpInfo
  | 0, r => r
  | n + 1, r => .unusable :: gap n r
def poolList (es : List (Nat × CpInfo)) (last : Nat) : List CpInfo := es.foldr (fun e r => gap e.1 (e.2 :: r)) (gap last [])
def pool (es : List (Nat × CpInfo)) (last : Nat) : Array CpInfo := ⟨poolList es last⟩
def fileOf (pool : Array CpInfo) (this : Nat) (attrs : Array Attribute := #[]) (ms : Array MethodInfo := #[]) (fl : Nat := 33) (sup : Nat := 0) (ifs : Array Nat := #[]) (fds : Array FieldInfo := #[]) : ClassFile where
  minorVersion := 0
  majorVersion := 65
  constantPool := pool
  accessFlags := fl
  thisClass := this
  superClass := sup
  interfaces := ifs
  fields := fds
  methods := ms
  attributes := attrs
def plain (name : String) (sup : Option ClassId) : Class where
  name := name
  kind := .ordinary
  loader := none
  accessFlags := 33
  super := sup
  interfaces := #[]
  cf := none
  fields := #[]
  methods := #[]
  instanceTypes := #[]
  staticTypes := #[]
  resolved := #[]
  callSites := []
  init := .initialized
  statics := none
  mirror := none

def pool0 : Array CpInfo := pool [(5, u "<init>"), (0, u "()V"), (1, .class_ 10), (1, u "java/lang/Object")] 113

def k0m0 : Method := { name := "<init>", desc := "()V", sig := { parameters := [], returnType := none }, accessFlags := 1, code := none }
/-- java/lang/Object -/
def k0 : Class := { plain "java/lang/Object" none with
  accessFlags := 33
  interfaces := #[]
  cf := some (fileOf pool0 8 #[] #[{ accessFlags := 1, nameIndex := 5, descriptorIndex := 6, attributes := #[] }] 33 0 #[] #[])
  fields := #[]
  methods := #[k0m0]
  instanceTypes := #[]
  staticTypes := #[]
  resolved := Array.replicate 124 none
  statics := none }

def pool1 : Array CpInfo := pool [(2, .class_ 4), (1, u "java/lang/Object"), (0, u "<init>"), (0, u "()V"), (0, .fieldref 8 9), (0, .class_ 10), (0, .nameAndType 11 12), (0, u "com/example/bidkeel/bidkeel/Objective"), (0, u "PROFIT"), (0, u "Lcom/example/bidkeel/bidkeel/Objective;"), (0, .fieldref 8 14), (0, .nameAndType 15 12), (0, u "REVENUE"), (0, .integer 2147483647), (0, .methodref 8 18), (0, .nameAndType 19 20), (0, u "breakEvenPrice"), (0, u "(D)D"), (0, .double 9218868437227405312), (1, .class_ 24), (0, u "com/example/bidkeel/bidkeel/ObjectiveBreakEvenPricePinLaw"), (2, u "law"), (0, u "(III)Z")] 3

def k1m0 : Method := { name := "<init>", desc := "()V", sig := { parameters := [], returnType := none }, accessFlags := 1, code := none }
def k1c1 : Code := { maxStack := 5, maxLocals := 9, code := code, exceptionTable := #[], attributes := #[] }
def k1m1 : Method := { name := "law", desc := "(III)Z", sig := { parameters := [.int, .int, .int], returnType := some .boolean }, accessFlags := 9, code := some k1c1 }
/-- com/example/bidkeel/bidkeel/ObjectiveBreakEvenPricePinLaw -/
def k1 : Class := { plain "com/example/bidkeel/bidkeel/ObjectiveBreakEvenPricePinLaw" (some 0) with
  accessFlags := 49
  interfaces := #[]
  cf := some (fileOf pool1 23 #[] #[{ accessFlags := 1, nameIndex := 5, descriptorIndex := 6, attributes := #[] }, { accessFlags := 9, nameIndex := 27, descriptorIndex := 28, attributes := #[] }] 49 2 #[] #[])
  fields := #[]
  methods := #[k1m0, k1m1]
  instanceTypes := #[]
  staticTypes := #[]
  resolved := Array.replicate 32 none
  statics := none }

def pool2 : Array CpInfo := pool [(1, .class_ 2), (0, u "java/lang/constant/Constable"), (0, .class_ 4), (0, u "java/lang/Object")] 6

/-- java/lang/constant/Constable -/
def k2 : Class := { plain "java/lang/constant/Constable" (some 0) with
  accessFlags := 1537
  interfaces := #[]
  cf := some (fileOf pool2 1 #[] #[] 1537 3 #[] #[])
  fields := #[]
  methods := #[]
  instanceTypes := #[]
  staticTypes := #[]
  resolved := Array.replicate 11 none
  statics := none }

def pool3 : Array CpInfo := pool [(1, .class_ 2), (0, u "java/lang/Comparable"), (0, .class_ 4), (0, u "java/lang/Object")] 7

/-- java/lang/Comparable -/
def k3 : Class := { plain "java/lang/Comparable" (some 0) with
  accessFlags := 1537
  interfaces := #[]
  cf := some (fileOf pool3 1 #[] #[] 1537 3 #[] #[])
  fields := #[]
  methods := #[]
  instanceTypes := #[]
  staticTypes := #[]
  resolved := Array.replicate 12 none
  statics := none }

def pool4 : Array CpInfo := pool [(1, .class_ 2), (0, u "java/io/Serializable"), (0, .class_ 4), (0, u "java/lang/Object")] 2

/-- java/io/Serializable -/
def k4 : Class := { plain "java/io/Serializable" (some 0) with
  accessFlags := 1537
  interfaces := #[]
  cf := some (fileOf pool4 1 #[] #[] 1537 3 #[] #[])
  fields := #[]
  methods := #[]
  instanceTypes := #[]
  staticTypes := #[]
  resolved := Array.replicate 7 none
  statics := none }

def pool5 : Array CpInfo := pool [(2, .class_ 4), (1, u "java/lang/Enum"), (0, u "name"), (0, u "Ljava/lang/String;"), (2, u "ordinal"), (0, u "I"), (1, .class_ 14), (1, u "java/lang/Object"), (4, u "hash"), (86, .class_ 108), (1, u "java/lang/Enum$EnumDesc"), (2, .class_ 112), (0, u "java/lang/constant/Constable"), (0, .class_ 114), (0, u "java/lang/Comparable"), (0, .class_ 116), (0, u "java/io/Serializable")] 87

/-- java/lang/Enum -/
def k5 : Class := { plain "java/lang/Enum" (some 0) with
  accessFlags := 1057
  interfaces := #[2, 3, 4]
  cf := some (fileOf pool5 2 #[.nestMembers #[106]] #[] 1057 12 #[111, 113, 115] #[{ accessFlags := 18, nameIndex := 5, descriptorIndex := 6, attributes := #[] }, { accessFlags := 18, nameIndex := 9, descriptorIndex := 10, attributes := #[] }, { accessFlags := 2, nameIndex := 19, descriptorIndex := 10, attributes := #[] }])
  fields := #[{ name := "name", type := (.object "java/lang/String"), accessFlags := 18, slot := 0, constantValue := 0 }, { name := "ordinal", type := .int, accessFlags := 18, slot := 1, constantValue := 0 }, { name := "hash", type := .int, accessFlags := 2, slot := 2, constantValue := 0 }]
  methods := #[]
  instanceTypes := #[(.object "java/lang/String"), .int, .int]
  staticTypes := #[]
  resolved := Array.replicate 204 none
  statics := none }

def pool6 : Array CpInfo := pool [(1, .class_ 2), (0, u "com/example/bidkeel/bidkeel/Objective"), (2, u "REVENUE"), (0, u "Lcom/example/bidkeel/bidkeel/Objective;"), (2, u "PROFIT"), (2, u "$VALUES"), (0, u "[Lcom/example/bidkeel/bidkeel/Objective;"), (6, .class_ 22), (1, u "java/lang/Enum"), (6, .fieldref 1 30), (0, .nameAndType 31 32), (0, u "priceShare"), (0, u "D"), (6, .double 9218868437227405312), (20, u "breakEvenPrice"), (0, u "(D)D")] 6

def k6c0 : Code := { maxStack := 4, maxLocals := 3, code := prog_48_method_8_code, exceptionTable := #[], attributes := #[] }
def k6m0 : Method := { name := "breakEvenPrice", desc := "(D)D", sig := { parameters := [.double], returnType := some .double }, accessFlags := 1, code := some k6c0 }
/-- com/example/bidkeel/bidkeel/Objective -/
def k6 : Class := { plain "com/example/bidkeel/bidkeel/Objective" (some 5) with
  accessFlags := 16433
  interfaces := #[]
  cf := some (fileOf pool6 1 #[] #[{ accessFlags := 1, nameIndex := 60, descriptorIndex := 61, attributes := #[] }] 16433 20 #[] #[{ accessFlags := 16409, nameIndex := 5, descriptorIndex := 6, attributes := #[] }, { accessFlags := 16409, nameIndex := 9, descriptorIndex := 6, attributes := #[] }, { accessFlags := 18, nameIndex := 31, descriptorIndex := 32, attributes := #[] }, { accessFlags := 4122, nameIndex := 12, descriptorIndex := 13, attributes := #[] }])
  fields := #[{ name := "REVENUE", type := (.object "com/example/bidkeel/bidkeel/Objective"), accessFlags := 16409, slot := 0, constantValue := 0 }, { name := "PROFIT", type := (.object "com/example/bidkeel/bidkeel/Objective"), accessFlags := 16409, slot := 1, constantValue := 0 }, { name := "priceShare", type := .double, accessFlags := 18, slot := 3, constantValue := 0 }, { name := "$VALUES", type := (.array (.object "com/example/bidkeel/bidkeel/Objective")), accessFlags := 4122, slot := 2, constantValue := 0 }]
  methods := #[k6m0]
  instanceTypes := #[(.object "java/lang/String"), .int, .int, .double]
  staticTypes := #[(.object "com/example/bidkeel/bidkeel/Objective"), (.object "com/example/bidkeel/bidkeel/Objective"), (.array (.object "com/example/bidkeel/bidkeel/Objective"))]
  resolved := Array.replicate 68 none
  statics := some 0 }

def pool7 : Array CpInfo := pool [(1, u "java/lang/Cloneable"), (0, .class_ 1), (0, u "java/lang/Object"), (0, .class_ 3)] 3

/-- java/lang/Cloneable -/
def k7 : Class := { plain "java/lang/Cloneable" (some 0) with
  accessFlags := 1537
  interfaces := #[]
  cf := some (fileOf pool7 2 #[] #[] 1537 4 #[] #[])
  fields := #[]
  methods := #[]
  instanceTypes := #[]
  staticTypes := #[]
  resolved := Array.replicate 8 none
  statics := none }

/-- the primitive byte -/
def k8 : Class := { plain "byte" none with kind := .primitive 'B', accessFlags := 0x411 }
/-- [B -/
def k9 : Class := { plain "[B" (some 0) with kind := .array 8 .byte, interfaces := #[7, 4], accessFlags := 1041 }

/-- the primitive int -/
def k10 : Class := { plain "int" none with kind := .primitive 'I', accessFlags := 0x411 }
/-- [I -/
def k11 : Class := { plain "[I" (some 0) with kind := .array 10 .int, interfaces := #[7, 4], accessFlags := 1041 }

def heap : Heap := #[{ cls := 6, slots := #[.ref 1, .ref 2, .null], vm := .statics 6 },
  { cls := 6, slots := #[.null, .int 0, .int 0, .double 0], vm := .none },
  { cls := 6, slots := #[.null, .int 1, .int 0, .double 4607182418800017408], vm := .none }]
def classes : Array Class := #[k0, k1, k2, k3, k4, k5, k6, k7, k8, k9, k10, k11]
def interned : List (Array UInt16 × Addr) := []
def slotsUsed : Nat := 11
def theMethod : MethodId := ⟨1, 1⟩
def args0 : Array Value := #[.int 5, .int 7, .int 3]
def aboutOver (below : List Frame) : State where
  vm := { classes := classes, interned := interned.toArray }
  heap := heap
  slotsUsed := slotsUsed
  threads := #[{ frames := .invoking theMethod args0 :: below }]
def below0 : List Frame := [.native { method := ⟨0, 0⟩, args := #[] }]
def about1 : State := aboutOver below0
def p0 : Program := .bare "" "" ""
def e0 : Env := launch0.env 0 0 0
theorem w_frames : about1.frames = Frame.invoking theMethod args0 :: below0 := rfl
set_option maxRecDepth 65536 in
theorem w_args : argsFit about1.vm theMethod args0 = true := by decide +kernel
set_option maxRecDepth 65536 in
theorem w_heap : heapFits about1 = true := by decide +kernel
set_option maxRecDepth 65536 in
theorem w_runnable : about1.curStatus? = some .runnable := by decide +kernel
set_option maxRecDepth 65536 in
theorem w_alone : about1.alone = true := by decide +kernel
set_option maxRecDepth 65536 in
theorem w_named : about1.methodNamed? x = some theMethod := by decide +kernel
set_option maxRecDepth 65536 in
theorem w_hears : about1.hears theMethod below0 = true := by decide +kernel
set_option maxRecDepth 65536 in
theorem w_ripe : about1.ripe theMethod args0 below0 = true := by decide +kernel
theorem w_running : about1.status = .running := rfl
set_option maxRecDepth 65536 in
theorem w_room : about1.hasRoom e0.platform room_1 = true :=
  launch0.hasRoom_least _ room_1 (by decide +kernel) (by decide +kernel) (by decide +kernel) (by decide +kernel) (by decide +kernel) (by decide +kernel)
theorem allAtoms_all (ts : List Jvm.Cond) (a : Array Jvm.Value) (st : Jvm.State) : (allAtoms ts).before a st = ts.all (fun c => c.before a st) := by
  induction ts with
  | nil => rfl
  | cons c t ih =>
    show (Jvm.Cond.and c (allAtoms t)).before a st = _
    rw [Jvm.Cond.before_and, ih, List.all_cons]
def words1 : List Jvm.Cond := Jvm.Cond.code x code maxLocals ret :: tables_1
/-- a 'code' word, met by the world's own term for the bytes: nothing is compared byte by byte -/
theorem code_word {y : MethodName} {bytes : ByteArray} {mx : Nat} {rt : Option FieldType} {a : Array Value} {s : State} {m : MethodId} {meth : Method} {c : Code} (h1 : s.methodNamed? y = some m) (h2 : s.vm.method? m = some meth) (h3 : meth.code = some c) (h4 : c.code = bytes)
    (h5 : (c.maxLocals == mx && c.exceptionTable.isEmpty && decide (c.maxStack ≤ mostOperands) && decide (meth.sig.returnType = rt) && !meth.locks && decide (parseMethodDescriptor y.desc = some meth.sig)) = true) : (Jvm.Cond.code y bytes mx rt).before a s = true := by
  simp only [Bool.and_eq_true, beq_iff_eq, Bool.not_eq_true', decide_eq_true_eq] at h5
  obtain ⟨⟨⟨⟨⟨g1, g2⟩, g3⟩, g4⟩, g5⟩, g6⟩ := h5
  simp [Cond.before, Cond.holds, Cond.value, h1, h2, h3, h4, g1, g2, g3, g4, g5, g6]
def isCode : Jvm.Cond → Bool
  | .code _ _ _ _ => true
  | _ => false
theorem all_split {L : List Jvm.Cond} {P : Jvm.Cond → Bool} (h1 : L.all (fun c => isCode c || P c) = true) (h2 : ∀ c ∈ L.filter isCode, P c = true) : L.all P = true := by
  refine List.all_eq_true.mpr fun c hc => ?_
  have h := List.all_eq_true.mp h1 c hc
  rcases Bool.eq_false_or_eq_true (isCode c) with hi | hi
  · exact h2 c (List.mem_filter.mpr ⟨hc, hi⟩)
  · simpa [hi] using h
set_option maxRecDepth 65536 in
theorem w_c0 : (Jvm.Cond.code x code maxLocals ret).before args0 about1 = true := code_word (m := ⟨1, 1⟩) (meth := k1m1) (c := k1c1) (by decide +kernel) rfl rfl rfl (by decide +kernel)
set_option maxRecDepth 65536 in
theorem w_c1 : (Jvm.Cond.code ({ cls := "com/example/bidkeel/bidkeel/Objective", name := "breakEvenPrice", desc := "(D)D" } : Jvm.MethodName) prog_48_method_8_code (3 : Nat) (Option.some Jvm.ClassFile.FieldType.double)).before args0 about1 = true := code_word (m := ⟨6, 0⟩) (meth := k6m0) (c := k6c0) (by decide +kernel) rfl rfl rfl (by decide +kernel)
def codes1 : List Jvm.Cond := [Jvm.Cond.code x code maxLocals ret, Jvm.Cond.code ({ cls := "com/example/bidkeel/bidkeel/Objective", name := "breakEvenPrice", desc := "(D)D" } : Jvm.MethodName) prog_48_method_8_code (3 : Nat) (Option.some Jvm.ClassFile.FieldType.double)]
set_option maxRecDepth 65536 in
theorem codes_eq : words1.filter isCode = codes1 := rfl
theorem w_codes : ∀ c ∈ words1.filter isCode, c.before args0 about1 = true := by
  rw [codes_eq]
  intro c hc
  simp only [codes1, List.mem_cons, List.not_mem_nil, or_false] at hc
  rcases hc with rfl | rfl
  · exact w_c0
  · exact w_c1
set_option maxRecDepth 65536 in
theorem w_t1 : words1.all (fun c => isCode c || c.before args0 about1) = true := by decide +kernel
theorem w_tables : (allAtoms (Jvm.Cond.code x code maxLocals ret :: tables_1)).before args0 about1 = true := by
  rw [allAtoms_all]
  show words1.all (fun c => c.before args0 about1) = true
  refine all_split ?_ w_codes
  rw [w_t1]
set_option maxRecDepth 65536 in
theorem w_case : (Jvm.Cond.and given_1 narrow_1).before args0 about1 = true := by decide +kernel
theorem w_applies : (headSpec (Jvm.Cond.code x code maxLocals ret :: tables_1) room_1).applies x e0.platform about1 = true :=
  (Spec.applies_iff w_frames).mpr ⟨w_running, w_runnable, w_alone, w_named, w_hears, w_ripe, w_room, w_tables⟩
theorem atStart : AtStart classFile x code maxLocals ret World_1 tables_1 room_1 Calls_1 rest_1 Pre_1 launch0 p0 e0 about1 theMethod args0 below0 :=
  ⟨lists_1, trivial, launch0.admits_env _ _ _, launch0.least_env, fairChoices_fair.cas, fairChoices_fair.clock, w_frames, w_args, w_heap, w_applies, trivial, trivial, w_case⟩
end start1
theorem witness_1 : WitnessClaimed_1 := ⟨start1.p0, start1.e0, start1.about1, start1.theMethod, start1.args0, start1.below0, start1.atStart⟩
end Jvm.Pilot.@@N@@
