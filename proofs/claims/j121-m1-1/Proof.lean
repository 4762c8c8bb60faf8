import JvmDerived
import JvmDerived.Pilot.@@N@@Statement
import JvmDerived.Pilot.@@N@@Code
set_option linter.unusedVariables false
set_option linter.unusedSimpArgs false
namespace Jvm.RoadKit
open Sem ClassFile Op Lib Jvm.Stand Jvm.Free Jvm.LawKit
/-- from the frame f over T the run ends as R says -/
def Go (p : Program) (e : Env) (below : List Frame) (R : State → Outcome → Prop) (T : State) (f : JFrame) : Prop := ∃ s₂ o, Steps p.tables e below (T.setTop f) s₂ ∧ s₂.status = .running ∧ Ended s₂ below o ∧ R s₂ o
section New
variable {p : Program} {l : Launch} {e : Env} {R : Room} {s : State} {m : MethodId} {args : Array Value} {below : List Frame} {meth : Method} {c : Code} {T T' : State} {locs : List Loc} {cells slots : Nat} {K : State → Outcome → Prop} {f f' : JFrame}
theorem Go.start (q : f = f') (k : Go p e below K T f') : ∃ s₂ o, Steps p.tables e below (T.setTop f) s₂ ∧ s₂.status = .running ∧ Ended s₂ below o ∧ K s₂ o := q ▸ k
theorem Go.step (h : ∀ t, Steps p.tables e below (T'.setTop f') t → Steps p.tables e below (T.setTop f) t) (k : Go p e below K T' f') : Go p e below K T f := by
  obtain ⟨s₂, o, h1, h2⟩ := k
  exact ⟨s₂, o, h _ h1, h2⟩
theorem Go.fin {S2 : State} {o : Outcome} (hs : Steps p.tables e below (T.setTop f) S2) (h1 : S2.status = .running) (h2 : Ended S2 below o) (h3 : K S2 o) : Go p e below K T f := ⟨_, _, hs, h1, h2, h3⟩
theorem retI (X : Stand p l e R s m args below meth c T locs cells slots) (hx : p.tables.exec = Jvm.exec) {pc : Nat} {Ls : Array Slot} {z : Int32} {rest : List Value} (hret : meth.sig.returnType = some .int) (hd : decode c.code pc = .ok (.ireturn, 1)) {fs : List Frame}
    (hl : ∀ (f : JFrame) (acts : List Action), f.method = m → f.locked = none → f.entered = [] → (doReturn e (T.setTop f) acts (some (.int z))).1 = T.setFrames fs) : Steps p.tables e below (T.setTop (mkF m pc Ls (.int z :: rest))) (T.setFrames fs) := by
  have hm' : T.vm.method? m = some meth := X.method'
  have hn : narrow .int (.int z) = .int z := rfl
  show Steps p.tables e below (T.setTop { method := m, pc := pc, locals := Ls, stack := _ :: rest, locked := none }) _
  jvm_step X.here [X.here.top, hx, hd, hm', hret, hn]
  first | (intro acts; rw [hl _ acts rfl rfl rfl]) | rw [hl _ _ rfl rfl rfl]
  exact Steps.refl _
theorem own_retA (X : Stand p l e R s m args below meth c T locs cells slots) (hx : p.tables.exec = Jvm.exec) {pc : Nat} {Ls : Array Slot} {z : Value} {t : FieldType} {rest : List Value} (hz : z.isRef = true) (hret : meth.sig.returnType = some t) (ht : t.isReference = true) (hd : decode c.code pc = .ok (.areturn, 1)) {fs : List Frame}
    (hl : ∀ (f : JFrame) (acts : List Action), f.method = m → f.locked = none → f.entered = [] → (doReturn e (T.setTop f) acts (some z)).1 = T.setFrames fs) : Steps p.tables e below (T.setTop (mkF m pc Ls (z :: rest))) (T.setFrames fs) := by
  have hm' : T.vm.method? m = some meth := X.method'
  show Steps p.tables e below (T.setTop { method := m, pc := pc, locals := Ls, stack := _ :: rest, locked := none }) _
  jvm_step X.here [X.here.top, hx, hd, hm', hret, hz, ht]
  first | (intro acts; rw [hl _ acts rfl rfl rfl]) | rw [hl _ _ rfl rfl rfl]
  exact Steps.refl _
theorem own_lenS {Z : State} {t : Term} {a : Addr} {c : Cell} {ty : FieldType} {n : Int32} (ev : t.eval args Z none [] Z = some (.ref a)) (A : Arr Z Z.heap a c ty) (h : (Cond.eq (.length t) (.int n)).value args Z none Z [] = some true) : c.slots.size < 2 ^ 31 ∧ c.slots.size.toInt32 = n := by
  have hA : Z.arrayAt? a = some c := Arr.fin (Vm.Alike.refl _) A
  by_cases hl : c.slots.size < 2 ^ 31
  · have e1 : (Term.length t).eval args Z none [] Z = some (.int c.slots.size.toInt32) := len_f ev hA hl
    refine ⟨hl, ?_⟩
    simpa [Cond.value, e1, Term.int_eval] using h
  · have e1 : (Term.length t).eval args Z none [] Z = none := by simp [Term.eval, ev, hA]; omega
    simp [Cond.value, e1] at h
theorem own_elS {Z : State} {t : Term} {a : Addr} {c : Cell} {ty : FieldType} {j n : Int32} (ev : t.eval args Z none [] Z = some (.ref a)) (A : Arr Z Z.heap a c ty) (h : (Cond.eq (.elem t (.int j)) (.int n)).value args Z none Z [] = some true) : c.slots[j.toNatClampNeg]? = some (.int n) := by
  obtain ⟨x, y, hx, hy, hk, -⟩ := cmp_v (Or.inl h)
  have q := (elem_in hx ev (Term.int_eval j) A.1).2
  rw [q]
  cases x <;> simp [Cond.value, hx, Term.int_eval] at h ⊢
  exact h
end New
end Jvm.RoadKit
namespace Jvm.Pilot.@@N@@
open Jvm Jvm.ClassFile Sem Op Lib Jvm.Free Jvm.Stand Jvm.LawKit Jvm.RoadKit Bundle Jvm.Pilot.@@N@@.Jvm.D
theorem own_f0 : decode prog_66_method_2_code 0 = .ok (.iload_n 0, 1) := by decide +kernel
theorem own_f1 : decode prog_66_method_2_code 1 = .ok (.iload_n 1, 1) := by decide +kernel
theorem own_f2 : decode prog_66_method_2_code 2 = .ok (.if_icmp .le 10, 3) := by decide +kernel
theorem own_f3 : decode prog_66_method_2_code 5 = .ok (.getstatic 7, 3) := by decide +kernel
theorem own_f4 : decode prog_66_method_2_code 8 = .ok (.astore_n 2, 1) := by decide +kernel
theorem own_f5 : decode prog_66_method_2_code 9 = .ok (.goto 30, 3) := by decide +kernel
theorem own_f6 : decode prog_66_method_2_code 39 = .ok (.aload_n 2, 1) := by decide +kernel
theorem own_f7 : decode prog_66_method_2_code 40 = .ok (.areturn, 1) := by decide +kernel
theorem own_f8 : plainName "com/example/seriate/seriate/engine/pattern/Counts" = true := by first | (simp [plainName, overriddenIn]; done) | decide +kernel
theorem own_ef_A (m : MethodId) (p1 : Int32) (p2 : Int32) : entryFrame m #[(.int p1), (.int p2)] 3 = mkF m 0 #[.val (.int p1), .val (.int p2), .unset] [] := by first | (simp [entryFrame, mkF, argsToLocals, Value.category]; done) | rfl
def QA (Z : State) (p1 : Int32) (p2 : Int32) (a1 : Addr) (h0 : Heap) (n0 : Nat) (v : Option Value) (h : Heap) (L : List Loc) : Prop := v = some (.ref a1) ∧ Fr n0 L ∧ h = h0
set_option maxRecDepth 65536 in
set_option maxHeartbeats 40000000 in
theorem rmA (l : Launch) (Z : State) (a0 : Array Value) (hw : ∀ d ∈ tables_1, d.before a0 Z = true) (ws : List Jvm.Cond) (p1 : Int32) (p2 : Int32) (a1 : Addr) (h0 : Heap) (n0 : Nat) (Z0 : n0 ≤ h0.size) (S_NONE : Sta Z h0 "com/example/seriate/seriate/engine/pattern/Counts" "NONE" "[I" (.ref a1)) (hlt : p2 < p1) :
    MetFree l (⟨"com/example/seriate/seriate/engine/pattern/Counts", "range", "(II)[I"⟩ : MethodName) (head1 (Jvm.Cond.code (⟨"com/example/seriate/seriate/engine/pattern/Counts", "range", "(II)[I"⟩ : MethodName) prog_66_method_2_code 3 (some (.array .int)) :: ws) ({ frames := 0, cells := 0, slots := 0, locals := 0 } : Room)) (fun a U => a = #[(.int p1), (.int p2)] ∧ Z.Warmed39 U.vm ∧ U.heap = h0) (fun _ _ _ _ _ => True) (fun _ U o U' => ∃ v L, o = .returned v ∧ QA Z p1 p2 a1 h0 n0 v U'.heap L ∧ FrameEnd U o U' L ({ frames := 0, cells := 0, slots := 0, locals := 0 } : Room).cells ({ frames := 0, cells := 0, slots := 0, locals := 0 } : Room).slots) := by
  refine MetFree.of_bodySF (plainFor_of_name own_f8) hisR ?_
  intro p e s m args below meth c s₁ Bd hml0 hP hK
  obtain ⟨rfl, hZ, hh⟩ := hP
  have hx := Bd.exec
  have hby := Bd.bytes
  have hml : c.maxLocals = 3 := hml0
  have hown : s.vm.findClass "com/example/seriate/seriate/engine/pattern/Counts" = some m.cls := findClass_of_methodNamed Bd.named
  have hnm := (name_of_methodNamed Bd.named Bd.method).1
  have X0 : Stand p l e ({ frames := 0, cells := 0, slots := 0, locals := 0 } : Room) s m #[(.int p1), (.int p2)] below meth c s₁ [] 0 0 := Stand.of_body Bd
  have e0 : s₁.heap = h0 := by rw [← hh, Bd.state]; rfl
  have N0 := Fr.nil n0
  refine Go.start (own_ef_A m p1 p2) ?_
  show Go p e below _ s₁ (mkF m 0 #[.val (.int p1), .val (.int p2), .unset] [])
  have Zn := Z0
  have K0 : Keep h0 h0 [] := Keep.refl h0 _
  refine Go.step (fun _ k => XS.iloadN X0.here hx rfl (hb hby own_f0) rfl k) ?_
  show Go p e below _ s₁ (mkF m 1 #[.val (.int p1), .val (.int p2), .unset] [(.int p1)])
  refine Go.step (fun _ k => XS.iloadN X0.here hx rfl (hb hby own_f1) rfl k) ?_
  show Go p e below _ s₁ (mkF m 2 #[.val (.int p1), .val (.int p2), .unset] [(.int p2), (.int p1)])
  refine Go.step (fun _ k => XS.icmpNo X0.here hx rfl (hb hby own_f2) rfl (tlt hlt).2.2.2 k) ?_
  show Go p e below _ s₁ (mkF m 5 #[.val (.int p1), .val (.int p2), .unset] [])
  obtain ⟨T1, X1, e1, st1⟩ := getS2 X0 hx hZ hown (host := "") (Or.inl (hw _ (List.mem_of_getElem? (i := 5) rfl))) Via.refl e0 S_NONE (g := (mkF m 5 #[.val (.int p1), .val (.int p2), .unset] [])) rfl (hb hby own_f3)
  refine Go.step st1 ?_
  show Go p e below _ T1 (mkF m 8 #[.val (.int p1), .val (.int p2), .unset] [(.ref a1)])
  refine Go.step (fun _ k => XS.astoreN X1.here hx rfl (hb hby own_f4) rfl rfl (l' := #[.val (.int p1), .val (.int p2), .val (.ref a1)]) rfl k) ?_
  show Go p e below _ T1 (mkF m 9 #[.val (.int p1), .val (.int p2), .val (.ref a1)] [])
  refine Go.step (fun _ k => XS.goto X1.here hx rfl (pc0 := 9) (pc' := 39) rfl (hb hby own_f5) (by decide) (by decide) k) ?_
  show Go p e below _ T1 (mkF m 39 #[.val (.int p1), .val (.int p2), .val (.ref a1)] [])
  refine Go.step (fun _ k => XS.aloadN X1.here hx rfl (hb hby own_f6) rfl rfl k) ?_
  show Go p e below _ T1 (mkF m 40 #[.val (.int p1), .val (.int p2), .val (.ref a1)] [(.ref a1)])
  obtain ⟨fs, hr, hrun, hended, hW, hsame⟩ := X1.leave (v := some (.ref a1)) (fun h => by rw [Bd.returns] at h; cases h)
  refine Go.fin (own_retA X1 hx rfl Bd.returns rfl (hb hby own_f7) hr) hrun hended ?_
  refine ⟨_, _, rfl, ?_, ⟨_, rfl⟩, hW, hsame.mono (by decide) (by decide)⟩
  show QA Z p1 p2 a1 h0 n0 _ T1.heap _
  rw [e1]
  exact ⟨rfl, N0, rfl⟩
theorem own_f9 : decode prog_66_method_2_code 12 = .ok (.iload_n 0, 1) := by decide +kernel
theorem own_f10 : decode prog_66_method_2_code 13 = .ok (.ifCond .ne 14, 3) := by decide +kernel
theorem own_f11 : decode prog_66_method_2_code 16 = .ok (.iload_n 1, 1) := by decide +kernel
theorem own_f12 : decode prog_66_method_2_code 17 = .ok (.ifCond .ne 10, 3) := by decide +kernel
theorem own_f13 : decode prog_66_method_2_code 20 = .ok (.getstatic 13, 3) := by decide +kernel
theorem own_f14 : decode prog_66_method_2_code 23 = .ok (.astore_n 2, 1) := by decide +kernel
theorem own_f15 : decode prog_66_method_2_code 24 = .ok (.goto 15, 3) := by decide +kernel
theorem own_ef_B (m : MethodId) (p1 : Int32) (p2 : Int32) : entryFrame m #[(.int p1), (.int p2)] 3 = mkF m 0 #[.val (.int p1), .val (.int p2), .unset] [] := by first | (simp [entryFrame, mkF, argsToLocals, Value.category]; done) | rfl
def QB (Z : State) (p1 : Int32) (p2 : Int32) (a1 : Addr) (h0 : Heap) (n0 : Nat) (v : Option Value) (h : Heap) (L : List Loc) : Prop := v = some (.ref a1) ∧ Fr n0 L ∧ h = h0
set_option maxRecDepth 65536 in
set_option maxHeartbeats 40000000 in
theorem rmB (l : Launch) (Z : State) (a0 : Array Value) (hw : ∀ d ∈ tables_1, d.before a0 Z = true) (ws : List Jvm.Cond) (p1 : Int32) (p2 : Int32) (a1 : Addr) (h0 : Heap) (n0 : Nat) (Z0 : n0 ≤ h0.size) (S_ZERO : Sta Z h0 "com/example/seriate/seriate/engine/pattern/Counts" "ZERO" "[I" (.ref a1)) (hlt : ¬ p2 < p1) (h1 : p1 = (0 : Int32)) (h2 : p2 = (0 : Int32)) :
    MetFree l (⟨"com/example/seriate/seriate/engine/pattern/Counts", "range", "(II)[I"⟩ : MethodName) (head1 (Jvm.Cond.code (⟨"com/example/seriate/seriate/engine/pattern/Counts", "range", "(II)[I"⟩ : MethodName) prog_66_method_2_code 3 (some (.array .int)) :: ws) ({ frames := 0, cells := 0, slots := 0, locals := 0 } : Room)) (fun a U => a = #[(.int p1), (.int p2)] ∧ Z.Warmed39 U.vm ∧ U.heap = h0) (fun _ _ _ _ _ => True) (fun _ U o U' => ∃ v L, o = .returned v ∧ QB Z p1 p2 a1 h0 n0 v U'.heap L ∧ FrameEnd U o U' L ({ frames := 0, cells := 0, slots := 0, locals := 0 } : Room).cells ({ frames := 0, cells := 0, slots := 0, locals := 0 } : Room).slots) := by
  refine MetFree.of_bodySF (plainFor_of_name own_f8) hisR ?_
  intro p e s m args below meth c s₁ Bd hml0 hP hK
  obtain ⟨rfl, hZ, hh⟩ := hP
  have hx := Bd.exec
  have hby := Bd.bytes
  have hml : c.maxLocals = 3 := hml0
  have hown : s.vm.findClass "com/example/seriate/seriate/engine/pattern/Counts" = some m.cls := findClass_of_methodNamed Bd.named
  have hnm := (name_of_methodNamed Bd.named Bd.method).1
  have X0 : Stand p l e ({ frames := 0, cells := 0, slots := 0, locals := 0 } : Room) s m #[(.int p1), (.int p2)] below meth c s₁ [] 0 0 := Stand.of_body Bd
  have e0 : s₁.heap = h0 := by rw [← hh, Bd.state]; rfl
  have N0 := Fr.nil n0
  refine Go.start (own_ef_B m p1 p2) ?_
  show Go p e below _ s₁ (mkF m 0 #[.val (.int p1), .val (.int p2), .unset] [])
  have Zn := Z0
  have K0 : Keep h0 h0 [] := Keep.refl h0 _
  refine Go.step (fun _ k => XS.iloadN X0.here hx rfl (hb hby own_f0) rfl k) ?_
  show Go p e below _ s₁ (mkF m 1 #[.val (.int p1), .val (.int p2), .unset] [(.int p1)])
  refine Go.step (fun _ k => XS.iloadN X0.here hx rfl (hb hby own_f1) rfl k) ?_
  show Go p e below _ s₁ (mkF m 2 #[.val (.int p1), .val (.int p2), .unset] [(.int p2), (.int p1)])
  refine Go.step (fun _ k => XS.icmpYes X0.here hx rfl (pc0 := 2) (pc' := 12) rfl (hb hby own_f2) rfl (flt hlt).2.2.2 (by decide) (by decide) k) ?_
  show Go p e below _ s₁ (mkF m 12 #[.val (.int p1), .val (.int p2), .unset] [])
  refine Go.step (fun _ k => XS.iloadN X0.here hx rfl (hb hby own_f9) rfl k) ?_
  show Go p e below _ s₁ (mkF m 13 #[.val (.int p1), .val (.int p2), .unset] [(.int p1)])
  refine Go.step (fun _ k => XS.ifNo X0.here hx rfl (hb hby own_f10) rfl ((if0 _ _).trans (teq h1).2) k) ?_
  show Go p e below _ s₁ (mkF m 16 #[.val (.int p1), .val (.int p2), .unset] [])
  refine Go.step (fun _ k => XS.iloadN X0.here hx rfl (hb hby own_f11) rfl k) ?_
  show Go p e below _ s₁ (mkF m 17 #[.val (.int p1), .val (.int p2), .unset] [(.int p2)])
  refine Go.step (fun _ k => XS.ifNo X0.here hx rfl (hb hby own_f12) rfl ((if0 _ _).trans (teq h2).2) k) ?_
  show Go p e below _ s₁ (mkF m 20 #[.val (.int p1), .val (.int p2), .unset] [])
  obtain ⟨T2, X2, e2, st2⟩ := getS2 X0 hx hZ hown (host := "") (Or.inl (hw _ (List.mem_of_getElem? (i := 7) rfl))) Via.refl e0 S_ZERO (g := (mkF m 20 #[.val (.int p1), .val (.int p2), .unset] [])) rfl (hb hby own_f13)
  refine Go.step st2 ?_
  show Go p e below _ T2 (mkF m 23 #[.val (.int p1), .val (.int p2), .unset] [(.ref a1)])
  refine Go.step (fun _ k => XS.astoreN X2.here hx rfl (hb hby own_f14) rfl rfl (l' := #[.val (.int p1), .val (.int p2), .val (.ref a1)]) rfl k) ?_
  show Go p e below _ T2 (mkF m 24 #[.val (.int p1), .val (.int p2), .val (.ref a1)] [])
  refine Go.step (fun _ k => XS.goto X2.here hx rfl (pc0 := 24) (pc' := 39) rfl (hb hby own_f15) (by decide) (by decide) k) ?_
  show Go p e below _ T2 (mkF m 39 #[.val (.int p1), .val (.int p2), .val (.ref a1)] [])
  refine Go.step (fun _ k => XS.aloadN X2.here hx rfl (hb hby own_f6) rfl rfl k) ?_
  show Go p e below _ T2 (mkF m 40 #[.val (.int p1), .val (.int p2), .val (.ref a1)] [(.ref a1)])
  obtain ⟨fs, hr, hrun, hended, hW, hsame⟩ := X2.leave (v := some (.ref a1)) (fun h => by rw [Bd.returns] at h; cases h)
  refine Go.fin (own_retA X2 hx rfl Bd.returns rfl (hb hby own_f7) hr) hrun hended ?_
  refine ⟨_, _, rfl, ?_, ⟨_, rfl⟩, hW, hsame.mono (by decide) (by decide)⟩
  show QB Z p1 p2 a1 h0 n0 _ T2.heap _
  rw [e2]
  exact ⟨rfl, N0, rfl⟩
theorem own_f16 : decode prog_66_method_2_code 27 = .ok (.iconst 2, 1) := by decide +kernel
theorem own_f17 : decode prog_66_method_2_code 28 = .ok (.newarray .int, 2) := by decide +kernel
theorem own_f18 : decode prog_66_method_2_code 30 = .ok (.dup, 1) := by decide +kernel
theorem own_f19 : decode prog_66_method_2_code 31 = .ok (.iconst 0, 1) := by decide +kernel
theorem own_f20 : decode prog_66_method_2_code 32 = .ok (.iload_n 0, 1) := by decide +kernel
theorem own_f21 : decode prog_66_method_2_code 33 = .ok (.iastore, 1) := by decide +kernel
theorem own_f22 : decode prog_66_method_2_code 34 = .ok (.dup, 1) := by decide +kernel
theorem own_f23 : decode prog_66_method_2_code 35 = .ok (.iconst 1, 1) := by decide +kernel
theorem own_f24 : decode prog_66_method_2_code 36 = .ok (.iload_n 1, 1) := by decide +kernel
theorem own_f25 : decode prog_66_method_2_code 37 = .ok (.iastore, 1) := by decide +kernel
theorem own_f26 : decode prog_66_method_2_code 38 = .ok (.astore_n 2, 1) := by decide +kernel
theorem own_ef_C (m : MethodId) (p1 : Int32) (p2 : Int32) : entryFrame m #[(.int p1), (.int p2)] 3 = mkF m 0 #[.val (.int p1), .val (.int p2), .unset] [] := by first | (simp [entryFrame, mkF, argsToLocals, Value.category]; done) | rfl
def QC (Z : State) (p1 : Int32) (p2 : Int32) (h0 : Heap) (n0 : Nat) (v : Option Value) (h : Heap) (L : List Loc) : Prop := ∃ (b : Addr) (k : ClassId), v = some (.ref b) ∧ Fr n0 L ∧ Keep h0 h [] ∧ Arv Z h b k .int (2 : Int32) [(.int p1), (.int p2)] (.int (0 : Int32))
set_option maxRecDepth 65536 in
set_option maxHeartbeats 40000000 in
theorem rmC (l : Launch) (Z : State) (a0 : Array Value) (hw : ∀ d ∈ tables_1, d.before a0 Z = true) (ws : List Jvm.Cond) (p1 : Int32) (p2 : Int32) (h0 : Heap) (n0 : Nat) (Z0 : n0 ≤ h0.size) (hlt : ¬ p2 < p1) (h1 : ¬ p1 = (0 : Int32)) :
    MetFree l (⟨"com/example/seriate/seriate/engine/pattern/Counts", "range", "(II)[I"⟩ : MethodName) (head1 (Jvm.Cond.code (⟨"com/example/seriate/seriate/engine/pattern/Counts", "range", "(II)[I"⟩ : MethodName) prog_66_method_2_code 3 (some (.array .int)) :: ws) ({ frames := 0, cells := 1, slots := 2, locals := 0 } : Room)) (fun a U => a = #[(.int p1), (.int p2)] ∧ Z.Warmed39 U.vm ∧ U.heap = h0) (fun _ _ _ _ _ => True) (fun _ U o U' => ∃ v L, o = .returned v ∧ QC Z p1 p2 h0 n0 v U'.heap L ∧ FrameEnd U o U' L ({ frames := 0, cells := 1, slots := 2, locals := 0 } : Room).cells ({ frames := 0, cells := 1, slots := 2, locals := 0 } : Room).slots) := by
  refine MetFree.of_bodySF (plainFor_of_name own_f8) hisR ?_
  intro p e s m args below meth c s₁ Bd hml0 hP hK
  obtain ⟨rfl, hZ, hh⟩ := hP
  have hx := Bd.exec
  have hby := Bd.bytes
  have hml : c.maxLocals = 3 := hml0
  have hown : s.vm.findClass "com/example/seriate/seriate/engine/pattern/Counts" = some m.cls := findClass_of_methodNamed Bd.named
  have hnm := (name_of_methodNamed Bd.named Bd.method).1
  have X0 : Stand p l e ({ frames := 0, cells := 1, slots := 2, locals := 0 } : Room) s m #[(.int p1), (.int p2)] below meth c s₁ [] 0 0 := Stand.of_body Bd
  have e0 : s₁.heap = h0 := by rw [← hh, Bd.state]; rfl
  have N0 := Fr.nil n0
  refine Go.start (own_ef_C m p1 p2) ?_
  show Go p e below _ s₁ (mkF m 0 #[.val (.int p1), .val (.int p2), .unset] [])
  have Zn := Z0
  have K0 : Keep h0 h0 [] := Keep.refl h0 _
  refine Go.step (fun _ k => XS.iloadN X0.here hx rfl (hb hby own_f0) rfl k) ?_
  show Go p e below _ s₁ (mkF m 1 #[.val (.int p1), .val (.int p2), .unset] [(.int p1)])
  refine Go.step (fun _ k => XS.iloadN X0.here hx rfl (hb hby own_f1) rfl k) ?_
  show Go p e below _ s₁ (mkF m 2 #[.val (.int p1), .val (.int p2), .unset] [(.int p2), (.int p1)])
  refine Go.step (fun _ k => XS.icmpYes X0.here hx rfl (pc0 := 2) (pc' := 12) rfl (hb hby own_f2) rfl (flt hlt).2.2.2 (by decide) (by decide) k) ?_
  show Go p e below _ s₁ (mkF m 12 #[.val (.int p1), .val (.int p2), .unset] [])
  refine Go.step (fun _ k => XS.iloadN X0.here hx rfl (hb hby own_f9) rfl k) ?_
  show Go p e below _ s₁ (mkF m 13 #[.val (.int p1), .val (.int p2), .unset] [(.int p1)])
  refine Go.step (fun _ k => XS.ifYes X0.here hx rfl (pc0 := 13) (pc' := 27) rfl (hb hby own_f10) rfl ((if0 _ _).trans (feq h1).2) (by decide) (by decide) k) ?_
  show Go p e below _ s₁ (mkF m 27 #[.val (.int p1), .val (.int p2), .unset] [])
  refine Go.step (fun _ k => XS.iconst X0.here hx rfl (hb hby own_f16) k) ?_
  show Go p e below _ s₁ (mkF m 28 #[.val (.int p1), .val (.int p2), .unset] [(.int (2 : Int32))])
  obtain ⟨T3, h3, k3, X3, e3, E3, A3, st3⟩ := newP X0 hx hZ (hw _ (List.mem_of_getElem? (i := 4) rfl)) e0 (g := (mkF m 28 #[.val (.int p1), .val (.int p2), .unset] [(.int (2 : Int32))])) rfl (hb hby own_f17) rfl (by decide) (cap := 2) (by decide) (by decide) (by decide) (by decide)
  obtain ⟨b, g3⟩ : ∃ z, z = h0.size := ⟨_, rfl⟩
  rw [← g3] at A3 st3
  have g_b : n0 ≤ b := Nat.le_trans Zn (Nat.le_of_eq g3.symm)
  have sz_b : h0.size ≤ b := Nat.le_trans K0.1 (Nat.le_of_eq g3.symm)
  replace Zn := Nat.le_trans Zn E3.1
  replace K0 := K0.ext E3
  have V_b : Arv Z h3 b k3 .int (2 : Int32) [(.int (0 : Int32)), (.int (0 : Int32))] (.int (0 : Int32)) := (Arv.new A3 (by decide)).pad (pad_rep [] (.int (0 : Int32)) 2)
  refine Go.step st3 ?_
  show Go p e below _ T3 (mkF m 30 #[.val (.int p1), .val (.int p2), .unset] [(.ref b)])
  refine Go.step (fun _ k => XS.dup X3.here hx rfl (hb hby own_f18) rfl rfl k) ?_
  show Go p e below _ T3 (mkF m 31 #[.val (.int p1), .val (.int p2), .unset] [(.ref b), (.ref b)])
  refine Go.step (fun _ k => XS.iconst X3.here hx rfl (hb hby own_f19) k) ?_
  show Go p e below _ T3 (mkF m 32 #[.val (.int p1), .val (.int p2), .unset] [(.int (0 : Int32)), (.ref b), (.ref b)])
  refine Go.step (fun _ k => XS.iloadN X3.here hx rfl (hb hby own_f20) rfl k) ?_
  show Go p e below _ T3 (mkF m 33 #[.val (.int p1), .val (.int p2), .unset] [(.int p1), (.int (0 : Int32)), (.ref b), (.ref b)])
  obtain ⟨cl4, Ar4, q4, S4, Nn4, H4, G4⟩ := V_b
  have hin4 : ¬ ((0 : Int32) < 0 ∨ cl4.slots.size ≤ ((0 : Int32)).toNatClampNeg) := inb_of S4 ⟨by decide, by decide⟩
  obtain ⟨T4, h4, X4, e4, W4, st4⟩ := stI X3 hx hZ e3 Ar4 (j := (0 : Int32)) hin4 (g := (mkF m 33 #[.val (.int p1), .val (.int p2), .unset] [(.int p1), (.int (0 : Int32)), (.ref b), (.ref b)])) rfl rfl (hb hby own_f21)
  have Vw4 : Arv Z h4 b k3 .int (2 : Int32) [(.int p1), (.int (0 : Int32))] (.int (0 : Int32)) := Arv.set Ar4 q4 S4 Nn4 H4 G4 rfl W4 0 rfl (Nat.le_of_ble_eq_true rfl)
  have V_b := Vw4
  replace K0 := K0.wr W4 (Or.inr sz_b)
  replace Zn := Nat.le_trans Zn (Nat.le_of_eq W4.size.symm)
  have N4 := Fr.snoc X4 N0 g_b
  refine Go.step st4 ?_
  show Go p e below _ T4 (mkF m 34 #[.val (.int p1), .val (.int p2), .unset] [(.ref b)])
  refine Go.step (fun _ k => XS.dup X4.here hx rfl (hb hby own_f22) rfl rfl k) ?_
  show Go p e below _ T4 (mkF m 35 #[.val (.int p1), .val (.int p2), .unset] [(.ref b), (.ref b)])
  refine Go.step (fun _ k => XS.iconst X4.here hx rfl (hb hby own_f23) k) ?_
  show Go p e below _ T4 (mkF m 36 #[.val (.int p1), .val (.int p2), .unset] [(.int (1 : Int32)), (.ref b), (.ref b)])
  refine Go.step (fun _ k => XS.iloadN X4.here hx rfl (hb hby own_f24) rfl k) ?_
  show Go p e below _ T4 (mkF m 37 #[.val (.int p1), .val (.int p2), .unset] [(.int p2), (.int (1 : Int32)), (.ref b), (.ref b)])
  obtain ⟨cl5, Ar5, q5, S5, Nn5, H5, G5⟩ := V_b
  have hin5 : ¬ ((1 : Int32) < 0 ∨ cl5.slots.size ≤ ((1 : Int32)).toNatClampNeg) := inb_of S5 ⟨by decide, by decide⟩
  obtain ⟨T5, h5, X5, e5, W5, st5⟩ := stI X4 hx hZ e4 Ar5 (j := (1 : Int32)) hin5 (g := (mkF m 37 #[.val (.int p1), .val (.int p2), .unset] [(.int p2), (.int (1 : Int32)), (.ref b), (.ref b)])) rfl rfl (hb hby own_f25)
  have Vw5 : Arv Z h5 b k3 .int (2 : Int32) [(.int p1), (.int p2)] (.int (0 : Int32)) := Arv.set Ar5 q5 S5 Nn5 H5 G5 rfl W5 1 rfl (Nat.le_of_ble_eq_true rfl)
  have V_b := Vw5
  replace K0 := K0.wr W5 (Or.inr sz_b)
  replace Zn := Nat.le_trans Zn (Nat.le_of_eq W5.size.symm)
  have N5 := Fr.snoc X5 N4 g_b
  refine Go.step st5 ?_
  show Go p e below _ T5 (mkF m 38 #[.val (.int p1), .val (.int p2), .unset] [(.ref b)])
  refine Go.step (fun _ k => XS.astoreN X5.here hx rfl (hb hby own_f26) rfl rfl (l' := #[.val (.int p1), .val (.int p2), .val (.ref b)]) rfl k) ?_
  show Go p e below _ T5 (mkF m 39 #[.val (.int p1), .val (.int p2), .val (.ref b)] [])
  refine Go.step (fun _ k => XS.aloadN X5.here hx rfl (hb hby own_f6) rfl rfl k) ?_
  show Go p e below _ T5 (mkF m 40 #[.val (.int p1), .val (.int p2), .val (.ref b)] [(.ref b)])
  obtain ⟨fs, hr, hrun, hended, hW, hsame⟩ := X5.leave (v := some (.ref b)) (fun h => by rw [Bd.returns] at h; cases h)
  refine Go.fin (own_retA X5 hx rfl Bd.returns rfl (hb hby own_f7) hr) hrun hended ?_
  refine ⟨_, _, rfl, ?_, ⟨_, rfl⟩, hW, hsame.mono (by decide) (by decide)⟩
  show QC Z p1 p2 h0 n0 _ T5.heap _
  rw [e5]
  exact ⟨b, _, rfl, N5, K0, V_b⟩
theorem own_ef_D (m : MethodId) (p1 : Int32) (p2 : Int32) : entryFrame m #[(.int p1), (.int p2)] 3 = mkF m 0 #[.val (.int p1), .val (.int p2), .unset] [] := by first | (simp [entryFrame, mkF, argsToLocals, Value.category]; done) | rfl
def QD (Z : State) (p1 : Int32) (p2 : Int32) (h0 : Heap) (n0 : Nat) (v : Option Value) (h : Heap) (L : List Loc) : Prop := ∃ (b : Addr) (k : ClassId), v = some (.ref b) ∧ Fr n0 L ∧ Keep h0 h [] ∧ Arv Z h b k .int (2 : Int32) [(.int p1), (.int p2)] (.int (0 : Int32))
set_option maxRecDepth 65536 in
set_option maxHeartbeats 40000000 in
theorem rmD (l : Launch) (Z : State) (a0 : Array Value) (hw : ∀ d ∈ tables_1, d.before a0 Z = true) (ws : List Jvm.Cond) (p1 : Int32) (p2 : Int32) (h0 : Heap) (n0 : Nat) (Z0 : n0 ≤ h0.size) (hlt : ¬ p2 < p1) (h1 : p1 = (0 : Int32)) (h2 : ¬ p2 = (0 : Int32)) :
    MetFree l (⟨"com/example/seriate/seriate/engine/pattern/Counts", "range", "(II)[I"⟩ : MethodName) (head1 (Jvm.Cond.code (⟨"com/example/seriate/seriate/engine/pattern/Counts", "range", "(II)[I"⟩ : MethodName) prog_66_method_2_code 3 (some (.array .int)) :: ws) ({ frames := 0, cells := 1, slots := 2, locals := 0 } : Room)) (fun a U => a = #[(.int p1), (.int p2)] ∧ Z.Warmed39 U.vm ∧ U.heap = h0) (fun _ _ _ _ _ => True) (fun _ U o U' => ∃ v L, o = .returned v ∧ QD Z p1 p2 h0 n0 v U'.heap L ∧ FrameEnd U o U' L ({ frames := 0, cells := 1, slots := 2, locals := 0 } : Room).cells ({ frames := 0, cells := 1, slots := 2, locals := 0 } : Room).slots) := by
  refine MetFree.of_bodySF (plainFor_of_name own_f8) hisR ?_
  intro p e s m args below meth c s₁ Bd hml0 hP hK
  obtain ⟨rfl, hZ, hh⟩ := hP
  have hx := Bd.exec
  have hby := Bd.bytes
  have hml : c.maxLocals = 3 := hml0
  have hown : s.vm.findClass "com/example/seriate/seriate/engine/pattern/Counts" = some m.cls := findClass_of_methodNamed Bd.named
  have hnm := (name_of_methodNamed Bd.named Bd.method).1
  have X0 : Stand p l e ({ frames := 0, cells := 1, slots := 2, locals := 0 } : Room) s m #[(.int p1), (.int p2)] below meth c s₁ [] 0 0 := Stand.of_body Bd
  have e0 : s₁.heap = h0 := by rw [← hh, Bd.state]; rfl
  have N0 := Fr.nil n0
  refine Go.start (own_ef_D m p1 p2) ?_
  show Go p e below _ s₁ (mkF m 0 #[.val (.int p1), .val (.int p2), .unset] [])
  have Zn := Z0
  have K0 : Keep h0 h0 [] := Keep.refl h0 _
  refine Go.step (fun _ k => XS.iloadN X0.here hx rfl (hb hby own_f0) rfl k) ?_
  show Go p e below _ s₁ (mkF m 1 #[.val (.int p1), .val (.int p2), .unset] [(.int p1)])
  refine Go.step (fun _ k => XS.iloadN X0.here hx rfl (hb hby own_f1) rfl k) ?_
  show Go p e below _ s₁ (mkF m 2 #[.val (.int p1), .val (.int p2), .unset] [(.int p2), (.int p1)])
  refine Go.step (fun _ k => XS.icmpYes X0.here hx rfl (pc0 := 2) (pc' := 12) rfl (hb hby own_f2) rfl (flt hlt).2.2.2 (by decide) (by decide) k) ?_
  show Go p e below _ s₁ (mkF m 12 #[.val (.int p1), .val (.int p2), .unset] [])
  refine Go.step (fun _ k => XS.iloadN X0.here hx rfl (hb hby own_f9) rfl k) ?_
  show Go p e below _ s₁ (mkF m 13 #[.val (.int p1), .val (.int p2), .unset] [(.int p1)])
  refine Go.step (fun _ k => XS.ifNo X0.here hx rfl (hb hby own_f10) rfl ((if0 _ _).trans (teq h1).2) k) ?_
  show Go p e below _ s₁ (mkF m 16 #[.val (.int p1), .val (.int p2), .unset] [])
  refine Go.step (fun _ k => XS.iloadN X0.here hx rfl (hb hby own_f11) rfl k) ?_
  show Go p e below _ s₁ (mkF m 17 #[.val (.int p1), .val (.int p2), .unset] [(.int p2)])
  refine Go.step (fun _ k => XS.ifYes X0.here hx rfl (pc0 := 17) (pc' := 27) rfl (hb hby own_f12) rfl ((if0 _ _).trans (feq h2).2) (by decide) (by decide) k) ?_
  show Go p e below _ s₁ (mkF m 27 #[.val (.int p1), .val (.int p2), .unset] [])
  refine Go.step (fun _ k => XS.iconst X0.here hx rfl (hb hby own_f16) k) ?_
  show Go p e below _ s₁ (mkF m 28 #[.val (.int p1), .val (.int p2), .unset] [(.int (2 : Int32))])
  obtain ⟨T6, h6, k6, X6, e6, E6, A6, st6⟩ := newP X0 hx hZ (hw _ (List.mem_of_getElem? (i := 4) rfl)) e0 (g := (mkF m 28 #[.val (.int p1), .val (.int p2), .unset] [(.int (2 : Int32))])) rfl (hb hby own_f17) rfl (by decide) (cap := 2) (by decide) (by decide) (by decide) (by decide)
  obtain ⟨b, g6⟩ : ∃ z, z = h0.size := ⟨_, rfl⟩
  rw [← g6] at A6 st6
  have g_b : n0 ≤ b := Nat.le_trans Zn (Nat.le_of_eq g6.symm)
  have sz_b : h0.size ≤ b := Nat.le_trans K0.1 (Nat.le_of_eq g6.symm)
  replace Zn := Nat.le_trans Zn E6.1
  replace K0 := K0.ext E6
  have V_b : Arv Z h6 b k6 .int (2 : Int32) [(.int (0 : Int32)), (.int (0 : Int32))] (.int (0 : Int32)) := (Arv.new A6 (by decide)).pad (pad_rep [] (.int (0 : Int32)) 2)
  refine Go.step st6 ?_
  show Go p e below _ T6 (mkF m 30 #[.val (.int p1), .val (.int p2), .unset] [(.ref b)])
  refine Go.step (fun _ k => XS.dup X6.here hx rfl (hb hby own_f18) rfl rfl k) ?_
  show Go p e below _ T6 (mkF m 31 #[.val (.int p1), .val (.int p2), .unset] [(.ref b), (.ref b)])
  refine Go.step (fun _ k => XS.iconst X6.here hx rfl (hb hby own_f19) k) ?_
  show Go p e below _ T6 (mkF m 32 #[.val (.int p1), .val (.int p2), .unset] [(.int (0 : Int32)), (.ref b), (.ref b)])
  refine Go.step (fun _ k => XS.iloadN X6.here hx rfl (hb hby own_f20) rfl k) ?_
  show Go p e below _ T6 (mkF m 33 #[.val (.int p1), .val (.int p2), .unset] [(.int p1), (.int (0 : Int32)), (.ref b), (.ref b)])
  obtain ⟨cl7, Ar7, q7, S7, Nn7, H7, G7⟩ := V_b
  have hin7 : ¬ ((0 : Int32) < 0 ∨ cl7.slots.size ≤ ((0 : Int32)).toNatClampNeg) := inb_of S7 ⟨by decide, by decide⟩
  obtain ⟨T7, h7, X7, e7, W7, st7⟩ := stI X6 hx hZ e6 Ar7 (j := (0 : Int32)) hin7 (g := (mkF m 33 #[.val (.int p1), .val (.int p2), .unset] [(.int p1), (.int (0 : Int32)), (.ref b), (.ref b)])) rfl rfl (hb hby own_f21)
  have Vw7 : Arv Z h7 b k6 .int (2 : Int32) [(.int p1), (.int (0 : Int32))] (.int (0 : Int32)) := Arv.set Ar7 q7 S7 Nn7 H7 G7 rfl W7 0 rfl (Nat.le_of_ble_eq_true rfl)
  have V_b := Vw7
  replace K0 := K0.wr W7 (Or.inr sz_b)
  replace Zn := Nat.le_trans Zn (Nat.le_of_eq W7.size.symm)
  have N7 := Fr.snoc X7 N0 g_b
  refine Go.step st7 ?_
  show Go p e below _ T7 (mkF m 34 #[.val (.int p1), .val (.int p2), .unset] [(.ref b)])
  refine Go.step (fun _ k => XS.dup X7.here hx rfl (hb hby own_f22) rfl rfl k) ?_
  show Go p e below _ T7 (mkF m 35 #[.val (.int p1), .val (.int p2), .unset] [(.ref b), (.ref b)])
  refine Go.step (fun _ k => XS.iconst X7.here hx rfl (hb hby own_f23) k) ?_
  show Go p e below _ T7 (mkF m 36 #[.val (.int p1), .val (.int p2), .unset] [(.int (1 : Int32)), (.ref b), (.ref b)])
  refine Go.step (fun _ k => XS.iloadN X7.here hx rfl (hb hby own_f24) rfl k) ?_
  show Go p e below _ T7 (mkF m 37 #[.val (.int p1), .val (.int p2), .unset] [(.int p2), (.int (1 : Int32)), (.ref b), (.ref b)])
  obtain ⟨cl8, Ar8, q8, S8, Nn8, H8, G8⟩ := V_b
  have hin8 : ¬ ((1 : Int32) < 0 ∨ cl8.slots.size ≤ ((1 : Int32)).toNatClampNeg) := inb_of S8 ⟨by decide, by decide⟩
  obtain ⟨T8, h8, X8, e8, W8, st8⟩ := stI X7 hx hZ e7 Ar8 (j := (1 : Int32)) hin8 (g := (mkF m 37 #[.val (.int p1), .val (.int p2), .unset] [(.int p2), (.int (1 : Int32)), (.ref b), (.ref b)])) rfl rfl (hb hby own_f25)
  have Vw8 : Arv Z h8 b k6 .int (2 : Int32) [(.int p1), (.int p2)] (.int (0 : Int32)) := Arv.set Ar8 q8 S8 Nn8 H8 G8 rfl W8 1 rfl (Nat.le_of_ble_eq_true rfl)
  have V_b := Vw8
  replace K0 := K0.wr W8 (Or.inr sz_b)
  replace Zn := Nat.le_trans Zn (Nat.le_of_eq W8.size.symm)
  have N8 := Fr.snoc X8 N7 g_b
  refine Go.step st8 ?_
  show Go p e below _ T8 (mkF m 38 #[.val (.int p1), .val (.int p2), .unset] [(.ref b)])
  refine Go.step (fun _ k => XS.astoreN X8.here hx rfl (hb hby own_f26) rfl rfl (l' := #[.val (.int p1), .val (.int p2), .val (.ref b)]) rfl k) ?_
  show Go p e below _ T8 (mkF m 39 #[.val (.int p1), .val (.int p2), .val (.ref b)] [])
  refine Go.step (fun _ k => XS.aloadN X8.here hx rfl (hb hby own_f6) rfl rfl k) ?_
  show Go p e below _ T8 (mkF m 40 #[.val (.int p1), .val (.int p2), .val (.ref b)] [(.ref b)])
  obtain ⟨fs, hr, hrun, hended, hW, hsame⟩ := X8.leave (v := some (.ref b)) (fun h => by rw [Bd.returns] at h; cases h)
  refine Go.fin (own_retA X8 hx rfl Bd.returns rfl (hb hby own_f7) hr) hrun hended ?_
  refine ⟨_, _, rfl, ?_, ⟨_, rfl⟩, hW, hsame.mono (by decide) (by decide)⟩
  show QD Z p1 p2 h0 n0 _ T8.heap _
  rw [e8]
  exact ⟨b, _, rfl, N8, K0, V_b⟩
theorem own_f27 : parseMethodDescriptor "(II)[I" = some ⟨[.int, .int], some (.array .int)⟩ := by decide +kernel
theorem own_f28 : plainName "com/example/seriate/seriate/engine/pattern/CountsRangePinLaw" = true := by first | (simp [plainName, overriddenIn]; done) | decide +kernel
theorem own_ef_0 (m : MethodId) (i0 : Int32) (i1 : Int32) : entryFrame m #[(.int i0), (.int i1)] maxLocals = mkF m 0 #[.val (.int i0), .val (.int i1), .unset] [] := by first | (simp [entryFrame, mkF, argsToLocals, Value.category, maxLocals]; done) | rfl
def Q0 (Z : State) (i0 : Int32) (i1 : Int32) (aN aZ : Addr) (kN kZ : ClassId) (h0 : Heap) (n0 : Nat) (v : Option Value) (h : Heap) (L : List Loc) : Prop := v = some (.int 1) ∧ Fr n0 L
set_option maxRecDepth 65536 in
set_option maxHeartbeats 40000000 in
theorem rm0 (l : Launch) (Z : State) (a0 : Array Value) (hw : ∀ d ∈ tables_1, d.before a0 Z = true) (ws : List Jvm.Cond) (i0 : Int32) (i1 : Int32) (aN aZ : Addr) (kN kZ : ClassId) (h0 : Heap) (n0 : Nat) (Z0 : n0 ≤ h0.size) (S_NONE : Sta Z h0 "com/example/seriate/seriate/engine/pattern/Counts" "NONE" "[I" (.ref aN)) (S_ZERO : Sta Z h0 "com/example/seriate/seriate/engine/pattern/Counts" "ZERO" "[I" (.ref aZ)) (V_aN : Arv Z h0 aN kN .int (0 : Int32) [] (.int (0 : Int32))) (V_aZ : Arv Z h0 aZ kZ .int (2 : Int32) [(.int (0 : Int32)), (.int (0 : Int32))] (.int (0 : Int32))) :
    MetFree l x (head1 (Jvm.Cond.code x code maxLocals ret :: ws) room_1) (fun a U => a = #[(.int i0), (.int i1)] ∧ Z.Warmed39 U.vm ∧ U.heap = h0) (fun _ _ _ _ _ => True) (fun _ U o U' => ∃ v L, o = .returned v ∧ Q0 Z i0 i1 aN aZ kN kZ h0 n0 v U'.heap L ∧ FrameEnd U o U' L 1 2) := by
  refine MetFree.of_bodySF (plainFor_of_name own_f28) hisR ?_
  intro p e s m args below meth c s₁ Bd hml0 hP hK
  obtain ⟨rfl, hZ, hh⟩ := hP
  have hx := Bd.exec
  have hby := Bd.bytes
  have hml : c.maxLocals = 3 := hml0
  have hown : s.vm.findClass "com/example/seriate/seriate/engine/pattern/CountsRangePinLaw" = some m.cls := findClass_of_methodNamed Bd.named
  have hnm := (name_of_methodNamed Bd.named Bd.method).1
  have X0 : Stand p l e room_1 s m #[(.int i0), (.int i1)] below meth c s₁ [] 0 0 := Stand.of_body Bd
  have e0 : s₁.heap = h0 := by rw [← hh, Bd.state]; rfl
  have N0 := Fr.nil n0
  refine Go.start (own_ef_0 m i0 i1) ?_
  show Go p e below _ s₁ (mkF m 0 #[.val (.int i0), .val (.int i1), .unset] [])
  have Zn := Z0
  have K0 : Keep h0 h0 [] := Keep.refl h0 _
  by_cases hlt : i1 < i0
  · show Go p e below _ s₁ (mkF m 0 #[.val (.int i0), .val (.int i1), .unset] [])
    refine Go.step (fun _ k => XS.iloadN X0.here hx rfl (hb hby at_0) rfl k) ?_
    show Go p e below _ s₁ (mkF m 1 #[.val (.int i0), .val (.int i1), .unset] [(.int i0)])
    refine Go.step (fun _ k => XS.iloadN X0.here hx rfl (hb hby at_1) rfl k) ?_
    show Go p e below _ s₁ (mkF m 2 #[.val (.int i0), .val (.int i1), .unset] [(.int i1), (.int i0)])
    obtain ⟨_, _, ⟨T9, L9, k9, n9⟩, -, X9, ⟨Lc9, hQ9, l9, y9, z9⟩, st9⟩ := Jvm.LawKit.callS X0 hx (y := (⟨"com/example/seriate/seriate/engine/pattern/Counts", "range", "(II)[I"⟩ : MethodName)) hown (mvT hZ (hw _ (List.mem_of_getElem? (i := 0) rfl))) (mvT hZ (hw _ (List.mem_of_getElem? (i := 1) rfl))) (mvT hZ (hw _ (List.mem_of_getElem? (i := 2) rfl))) (mvT hZ (hw _ (List.mem_of_getElem? (i := 3) rfl))) (by decide) (backOf (W := 0) (rmA l Z a0 hw [] i0 i1 aN h0 n0 Z0 S_NONE hlt) hZ (hw _ (List.mem_of_getElem? (i := 3) rfl)) (hw _ (List.mem_of_getElem? (i := 2) rfl)) (by decide) (by decide)) (g := (mkF m 2 #[.val (.int i0), .val (.int i1), .unset] [(.int i1), (.int i0)])) rfl (by rw [hml]; rfl) (argsL := [(.int i0), (.int i1)]) (rest := []) (lenOf own_f27 rfl) rfl (by show 2 * 0 + _ ≤ _; exact Nat.le_of_eq rfl) (hb hby at_2) (fun _ _ => ⟨rfl, e0, (by dsimp only [Pt.cells, Pt.slots]; decide), (by dsimp only [Pt.cells, Pt.slots]; decide)⟩)
    dsimp only [Pt.U, Pt.locs, Pt.cells, Pt.slots] at X9 l9 y9 z9 st9 hQ9
    subst l9 y9 z9
    obtain ⟨rfl, N9q, e9⟩ := hQ9
    have N9 := Fr.app N0 N9q
    refine Go.step (st9) ?_
    show Go p e below _ T9 (mkF m 5 #[.val (.int i0), .val (.int i1), .unset] [(.ref aN)])
    refine Go.step (fun _ k => XS.astoreN X9.here hx rfl (hb hby at_5) rfl rfl (l' := #[.val (.int i0), .val (.int i1), .val (.ref aN)]) rfl k) ?_
    show Go p e below _ T9 (mkF m 6 #[.val (.int i0), .val (.int i1), .val (.ref aN)] [])
    refine Go.step (fun _ k => XS.aloadN X9.here hx rfl (hb hby at_6) rfl rfl k) ?_
    show Go p e below _ T9 (mkF m 7 #[.val (.int i0), .val (.int i1), .val (.ref aN)] [(.ref aN)])
    refine Go.step (fun _ k => XS.ifnonnullYes X9.here hx rfl (pc0 := 7) (pc' := 12) rfl (hb hby at_7) rfl (by decide) (by decide) k) ?_
    show Go p e below _ T9 (mkF m 12 #[.val (.int i0), .val (.int i1), .val (.ref aN)] [])
    refine Go.step (fun _ k => XS.iloadN X9.here hx rfl (hb hby at_12) rfl k) ?_
    show Go p e below _ T9 (mkF m 13 #[.val (.int i0), .val (.int i1), .val (.ref aN)] [(.int i0)])
    refine Go.step (fun _ k => XS.iloadN X9.here hx rfl (hb hby at_13) rfl k) ?_
    show Go p e below _ T9 (mkF m 14 #[.val (.int i0), .val (.int i1), .val (.ref aN)] [(.int i1), (.int i0)])
    refine Go.step (fun _ k => XS.icmpNo X9.here hx rfl (hb hby at_14) rfl (tlt hlt).2.2.2 k) ?_
    show Go p e below _ T9 (mkF m 17 #[.val (.int i0), .val (.int i1), .val (.ref aN)] [])
    refine Go.step (fun _ k => XS.aloadN X9.here hx rfl (hb hby at_17) rfl rfl k) ?_
    show Go p e below _ T9 (mkF m 18 #[.val (.int i0), .val (.int i1), .val (.ref aN)] [(.ref aN)])
    obtain ⟨cl10, Ar10, q10, S10, Nn10, H10, G10⟩ := V_aN
    have V_aN : Arv Z h0 aN kN .int (0 : Int32) [] (.int (0 : Int32)) := ⟨cl10, Ar10, q10, S10, Nn10, H10, G10⟩
    refine Go.step (X9.arraylength hx (by rw [e9]; exact Ar10.1) (State.isArrayOf_alike hZ.alike Ar10.2.1) (g := (mkF m 18 #[.val (.int i0), .val (.int i1), .val (.ref aN)] [(.ref aN)])) rfl rfl (hb hby at_18)) ?_
    rw [len_of S10 Nn10]
    show Go p e below _ T9 (mkF m 19 #[.val (.int i0), .val (.int i1), .val (.ref aN)] [(.int (0 : Int32))])
    refine Go.step (fun _ k => XS.ifNo X9.here hx rfl (hb hby at_19) rfl ((if0 _ _).trans (teq rfl).2) k) ?_
    show Go p e below _ T9 (mkF m 22 #[.val (.int i0), .val (.int i1), .val (.ref aN)] [])
    refine Go.step (fun _ k => XS.iconst X9.here hx rfl (hb hby at_22) k) ?_
    show Go p e below _ T9 (mkF m 23 #[.val (.int i0), .val (.int i1), .val (.ref aN)] [(.int (1 : Int32))])
    refine Go.step (fun _ k => XS.goto X9.here hx rfl (pc0 := 23) (pc' := 27) rfl (hb hby at_23) (by decide) (by decide) k) ?_
    show Go p e below _ T9 (mkF m 27 #[.val (.int i0), .val (.int i1), .val (.ref aN)] [(.int (1 : Int32))])
    obtain ⟨fs, hr, hrun, hended, hW, hsame⟩ := X9.leave (v := some (.int (1 : Int32))) (fun h => by rw [Bd.returns] at h; cases h)
    refine Go.fin (retN X9 hx (t := .boolean) Bd.returns (by simp) (hb hby at_27) hr) hrun hended ?_
    refine ⟨_, _, rfl, ?_, ⟨_, rfl⟩, hW, hsame.mono (by decide) (by decide)⟩
    show Q0 Z i0 i1 aN aZ kN kZ h0 n0 _ T9.heap _
    rw [e9]
    exact ⟨rfl, N9⟩
  by_cases h1 : i0 = (0 : Int32)
  · by_cases h2 : i1 = (0 : Int32)
    · show Go p e below _ s₁ (mkF m 0 #[.val (.int i0), .val (.int i1), .unset] [])
      refine Go.step (fun _ k => XS.iloadN X0.here hx rfl (hb hby at_0) rfl k) ?_
      show Go p e below _ s₁ (mkF m 1 #[.val (.int i0), .val (.int i1), .unset] [(.int i0)])
      refine Go.step (fun _ k => XS.iloadN X0.here hx rfl (hb hby at_1) rfl k) ?_
      show Go p e below _ s₁ (mkF m 2 #[.val (.int i0), .val (.int i1), .unset] [(.int i1), (.int i0)])
      obtain ⟨_, _, ⟨T11, L11, k11, n11⟩, -, X11, ⟨Lc11, hQ11, l11, y11, z11⟩, st11⟩ := Jvm.LawKit.callS X0 hx (y := (⟨"com/example/seriate/seriate/engine/pattern/Counts", "range", "(II)[I"⟩ : MethodName)) hown (mvT hZ (hw _ (List.mem_of_getElem? (i := 0) rfl))) (mvT hZ (hw _ (List.mem_of_getElem? (i := 1) rfl))) (mvT hZ (hw _ (List.mem_of_getElem? (i := 2) rfl))) (mvT hZ (hw _ (List.mem_of_getElem? (i := 3) rfl))) (by decide) (backOf (W := 0) (rmB l Z a0 hw [] i0 i1 aZ h0 n0 Z0 S_ZERO hlt h1 h2) hZ (hw _ (List.mem_of_getElem? (i := 3) rfl)) (hw _ (List.mem_of_getElem? (i := 2) rfl)) (by decide) (by decide)) (g := (mkF m 2 #[.val (.int i0), .val (.int i1), .unset] [(.int i1), (.int i0)])) rfl (by rw [hml]; rfl) (argsL := [(.int i0), (.int i1)]) (rest := []) (lenOf own_f27 rfl) rfl (by show 2 * 0 + _ ≤ _; exact Nat.le_of_eq rfl) (hb hby at_2) (fun _ _ => ⟨rfl, e0, (by dsimp only [Pt.cells, Pt.slots]; decide), (by dsimp only [Pt.cells, Pt.slots]; decide)⟩)
      dsimp only [Pt.U, Pt.locs, Pt.cells, Pt.slots] at X11 l11 y11 z11 st11 hQ11
      subst l11 y11 z11
      obtain ⟨rfl, N11q, e11⟩ := hQ11
      have N11 := Fr.app N0 N11q
      refine Go.step (st11) ?_
      show Go p e below _ T11 (mkF m 5 #[.val (.int i0), .val (.int i1), .unset] [(.ref aZ)])
      refine Go.step (fun _ k => XS.astoreN X11.here hx rfl (hb hby at_5) rfl rfl (l' := #[.val (.int i0), .val (.int i1), .val (.ref aZ)]) rfl k) ?_
      show Go p e below _ T11 (mkF m 6 #[.val (.int i0), .val (.int i1), .val (.ref aZ)] [])
      refine Go.step (fun _ k => XS.aloadN X11.here hx rfl (hb hby at_6) rfl rfl k) ?_
      show Go p e below _ T11 (mkF m 7 #[.val (.int i0), .val (.int i1), .val (.ref aZ)] [(.ref aZ)])
      refine Go.step (fun _ k => XS.ifnonnullYes X11.here hx rfl (pc0 := 7) (pc' := 12) rfl (hb hby at_7) rfl (by decide) (by decide) k) ?_
      show Go p e below _ T11 (mkF m 12 #[.val (.int i0), .val (.int i1), .val (.ref aZ)] [])
      refine Go.step (fun _ k => XS.iloadN X11.here hx rfl (hb hby at_12) rfl k) ?_
      show Go p e below _ T11 (mkF m 13 #[.val (.int i0), .val (.int i1), .val (.ref aZ)] [(.int i0)])
      refine Go.step (fun _ k => XS.iloadN X11.here hx rfl (hb hby at_13) rfl k) ?_
      show Go p e below _ T11 (mkF m 14 #[.val (.int i0), .val (.int i1), .val (.ref aZ)] [(.int i1), (.int i0)])
      refine Go.step (fun _ k => XS.icmpYes X11.here hx rfl (pc0 := 14) (pc' := 28) rfl (hb hby at_14) rfl (flt hlt).2.2.2 (by decide) (by decide) k) ?_
      show Go p e below _ T11 (mkF m 28 #[.val (.int i0), .val (.int i1), .val (.ref aZ)] [])
      refine Go.step (fun _ k => XS.aloadN X11.here hx rfl (hb hby at_28) rfl rfl k) ?_
      show Go p e below _ T11 (mkF m 29 #[.val (.int i0), .val (.int i1), .val (.ref aZ)] [(.ref aZ)])
      obtain ⟨cl12, Ar12, q12, S12, Nn12, H12, G12⟩ := V_aZ
      have V_aZ : Arv Z h0 aZ kZ .int (2 : Int32) [(.int (0 : Int32)), (.int (0 : Int32))] (.int (0 : Int32)) := ⟨cl12, Ar12, q12, S12, Nn12, H12, G12⟩
      refine Go.step (X11.arraylength hx (by rw [e11]; exact Ar12.1) (State.isArrayOf_alike hZ.alike Ar12.2.1) (g := (mkF m 29 #[.val (.int i0), .val (.int i1), .val (.ref aZ)] [(.ref aZ)])) rfl rfl (hb hby at_29)) ?_
      rw [len_of S12 Nn12]
      show Go p e below _ T11 (mkF m 30 #[.val (.int i0), .val (.int i1), .val (.ref aZ)] [(.int (2 : Int32))])
      refine Go.step (fun _ k => XS.iconst X11.here hx rfl (hb hby at_30) k) ?_
      show Go p e below _ T11 (mkF m 31 #[.val (.int i0), .val (.int i1), .val (.ref aZ)] [(.int (2 : Int32)), (.int (2 : Int32))])
      refine Go.step (fun _ k => XS.icmpNo X11.here hx rfl (hb hby at_31) rfl (teq rfl).2 k) ?_
      show Go p e below _ T11 (mkF m 34 #[.val (.int i0), .val (.int i1), .val (.ref aZ)] [])
      refine Go.step (fun _ k => XS.aloadN X11.here hx rfl (hb hby at_34) rfl rfl k) ?_
      show Go p e below _ T11 (mkF m 35 #[.val (.int i0), .val (.int i1), .val (.ref aZ)] [(.ref aZ)])
      refine Go.step (fun _ k => XS.iconst X11.here hx rfl (hb hby at_35) k) ?_
      show Go p e below _ T11 (mkF m 36 #[.val (.int i0), .val (.int i1), .val (.ref aZ)] [(.int (0 : Int32)), (.ref aZ)])
      obtain ⟨cl13, Ar13, q13, S13, Nn13, H13, G13⟩ := V_aZ
      have V_aZ : Arv Z h0 aZ kZ .int (2 : Int32) [(.int (0 : Int32)), (.int (0 : Int32))] (.int (0 : Int32)) := ⟨cl13, Ar13, q13, S13, Nn13, H13, G13⟩
      have hin13 : ¬ ((0 : Int32) < 0 ∨ cl13.slots.size ≤ ((0 : Int32)).toNatClampNeg) := inb_of S13 ⟨by decide, by decide⟩
      have hat13 : cl13.slots[((0 : Int32)).toNatClampNeg]? = some (.int (0 : Int32)) := Has.at H13 hin13 rfl
      refine Go.step (X11.iaload hx (j := (0 : Int32)) (v := (.int (0 : Int32))) (by rw [e11]; exact Ar13.1) (State.isArrayOf_alike hZ.alike Ar13.2.1) Ar13.2.2 hin13 hat13 (g := (mkF m 36 #[.val (.int i0), .val (.int i1), .val (.ref aZ)] [(.int (0 : Int32)), (.ref aZ)])) rfl rfl (hb hby at_36)) ?_
      show Go p e below _ T11 (mkF m 37 #[.val (.int i0), .val (.int i1), .val (.ref aZ)] [(.int (0 : Int32))])
      refine Go.step (fun _ k => XS.iloadN X11.here hx rfl (hb hby at_37) rfl k) ?_
      show Go p e below _ T11 (mkF m 38 #[.val (.int i0), .val (.int i1), .val (.ref aZ)] [(.int i0), (.int (0 : Int32))])
      refine Go.step (fun _ k => XS.icmpNo X11.here hx rfl (hb hby at_38) rfl (teq h1.symm).2 k) ?_
      show Go p e below _ T11 (mkF m 41 #[.val (.int i0), .val (.int i1), .val (.ref aZ)] [])
      refine Go.step (fun _ k => XS.aloadN X11.here hx rfl (hb hby at_41) rfl rfl k) ?_
      show Go p e below _ T11 (mkF m 42 #[.val (.int i0), .val (.int i1), .val (.ref aZ)] [(.ref aZ)])
      refine Go.step (fun _ k => XS.iconst X11.here hx rfl (hb hby at_42) k) ?_
      show Go p e below _ T11 (mkF m 43 #[.val (.int i0), .val (.int i1), .val (.ref aZ)] [(.int (1 : Int32)), (.ref aZ)])
      obtain ⟨cl14, Ar14, q14, S14, Nn14, H14, G14⟩ := V_aZ
      have V_aZ : Arv Z h0 aZ kZ .int (2 : Int32) [(.int (0 : Int32)), (.int (0 : Int32))] (.int (0 : Int32)) := ⟨cl14, Ar14, q14, S14, Nn14, H14, G14⟩
      have hin14 : ¬ ((1 : Int32) < 0 ∨ cl14.slots.size ≤ ((1 : Int32)).toNatClampNeg) := inb_of S14 ⟨by decide, by decide⟩
      have hat14 : cl14.slots[((1 : Int32)).toNatClampNeg]? = some (.int (0 : Int32)) := Has.at H14 hin14 rfl
      refine Go.step (X11.iaload hx (j := (1 : Int32)) (v := (.int (0 : Int32))) (by rw [e11]; exact Ar14.1) (State.isArrayOf_alike hZ.alike Ar14.2.1) Ar14.2.2 hin14 hat14 (g := (mkF m 43 #[.val (.int i0), .val (.int i1), .val (.ref aZ)] [(.int (1 : Int32)), (.ref aZ)])) rfl rfl (hb hby at_43)) ?_
      show Go p e below _ T11 (mkF m 44 #[.val (.int i0), .val (.int i1), .val (.ref aZ)] [(.int (0 : Int32))])
      refine Go.step (fun _ k => XS.iloadN X11.here hx rfl (hb hby at_44) rfl k) ?_
      show Go p e below _ T11 (mkF m 45 #[.val (.int i0), .val (.int i1), .val (.ref aZ)] [(.int i1), (.int (0 : Int32))])
      refine Go.step (fun _ k => XS.icmpNo X11.here hx rfl (hb hby at_45) rfl (teq h2.symm).2 k) ?_
      show Go p e below _ T11 (mkF m 48 #[.val (.int i0), .val (.int i1), .val (.ref aZ)] [])
      refine Go.step (fun _ k => XS.iconst X11.here hx rfl (hb hby at_48) k) ?_
      show Go p e below _ T11 (mkF m 49 #[.val (.int i0), .val (.int i1), .val (.ref aZ)] [(.int (1 : Int32))])
      refine Go.step (fun _ k => XS.goto X11.here hx rfl (pc0 := 49) (pc' := 53) rfl (hb hby at_49) (by decide) (by decide) k) ?_
      show Go p e below _ T11 (mkF m 53 #[.val (.int i0), .val (.int i1), .val (.ref aZ)] [(.int (1 : Int32))])
      obtain ⟨fs, hr, hrun, hended, hW, hsame⟩ := X11.leave (v := some (.int (1 : Int32))) (fun h => by rw [Bd.returns] at h; cases h)
      refine Go.fin (retN X11 hx (t := .boolean) Bd.returns (by simp) (hb hby at_53) hr) hrun hended ?_
      refine ⟨_, _, rfl, ?_, ⟨_, rfl⟩, hW, hsame.mono (by decide) (by decide)⟩
      show Q0 Z i0 i1 aN aZ kN kZ h0 n0 _ T11.heap _
      rw [e11]
      exact ⟨rfl, N11⟩
    · show Go p e below _ s₁ (mkF m 0 #[.val (.int i0), .val (.int i1), .unset] [])
      refine Go.step (fun _ k => XS.iloadN X0.here hx rfl (hb hby at_0) rfl k) ?_
      show Go p e below _ s₁ (mkF m 1 #[.val (.int i0), .val (.int i1), .unset] [(.int i0)])
      refine Go.step (fun _ k => XS.iloadN X0.here hx rfl (hb hby at_1) rfl k) ?_
      show Go p e below _ s₁ (mkF m 2 #[.val (.int i0), .val (.int i1), .unset] [(.int i1), (.int i0)])
      obtain ⟨_, _, ⟨T15, L15, k15, n15⟩, -, X15, ⟨Lc15, hQ15, l15, y15, z15⟩, st15⟩ := Jvm.LawKit.callS X0 hx (y := (⟨"com/example/seriate/seriate/engine/pattern/Counts", "range", "(II)[I"⟩ : MethodName)) hown (mvT hZ (hw _ (List.mem_of_getElem? (i := 0) rfl))) (mvT hZ (hw _ (List.mem_of_getElem? (i := 1) rfl))) (mvT hZ (hw _ (List.mem_of_getElem? (i := 2) rfl))) (mvT hZ (hw _ (List.mem_of_getElem? (i := 3) rfl))) (by decide) (backOf (W := 0) (rmD l Z a0 hw [] i0 i1 h0 n0 Z0 hlt h1 h2) hZ (hw _ (List.mem_of_getElem? (i := 3) rfl)) (hw _ (List.mem_of_getElem? (i := 2) rfl)) (by decide) (by decide)) (g := (mkF m 2 #[.val (.int i0), .val (.int i1), .unset] [(.int i1), (.int i0)])) rfl (by rw [hml]; rfl) (argsL := [(.int i0), (.int i1)]) (rest := []) (lenOf own_f27 rfl) rfl (by show 2 * 0 + _ ≤ _; exact Nat.le_of_eq rfl) (hb hby at_2) (fun _ _ => ⟨rfl, e0, (by dsimp only [Pt.cells, Pt.slots]; decide), (by dsimp only [Pt.cells, Pt.slots]; decide)⟩)
      dsimp only [Pt.U, Pt.locs, Pt.cells, Pt.slots] at X15 l15 y15 z15 st15 hQ15
      subst l15 y15 z15
      obtain ⟨bb, kb, rfl, N15q, K15, V_bb⟩ := hQ15
      have N15 := Fr.app N0 N15q
      refine Go.step (st15) ?_
      replace K0 := K0.trans K15 (all0)
      replace Zn := Nat.le_trans Zn K15.1
      show Go p e below _ T15 (mkF m 5 #[.val (.int i0), .val (.int i1), .unset] [(.ref bb)])
      refine Go.step (fun _ k => XS.astoreN X15.here hx rfl (hb hby at_5) rfl rfl (l' := #[.val (.int i0), .val (.int i1), .val (.ref bb)]) rfl k) ?_
      show Go p e below _ T15 (mkF m 6 #[.val (.int i0), .val (.int i1), .val (.ref bb)] [])
      refine Go.step (fun _ k => XS.aloadN X15.here hx rfl (hb hby at_6) rfl rfl k) ?_
      show Go p e below _ T15 (mkF m 7 #[.val (.int i0), .val (.int i1), .val (.ref bb)] [(.ref bb)])
      refine Go.step (fun _ k => XS.ifnonnullYes X15.here hx rfl (pc0 := 7) (pc' := 12) rfl (hb hby at_7) rfl (by decide) (by decide) k) ?_
      show Go p e below _ T15 (mkF m 12 #[.val (.int i0), .val (.int i1), .val (.ref bb)] [])
      refine Go.step (fun _ k => XS.iloadN X15.here hx rfl (hb hby at_12) rfl k) ?_
      show Go p e below _ T15 (mkF m 13 #[.val (.int i0), .val (.int i1), .val (.ref bb)] [(.int i0)])
      refine Go.step (fun _ k => XS.iloadN X15.here hx rfl (hb hby at_13) rfl k) ?_
      show Go p e below _ T15 (mkF m 14 #[.val (.int i0), .val (.int i1), .val (.ref bb)] [(.int i1), (.int i0)])
      refine Go.step (fun _ k => XS.icmpYes X15.here hx rfl (pc0 := 14) (pc' := 28) rfl (hb hby at_14) rfl (flt hlt).2.2.2 (by decide) (by decide) k) ?_
      show Go p e below _ T15 (mkF m 28 #[.val (.int i0), .val (.int i1), .val (.ref bb)] [])
      refine Go.step (fun _ k => XS.aloadN X15.here hx rfl (hb hby at_28) rfl rfl k) ?_
      show Go p e below _ T15 (mkF m 29 #[.val (.int i0), .val (.int i1), .val (.ref bb)] [(.ref bb)])
      obtain ⟨cl16, Ar16, q16, S16, Nn16, H16, G16⟩ := V_bb
      have V_bb : Arv Z T15.heap bb kb .int (2 : Int32) [(.int i0), (.int i1)] (.int (0 : Int32)) := ⟨cl16, Ar16, q16, S16, Nn16, H16, G16⟩
      refine Go.step (X15.arraylength hx Ar16.1 (State.isArrayOf_alike hZ.alike Ar16.2.1) (g := (mkF m 29 #[.val (.int i0), .val (.int i1), .val (.ref bb)] [(.ref bb)])) rfl rfl (hb hby at_29)) ?_
      rw [len_of S16 Nn16]
      show Go p e below _ T15 (mkF m 30 #[.val (.int i0), .val (.int i1), .val (.ref bb)] [(.int (2 : Int32))])
      refine Go.step (fun _ k => XS.iconst X15.here hx rfl (hb hby at_30) k) ?_
      show Go p e below _ T15 (mkF m 31 #[.val (.int i0), .val (.int i1), .val (.ref bb)] [(.int (2 : Int32)), (.int (2 : Int32))])
      refine Go.step (fun _ k => XS.icmpNo X15.here hx rfl (hb hby at_31) rfl (teq rfl).2 k) ?_
      show Go p e below _ T15 (mkF m 34 #[.val (.int i0), .val (.int i1), .val (.ref bb)] [])
      refine Go.step (fun _ k => XS.aloadN X15.here hx rfl (hb hby at_34) rfl rfl k) ?_
      show Go p e below _ T15 (mkF m 35 #[.val (.int i0), .val (.int i1), .val (.ref bb)] [(.ref bb)])
      refine Go.step (fun _ k => XS.iconst X15.here hx rfl (hb hby at_35) k) ?_
      show Go p e below _ T15 (mkF m 36 #[.val (.int i0), .val (.int i1), .val (.ref bb)] [(.int (0 : Int32)), (.ref bb)])
      obtain ⟨cl17, Ar17, q17, S17, Nn17, H17, G17⟩ := V_bb
      have V_bb : Arv Z T15.heap bb kb .int (2 : Int32) [(.int i0), (.int i1)] (.int (0 : Int32)) := ⟨cl17, Ar17, q17, S17, Nn17, H17, G17⟩
      have hin17 : ¬ ((0 : Int32) < 0 ∨ cl17.slots.size ≤ ((0 : Int32)).toNatClampNeg) := inb_of S17 ⟨by decide, by decide⟩
      have hat17 : cl17.slots[((0 : Int32)).toNatClampNeg]? = some (.int i0) := Has.at H17 hin17 rfl
      refine Go.step (X15.iaload hx (j := (0 : Int32)) (v := (.int i0)) Ar17.1 (State.isArrayOf_alike hZ.alike Ar17.2.1) Ar17.2.2 hin17 hat17 (g := (mkF m 36 #[.val (.int i0), .val (.int i1), .val (.ref bb)] [(.int (0 : Int32)), (.ref bb)])) rfl rfl (hb hby at_36)) ?_
      show Go p e below _ T15 (mkF m 37 #[.val (.int i0), .val (.int i1), .val (.ref bb)] [(.int i0)])
      refine Go.step (fun _ k => XS.iloadN X15.here hx rfl (hb hby at_37) rfl k) ?_
      show Go p e below _ T15 (mkF m 38 #[.val (.int i0), .val (.int i1), .val (.ref bb)] [(.int i0), (.int i0)])
      refine Go.step (fun _ k => XS.icmpNo X15.here hx rfl (hb hby at_38) rfl (teq rfl).2 k) ?_
      show Go p e below _ T15 (mkF m 41 #[.val (.int i0), .val (.int i1), .val (.ref bb)] [])
      refine Go.step (fun _ k => XS.aloadN X15.here hx rfl (hb hby at_41) rfl rfl k) ?_
      show Go p e below _ T15 (mkF m 42 #[.val (.int i0), .val (.int i1), .val (.ref bb)] [(.ref bb)])
      refine Go.step (fun _ k => XS.iconst X15.here hx rfl (hb hby at_42) k) ?_
      show Go p e below _ T15 (mkF m 43 #[.val (.int i0), .val (.int i1), .val (.ref bb)] [(.int (1 : Int32)), (.ref bb)])
      obtain ⟨cl18, Ar18, q18, S18, Nn18, H18, G18⟩ := V_bb
      have V_bb : Arv Z T15.heap bb kb .int (2 : Int32) [(.int i0), (.int i1)] (.int (0 : Int32)) := ⟨cl18, Ar18, q18, S18, Nn18, H18, G18⟩
      have hin18 : ¬ ((1 : Int32) < 0 ∨ cl18.slots.size ≤ ((1 : Int32)).toNatClampNeg) := inb_of S18 ⟨by decide, by decide⟩
      have hat18 : cl18.slots[((1 : Int32)).toNatClampNeg]? = some (.int i1) := Has.at H18 hin18 rfl
      refine Go.step (X15.iaload hx (j := (1 : Int32)) (v := (.int i1)) Ar18.1 (State.isArrayOf_alike hZ.alike Ar18.2.1) Ar18.2.2 hin18 hat18 (g := (mkF m 43 #[.val (.int i0), .val (.int i1), .val (.ref bb)] [(.int (1 : Int32)), (.ref bb)])) rfl rfl (hb hby at_43)) ?_
      show Go p e below _ T15 (mkF m 44 #[.val (.int i0), .val (.int i1), .val (.ref bb)] [(.int i1)])
      refine Go.step (fun _ k => XS.iloadN X15.here hx rfl (hb hby at_44) rfl k) ?_
      show Go p e below _ T15 (mkF m 45 #[.val (.int i0), .val (.int i1), .val (.ref bb)] [(.int i1), (.int i1)])
      refine Go.step (fun _ k => XS.icmpNo X15.here hx rfl (hb hby at_45) rfl (teq rfl).2 k) ?_
      show Go p e below _ T15 (mkF m 48 #[.val (.int i0), .val (.int i1), .val (.ref bb)] [])
      refine Go.step (fun _ k => XS.iconst X15.here hx rfl (hb hby at_48) k) ?_
      show Go p e below _ T15 (mkF m 49 #[.val (.int i0), .val (.int i1), .val (.ref bb)] [(.int (1 : Int32))])
      refine Go.step (fun _ k => XS.goto X15.here hx rfl (pc0 := 49) (pc' := 53) rfl (hb hby at_49) (by decide) (by decide) k) ?_
      show Go p e below _ T15 (mkF m 53 #[.val (.int i0), .val (.int i1), .val (.ref bb)] [(.int (1 : Int32))])
      obtain ⟨fs, hr, hrun, hended, hW, hsame⟩ := X15.leave (v := some (.int (1 : Int32))) (fun h => by rw [Bd.returns] at h; cases h)
      refine Go.fin (retN X15 hx (t := .boolean) Bd.returns (by simp) (hb hby at_53) hr) hrun hended ?_
      refine ⟨_, _, rfl, ?_, ⟨_, rfl⟩, hW, hsame.mono (by decide) (by decide)⟩
      show Q0 Z i0 i1 aN aZ kN kZ h0 n0 _ T15.heap _
      exact ⟨rfl, N15⟩
  · show Go p e below _ s₁ (mkF m 0 #[.val (.int i0), .val (.int i1), .unset] [])
    refine Go.step (fun _ k => XS.iloadN X0.here hx rfl (hb hby at_0) rfl k) ?_
    show Go p e below _ s₁ (mkF m 1 #[.val (.int i0), .val (.int i1), .unset] [(.int i0)])
    refine Go.step (fun _ k => XS.iloadN X0.here hx rfl (hb hby at_1) rfl k) ?_
    show Go p e below _ s₁ (mkF m 2 #[.val (.int i0), .val (.int i1), .unset] [(.int i1), (.int i0)])
    obtain ⟨_, _, ⟨T19, L19, k19, n19⟩, -, X19, ⟨Lc19, hQ19, l19, y19, z19⟩, st19⟩ := Jvm.LawKit.callS X0 hx (y := (⟨"com/example/seriate/seriate/engine/pattern/Counts", "range", "(II)[I"⟩ : MethodName)) hown (mvT hZ (hw _ (List.mem_of_getElem? (i := 0) rfl))) (mvT hZ (hw _ (List.mem_of_getElem? (i := 1) rfl))) (mvT hZ (hw _ (List.mem_of_getElem? (i := 2) rfl))) (mvT hZ (hw _ (List.mem_of_getElem? (i := 3) rfl))) (by decide) (backOf (W := 0) (rmC l Z a0 hw [] i0 i1 h0 n0 Z0 hlt h1) hZ (hw _ (List.mem_of_getElem? (i := 3) rfl)) (hw _ (List.mem_of_getElem? (i := 2) rfl)) (by decide) (by decide)) (g := (mkF m 2 #[.val (.int i0), .val (.int i1), .unset] [(.int i1), (.int i0)])) rfl (by rw [hml]; rfl) (argsL := [(.int i0), (.int i1)]) (rest := []) (lenOf own_f27 rfl) rfl (by show 2 * 0 + _ ≤ _; exact Nat.le_of_eq rfl) (hb hby at_2) (fun _ _ => ⟨rfl, e0, (by dsimp only [Pt.cells, Pt.slots]; decide), (by dsimp only [Pt.cells, Pt.slots]; decide)⟩)
    dsimp only [Pt.U, Pt.locs, Pt.cells, Pt.slots] at X19 l19 y19 z19 st19 hQ19
    subst l19 y19 z19
    obtain ⟨bb, kb, rfl, N19q, K19, V_bb⟩ := hQ19
    have N19 := Fr.app N0 N19q
    refine Go.step (st19) ?_
    replace K0 := K0.trans K19 (all0)
    replace Zn := Nat.le_trans Zn K19.1
    show Go p e below _ T19 (mkF m 5 #[.val (.int i0), .val (.int i1), .unset] [(.ref bb)])
    refine Go.step (fun _ k => XS.astoreN X19.here hx rfl (hb hby at_5) rfl rfl (l' := #[.val (.int i0), .val (.int i1), .val (.ref bb)]) rfl k) ?_
    show Go p e below _ T19 (mkF m 6 #[.val (.int i0), .val (.int i1), .val (.ref bb)] [])
    refine Go.step (fun _ k => XS.aloadN X19.here hx rfl (hb hby at_6) rfl rfl k) ?_
    show Go p e below _ T19 (mkF m 7 #[.val (.int i0), .val (.int i1), .val (.ref bb)] [(.ref bb)])
    refine Go.step (fun _ k => XS.ifnonnullYes X19.here hx rfl (pc0 := 7) (pc' := 12) rfl (hb hby at_7) rfl (by decide) (by decide) k) ?_
    show Go p e below _ T19 (mkF m 12 #[.val (.int i0), .val (.int i1), .val (.ref bb)] [])
    refine Go.step (fun _ k => XS.iloadN X19.here hx rfl (hb hby at_12) rfl k) ?_
    show Go p e below _ T19 (mkF m 13 #[.val (.int i0), .val (.int i1), .val (.ref bb)] [(.int i0)])
    refine Go.step (fun _ k => XS.iloadN X19.here hx rfl (hb hby at_13) rfl k) ?_
    show Go p e below _ T19 (mkF m 14 #[.val (.int i0), .val (.int i1), .val (.ref bb)] [(.int i1), (.int i0)])
    refine Go.step (fun _ k => XS.icmpYes X19.here hx rfl (pc0 := 14) (pc' := 28) rfl (hb hby at_14) rfl (flt hlt).2.2.2 (by decide) (by decide) k) ?_
    show Go p e below _ T19 (mkF m 28 #[.val (.int i0), .val (.int i1), .val (.ref bb)] [])
    refine Go.step (fun _ k => XS.aloadN X19.here hx rfl (hb hby at_28) rfl rfl k) ?_
    show Go p e below _ T19 (mkF m 29 #[.val (.int i0), .val (.int i1), .val (.ref bb)] [(.ref bb)])
    obtain ⟨cl20, Ar20, q20, S20, Nn20, H20, G20⟩ := V_bb
    have V_bb : Arv Z T19.heap bb kb .int (2 : Int32) [(.int i0), (.int i1)] (.int (0 : Int32)) := ⟨cl20, Ar20, q20, S20, Nn20, H20, G20⟩
    refine Go.step (X19.arraylength hx Ar20.1 (State.isArrayOf_alike hZ.alike Ar20.2.1) (g := (mkF m 29 #[.val (.int i0), .val (.int i1), .val (.ref bb)] [(.ref bb)])) rfl rfl (hb hby at_29)) ?_
    rw [len_of S20 Nn20]
    show Go p e below _ T19 (mkF m 30 #[.val (.int i0), .val (.int i1), .val (.ref bb)] [(.int (2 : Int32))])
    refine Go.step (fun _ k => XS.iconst X19.here hx rfl (hb hby at_30) k) ?_
    show Go p e below _ T19 (mkF m 31 #[.val (.int i0), .val (.int i1), .val (.ref bb)] [(.int (2 : Int32)), (.int (2 : Int32))])
    refine Go.step (fun _ k => XS.icmpNo X19.here hx rfl (hb hby at_31) rfl (teq rfl).2 k) ?_
    show Go p e below _ T19 (mkF m 34 #[.val (.int i0), .val (.int i1), .val (.ref bb)] [])
    refine Go.step (fun _ k => XS.aloadN X19.here hx rfl (hb hby at_34) rfl rfl k) ?_
    show Go p e below _ T19 (mkF m 35 #[.val (.int i0), .val (.int i1), .val (.ref bb)] [(.ref bb)])
    refine Go.step (fun _ k => XS.iconst X19.here hx rfl (hb hby at_35) k) ?_
    show Go p e below _ T19 (mkF m 36 #[.val (.int i0), .val (.int i1), .val (.ref bb)] [(.int (0 : Int32)), (.ref bb)])
    obtain ⟨cl21, Ar21, q21, S21, Nn21, H21, G21⟩ := V_bb
    have V_bb : Arv Z T19.heap bb kb .int (2 : Int32) [(.int i0), (.int i1)] (.int (0 : Int32)) := ⟨cl21, Ar21, q21, S21, Nn21, H21, G21⟩
    have hin21 : ¬ ((0 : Int32) < 0 ∨ cl21.slots.size ≤ ((0 : Int32)).toNatClampNeg) := inb_of S21 ⟨by decide, by decide⟩
    have hat21 : cl21.slots[((0 : Int32)).toNatClampNeg]? = some (.int i0) := Has.at H21 hin21 rfl
    refine Go.step (X19.iaload hx (j := (0 : Int32)) (v := (.int i0)) Ar21.1 (State.isArrayOf_alike hZ.alike Ar21.2.1) Ar21.2.2 hin21 hat21 (g := (mkF m 36 #[.val (.int i0), .val (.int i1), .val (.ref bb)] [(.int (0 : Int32)), (.ref bb)])) rfl rfl (hb hby at_36)) ?_
    show Go p e below _ T19 (mkF m 37 #[.val (.int i0), .val (.int i1), .val (.ref bb)] [(.int i0)])
    refine Go.step (fun _ k => XS.iloadN X19.here hx rfl (hb hby at_37) rfl k) ?_
    show Go p e below _ T19 (mkF m 38 #[.val (.int i0), .val (.int i1), .val (.ref bb)] [(.int i0), (.int i0)])
    refine Go.step (fun _ k => XS.icmpNo X19.here hx rfl (hb hby at_38) rfl (teq rfl).2 k) ?_
    show Go p e below _ T19 (mkF m 41 #[.val (.int i0), .val (.int i1), .val (.ref bb)] [])
    refine Go.step (fun _ k => XS.aloadN X19.here hx rfl (hb hby at_41) rfl rfl k) ?_
    show Go p e below _ T19 (mkF m 42 #[.val (.int i0), .val (.int i1), .val (.ref bb)] [(.ref bb)])
    refine Go.step (fun _ k => XS.iconst X19.here hx rfl (hb hby at_42) k) ?_
    show Go p e below _ T19 (mkF m 43 #[.val (.int i0), .val (.int i1), .val (.ref bb)] [(.int (1 : Int32)), (.ref bb)])
    obtain ⟨cl22, Ar22, q22, S22, Nn22, H22, G22⟩ := V_bb
    have V_bb : Arv Z T19.heap bb kb .int (2 : Int32) [(.int i0), (.int i1)] (.int (0 : Int32)) := ⟨cl22, Ar22, q22, S22, Nn22, H22, G22⟩
    have hin22 : ¬ ((1 : Int32) < 0 ∨ cl22.slots.size ≤ ((1 : Int32)).toNatClampNeg) := inb_of S22 ⟨by decide, by decide⟩
    have hat22 : cl22.slots[((1 : Int32)).toNatClampNeg]? = some (.int i1) := Has.at H22 hin22 rfl
    refine Go.step (X19.iaload hx (j := (1 : Int32)) (v := (.int i1)) Ar22.1 (State.isArrayOf_alike hZ.alike Ar22.2.1) Ar22.2.2 hin22 hat22 (g := (mkF m 43 #[.val (.int i0), .val (.int i1), .val (.ref bb)] [(.int (1 : Int32)), (.ref bb)])) rfl rfl (hb hby at_43)) ?_
    show Go p e below _ T19 (mkF m 44 #[.val (.int i0), .val (.int i1), .val (.ref bb)] [(.int i1)])
    refine Go.step (fun _ k => XS.iloadN X19.here hx rfl (hb hby at_44) rfl k) ?_
    show Go p e below _ T19 (mkF m 45 #[.val (.int i0), .val (.int i1), .val (.ref bb)] [(.int i1), (.int i1)])
    refine Go.step (fun _ k => XS.icmpNo X19.here hx rfl (hb hby at_45) rfl (teq rfl).2 k) ?_
    show Go p e below _ T19 (mkF m 48 #[.val (.int i0), .val (.int i1), .val (.ref bb)] [])
    refine Go.step (fun _ k => XS.iconst X19.here hx rfl (hb hby at_48) k) ?_
    show Go p e below _ T19 (mkF m 49 #[.val (.int i0), .val (.int i1), .val (.ref bb)] [(.int (1 : Int32))])
    refine Go.step (fun _ k => XS.goto X19.here hx rfl (pc0 := 49) (pc' := 53) rfl (hb hby at_49) (by decide) (by decide) k) ?_
    show Go p e below _ T19 (mkF m 53 #[.val (.int i0), .val (.int i1), .val (.ref bb)] [(.int (1 : Int32))])
    obtain ⟨fs, hr, hrun, hended, hW, hsame⟩ := X19.leave (v := some (.int (1 : Int32))) (fun h => by rw [Bd.returns] at h; cases h)
    refine Go.fin (retN X19 hx (t := .boolean) Bd.returns (by simp) (hb hby at_53) hr) hrun hended ?_
    refine ⟨_, _, rfl, ?_, ⟨_, rfl⟩, hW, hsame.mono (by decide) (by decide)⟩
    show Q0 Z i0 i1 aN aZ kN kZ h0 n0 _ T19.heap _
    exact ⟨rfl, N19⟩
set_option maxRecDepth 65536 in
set_option maxHeartbeats 40000000 in
theorem comes_1 {Post : Tables → Env → Array Value → State → Outcome → State → Prop} (hpost : ∀ tb e args s v u, (limb_1_1.after args s (.returned v) u = true ∧ limb_1_2.after args s (.returned v) u = true ∧ True) → FrameEnd s (.returned v) u (Jvm.fieldLocs frame_1_writes args s ++ Jvm.arrayLocs frame_1_arrays args s ++ Jvm.staticLocs frame_1_statics s) 16 128 → Post tb e args s (.returned v) u) :
    ArmFor flags0 classFile x code maxLocals ret World_1 tables_1 room_1 Calls_1 rest_1 Pre_1 Post := by
  intro l hfl _ _ p e ha hc hk s m args below hf hA hF happ hP
  obtain ⟨hcalls, hrest, hpre⟩ := hP
  obtain ⟨-, -, -, hnamed, -, -, -, hat⟩ := (Spec.applies_iff hf).mp happ
  obtain ⟨hg, hn⟩ := and_e (Cond.before_iff.mp (show (Jvm.Cond.and given_1 narrow_1).before args s = true from hpre))
  obtain ⟨hg1, hg2⟩ := and_e hg
  obtain ⟨hg3, hg4⟩ := and_e hg2
  obtain ⟨w0, w1, rfl⟩ : ∃ w0 w1 : Value, args = #[w0, w1] := by
    have hs : args.size = 2 := by simpa [Cond.value, given_1] using hg1
    obtain ⟨L⟩ := args
    match L, hs with
    | [w0, w1], _ => exact ⟨w0, w1, rfl⟩
  have hw := fun d (hd : d ∈ tables_1) => atoms_spec (ws := Jvm.Cond.code x code maxLocals ret :: tables_1) hat d (List.mem_cons_of_mem _ hd)
  have hfit : Fit s := fun {y c} hc i hi => by
    obtain ⟨ha, rfl⟩ := Array.getElem?_eq_some_iff.mp hc
    have q := List.all_eq_true.mp ((Array.all_eq_true_iff_forall_mem.mp hF) _ (Array.getElem_mem ha)) i (List.mem_range.mpr hi)
    simpa [Array.getElem?_eq_getElem hi] using q
  obtain ⟨i0, ei0⟩ := is_v hg3
  obtain rfl : w0 = (.int i0) := Option.some.inj ei0
  obtain ⟨i1, ei1⟩ := is_v hg4
  obtain rfl : w1 = (.int i1) := Option.some.inj ei1
  obtain ⟨n1, n23⟩ := and_e (show (narrow_1).value _ s none s [] = some true from hn)
  obtain ⟨n2, n33⟩ := and_e n23
  obtain ⟨n3, n43⟩ := and_e n33
  obtain ⟨n4, n53⟩ := and_e n43
  obtain ⟨n5, n6⟩ := and_e n53
  obtain ⟨aN, evN⟩ := arr_v n1
  obtain ⟨cN, AN⟩ := Arr.start evN n1
  obtain ⟨lN, mN⟩ := own_lenS evN AN n2
  obtain ⟨aZ, evZ⟩ := arr_v n3
  obtain ⟨cZ, AZ⟩ := Arr.start evZ n3
  obtain ⟨lZ, mZ⟩ := own_lenS evZ AZ n4
  have z5 := own_elS evZ AZ n5
  have z6 := own_elS evZ AZ n6
  have SN := Sta.start evN (Or.inr ⟨(hw _ (List.mem_of_getElem? (i := 2) rfl)), (hw _ (List.mem_of_getElem? (i := 6) rfl))⟩)
  have SZ := Sta.start evZ (Or.inr ⟨(hw _ (List.mem_of_getElem? (i := 2) rfl)), (hw _ (List.mem_of_getElem? (i := 8) rfl))⟩)
  have VN : Arv s s.heap aN cN.cls .int (0 : Int32) [] (.int (0 : Int32)) := Arv.start hfit AN lN mN (by decide) rfl trivial
  have VZ : Arv s s.heap aZ cZ.cls .int (2 : Int32) [(.int (0 : Int32)), (.int (0 : Int32))] (.int (0 : Int32)) := Arv.start hfit AZ lZ mZ (by decide) rfl ⟨z5, z6, trivial⟩
  obtain ⟨n, o, h1, h2, h3, _, L, rfl, ⟨rfl, N⟩, hq⟩ := rm0 l s _ hw tables_1 i0 i1 aN aZ cN.cls cZ.cls s.heap s.heap.size (Nat.le_refl _) SN SZ VN VZ p e ha hc hk s m _ below hf ((Spec.applies_iff_loose hf).mp happ).1 ⟨rfl, State.Warmed39.refl s, rfl⟩ trivial
  refine ⟨n, _, h1, h2, h3, hpost _ _ _ _ _ _ ⟨Cond.after_iff.mpr rfl, Cond.after_iff.mpr (eq_i res_at (Term.int_eval (1)) rfl), trivial⟩ ⟨hq.1, hq.2.1, (hq.2.2.sift fun y hy => Or.inr (N y hy)).mono (by decide) (by decide)⟩⟩
theorem main_1_1 : Claimed_1_1 := comes_1 fun _ _ _ _ _ _ h hF => ⟨h.1, hF⟩
theorem main_1_2 : Claimed_1_2 := comes_1 fun _ _ _ _ _ _ h hF => ⟨h.2.1, hF⟩
end Jvm.Pilot.@@N@@
namespace Jvm.Pilot.@@N@@
open Jvm Jvm.ClassFile Sem Op Lib Jvm.Free Jvm.Stand Jvm.Pilot.@@N@@.Jvm.D
/-! MADE BY PROGRAM (witnessworld.py) out of the Statement's table words and the real class files: 9 classes; the members and pool entries that the words name. The judged class is class 1, her method 1. -/
namespace start1
open Jvm.ClassFile
def u (s : String) : CpInfo := .utf8 (stringToUtf16 s)
/-- a pool by its gaps: so many unusable entries, then the entry; so many at the end -/
def gap : Nat → List CpInfo → List CpInfo
  | 0, r => r
  | n + 1, r => .unusable :: gap n r
def poolList (es : List (Nat × CpInfo)) (last : Nat) : List CpInfo := es.foldr (fun e r => gap e.1 (e.2 :: r)) (gap last [])
def pool (es : List (Nat × CpInfo)) (last : Nat) : Array CpInfo := ⟨poolList es last⟩
def fileOf (pool : Array CpInfo) (this : Nat) (attrs : Array Attribute := #[]) (ms : Array MethodInfo := #[]) (fl : Nat := 33) (sup : Nat := 0) (ifs : Array Nat := #[]) (fds : Array FieldInfo := #[]) : ClassFile where
  minorVersion := 0
  majorVersion := 65
  constantPool := pool
  accessFlags := fl
  thisClass := this
  superClass := sup
  interfaces := ifs
  fields := fds
  methods := ms
  attributes := attrs
def plain (name : String) (sup : Option ClassId) : Class where
  name := name
  kind := .ordinary
  loader := none
  accessFlags := 33
  super := sup
  interfaces := #[]
  cf := none
  fields := #[]
  methods := #[]
  instanceTypes := #[]
  staticTypes := #[]
  resolved := #[]
  callSites := []
  init := .initialized
  statics := none
  mirror := none

def pool0 : Array CpInfo := pool [(5, u "<init>"), (0, u "()V"), (1, .class_ 10), (1, u "java/lang/Object")] 113

def k0m0 : Method := { name := "<init>", desc := "()V", sig := { parameters := [], returnType := none }, accessFlags := 1, code := none }
/-- java/lang/Object -/
def k0 : Class := { plain "java/lang/Object" none with
  accessFlags := 33
  interfaces := #[]
  cf := some (fileOf pool0 8 #[] #[{ accessFlags := 1, nameIndex := 5, descriptorIndex := 6, attributes := #[] }] 33 0 #[] #[])
  fields := #[]
  methods := #[k0m0]
  instanceTypes := #[]
  staticTypes := #[]
  resolved := Array.replicate 124 none
  statics := none }

def pool1 : Array CpInfo := pool [(2, .class_ 4), (1, u "java/lang/Object"), (0, u "<init>"), (0, u "()V"), (0, .methodref 8 9), (0, .class_ 10), (0, .nameAndType 11 12), (0, u "com/example/seriate/seriate/engine/pattern/Counts"), (0, u "range"), (0, u "(II)[I"), (0, .class_ 14), (0, u "com/example/seriate/seriate/engine/pattern/CountsRangePinLaw"), (2, u "law"), (0, u "(II)Z")] 5

def k1m0 : Method := { name := "<init>", desc := "()V", sig := { parameters := [], returnType := none }, accessFlags := 2, code := none }
def k1c1 : Code := { maxStack := 2, maxLocals := 3, code := code, exceptionTable := #[], attributes := #[] }
def k1m1 : Method := { name := "law", desc := "(II)Z", sig := { parameters := [.int, .int], returnType := some .boolean }, accessFlags := 9, code := some k1c1 }
/-- com/example/seriate/seriate/engine/pattern/CountsRangePinLaw -/
def k1 : Class := { plain "com/example/seriate/seriate/engine/pattern/CountsRangePinLaw" (some 0) with
  accessFlags := 49
  interfaces := #[]
  cf := some (fileOf pool1 13 #[] #[{ accessFlags := 2, nameIndex := 5, descriptorIndex := 6, attributes := #[] }, { accessFlags := 9, nameIndex := 17, descriptorIndex := 18, attributes := #[] }] 49 2 #[] #[])
  fields := #[]
  methods := #[k1m0, k1m1]
  instanceTypes := #[]
  staticTypes := #[]
  resolved := Array.replicate 24 none
  statics := none }

def pool2 : Array CpInfo := pool [(2, .class_ 4), (1, u "java/lang/Object"), (0, u "<init>"), (0, u "()V"), (0, .fieldref 8 9), (0, .class_ 10), (0, .nameAndType 11 12), (0, u "com/example/seriate/seriate/engine/pattern/Counts"), (0, u "NONE"), (0, u "[I"), (0, .fieldref 8 14), (0, .nameAndType 15 12), (0, u "ZERO"), (24, u "range"), (0, u "(II)[I")] 14

def k2m0 : Method := { name := "<init>", desc := "()V", sig := { parameters := [], returnType := none }, accessFlags := 2, code := none }
def k2c1 : Code := { maxStack := 4, maxLocals := 3, code := prog_66_method_2_code, exceptionTable := #[], attributes := #[] }
def k2m1 : Method := { name := "range", desc := "(II)[I", sig := { parameters := [.int, .int], returnType := some (.array .int) }, accessFlags := 8, code := some k2c1 }
/-- com/example/seriate/seriate/engine/pattern/Counts -/
def k2 : Class := { plain "com/example/seriate/seriate/engine/pattern/Counts" (some 0) with
  accessFlags := 48
  interfaces := #[]
  cf := some (fileOf pool2 8 #[] #[{ accessFlags := 2, nameIndex := 5, descriptorIndex := 6, attributes := #[] }, { accessFlags := 8, nameIndex := 40, descriptorIndex := 41, attributes := #[] }] 48 2 #[] #[{ accessFlags := 24, nameIndex := 11, descriptorIndex := 12, attributes := #[] }, { accessFlags := 24, nameIndex := 15, descriptorIndex := 12, attributes := #[] }])
  fields := #[{ name := "NONE", type := (.array .int), accessFlags := 24, slot := 0, constantValue := 0 }, { name := "ZERO", type := (.array .int), accessFlags := 24, slot := 1, constantValue := 0 }]
  methods := #[k2m0, k2m1]
  instanceTypes := #[]
  staticTypes := #[(.array .int), (.array .int)]
  resolved := Array.replicate 56 none
  statics := some 0 }

def pool3 : Array CpInfo := pool [(1, u "java/lang/Cloneable"), (0, .class_ 1), (0, u "java/lang/Object"), (0, .class_ 3)] 3

/-- java/lang/Cloneable -/
def k3 : Class := { plain "java/lang/Cloneable" (some 0) with
  accessFlags := 1537
  interfaces := #[]
  cf := some (fileOf pool3 2 #[] #[] 1537 4 #[] #[])
  fields := #[]
  methods := #[]
  instanceTypes := #[]
  staticTypes := #[]
  resolved := Array.replicate 8 none
  statics := none }

def pool4 : Array CpInfo := pool [(1, u "java/io/Serializable"), (0, .class_ 1), (0, u "java/lang/Object"), (0, .class_ 3)] 3

/-- java/io/Serializable -/
def k4 : Class := { plain "java/io/Serializable" (some 0) with
  accessFlags := 1537
  interfaces := #[]
  cf := some (fileOf pool4 2 #[] #[] 1537 4 #[] #[])
  fields := #[]
  methods := #[]
  instanceTypes := #[]
  staticTypes := #[]
  resolved := Array.replicate 8 none
  statics := none }

/-- the primitive byte -/
def k5 : Class := { plain "byte" none with kind := .primitive 'B', accessFlags := 0x411 }
/-- [B -/
def k6 : Class := { plain "[B" (some 0) with kind := .array 5 .byte, interfaces := #[3, 4], accessFlags := 1041 }

/-- the primitive int -/
def k7 : Class := { plain "int" none with kind := .primitive 'I', accessFlags := 0x411 }
/-- [I -/
def k8 : Class := { plain "[I" (some 0) with kind := .array 7 .int, interfaces := #[3, 4], accessFlags := 1041 }

def heap : Heap := #[{ cls := 2, slots := #[.ref 1, .ref 2], vm := .statics 2 },
  { cls := 8, slots := #[], vm := .none },
  { cls := 8, slots := #[.int 0, .int 0], vm := .none }]
def classes : Array Class := #[k0, k1, k2, k3, k4, k5, k6, k7, k8]
def interned : List (Array UInt16 × Addr) := []
def slotsUsed : Nat := 4
def theMethod : MethodId := ⟨1, 1⟩
def args0 : Array Value := #[.int 5, .int 7]
def aboutOver (below : List Frame) : State where
  vm := { classes := classes, interned := interned.toArray }
  heap := heap
  slotsUsed := slotsUsed
  threads := #[{ frames := .invoking theMethod args0 :: below }]
def below0 : List Frame := [.native { method := ⟨0, 0⟩, args := #[] }]
def about1 : State := aboutOver below0
def p0 : Program := .bare "" "" ""
def e0 : Env := launch0.env 0 0 0
theorem w_frames : about1.frames = Frame.invoking theMethod args0 :: below0 := rfl
set_option maxRecDepth 65536 in
theorem w_args : argsFit about1.vm theMethod args0 = true := by decide +kernel
set_option maxRecDepth 65536 in
theorem w_heap : heapFits about1 = true := by decide +kernel
set_option maxRecDepth 65536 in
theorem w_runnable : about1.curStatus? = some .runnable := by decide +kernel
set_option maxRecDepth 65536 in
theorem w_alone : about1.alone = true := by decide +kernel
set_option maxRecDepth 65536 in
theorem w_named : about1.methodNamed? x = some theMethod := by decide +kernel
set_option maxRecDepth 65536 in
theorem w_hears : about1.hears theMethod below0 = true := by decide +kernel
set_option maxRecDepth 65536 in
theorem w_ripe : about1.ripe theMethod args0 below0 = true := by decide +kernel
theorem w_running : about1.status = .running := rfl
set_option maxRecDepth 65536 in
theorem w_room : about1.hasRoom e0.platform room_1 = true :=
  launch0.hasRoom_least _ room_1 (by decide +kernel) (by decide +kernel) (by decide +kernel) (by decide +kernel) (by decide +kernel) (by decide +kernel)
theorem allAtoms_all (ts : List Jvm.Cond) (a : Array Jvm.Value) (st : Jvm.State) : (allAtoms ts).before a st = ts.all (fun c => c.before a st) := by
  induction ts with
  | nil => rfl
  | cons c t ih =>
    show (Jvm.Cond.and c (allAtoms t)).before a st = _
    rw [Jvm.Cond.before_and, ih, List.all_cons]
def words1 : List Jvm.Cond := Jvm.Cond.code x code maxLocals ret :: tables_1
/-- a 'code' word, met by the world's own term for the bytes: nothing is compared byte by byte -/
theorem code_word {y : MethodName} {bytes : ByteArray} {mx : Nat} {rt : Option FieldType} {a : Array Value} {s : State} {m : MethodId} {meth : Method} {c : Code} (h1 : s.methodNamed? y = some m) (h2 : s.vm.method? m = some meth) (h3 : meth.code = some c) (h4 : c.code = bytes)
    (h5 : (c.maxLocals == mx && c.exceptionTable.isEmpty && decide (c.maxStack ≤ mostOperands) && decide (meth.sig.returnType = rt) && !meth.locks && decide (parseMethodDescriptor y.desc = some meth.sig)) = true) : (Jvm.Cond.code y bytes mx rt).before a s = true := by
  simp only [Bool.and_eq_true, beq_iff_eq, Bool.not_eq_true', decide_eq_true_eq] at h5
  obtain ⟨⟨⟨⟨⟨g1, g2⟩, g3⟩, g4⟩, g5⟩, g6⟩ := h5
  simp [Cond.before, Cond.holds, Cond.value, h1, h2, h3, h4, g1, g2, g3, g4, g5, g6]
def isCode : Jvm.Cond → Bool
  | .code _ _ _ _ => true
  | _ => false
theorem all_split {L : List Jvm.Cond} {P : Jvm.Cond → Bool} (h1 : L.all (fun c => isCode c || P c) = true) (h2 : ∀ c ∈ L.filter isCode, P c = true) : L.all P = true := by
  refine List.all_eq_true.mpr fun c hc => ?_
  have h := List.all_eq_true.mp h1 c hc
  rcases Bool.eq_false_or_eq_true (isCode c) with hi | hi
  · exact h2 c (List.mem_filter.mpr ⟨hc, hi⟩)
  · simpa [hi] using h
set_option maxRecDepth 65536 in
theorem w_c0 : (Jvm.Cond.code x code maxLocals ret).before args0 about1 = true := code_word (m := ⟨1, 1⟩) (meth := k1m1) (c := k1c1) (by decide +kernel) rfl rfl rfl (by decide +kernel)
set_option maxRecDepth 65536 in
theorem w_c1 : (Jvm.Cond.code ({ cls := "com/example/seriate/seriate/engine/pattern/Counts", name := "range", desc := "(II)[I" } : Jvm.MethodName) prog_66_method_2_code (3 : Nat) (Option.some (Jvm.ClassFile.FieldType.array Jvm.ClassFile.FieldType.int))).before args0 about1 = true := code_word (m := ⟨2, 1⟩) (meth := k2m1) (c := k2c1) (by decide +kernel) rfl rfl rfl (by decide +kernel)
def codes1 : List Jvm.Cond := [Jvm.Cond.code x code maxLocals ret, Jvm.Cond.code ({ cls := "com/example/seriate/seriate/engine/pattern/Counts", name := "range", desc := "(II)[I" } : Jvm.MethodName) prog_66_method_2_code (3 : Nat) (Option.some (Jvm.ClassFile.FieldType.array Jvm.ClassFile.FieldType.int))]
set_option maxRecDepth 65536 in
theorem codes_eq : words1.filter isCode = codes1 := rfl
theorem w_codes : ∀ c ∈ words1.filter isCode, c.before args0 about1 = true := by
  rw [codes_eq]
  intro c hc
  simp only [codes1, List.mem_cons, List.not_mem_nil, or_false] at hc
  rcases hc with rfl | rfl
  · exact w_c0
  · exact w_c1
set_option maxRecDepth 65536 in
theorem w_t1 : words1.all (fun c => isCode c || c.before args0 about1) = true := by decide +kernel
theorem w_tables : (allAtoms (Jvm.Cond.code x code maxLocals ret :: tables_1)).before args0 about1 = true := by
  rw [allAtoms_all]
  show words1.all (fun c => c.before args0 about1) = true
  refine all_split ?_ w_codes
  rw [w_t1]
set_option maxRecDepth 65536 in
theorem w_case : (Jvm.Cond.and given_1 narrow_1).before args0 about1 = true := by decide +kernel
theorem w_applies : (headSpec (Jvm.Cond.code x code maxLocals ret :: tables_1) room_1).applies x e0.platform about1 = true :=
  (Spec.applies_iff w_frames).mpr ⟨w_running, w_runnable, w_alone, w_named, w_hears, w_ripe, w_room, w_tables⟩
theorem atStart : AtStart classFile x code maxLocals ret World_1 tables_1 room_1 Calls_1 rest_1 Pre_1 launch0 p0 e0 about1 theMethod args0 below0 :=
  ⟨lists_1, trivial, launch0.admits_env _ _ _, launch0.least_env, fairChoices_fair.cas, fairChoices_fair.clock, w_frames, w_args, w_heap, w_applies, trivial, trivial, w_case⟩
end start1
theorem witness_1 : WitnessClaimed_1 := ⟨start1.p0, start1.e0, start1.about1, start1.theMethod, start1.args0, start1.below0, start1.atStart⟩
end Jvm.Pilot.@@N@@
