import JvmDerived
import JvmDerived.Pilot.@@N@@Statement
import JvmDerived.Pilot.@@N@@Code
set_option linter.unusedVariables false
set_option linter.unusedSimpArgs false
@@BLOCK:NumsL.lean.txt@@
@@BLOCK:HandJ.lean.txt@@
@@BLOCK:SymMore.lean.txt@@
namespace Jvm.RoadKit
open Sem ClassFile Op Lib Jvm.Stand Jvm.Free Jvm.LawKit
/-- from the frame f over T the run ends as R says -/
def Go (p : Program) (e : Env) (below : List Frame) (R : State → Outcome → Prop) (T : State) (f : JFrame) : Prop := ∃ s₂ o, Steps p.tables e below (T.setTop f) s₂ ∧ s₂.status = .running ∧ Ended s₂ below o ∧ R s₂ o
section New
variable {p : Program} {l : Launch} {e : Env} {R : Room} {s : State} {m : MethodId} {args : Array Value} {below : List Frame} {meth : Method} {c : Code} {T T' : State} {locs : List Loc} {cells slots : Nat} {K : State → Outcome → Prop} {f f' : JFrame}
theorem Go.start (q : f = f') (k : Go p e below K T f') : ∃ s₂ o, Steps p.tables e below (T.setTop f) s₂ ∧ s₂.status = .running ∧ Ended s₂ below o ∧ K s₂ o := q ▸ k
theorem Go.step (h : ∀ t, Steps p.tables e below (T'.setTop f') t → Steps p.tables e below (T.setTop f) t) (k : Go p e below K T' f') : Go p e below K T f := by
  obtain ⟨s₂, o, h1, h2⟩ := k
  exact ⟨s₂, o, h _ h1, h2⟩
theorem Go.fin {S2 : State} {o : Outcome} (hs : Steps p.tables e below (T.setTop f) S2) (h1 : S2.status = .running) (h2 : Ended S2 below o) (h3 : K S2 o) : Go p e below K T f := ⟨_, _, hs, h1, h2, h3⟩
theorem retI (X : Stand p l e R s m args below meth c T locs cells slots) (hx : p.tables.exec = Jvm.exec) {pc : Nat} {Ls : Array Slot} {z : Int32} {rest : List Value} (hret : meth.sig.returnType = some .int) (hd : decode c.code pc = .ok (.ireturn, 1)) {fs : List Frame}
    (hl : ∀ (f : JFrame) (acts : List Action), f.method = m → f.locked = none → f.entered = [] → (doReturn e (T.setTop f) acts (some (.int z))).1 = T.setFrames fs) : Steps p.tables e below (T.setTop (mkF m pc Ls (.int z :: rest))) (T.setFrames fs) := by
  have hm' : T.vm.method? m = some meth := X.method'
  have hn : narrow .int (.int z) = .int z := rfl
  show Steps p.tables e below (T.setTop { method := m, pc := pc, locals := Ls, stack := _ :: rest, locked := none }) _
  jvm_step X.here [X.here.top, hx, hd, hm', hret, hn]
  first | (intro acts; rw [hl _ acts rfl rfl rfl]) | rw [hl _ _ rfl rfl rfl]
  exact Steps.refl _
theorem own_retJ (X : Stand p l e R s m args below meth c T locs cells slots) (hx : p.tables.exec = Jvm.exec) {pc : Nat} {Ls : Array Slot} {z : Int64} {rest : List Value} (hret : meth.sig.returnType = some .long) (hd : decode c.code pc = .ok (.lreturn, 1)) {fs : List Frame}
    (hl : ∀ (f : JFrame) (acts : List Action), f.method = m → f.locked = none → f.entered = [] → (doReturn e (T.setTop f) acts (some (.long z))).1 = T.setFrames fs) : Steps p.tables e below (T.setTop (mkF m pc Ls (.long z :: rest))) (T.setFrames fs) := by
  have hm' : T.vm.method? m = some meth := X.method'
  have hn : narrow .long (.long z) = .long z := rfl
  show Steps p.tables e below (T.setTop { method := m, pc := pc, locals := Ls, stack := _ :: rest, locked := none }) _
  jvm_step X.here [X.here.top, hx, hd, hm', hret, hn]
  first | (intro acts; rw [hl _ acts rfl rfl rfl]) | rw [hl _ _ rfl rfl rfl]
  exact Steps.refl _
theorem own_lenS {Z : State} {t : Term} {a : Addr} {c : Cell} {ty : FieldType} {n : Int32} (ev : t.eval args Z none [] Z = some (.ref a)) (A : Arr Z Z.heap a c ty) (h : (Cond.eq (.length t) (.int n)).value args Z none Z [] = some true) : c.slots.size < 2 ^ 31 ∧ c.slots.size.toInt32 = n := by
  have hA : Z.arrayAt? a = some c := Arr.fin (Vm.Alike.refl _) A
  by_cases hl : c.slots.size < 2 ^ 31
  · have e1 : (Term.length t).eval args Z none [] Z = some (.int c.slots.size.toInt32) := len_f ev hA hl
    refine ⟨hl, ?_⟩
    simpa [Cond.value, e1, Term.int_eval] using h
  · have e1 : (Term.length t).eval args Z none [] Z = none := by simp [Term.eval, ev, hA]; omega
    simp [Cond.value, e1] at h
theorem own_elS {Z : State} {t : Term} {a : Addr} {c : Cell} {ty : FieldType} {j n : Int32} (ev : t.eval args Z none [] Z = some (.ref a)) (A : Arr Z Z.heap a c ty) (h : (Cond.eq (.elem t (.int j)) (.int n)).value args Z none Z [] = some true) : c.slots[j.toNatClampNeg]? = some (.int n) := by
  obtain ⟨x, y, hx, hy, hk, -⟩ := cmp_v (Or.inl h)
  have q := (elem_in hx ev (Term.int_eval j) A.1).2
  rw [q]
  cases x <;> simp [Cond.value, hx, Term.int_eval] at h ⊢
  exact h
end New
end Jvm.RoadKit
namespace Jvm.Pilot.@@N@@
open Jvm Jvm.ClassFile Sem Op Lib Jvm.Free Jvm.Stand Jvm.LawKit Jvm.RoadKit Bundle Jvm.Pilot.@@N@@.Jvm.D
def own_max (a b : Int32) : Int32 := if a < b then b else a
def own_By (Z : State) (h : Heap) (a : Addr) (z : Int32) : Prop := ∃ (k : ClassId) (vs : List Value), Arv Z h a k .byte z vs (.int (0 : Int32)) ∧ vs.length = z.toNatClampNeg
section By
variable {Z : State} {h h' : Heap} {a b : Addr} {z z' : Int32} {sl : Nat} {v : Value} {ws : List Addr}
theorem own_By.ext (F : own_By Z h a z) (E : Ext h h') : own_By Z h' a z := by obtain ⟨k, vs, V, l⟩ := F; exact ⟨k, vs, V.ext E, l⟩
theorem own_By.other (F : own_By Z h b z) (W : Wr h h' a sl v) (q : b ≠ a) : own_By Z h' b z := by obtain ⟨k, vs, V, l⟩ := F; exact ⟨k, vs, V.other W q, l⟩
theorem own_By.keep (F : own_By Z h a z) (K : Keep h h' ws) (q : a ∉ ws) : own_By Z h' a z := by obtain ⟨k, vs, V, l⟩ := F; exact ⟨k, vs, V.keep K q, l⟩
theorem own_By.lt (F : own_By Z h a z) : a < h.size := by obtain ⟨k, vs, V, l⟩ := F; exact V.lt
theorem own_By.nn (F : own_By Z h a z) : ¬ z < 0 := by obtain ⟨k, vs, ⟨c, A, q1, S, q3, H, G⟩, l⟩ := F; exact q3
theorem own_By.new {k : ClassId} (A : Arr Z h a (newA k .byte z) .byte) (q : ¬ z < 0) : own_By Z h a z := ⟨k, _, (Arv.new A q).pad (pad_rep [] (.int (0 : Int32)) z.toNatClampNeg), by simp⟩
theorem own_By.ne {a0 : Array Value} {k : Nat} {C : String} (F : Exa Z h a C) (wi : (Cond.instantiable C k).before a0 Z = true) (B : own_By Z h b z) : a ≠ b := by obtain ⟨k, vs, ⟨c, A, r⟩, l⟩ := B; exact ne_arr F wi A
end By
section Cp
variable {p : Program} {l : Launch} {e : Env} {R : Room} {s : State} {m : MethodId} {args : Array Value} {below : List Frame} {meth : Method} {c : Code} {T : State} {locs : List Loc} {cells slots : Nat} {Z : State} {h : Heap} {a b : Addr} {z z' : Int32}
theorem own_copy (X : Stand p l e R s m args below meth c T locs cells slots) (hx : p.tables.exec = Jvm.exec) (hZ : Z.Warmed39 s.vm) {a0 : Array Value} {own : String} {index : Nat} (hown : s.vm.findClass own = some m.cls)
    (w1 : (Cond.methodLink own index Jvm.Stand.acN).before a0 Z = true) (w2 : (Cond.native Jvm.Stand.acN).before a0 Z = true) (w3 : (Cond.static Jvm.Stand.acN).before a0 Z = true) (w4 : (Cond.initialized "java/lang/System").before a0 Z = true) (eT : T.heap = h) {sp dp nn : Int32} (A : own_By Z h a z) (B : own_By Z h b z')
    (h1 : 0 ≤ sp.toInt) (h2 : 0 ≤ dp.toInt) (h3 : 0 ≤ nn.toInt) (h4 : sp.toInt + nn.toInt ≤ z.toInt) (h5 : dp.toInt + nn.toInt ≤ z'.toInt) {n0 : Nat} (N : Fr n0 locs) (ge : n0 ≤ b)
    {g : JFrame} (hg : g.method = m) (hsize : g.locals.size = c.maxLocals) {rest : List Value} (hs : g.stack = .int nn :: .int dp :: .ref b :: .int sp :: .ref a :: rest) (hd : decode c.code g.pc = .ok (.invokestatic index, 3))
    (hf : 1 ≤ R.frames) {W : Nat} (hW : 2 * g.monitorRoom + (rest.map fun v => v.category).sum ≤ W) (hlo : W + (nativeFrameWords "java/lang/System" "arraycopy" 5 + 11) ≤ R.locals) :
    ∃ T' h' L, Stand p l e R s m args below meth c T' L cells slots ∧ T'.heap = h' ∧ Fr n0 L ∧ Keep h h' [b] ∧ own_By Z h' b z' ∧
      ∀ target, Steps p.tables e below (T'.setTop { g with pc := g.pc + 3, stack := rest }) target → Steps p.tables e below (T.setTop g) target := by
  obtain ⟨k, vs, VA, lA⟩ := A
  obtain ⟨k', vd, VB, lB⟩ := B
  have z0 : (0 : Int32).toInt = 0 := by decide
  have nn_ : ∀ {x : Int32}, 0 ≤ x.toInt → ¬ x < 0 := fun {x} q => by rw [Int32.lt_iff_toInt_lt, z0]; omega
  have g4 : sp.toNatClampNeg + nn.toNatClampNeg ≤ z.toNatClampNeg := by unfold Int32.toNatClampNeg; omega
  have g5 : dp.toNatClampNeg + nn.toNatClampNeg ≤ z'.toNatClampNeg := by unfold Int32.toNatClampNeg; omega
  obtain ⟨T', h', L, X', e', N', K', V', st⟩ := cpA X hx hZ hown w1 w2 w3 w4 eT VA VB (Or.inl ⟨rfl, rfl⟩) (nn_ h1) (nn_ h2) (nn_ h3) g4 g5 rfl (by rw [lB]; exact g5) N ge hg hsize hs hd hf hW hlo
  refine ⟨T', h', L, X', e', N', K', ⟨k', _, V', ?_⟩, st⟩
  simp only [List.length_append, List.length_take, List.length_drop, List.length_map, List.length_range]
  omega
end Cp
theorem own_P3 {a b d n : Nat} (h1 : a < n) (h2 : b < n) (h3 : d < n) : ∀ x ∈ [a, b, d], x < n := by intro x q; simp at q; omega
theorem own_sub0 (x : Int32) : x - (0 : Int32) = x := Int32.toInt_inj.mp (by rw [Jvm.Kit.i32_sub (by have := x.toInt_lt; have := x.le_toInt; rw [show (0 : Int32).toInt = 0 by decide]; omega) (by have := x.toInt_lt; have := x.le_toInt; rw [show (0 : Int32).toInt = 0 by decide]; omega), show (0 : Int32).toInt = 0 by decide]; omega)
theorem own_add0 (x : Int32) : (0 : Int32) + x = x := Int32.toInt_inj.mp (by rw [Jvm.Kit.i32_add (by have := x.toInt_lt; have := x.le_toInt; rw [show (0 : Int32).toInt = 0 by decide]; omega) (by have := x.toInt_lt; have := x.le_toInt; rw [show (0 : Int32).toInt = 0 by decide]; omega), show (0 : Int32).toInt = 0 by decide]; omega)
theorem own_mxz (a b : Int32) : (own_max a b).toInt = if a.toInt < b.toInt then b.toInt else a.toInt := by
  unfold own_max
  by_cases h : a < b
  · rw [if_pos h, if_pos (Int32.lt_iff_toInt_lt.mp h)]
  · rw [if_neg h, if_neg (fun q => h (Int32.lt_iff_toInt_lt.mpr q))]
theorem own_nlt {x : Int32} (h : 0 ≤ x.toInt) : ¬ x < 0 := by rw [Int32.lt_iff_toInt_lt, show (0 : Int32).toInt = 0 by decide]; omega
theorem own_cap {x : Int32} {n : Nat} (h : x.toInt ≤ n) : x.toNatClampNeg ≤ n := by unfold Int32.toNatClampNeg; omega
theorem own_a4095 (x : Int32) : 0 ≤ (x &&& (4095 : Int32)).toInt ∧ (x &&& (4095 : Int32)).toInt ≤ 4095 := by rw [Jvm.Kit.i32_mask x 4095 (k := 12) (by decide) (by decide)]; omega
theorem own_wb {n : Int32} (h : 0 ≤ n.toInt ∧ n.toInt ≤ 4095) : lcmpW ((((0 : Int32) + (n + (2 : Int32))) - (0 : Int32)).toInt64 + ((96 : Int64) * (((0 : Int32) + (1 : Int32)).toInt64))) (((n + (2 : Int32)) + (96 : Int32)).toInt64) = (0 : Int32) := by
  have t2 : (2 : Int32).toInt = 2 := by decide
  have t96 : (96 : Int32).toInt = 96 := by decide
  have e1 : (n + (2 : Int32)).toInt = n.toInt + 2 := by rw [Jvm.Kit.i32_add (by rw [t2]; omega) (by rw [t2]; omega), t2]
  have e2 : ((n + (2 : Int32)) + (96 : Int32)).toInt = n.toInt + 98 := by rw [Jvm.Kit.i32_add (by rw [e1, t96]; omega) (by rw [e1, t96]; omega), e1, t96]; omega
  have e3 : ((96 : Int64) * (((0 : Int32) + (1 : Int32)).toInt64)).toInt = 96 := by decide
  have e4 : (((((0 : Int32) + (n + (2 : Int32))) - (0 : Int32)).toInt64 + ((96 : Int64) * (((0 : Int32) + (1 : Int32)).toInt64)))).toInt = n.toInt + 98 := by
    rw [own_sub0, own_add0, Jvm.Kit.i64_add (by rw [Int32.toInt_toInt64, e1, e3]; omega) (by rw [Int32.toInt_toInt64, e1, e3]; omega), Int32.toInt_toInt64, e1, e3]; omega
  have e : (((((0 : Int32) + (n + (2 : Int32))) - (0 : Int32)).toInt64 + ((96 : Int64) * (((0 : Int32) + (1 : Int32)).toInt64)))) = (((n + (2 : Int32)) + (96 : Int32)).toInt64) := Int64.toInt_inj.mp (by rw [e4, Int32.toInt_toInt64, e2])
  rw [e]; simp [lcmpW]
/-- the Outbox at o, its array in reach: kept by no one in P, at most M bytes long -/
def own_Rf (Z : State) (h : Heap) (n0 : Nat) (P : List Addr) (o : Addr) (pe pl : Int32) (b : Addr) (z : Int32) (M : Int) : Prop := Exa Z h o "com/example/frugal_sieve/frugalsieve/server/Outbox" ∧ Fld Z h o "com/example/frugal_sieve/frugalsieve/server/Outbox" "start" "I" (.int (0 : Int32)) ∧ Fld Z h o "com/example/frugal_sieve/frugalsieve/server/Outbox" "end" "I" (.int pe) ∧ Fld Z h o "com/example/frugal_sieve/frugalsieve/server/Outbox" "lines" "I" (.int pl) ∧ Fld Z h o "com/example/frugal_sieve/frugalsieve/server/Outbox" "bytes" "[B" (.ref b) ∧ own_By Z h b z ∧ n0 ≤ b ∧ b ∉ P ∧ 0 ≤ pe.toInt ∧ pe.toInt ≤ z.toInt ∧ z.toInt ≤ M
def own_Nl (Z : State) (h : Heap) (o : Addr) (pl : Int32) : Prop := Exa Z h o "com/example/frugal_sieve/frugalsieve/server/Outbox" ∧ Fld Z h o "com/example/frugal_sieve/frugalsieve/server/Outbox" "start" "I" (.int (0 : Int32)) ∧ Fld Z h o "com/example/frugal_sieve/frugalsieve/server/Outbox" "end" "I" (.int (0 : Int32)) ∧ Fld Z h o "com/example/frugal_sieve/frugalsieve/server/Outbox" "lines" "I" (.int pl) ∧ Fld Z h o "com/example/frugal_sieve/frugalsieve/server/Outbox" "bytes" "[B" .null

theorem own_f0 : decode jdk_29_method_65_code 0 = .ok (.iload_n 0, 1) := by decide +kernel
theorem own_f1 : decode jdk_29_method_65_code 1 = .ok (.iload_n 1, 1) := by decide +kernel
theorem own_f2 : decode jdk_29_method_65_code 2 = .ok (.if_icmp .lt 7, 3) := by decide +kernel
theorem own_f3 : decode jdk_29_method_65_code 9 = .ok (.iload_n 1, 1) := by decide +kernel
theorem own_f4 : decode jdk_29_method_65_code 10 = .ok (.ireturn, 1) := by decide +kernel
theorem own_f5 : decode jdk_29_method_65_code 5 = .ok (.iload_n 0, 1) := by decide +kernel
theorem own_f6 : decode jdk_29_method_65_code 6 = .ok (.goto 4, 3) := by decide +kernel
theorem own_ef_Mx (m : MethodId) (p1 : Int32) (p2 : Int32) : entryFrame m #[(.int p1), (.int p2)] 2 = mkF m 0 #[.val (.int p1), .val (.int p2)] [] := by first | (simp [entryFrame, mkF, argsToLocals, Value.category]; done) | rfl
def QMx (Z : State) (p1 : Int32) (p2 : Int32) (h0 : Heap) (n0 : Nat) (v : Option Value) (h : Heap) (L : List Loc) : Prop := v = some (.int (own_max p1 p2)) ∧ Fr n0 L ∧ h = h0
set_option maxRecDepth 65536 in
set_option maxHeartbeats 40000000 in
theorem rmMx (l : Launch) (Z : State) (a0 : Array Value) (hw : ∀ d ∈ tables_1, d.before a0 Z = true) (ws : List Jvm.Cond) (p1 : Int32) (p2 : Int32) (h0 : Heap) (n0 : Nat) (Z0 : n0 ≤ h0.size)  :
    MetFree l (⟨"java/lang/Math", "max", "(II)I"⟩ : MethodName) (head1 (Jvm.Cond.code (⟨"java/lang/Math", "max", "(II)I"⟩ : MethodName) jdk_29_method_65_code 2 (some .int) :: ws) ({ frames := 0, cells := 0, slots := 0, locals := 0 } : Room)) (fun a U => a = #[(.int p1), (.int p2)] ∧ Z.Warmed39 U.vm ∧ U.heap = h0) (fun _ _ _ _ _ => True) (fun _ U o U' => ∃ v L, o = .returned v ∧ QMx Z p1 p2 h0 n0 v U'.heap L ∧ FrameEnd U o U' L ({ frames := 0, cells := 0, slots := 0, locals := 0 } : Room).cells ({ frames := 0, cells := 0, slots := 0, locals := 0 } : Room).slots) := by
  refine MetFree.of_bodySF (Jvm.Free.JP.mathPlain rfl (by decide +kernel)) hisR ?_
  intro p e s m args below meth c s₁ Bd hml0 hP hK
  obtain ⟨rfl, hZ, hh⟩ := hP
  have hx := Bd.exec
  have hby := Bd.bytes
  have hml : c.maxLocals = 2 := hml0
  have hown : s.vm.findClass "java/lang/Math" = some m.cls := findClass_of_methodNamed Bd.named
  have hnm := (name_of_methodNamed Bd.named Bd.method).1
  have X0 : Stand p l e ({ frames := 0, cells := 0, slots := 0, locals := 0 } : Room) s m #[(.int p1), (.int p2)] below meth c s₁ [] 0 0 := Stand.of_body Bd
  have e0 : s₁.heap = h0 := by rw [← hh, Bd.state]; rfl
  have N0 := Fr.nil n0
  refine Go.start (own_ef_Mx m p1 p2) ?_
  show Go p e below _ s₁ (mkF m 0 #[.val (.int p1), .val (.int p2)] [])
  refine Go.step (fun _ k => XS.iloadN X0.here hx rfl (hb hby own_f0) rfl k) ?_
  show Go p e below _ s₁ (mkF m 1 #[.val (.int p1), .val (.int p2)] [(.int p1)])
  refine Go.step (fun _ k => XS.iloadN X0.here hx rfl (hb hby own_f1) rfl k) ?_
  show Go p e below _ s₁ (mkF m 2 #[.val (.int p1), .val (.int p2)] [(.int p2), (.int p1)])
  by_cases hc2_1 : p1 < p2
  · show Go p e below _ s₁ (mkF m 2 #[.val (.int p1), .val (.int p2)] [(.int p2), (.int p1)])
    refine Go.step (fun _ k => XS.icmpYes X0.here hx rfl (pc0 := 2) (pc' := 9) rfl (hb hby own_f2) rfl (tlt hc2_1).1 (by decide) (by decide) k) ?_
    show Go p e below _ s₁ (mkF m 9 #[.val (.int p1), .val (.int p2)] [])
    refine Go.step (fun _ k => XS.iloadN X0.here hx rfl (hb hby own_f3) rfl k) ?_
    show Go p e below _ s₁ (mkF m 10 #[.val (.int p1), .val (.int p2)] [(.int p2)])
    have er : (own_max p1 p2) = p2 := by simp [own_max, hc2_1]
    obtain ⟨fs, hr, hrun, hended, hW, hsame⟩ := X0.leave (v := some (.int p2)) (fun h => by rw [Bd.returns] at h; cases h)
    refine Go.fin (retI X0 hx Bd.returns (hb hby own_f4) hr) hrun hended ?_
    refine ⟨_, _, rfl, ?_, ⟨_, rfl⟩, hW, hsame.mono (by decide) (by decide)⟩
    show QMx Z p1 p2 h0 n0 _ s₁.heap _
    rw [e0]
    exact ⟨by rw [er], N0, rfl⟩
  · show Go p e below _ s₁ (mkF m 2 #[.val (.int p1), .val (.int p2)] [(.int p2), (.int p1)])
    refine Go.step (fun _ k => XS.icmpNo X0.here hx rfl (hb hby own_f2) rfl (flt hc2_1).1 k) ?_
    show Go p e below _ s₁ (mkF m 5 #[.val (.int p1), .val (.int p2)] [])
    refine Go.step (fun _ k => XS.iloadN X0.here hx rfl (hb hby own_f5) rfl k) ?_
    show Go p e below _ s₁ (mkF m 6 #[.val (.int p1), .val (.int p2)] [(.int p1)])
    refine Go.step (fun _ k => XS.goto X0.here hx rfl (pc0 := 6) (pc' := 10) rfl (hb hby own_f6) (by decide) (by decide) k) ?_
    show Go p e below _ s₁ (mkF m 10 #[.val (.int p1), .val (.int p2)] [(.int p1)])
    have er : (own_max p1 p2) = p1 := by simp [own_max, hc2_1]
    obtain ⟨fs, hr, hrun, hended, hW, hsame⟩ := X0.leave (v := some (.int p1)) (fun h => by rw [Bd.returns] at h; cases h)
    refine Go.fin (retI X0 hx Bd.returns (hb hby own_f4) hr) hrun hended ?_
    refine ⟨_, _, rfl, ?_, ⟨_, rfl⟩, hW, hsame.mono (by decide) (by decide)⟩
    show QMx Z p1 p2 h0 n0 _ s₁.heap _
    rw [e0]
    exact ⟨by rw [er], N0, rfl⟩
theorem own_f7 : decode prog_56_method_1_code 0 = .ok (.aload_n 0, 1) := by decide +kernel
theorem own_f8 : decode prog_56_method_1_code 1 = .ok (.invokespecial 1, 3) := by decide +kernel
theorem own_f9 : decode prog_56_method_1_code 4 = .ok (.return_, 1) := by decide +kernel
theorem own_f10 : plainName "com/example/frugal_sieve/frugalsieve/server/Outbox" = true := by first | (simp [plainName, overriddenIn]; done) | decide +kernel
theorem own_ef_I (m : MethodId) (a1 : Addr) : entryFrame m #[(.ref a1)] 1 = mkF m 0 #[.val (.ref a1)] [] := by first | (simp [entryFrame, mkF, argsToLocals, Value.category]; done) | rfl
def QI (Z : State) (a1 : Addr) (h0 : Heap) (n0 : Nat) (v : Option Value) (h : Heap) (L : List Loc) : Prop := v = none ∧ Fr n0 L ∧ h = h0
set_option maxRecDepth 65536 in
set_option maxHeartbeats 40000000 in
theorem rmI (l : Launch) (Z : State) (a0 : Array Value) (hw : ∀ d ∈ tables_1, d.before a0 Z = true) (ws : List Jvm.Cond) (a1 : Addr) (h0 : Heap) (n0 : Nat) (Z0 : n0 ≤ h0.size)  :
    MetFree l (⟨"com/example/frugal_sieve/frugalsieve/server/Outbox", "<init>", "()V"⟩ : MethodName) (head1 (Jvm.Cond.code (⟨"com/example/frugal_sieve/frugalsieve/server/Outbox", "<init>", "()V"⟩ : MethodName) prog_56_method_1_code 1 none :: ws) ({ frames := 1, cells := 0, slots := 0, locals := 12 } : Room)) (fun a U => a = #[(.ref a1)] ∧ Z.Warmed39 U.vm ∧ U.heap = h0) (fun _ _ _ _ _ => True) (fun _ U o U' => ∃ v L, o = .returned v ∧ QI Z a1 h0 n0 v U'.heap L ∧ FrameEnd U o U' L ({ frames := 1, cells := 0, slots := 0, locals := 12 } : Room).cells ({ frames := 1, cells := 0, slots := 0, locals := 12 } : Room).slots) := by
  refine MetFree.of_bodySF (plainFor_of_name own_f10) hisR ?_
  intro p e s m args below meth c s₁ Bd hml0 hP hK
  obtain ⟨rfl, hZ, hh⟩ := hP
  have hx := Bd.exec
  have hby := Bd.bytes
  have hml : c.maxLocals = 1 := hml0
  have hown : s.vm.findClass "com/example/frugal_sieve/frugalsieve/server/Outbox" = some m.cls := findClass_of_methodNamed Bd.named
  have hnm := (name_of_methodNamed Bd.named Bd.method).1
  have X0 : Stand p l e ({ frames := 1, cells := 0, slots := 0, locals := 12 } : Room) s m #[(.ref a1)] below meth c s₁ [] 0 0 := Stand.of_body Bd
  have e0 : s₁.heap = h0 := by rw [← hh, Bd.state]; rfl
  have N0 := Fr.nil n0
  refine Go.start (own_ef_I m a1) ?_
  show Go p e below _ s₁ (mkF m 0 #[.val (.ref a1)] [])
  refine Go.step (fun _ k => XS.aloadN X0.here hx rfl (hb hby own_f7) rfl rfl k) ?_
  show Go p e below _ s₁ (mkF m 1 #[.val (.ref a1)] [(.ref a1)])
  obtain ⟨T2, X2, e2, st2⟩ := initO X0 hx hZ hown (hw _ (List.mem_of_getElem? (i := 6) rfl)) (hw _ (List.mem_of_getElem? (i := 7) rfl)) (hw _ (List.mem_of_getElem? (i := 8) rfl)) e0 (g := (mkF m 1 #[.val (.ref a1)] [(.ref a1)])) rfl (by rw [hml]; rfl) rfl (hb hby own_f8) (by decide) (W := 0) (by show 2 * 0 + _ ≤ _; exact Nat.le_of_eq rfl) (by decide)
  refine Go.step st2 ?_
  show Go p e below _ T2 (mkF m 4 #[.val (.ref a1)] [])
  obtain ⟨fs, hr, hrun, hended, hW, hsame⟩ := X2.leave (v := none) (fun _ => rfl)
  refine Go.fin (X2.returnOut hx Bd.returns (hb hby own_f9) hr) hrun hended ?_
  refine ⟨_, _, rfl, ?_, ⟨_, rfl⟩, hW, hsame.mono (by decide) (by decide)⟩
  show QI Z a1 h0 n0 _ T2.heap _
  rw [e2]
  exact ⟨rfl, N0, rfl⟩
theorem own_f11 : decode prog_56_method_3_code 0 = .ok (.aload_n 0, 1) := by decide +kernel
theorem own_f12 : decode prog_56_method_3_code 1 = .ok (.getfield 19, 3) := by decide +kernel
theorem own_f13 : decode prog_56_method_3_code 4 = .ok (.ifnonnull 19, 3) := by decide +kernel
theorem own_f14 : decode prog_56_method_3_code 7 = .ok (.aload_n 0, 1) := by decide +kernel
theorem own_f15 : decode prog_56_method_3_code 8 = .ok (.sipush 512, 3) := by decide +kernel
theorem own_f16 : decode prog_56_method_3_code 11 = .ok (.iload_n 1, 1) := by decide +kernel
theorem own_f17 : parseMethodDescriptor "(II)I" = some ⟨[.int, .int], some .int⟩ := by decide +kernel
theorem own_f18 : decode prog_56_method_3_code 12 = .ok (.invokestatic 35, 3) := by decide +kernel
theorem own_f19 : decode prog_56_method_3_code 15 = .ok (.newarray .byte, 2) := by decide +kernel
theorem own_f20 : decode prog_56_method_3_code 17 = .ok (.putfield 19, 3) := by decide +kernel
theorem own_f21 : decode prog_56_method_3_code 20 = .ok (.goto 90, 3) := by decide +kernel
theorem own_f22 : decode prog_56_method_3_code 110 = .ok (.return_, 1) := by decide +kernel
theorem own_ef_M1 (m : MethodId) (a1 : Addr) (p1 : Int32) : entryFrame m #[(.ref a1), (.int p1)] 4 = mkF m 0 #[.val (.ref a1), .val (.int p1), .unset, .unset] [] := by first | (simp [entryFrame, mkF, argsToLocals, Value.category]; done) | rfl
def QM1 (Z : State) (a1 : Addr) (p1 : Int32) (pl : Int32) (P : List Addr) (h0 : Heap) (n0 : Nat) (v : Option Value) (h : Heap) (L : List Loc) : Prop := ∃ (b : Addr) (z : Int32), v = none ∧ Fr n0 L ∧ Keep h0 h [a1] ∧ own_Rf Z h n0 P a1 0 pl b z 4097 ∧ p1.toInt ≤ z.toInt ∧ h0.size ≤ b
set_option maxRecDepth 65536 in
set_option maxHeartbeats 40000000 in
theorem rmM1 (l : Launch) (Z : State) (a0 : Array Value) (hw : ∀ d ∈ tables_1, d.before a0 Z = true) (ws : List Jvm.Cond) (a1 : Addr) (p1 : Int32) (pl : Int32) (P : List Addr) (h0 : Heap) (n0 : Nat) (Z0 : n0 ≤ h0.size) (hR : own_Nl Z h0 a1 pl) (g_a1 : n0 ≤ a1) (hp : 2 ≤ p1.toInt ∧ p1.toInt ≤ 4097) (hPl : ∀ x ∈ P, x < h0.size) :
    MetFree l (⟨"com/example/frugal_sieve/frugalsieve/server/Outbox", "makeRoom", "(I)V"⟩ : MethodName) (head1 (Jvm.Cond.code (⟨"com/example/frugal_sieve/frugalsieve/server/Outbox", "makeRoom", "(I)V"⟩ : MethodName) prog_56_method_3_code 4 none :: ws) ({ frames := 1, cells := 1, slots := 8194, locals := 15 } : Room)) (fun a U => a = #[(.ref a1), (.int p1)] ∧ Z.Warmed39 U.vm ∧ U.heap = h0) (fun _ _ _ _ _ => True) (fun _ U o U' => ∃ v L, o = .returned v ∧ QM1 Z a1 p1 pl P h0 n0 v U'.heap L ∧ FrameEnd U o U' L ({ frames := 1, cells := 1, slots := 8194, locals := 15 } : Room).cells ({ frames := 1, cells := 1, slots := 8194, locals := 15 } : Room).slots) := by
  refine MetFree.of_bodySF (plainFor_of_name own_f10) hisR ?_
  intro p e s m args below meth c s₁ Bd hml0 hP hK
  obtain ⟨rfl, hZ, hh⟩ := hP
  have hx := Bd.exec
  have hby := Bd.bytes
  have hml : c.maxLocals = 4 := hml0
  have hown : s.vm.findClass "com/example/frugal_sieve/frugalsieve/server/Outbox" = some m.cls := findClass_of_methodNamed Bd.named
  have hnm := (name_of_methodNamed Bd.named Bd.method).1
  have X0 : Stand p l e ({ frames := 1, cells := 1, slots := 8194, locals := 15 } : Room) s m #[(.ref a1), (.int p1)] below meth c s₁ [] 0 0 := Stand.of_body Bd
  have e0 : s₁.heap = h0 := by rw [← hh, Bd.state]; rfl
  have N0 := Fr.nil n0
  refine Go.start (own_ef_M1 m a1 p1) ?_
  show Go p e below _ s₁ (mkF m 0 #[.val (.ref a1), .val (.int p1), .unset, .unset] [])
  have Zn := Z0
  have K0 : Keep h0 h0 [a1] := Keep.refl h0 _
  obtain ⟨E_a1, F_start_a1, F_end_a1, F_lines_a1, F_bytes_a1⟩ := hR
  refine Go.step (fun _ k => XS.aloadN X0.here hx rfl (hb hby own_f11) rfl rfl k) ?_
  show Go p e below _ s₁ (mkF m 1 #[.val (.ref a1), .val (.int p1), .unset, .unset] [(.ref a1)])
  obtain ⟨T3, X3, e3, st3⟩ := getF X0 hx hZ hown (host := "") (Or.inl (hw _ (List.mem_of_getElem? (i := 22) rfl))) Via.refl e0 F_bytes_a1 (g := (mkF m 1 #[.val (.ref a1), .val (.int p1), .unset, .unset] [(.ref a1)])) rfl rfl (hb hby own_f12)
  refine Go.step st3 ?_
  show Go p e below _ T3 (mkF m 4 #[.val (.ref a1), .val (.int p1), .unset, .unset] [.null])
  refine Go.step (fun _ k => XS.ifnonnullNo X3.here hx rfl (hb hby own_f13) rfl k) ?_
  show Go p e below _ T3 (mkF m 7 #[.val (.ref a1), .val (.int p1), .unset, .unset] [])
  refine Go.step (fun _ k => XS.aloadN X3.here hx rfl (hb hby own_f14) rfl rfl k) ?_
  show Go p e below _ T3 (mkF m 8 #[.val (.ref a1), .val (.int p1), .unset, .unset] [(.ref a1)])
  refine Go.step (fun _ k => XS.sipush X3.here hx rfl (hb hby own_f15) k) ?_
  show Go p e below _ T3 (mkF m 11 #[.val (.ref a1), .val (.int p1), .unset, .unset] [(.int (512 : Int32)), (.ref a1)])
  refine Go.step (fun _ k => XS.iloadN X3.here hx rfl (hb hby own_f16) rfl k) ?_
  show Go p e below _ T3 (mkF m 12 #[.val (.ref a1), .val (.int p1), .unset, .unset] [(.int p1), (.int (512 : Int32)), (.ref a1)])
  obtain ⟨_, _, ⟨T4, L4, k4, n4⟩, -, X4, ⟨Lc4, hQ4, l4, y4, z4⟩, st4⟩ := Jvm.LawKit.callS X3 hx (y := (⟨"java/lang/Math", "max", "(II)I"⟩ : MethodName)) hown (mvT hZ (hw _ (List.mem_of_getElem? (i := 24) rfl))) (mvT hZ (hw _ (List.mem_of_getElem? (i := 25) rfl))) (mvT hZ (hw _ (List.mem_of_getElem? (i := 26) rfl))) (mvT hZ (hw _ (List.mem_of_getElem? (i := 27) rfl))) (by decide) (backOf (W := 1) (rmMx l Z a0 hw [] (512 : Int32) p1 h0 n0 Zn) hZ (hw _ (List.mem_of_getElem? (i := 27) rfl)) (hw _ (List.mem_of_getElem? (i := 26) rfl)) (by decide) (by decide)) (g := (mkF m 12 #[.val (.ref a1), .val (.int p1), .unset, .unset] [(.int p1), (.int (512 : Int32)), (.ref a1)])) rfl (by rw [hml]; rfl) (argsL := [(.int (512 : Int32)), (.int p1)]) (rest := [(.ref a1)]) (lenOf own_f17 rfl) rfl (by show 2 * 0 + _ ≤ _; exact Nat.le_of_eq rfl) (hb hby own_f18) (fun _ _ => ⟨rfl, e3, (by dsimp only [Pt.cells, Pt.slots]; decide), (by dsimp only [Pt.cells, Pt.slots]; decide)⟩)
  dsimp only [Pt.U, Pt.locs, Pt.cells, Pt.slots] at X4 l4 y4 z4 st4 hQ4
  subst l4 y4 z4
  obtain ⟨rfl, N4q, e4⟩ := hQ4
  have N4 := Fr.app N0 N4q
  refine Go.step (st4) ?_
  show Go p e below _ T4 (mkF m 15 #[.val (.ref a1), .val (.int p1), .unset, .unset] [(.int (own_max (512 : Int32) p1)), (.ref a1)])
  obtain ⟨zz, e_zz⟩ : ∃ zq : Int32, zq = (own_max (512 : Int32) p1) := ⟨_, rfl⟩
  rw [← e_zz]
  show Go p e below _ T4 (mkF m 15 #[.val (.ref a1), .val (.int p1), .unset, .unset] [(.int zz), (.ref a1)])
  have hzz := own_mxz (512 : Int32) p1
  rw [← e_zz] at hzz
  rw [show (512 : Int32).toInt = 512 by decide] at hzz
  have hz3 : p1.toInt ≤ zz.toInt ∧ 0 ≤ zz.toInt ∧ zz.toInt ≤ 4097 := by split at hzz <;> omega
  obtain ⟨T5, h5, k5, X5, e5, E5, A5, st5⟩ := newP X4 hx hZ (hw _ (List.mem_of_getElem? (i := 9) rfl)) e4 (g := (mkF m 15 #[.val (.ref a1), .val (.int p1), .unset, .unset] [(.int zz), (.ref a1)])) rfl (hb hby own_f19) rfl (own_nlt hz3.2.1) (cap := 8194) (own_cap (by omega)) (by decide) (by decide) (by decide)
  obtain ⟨b1, g5⟩ : ∃ z, z = h0.size := ⟨_, rfl⟩
  rw [← g5] at A5 st5
  have ne_a1_b1 : a1 ≠ b1 := Nat.ne_of_lt (Nat.lt_of_lt_of_le E_a1.lt (Nat.le_of_eq g5.symm))
  have g_b1 : n0 ≤ b1 := Nat.le_trans Zn (Nat.le_of_eq g5.symm)
  have sz_b1 : h0.size ≤ b1 := Nat.le_trans K0.1 (Nat.le_of_eq g5.symm)
  have np_b1 : b1 ∉ P := fun q => Nat.lt_irrefl _ (Nat.lt_of_lt_of_le (hPl _ q) sz_b1)
  replace E_a1 := E_a1.ext E5
  replace F_start_a1 := F_start_a1.ext E5
  replace F_end_a1 := F_end_a1.ext E5
  replace F_lines_a1 := F_lines_a1.ext E5
  replace F_bytes_a1 := F_bytes_a1.ext E5
  replace Zn := Nat.le_trans Zn E5.1
  replace K0 := K0.ext E5
  have B_b1 : own_By Z h5 b1 zz := own_By.new A5 (own_nlt hz3.2.1)
  refine Go.step st5 ?_
  show Go p e below _ T5 (mkF m 17 #[.val (.ref a1), .val (.int p1), .unset, .unset] [(.ref b1), (.ref a1)])
  obtain ⟨T6, h6, X6, e6, W6, st6⟩ := putF X5 hx hZ hown (host := "") (Or.inl (hw _ (List.mem_of_getElem? (i := 22) rfl))) Via.refl e5 F_bytes_a1 E_a1 (Or.inl (hw _ (List.mem_of_getElem? (i := 23) rfl))) (hw _ (List.mem_of_getElem? (i := 1) rfl)) (ty := (.array .byte)) (by decide) rfl rfl (g := (mkF m 17 #[.val (.ref a1), .val (.int p1), .unset, .unset] [(.ref b1), (.ref a1)])) rfl rfl (hb hby own_f20)
  have Fw6 := F_bytes_a1.same W6
  replace E_a1 := E_a1.wr W6
  replace F_start_a1 := F_start_a1.other W6 (Or.inr (slot_ne (Or.inl (hw _ (List.mem_of_getElem? (i := 42) rfl))) (Or.inl (hw _ (List.mem_of_getElem? (i := 23) rfl))) (by decide) (t := .int) (t' := (.array .byte)) (by decide) (by decide)))
  replace F_end_a1 := F_end_a1.other W6 (Or.inr (slot_ne (Or.inl (hw _ (List.mem_of_getElem? (i := 29) rfl))) (Or.inl (hw _ (List.mem_of_getElem? (i := 23) rfl))) (by decide) (t := .int) (t' := (.array .byte)) (by decide) (by decide)))
  replace F_lines_a1 := F_lines_a1.other W6 (Or.inr (slot_ne (Or.inl (hw _ (List.mem_of_getElem? (i := 35) rfl))) (Or.inl (hw _ (List.mem_of_getElem? (i := 23) rfl))) (by decide) (t := .int) (t' := (.array .byte)) (by decide) (by decide)))
  replace B_b1 := B_b1.other W6 (Ne.symm ne_a1_b1)
  replace F_bytes_a1 := Fw6
  replace K0 := K0.wr W6 (Or.inl (List.mem_of_getElem? (i := 0) rfl))
  replace Zn := Nat.le_trans Zn (Nat.le_of_eq W6.size.symm)
  have N6 := Fr.snoc X6 N4 g_a1
  refine Go.step st6 ?_
  show Go p e below _ T6 (mkF m 20 #[.val (.ref a1), .val (.int p1), .unset, .unset] [])
  refine Go.step (fun _ k => XS.goto X6.here hx rfl (pc0 := 20) (pc' := 110) rfl (hb hby own_f21) (by decide) (by decide) k) ?_
  show Go p e below _ T6 (mkF m 110 #[.val (.ref a1), .val (.int p1), .unset, .unset] [])
  obtain ⟨fs, hr, hrun, hended, hW, hsame⟩ := X6.leave (v := none) (fun _ => rfl)
  refine Go.fin (X6.returnOut hx Bd.returns (hb hby own_f22) hr) hrun hended ?_
  refine ⟨_, _, rfl, ?_, ⟨_, rfl⟩, hW, hsame.mono (by decide) (by decide)⟩
  show QM1 Z a1 p1 pl P h0 n0 _ T6.heap _
  rw [e6]
  exact ⟨b1, zz, rfl, N6, K0, ⟨E_a1, F_start_a1, F_end_a1, F_lines_a1, F_bytes_a1, B_b1, g_b1, np_b1, by decide, by rw [show (0 : Int32).toInt = 0 by decide]; exact hz3.2.1, hz3.2.2⟩, hz3.1, sz_b1⟩
theorem own_f23 : decode prog_56_method_3_code 23 = .ok (.aload_n 0, 1) := by decide +kernel
theorem own_f24 : decode prog_56_method_3_code 24 = .ok (.getfield 22, 3) := by decide +kernel
theorem own_f25 : decode prog_56_method_3_code 27 = .ok (.iload_n 1, 1) := by decide +kernel
theorem own_f26 : decode prog_56_method_3_code 28 = .ok (.iadd, 1) := by decide +kernel
theorem own_f27 : decode prog_56_method_3_code 29 = .ok (.aload_n 0, 1) := by decide +kernel
theorem own_f28 : decode prog_56_method_3_code 30 = .ok (.getfield 19, 3) := by decide +kernel
theorem own_f29 : decode prog_56_method_3_code 33 = .ok (.arraylength, 1) := by decide +kernel
theorem own_f30 : decode prog_56_method_3_code 34 = .ok (.if_icmp .le 76, 3) := by decide +kernel
theorem own_f31 : decode prog_56_method_3_code 37 = .ok (.aload_n 0, 1) := by decide +kernel
theorem own_f32 : decode prog_56_method_3_code 38 = .ok (.getfield 22, 3) := by decide +kernel
theorem own_f33 : decode prog_56_method_3_code 41 = .ok (.aload_n 0, 1) := by decide +kernel
theorem own_f34 : decode prog_56_method_3_code 42 = .ok (.getfield 41, 3) := by decide +kernel
theorem own_f35 : decode prog_56_method_3_code 45 = .ok (.isub, 1) := by decide +kernel
theorem own_f36 : decode prog_56_method_3_code 46 = .ok (.istore_n 2, 1) := by decide +kernel
theorem own_f37 : decode prog_56_method_3_code 47 = .ok (.aload_n 0, 1) := by decide +kernel
theorem own_f38 : decode prog_56_method_3_code 48 = .ok (.getfield 19, 3) := by decide +kernel
theorem own_f39 : decode prog_56_method_3_code 51 = .ok (.astore_n 3, 1) := by decide +kernel
theorem own_f40 : decode prog_56_method_3_code 52 = .ok (.iload_n 2, 1) := by decide +kernel
theorem own_f41 : decode prog_56_method_3_code 53 = .ok (.iload_n 1, 1) := by decide +kernel
theorem own_f42 : decode prog_56_method_3_code 54 = .ok (.iadd, 1) := by decide +kernel
theorem own_f43 : decode prog_56_method_3_code 55 = .ok (.aload_n 0, 1) := by decide +kernel
theorem own_f44 : decode prog_56_method_3_code 56 = .ok (.getfield 19, 3) := by decide +kernel
theorem own_f45 : decode prog_56_method_3_code 59 = .ok (.arraylength, 1) := by decide +kernel
theorem own_f46 : decode prog_56_method_3_code 60 = .ok (.iconst 2, 1) := by decide +kernel
theorem own_f47 : decode prog_56_method_3_code 61 = .ok (.idiv, 1) := by decide +kernel
theorem own_f48 : decode prog_56_method_3_code 62 = .ok (.if_icmp .le 19, 3) := by decide +kernel
theorem own_f49 : decode prog_56_method_3_code 65 = .ok (.aload_n 0, 1) := by decide +kernel
theorem own_f50 : decode prog_56_method_3_code 66 = .ok (.getfield 19, 3) := by decide +kernel
theorem own_f51 : decode prog_56_method_3_code 69 = .ok (.arraylength, 1) := by decide +kernel
theorem own_f52 : decode prog_56_method_3_code 70 = .ok (.iconst 2, 1) := by decide +kernel
theorem own_f53 : decode prog_56_method_3_code 71 = .ok (.imul, 1) := by decide +kernel
theorem own_f54 : decode prog_56_method_3_code 72 = .ok (.iload_n 2, 1) := by decide +kernel
theorem own_f55 : decode prog_56_method_3_code 73 = .ok (.iload_n 1, 1) := by decide +kernel
theorem own_f56 : decode prog_56_method_3_code 74 = .ok (.iadd, 1) := by decide +kernel
theorem own_f57 : decode prog_56_method_3_code 75 = .ok (.invokestatic 35, 3) := by decide +kernel
theorem own_f58 : decode prog_56_method_3_code 78 = .ok (.newarray .byte, 2) := by decide +kernel
theorem own_f59 : decode prog_56_method_3_code 80 = .ok (.astore_n 3, 1) := by decide +kernel
theorem own_f60 : decode prog_56_method_3_code 81 = .ok (.aload_n 0, 1) := by decide +kernel
theorem own_f61 : decode prog_56_method_3_code 82 = .ok (.getfield 19, 3) := by decide +kernel
theorem own_f62 : decode prog_56_method_3_code 85 = .ok (.aload_n 0, 1) := by decide +kernel
theorem own_f63 : decode prog_56_method_3_code 86 = .ok (.getfield 41, 3) := by decide +kernel
theorem own_f64 : decode prog_56_method_3_code 89 = .ok (.aload_n 3, 1) := by decide +kernel
theorem own_f65 : decode prog_56_method_3_code 90 = .ok (.iconst 0, 1) := by decide +kernel
theorem own_f66 : decode prog_56_method_3_code 91 = .ok (.iload_n 2, 1) := by decide +kernel
theorem own_f67 : decode prog_56_method_3_code 92 = .ok (.invokestatic 26, 3) := by decide +kernel
theorem own_f68 : decode prog_56_method_3_code 95 = .ok (.aload_n 0, 1) := by decide +kernel
theorem own_f69 : decode prog_56_method_3_code 96 = .ok (.aload_n 3, 1) := by decide +kernel
theorem own_f70 : decode prog_56_method_3_code 97 = .ok (.putfield 19, 3) := by decide +kernel
theorem own_f71 : decode prog_56_method_3_code 100 = .ok (.aload_n 0, 1) := by decide +kernel
theorem own_f72 : decode prog_56_method_3_code 101 = .ok (.iconst 0, 1) := by decide +kernel
theorem own_f73 : decode prog_56_method_3_code 102 = .ok (.putfield 41, 3) := by decide +kernel
theorem own_f74 : decode prog_56_method_3_code 105 = .ok (.aload_n 0, 1) := by decide +kernel
theorem own_f75 : decode prog_56_method_3_code 106 = .ok (.iload_n 2, 1) := by decide +kernel
theorem own_f76 : decode prog_56_method_3_code 107 = .ok (.putfield 22, 3) := by decide +kernel
theorem own_ef_M2 (m : MethodId) (a1 : Addr) (p1 : Int32) : entryFrame m #[(.ref a1), (.int p1)] 4 = mkF m 0 #[.val (.ref a1), .val (.int p1), .unset, .unset] [] := by first | (simp [entryFrame, mkF, argsToLocals, Value.category]; done) | rfl
def QM2 (Z : State) (a1 : Addr) (p1 : Int32) (pe pl : Int32) (P : List Addr) (b : Addr) (z : Int32) (M : Int) (h0 : Heap) (n0 : Nat) (v : Option Value) (h : Heap) (L : List Loc) : Prop := ∃ (b' : Addr) (z' : Int32), v = none ∧ Fr n0 L ∧ Keep h0 h [a1, b] ∧ own_Rf Z h n0 P a1 pe pl b' z' (M + 4097) ∧ pe.toInt + p1.toInt ≤ z'.toInt ∧ (b' = b ∨ h0.size ≤ b')
set_option maxRecDepth 65536 in
set_option maxHeartbeats 40000000 in
theorem rmM2 (l : Launch) (Z : State) (a0 : Array Value) (hw : ∀ d ∈ tables_1, d.before a0 Z = true) (ws : List Jvm.Cond) (a1 : Addr) (p1 : Int32) (pe pl : Int32) (P : List Addr) (b : Addr) (z : Int32) (M : Int) (h0 : Heap) (n0 : Nat) (Z0 : n0 ≤ h0.size) (hR : own_Rf Z h0 n0 P a1 pe pl b z M) (g_a1 : n0 ≤ a1) (hp : 2 ≤ p1.toInt ∧ p1.toInt ≤ 4097) (hPl : ∀ x ∈ P, x < h0.size) (hM : 0 ≤ M ∧ M ≤ 4097) :
    MetFree l (⟨"com/example/frugal_sieve/frugalsieve/server/Outbox", "makeRoom", "(I)V"⟩ : MethodName) (head1 (Jvm.Cond.code (⟨"com/example/frugal_sieve/frugalsieve/server/Outbox", "makeRoom", "(I)V"⟩ : MethodName) prog_56_method_3_code 4 none :: ws) ({ frames := 1, cells := 1, slots := 8194, locals := 30 } : Room)) (fun a U => a = #[(.ref a1), (.int p1)] ∧ Z.Warmed39 U.vm ∧ U.heap = h0) (fun _ _ _ _ _ => True) (fun _ U o U' => ∃ v L, o = .returned v ∧ QM2 Z a1 p1 pe pl P b z M h0 n0 v U'.heap L ∧ FrameEnd U o U' L ({ frames := 1, cells := 1, slots := 8194, locals := 30 } : Room).cells ({ frames := 1, cells := 1, slots := 8194, locals := 30 } : Room).slots) := by
  refine MetFree.of_bodySF (plainFor_of_name own_f10) hisR ?_
  intro p e s m args below meth c s₁ Bd hml0 hP hK
  obtain ⟨rfl, hZ, hh⟩ := hP
  have hx := Bd.exec
  have hby := Bd.bytes
  have hml : c.maxLocals = 4 := hml0
  have hown : s.vm.findClass "com/example/frugal_sieve/frugalsieve/server/Outbox" = some m.cls := findClass_of_methodNamed Bd.named
  have hnm := (name_of_methodNamed Bd.named Bd.method).1
  have X0 : Stand p l e ({ frames := 1, cells := 1, slots := 8194, locals := 30 } : Room) s m #[(.ref a1), (.int p1)] below meth c s₁ [] 0 0 := Stand.of_body Bd
  have e0 : s₁.heap = h0 := by rw [← hh, Bd.state]; rfl
  have N0 := Fr.nil n0
  refine Go.start (own_ef_M2 m a1 p1) ?_
  show Go p e below _ s₁ (mkF m 0 #[.val (.ref a1), .val (.int p1), .unset, .unset] [])
  have Zn := Z0
  have K0 : Keep h0 h0 [a1, b] := Keep.refl h0 _
  obtain ⟨E_a1, F_start_a1, F_end_a1, F_lines_a1, F_bytes_a1, B_b, g_b, np_b, hpe0, hpz, hzM⟩ := hR
  have ne_a1_b : a1 ≠ b := own_By.ne E_a1 (hw _ (List.mem_of_getElem? (i := 1) rfl)) B_b
  have hpp : (pe + p1).toInt = pe.toInt + p1.toInt := Jvm.Kit.i32_add (by omega) (by omega)
  have hzt : (z * (2 : Int32)).toInt = z.toInt * 2 := by rw [Jvm.Kit.i32_mul (by rw [show (2 : Int32).toInt = 2 by decide]; omega) (by rw [show (2 : Int32).toInt = 2 by decide]; omega), show (2 : Int32).toInt = 2 by decide]
  have hzd : (z / (2 : Int32)).toInt = z.toInt / 2 := by rw [Jvm.Kit.i32_div (by rw [show (2 : Int32).toInt = 2 by decide]; omega), show (2 : Int32).toInt = 2 by decide]; exact Int.tdiv_eq_ediv_of_nonneg (by omega)
  refine Go.step (fun _ k => XS.aloadN X0.here hx rfl (hb hby own_f11) rfl rfl k) ?_
  show Go p e below _ s₁ (mkF m 1 #[.val (.ref a1), .val (.int p1), .unset, .unset] [(.ref a1)])
  obtain ⟨T7, X7, e7, st7⟩ := getF X0 hx hZ hown (host := "") (Or.inl (hw _ (List.mem_of_getElem? (i := 22) rfl))) Via.refl e0 F_bytes_a1 (g := (mkF m 1 #[.val (.ref a1), .val (.int p1), .unset, .unset] [(.ref a1)])) rfl rfl (hb hby own_f12)
  refine Go.step st7 ?_
  show Go p e below _ T7 (mkF m 4 #[.val (.ref a1), .val (.int p1), .unset, .unset] [(.ref b)])
  refine Go.step (fun _ k => XS.ifnonnullYes X7.here hx rfl (pc0 := 4) (pc' := 23) rfl (hb hby own_f13) rfl (by decide) (by decide) k) ?_
  show Go p e below _ T7 (mkF m 23 #[.val (.ref a1), .val (.int p1), .unset, .unset] [])
  refine Go.step (fun _ k => XS.aloadN X7.here hx rfl (hb hby own_f23) rfl rfl k) ?_
  show Go p e below _ T7 (mkF m 24 #[.val (.ref a1), .val (.int p1), .unset, .unset] [(.ref a1)])
  obtain ⟨T8, X8, e8, st8⟩ := getF X7 hx hZ hown (host := "") (Or.inl (hw _ (List.mem_of_getElem? (i := 28) rfl))) Via.refl e7 F_end_a1 (g := (mkF m 24 #[.val (.ref a1), .val (.int p1), .unset, .unset] [(.ref a1)])) rfl rfl (hb hby own_f24)
  refine Go.step st8 ?_
  show Go p e below _ T8 (mkF m 27 #[.val (.ref a1), .val (.int p1), .unset, .unset] [(.int pe)])
  refine Go.step (fun _ k => XS.iloadN X8.here hx rfl (hb hby own_f25) rfl k) ?_
  show Go p e below _ T8 (mkF m 28 #[.val (.ref a1), .val (.int p1), .unset, .unset] [(.int p1), (.int pe)])
  refine Go.step (fun _ k => XS.iadd X8.here hx rfl (hb hby own_f26) rfl k) ?_
  show Go p e below _ T8 (mkF m 29 #[.val (.ref a1), .val (.int p1), .unset, .unset] [(.int (pe + p1))])
  refine Go.step (fun _ k => XS.aloadN X8.here hx rfl (hb hby own_f27) rfl rfl k) ?_
  show Go p e below _ T8 (mkF m 30 #[.val (.ref a1), .val (.int p1), .unset, .unset] [(.ref a1), (.int (pe + p1))])
  obtain ⟨T9, X9, e9, st9⟩ := getF X8 hx hZ hown (host := "") (Or.inl (hw _ (List.mem_of_getElem? (i := 22) rfl))) Via.refl e8 F_bytes_a1 (g := (mkF m 30 #[.val (.ref a1), .val (.int p1), .unset, .unset] [(.ref a1), (.int (pe + p1))])) rfl rfl (hb hby own_f28)
  refine Go.step st9 ?_
  show Go p e below _ T9 (mkF m 33 #[.val (.ref a1), .val (.int p1), .unset, .unset] [(.ref b), (.int (pe + p1))])
  obtain ⟨_, _, ⟨cl10, Ar10, _, S10, Nn10, _, _⟩, _⟩ := id B_b
  refine Go.step (X9.arraylength hx (by rw [e9]; exact Ar10.1) (State.isArrayOf_alike hZ.alike Ar10.2.1) (g := (mkF m 33 #[.val (.ref a1), .val (.int p1), .unset, .unset] [(.ref b), (.int (pe + p1))])) rfl rfl (hb hby own_f29)) ?_
  rw [len_of S10 Nn10]
  show Go p e below _ T9 (mkF m 34 #[.val (.ref a1), .val (.int p1), .unset, .unset] [(.int z), (.int (pe + p1))])
  by_cases hc34_11 : z < (pe + p1)
  · show Go p e below _ T9 (mkF m 34 #[.val (.ref a1), .val (.int p1), .unset, .unset] [(.int z), (.int (pe + p1))])
    refine Go.step (fun _ k => XS.icmpNo X9.here hx rfl (hb hby own_f30) rfl (tlt hc34_11).2.2.2 k) ?_
    show Go p e below _ T9 (mkF m 37 #[.val (.ref a1), .val (.int p1), .unset, .unset] [])
    refine Go.step (fun _ k => XS.aloadN X9.here hx rfl (hb hby own_f31) rfl rfl k) ?_
    show Go p e below _ T9 (mkF m 38 #[.val (.ref a1), .val (.int p1), .unset, .unset] [(.ref a1)])
    obtain ⟨T12, X12, e12, st12⟩ := getF X9 hx hZ hown (host := "") (Or.inl (hw _ (List.mem_of_getElem? (i := 28) rfl))) Via.refl e9 F_end_a1 (g := (mkF m 38 #[.val (.ref a1), .val (.int p1), .unset, .unset] [(.ref a1)])) rfl rfl (hb hby own_f32)
    refine Go.step st12 ?_
    show Go p e below _ T12 (mkF m 41 #[.val (.ref a1), .val (.int p1), .unset, .unset] [(.int pe)])
    refine Go.step (fun _ k => XS.aloadN X12.here hx rfl (hb hby own_f33) rfl rfl k) ?_
    show Go p e below _ T12 (mkF m 42 #[.val (.ref a1), .val (.int p1), .unset, .unset] [(.ref a1), (.int pe)])
    obtain ⟨T13, X13, e13, st13⟩ := getF X12 hx hZ hown (host := "") (Or.inl (hw _ (List.mem_of_getElem? (i := 41) rfl))) Via.refl e12 F_start_a1 (g := (mkF m 42 #[.val (.ref a1), .val (.int p1), .unset, .unset] [(.ref a1), (.int pe)])) rfl rfl (hb hby own_f34)
    refine Go.step st13 ?_
    show Go p e below _ T13 (mkF m 45 #[.val (.ref a1), .val (.int p1), .unset, .unset] [(.int (0 : Int32)), (.int pe)])
    refine Go.step (fun _ k => XS.isub X13.here hx rfl (hb hby own_f35) rfl k) ?_
    show Go p e below _ T13 (mkF m 46 #[.val (.ref a1), .val (.int p1), .unset, .unset] [(.int (pe - (0 : Int32)))])
    rw [own_sub0]
    show Go p e below _ T13 (mkF m 46 #[.val (.ref a1), .val (.int p1), .unset, .unset] [(.int pe)])
    refine Go.step (fun _ k => XS.istoreN X13.here hx rfl (hb hby own_f36) rfl (l' := #[.val (.ref a1), .val (.int p1), .val (.int pe), .unset]) rfl k) ?_
    show Go p e below _ T13 (mkF m 47 #[.val (.ref a1), .val (.int p1), .val (.int pe), .unset] [])
    refine Go.step (fun _ k => XS.aloadN X13.here hx rfl (hb hby own_f37) rfl rfl k) ?_
    show Go p e below _ T13 (mkF m 48 #[.val (.ref a1), .val (.int p1), .val (.int pe), .unset] [(.ref a1)])
    obtain ⟨T14, X14, e14, st14⟩ := getF X13 hx hZ hown (host := "") (Or.inl (hw _ (List.mem_of_getElem? (i := 22) rfl))) Via.refl e13 F_bytes_a1 (g := (mkF m 48 #[.val (.ref a1), .val (.int p1), .val (.int pe), .unset] [(.ref a1)])) rfl rfl (hb hby own_f38)
    refine Go.step st14 ?_
    show Go p e below _ T14 (mkF m 51 #[.val (.ref a1), .val (.int p1), .val (.int pe), .unset] [(.ref b)])
    refine Go.step (fun _ k => XS.astoreN X14.here hx rfl (hb hby own_f39) rfl rfl (l' := #[.val (.ref a1), .val (.int p1), .val (.int pe), .val (.ref b)]) rfl k) ?_
    show Go p e below _ T14 (mkF m 52 #[.val (.ref a1), .val (.int p1), .val (.int pe), .val (.ref b)] [])
    refine Go.step (fun _ k => XS.iloadN X14.here hx rfl (hb hby own_f40) rfl k) ?_
    show Go p e below _ T14 (mkF m 53 #[.val (.ref a1), .val (.int p1), .val (.int pe), .val (.ref b)] [(.int pe)])
    refine Go.step (fun _ k => XS.iloadN X14.here hx rfl (hb hby own_f41) rfl k) ?_
    show Go p e below _ T14 (mkF m 54 #[.val (.ref a1), .val (.int p1), .val (.int pe), .val (.ref b)] [(.int p1), (.int pe)])
    refine Go.step (fun _ k => XS.iadd X14.here hx rfl (hb hby own_f42) rfl k) ?_
    show Go p e below _ T14 (mkF m 55 #[.val (.ref a1), .val (.int p1), .val (.int pe), .val (.ref b)] [(.int (pe + p1))])
    refine Go.step (fun _ k => XS.aloadN X14.here hx rfl (hb hby own_f43) rfl rfl k) ?_
    show Go p e below _ T14 (mkF m 56 #[.val (.ref a1), .val (.int p1), .val (.int pe), .val (.ref b)] [(.ref a1), (.int (pe + p1))])
    obtain ⟨T15, X15, e15, st15⟩ := getF X14 hx hZ hown (host := "") (Or.inl (hw _ (List.mem_of_getElem? (i := 22) rfl))) Via.refl e14 F_bytes_a1 (g := (mkF m 56 #[.val (.ref a1), .val (.int p1), .val (.int pe), .val (.ref b)] [(.ref a1), (.int (pe + p1))])) rfl rfl (hb hby own_f44)
    refine Go.step st15 ?_
    show Go p e below _ T15 (mkF m 59 #[.val (.ref a1), .val (.int p1), .val (.int pe), .val (.ref b)] [(.ref b), (.int (pe + p1))])
    obtain ⟨_, _, ⟨cl16, Ar16, _, S16, Nn16, _, _⟩, _⟩ := id B_b
    refine Go.step (X15.arraylength hx (by rw [e15]; exact Ar16.1) (State.isArrayOf_alike hZ.alike Ar16.2.1) (g := (mkF m 59 #[.val (.ref a1), .val (.int p1), .val (.int pe), .val (.ref b)] [(.ref b), (.int (pe + p1))])) rfl rfl (hb hby own_f45)) ?_
    rw [len_of S16 Nn16]
    show Go p e below _ T15 (mkF m 60 #[.val (.ref a1), .val (.int p1), .val (.int pe), .val (.ref b)] [(.int z), (.int (pe + p1))])
    refine Go.step (fun _ k => XS.iconst X15.here hx rfl (hb hby own_f46) k) ?_
    show Go p e below _ T15 (mkF m 61 #[.val (.ref a1), .val (.int p1), .val (.int pe), .val (.ref b)] [(.int (2 : Int32)), (.int z), (.int (pe + p1))])
    refine Go.step (fun _ k => XS.idiv X15.here hx rfl (hb hby own_f47) rfl (by decide) k) ?_
    show Go p e below _ T15 (mkF m 62 #[.val (.ref a1), .val (.int p1), .val (.int pe), .val (.ref b)] [(.int (z / (2 : Int32))), (.int (pe + p1))])
    by_cases hc62_17 : (z / (2 : Int32)) < (pe + p1)
    · show Go p e below _ T15 (mkF m 62 #[.val (.ref a1), .val (.int p1), .val (.int pe), .val (.ref b)] [(.int (z / (2 : Int32))), (.int (pe + p1))])
      refine Go.step (fun _ k => XS.icmpNo X15.here hx rfl (hb hby own_f48) rfl (tlt hc62_17).2.2.2 k) ?_
      show Go p e below _ T15 (mkF m 65 #[.val (.ref a1), .val (.int p1), .val (.int pe), .val (.ref b)] [])
      refine Go.step (fun _ k => XS.aloadN X15.here hx rfl (hb hby own_f49) rfl rfl k) ?_
      show Go p e below _ T15 (mkF m 66 #[.val (.ref a1), .val (.int p1), .val (.int pe), .val (.ref b)] [(.ref a1)])
      obtain ⟨T18, X18, e18, st18⟩ := getF X15 hx hZ hown (host := "") (Or.inl (hw _ (List.mem_of_getElem? (i := 22) rfl))) Via.refl e15 F_bytes_a1 (g := (mkF m 66 #[.val (.ref a1), .val (.int p1), .val (.int pe), .val (.ref b)] [(.ref a1)])) rfl rfl (hb hby own_f50)
      refine Go.step st18 ?_
      show Go p e below _ T18 (mkF m 69 #[.val (.ref a1), .val (.int p1), .val (.int pe), .val (.ref b)] [(.ref b)])
      obtain ⟨_, _, ⟨cl19, Ar19, _, S19, Nn19, _, _⟩, _⟩ := id B_b
      refine Go.step (X18.arraylength hx (by rw [e18]; exact Ar19.1) (State.isArrayOf_alike hZ.alike Ar19.2.1) (g := (mkF m 69 #[.val (.ref a1), .val (.int p1), .val (.int pe), .val (.ref b)] [(.ref b)])) rfl rfl (hb hby own_f51)) ?_
      rw [len_of S19 Nn19]
      show Go p e below _ T18 (mkF m 70 #[.val (.ref a1), .val (.int p1), .val (.int pe), .val (.ref b)] [(.int z)])
      refine Go.step (fun _ k => XS.iconst X18.here hx rfl (hb hby own_f52) k) ?_
      show Go p e below _ T18 (mkF m 71 #[.val (.ref a1), .val (.int p1), .val (.int pe), .val (.ref b)] [(.int (2 : Int32)), (.int z)])
      refine Go.step (fun _ k => XS.imul X18.here hx rfl (hb hby own_f53) rfl k) ?_
      show Go p e below _ T18 (mkF m 72 #[.val (.ref a1), .val (.int p1), .val (.int pe), .val (.ref b)] [(.int (z * (2 : Int32)))])
      refine Go.step (fun _ k => XS.iloadN X18.here hx rfl (hb hby own_f54) rfl k) ?_
      show Go p e below _ T18 (mkF m 73 #[.val (.ref a1), .val (.int p1), .val (.int pe), .val (.ref b)] [(.int pe), (.int (z * (2 : Int32)))])
      refine Go.step (fun _ k => XS.iloadN X18.here hx rfl (hb hby own_f55) rfl k) ?_
      show Go p e below _ T18 (mkF m 74 #[.val (.ref a1), .val (.int p1), .val (.int pe), .val (.ref b)] [(.int p1), (.int pe), (.int (z * (2 : Int32)))])
      refine Go.step (fun _ k => XS.iadd X18.here hx rfl (hb hby own_f56) rfl k) ?_
      show Go p e below _ T18 (mkF m 75 #[.val (.ref a1), .val (.int p1), .val (.int pe), .val (.ref b)] [(.int (pe + p1)), (.int (z * (2 : Int32)))])
      obtain ⟨_, _, ⟨T20, L20, k20, n20⟩, -, X20, ⟨Lc20, hQ20, l20, y20, z20⟩, st20⟩ := Jvm.LawKit.callS X18 hx (y := (⟨"java/lang/Math", "max", "(II)I"⟩ : MethodName)) hown (mvT hZ (hw _ (List.mem_of_getElem? (i := 24) rfl))) (mvT hZ (hw _ (List.mem_of_getElem? (i := 25) rfl))) (mvT hZ (hw _ (List.mem_of_getElem? (i := 26) rfl))) (mvT hZ (hw _ (List.mem_of_getElem? (i := 27) rfl))) (by decide) (backOf (W := 0) (rmMx l Z a0 hw [] (z * (2 : Int32)) (pe + p1) h0 n0 Zn) hZ (hw _ (List.mem_of_getElem? (i := 27) rfl)) (hw _ (List.mem_of_getElem? (i := 26) rfl)) (by decide) (by decide)) (g := (mkF m 75 #[.val (.ref a1), .val (.int p1), .val (.int pe), .val (.ref b)] [(.int (pe + p1)), (.int (z * (2 : Int32)))])) rfl (by rw [hml]; rfl) (argsL := [(.int (z * (2 : Int32))), (.int (pe + p1))]) (rest := []) (lenOf own_f17 rfl) rfl (by show 2 * 0 + _ ≤ _; exact Nat.le_of_eq rfl) (hb hby own_f57) (fun _ _ => ⟨rfl, e18, (by dsimp only [Pt.cells, Pt.slots]; decide), (by dsimp only [Pt.cells, Pt.slots]; decide)⟩)
      dsimp only [Pt.U, Pt.locs, Pt.cells, Pt.slots] at X20 l20 y20 z20 st20 hQ20
      subst l20 y20 z20
      obtain ⟨rfl, N20q, e20⟩ := hQ20
      have N20 := Fr.app N0 N20q
      refine Go.step (st20) ?_
      show Go p e below _ T20 (mkF m 78 #[.val (.ref a1), .val (.int p1), .val (.int pe), .val (.ref b)] [(.int (own_max (z * (2 : Int32)) (pe + p1)))])
      obtain ⟨zz, e_zz⟩ : ∃ zq : Int32, zq = (own_max (z * (2 : Int32)) (pe + p1)) := ⟨_, rfl⟩
      rw [← e_zz]
      show Go p e below _ T20 (mkF m 78 #[.val (.ref a1), .val (.int p1), .val (.int pe), .val (.ref b)] [(.int zz)])
      have hzz := own_mxz (z * (2 : Int32)) (pe + p1)
      rw [← e_zz] at hzz
      rw [hzt, hpp] at hzz
      have hz3 : pe.toInt + p1.toInt ≤ zz.toInt ∧ 0 ≤ zz.toInt ∧ zz.toInt ≤ M + 4097 := by split at hzz <;> omega
      obtain ⟨T21, h21, k21, X21, e21, E21, A21, st21⟩ := newP X20 hx hZ (hw _ (List.mem_of_getElem? (i := 9) rfl)) e20 (g := (mkF m 78 #[.val (.ref a1), .val (.int p1), .val (.int pe), .val (.ref b)] [(.int zz)])) rfl (hb hby own_f58) rfl (own_nlt hz3.2.1) (cap := 8194) (own_cap (by omega)) (by decide) (by decide) (by decide)
      obtain ⟨b1, g21⟩ : ∃ z, z = h0.size := ⟨_, rfl⟩
      rw [← g21] at A21 st21
      have ne_a1_b1 : a1 ≠ b1 := Nat.ne_of_lt (Nat.lt_of_lt_of_le E_a1.lt (Nat.le_of_eq g21.symm))
      have ne_b_b1 : b ≠ b1 := Nat.ne_of_lt (Nat.lt_of_lt_of_le B_b.lt (Nat.le_of_eq g21.symm))
      have g_b1 : n0 ≤ b1 := Nat.le_trans Zn (Nat.le_of_eq g21.symm)
      have sz_b1 : h0.size ≤ b1 := Nat.le_trans K0.1 (Nat.le_of_eq g21.symm)
      have np_b1 : b1 ∉ P := fun q => Nat.lt_irrefl _ (Nat.lt_of_lt_of_le (hPl _ q) sz_b1)
      replace E_a1 := E_a1.ext E21
      replace F_start_a1 := F_start_a1.ext E21
      replace F_end_a1 := F_end_a1.ext E21
      replace F_lines_a1 := F_lines_a1.ext E21
      replace F_bytes_a1 := F_bytes_a1.ext E21
      replace B_b := B_b.ext E21
      replace Zn := Nat.le_trans Zn E21.1
      replace K0 := K0.ext E21
      have B_b1 : own_By Z h21 b1 zz := own_By.new A21 (own_nlt hz3.2.1)
      refine Go.step st21 ?_
      show Go p e below _ T21 (mkF m 80 #[.val (.ref a1), .val (.int p1), .val (.int pe), .val (.ref b)] [(.ref b1)])
      refine Go.step (fun _ k => XS.astoreN X21.here hx rfl (hb hby own_f59) rfl rfl (l' := #[.val (.ref a1), .val (.int p1), .val (.int pe), .val (.ref b1)]) rfl k) ?_
      show Go p e below _ T21 (mkF m 81 #[.val (.ref a1), .val (.int p1), .val (.int pe), .val (.ref b1)] [])
      refine Go.step (fun _ k => XS.aloadN X21.here hx rfl (hb hby own_f60) rfl rfl k) ?_
      show Go p e below _ T21 (mkF m 82 #[.val (.ref a1), .val (.int p1), .val (.int pe), .val (.ref b1)] [(.ref a1)])
      obtain ⟨T22, X22, e22, st22⟩ := getF X21 hx hZ hown (host := "") (Or.inl (hw _ (List.mem_of_getElem? (i := 22) rfl))) Via.refl e21 F_bytes_a1 (g := (mkF m 82 #[.val (.ref a1), .val (.int p1), .val (.int pe), .val (.ref b1)] [(.ref a1)])) rfl rfl (hb hby own_f61)
      refine Go.step st22 ?_
      show Go p e below _ T22 (mkF m 85 #[.val (.ref a1), .val (.int p1), .val (.int pe), .val (.ref b1)] [(.ref b)])
      refine Go.step (fun _ k => XS.aloadN X22.here hx rfl (hb hby own_f62) rfl rfl k) ?_
      show Go p e below _ T22 (mkF m 86 #[.val (.ref a1), .val (.int p1), .val (.int pe), .val (.ref b1)] [(.ref a1), (.ref b)])
      obtain ⟨T23, X23, e23, st23⟩ := getF X22 hx hZ hown (host := "") (Or.inl (hw _ (List.mem_of_getElem? (i := 41) rfl))) Via.refl e22 F_start_a1 (g := (mkF m 86 #[.val (.ref a1), .val (.int p1), .val (.int pe), .val (.ref b1)] [(.ref a1), (.ref b)])) rfl rfl (hb hby own_f63)
      refine Go.step st23 ?_
      show Go p e below _ T23 (mkF m 89 #[.val (.ref a1), .val (.int p1), .val (.int pe), .val (.ref b1)] [(.int (0 : Int32)), (.ref b)])
      refine Go.step (fun _ k => XS.aloadN X23.here hx rfl (hb hby own_f64) rfl rfl k) ?_
      show Go p e below _ T23 (mkF m 90 #[.val (.ref a1), .val (.int p1), .val (.int pe), .val (.ref b1)] [(.ref b1), (.int (0 : Int32)), (.ref b)])
      refine Go.step (fun _ k => XS.iconst X23.here hx rfl (hb hby own_f65) k) ?_
      show Go p e below _ T23 (mkF m 91 #[.val (.ref a1), .val (.int p1), .val (.int pe), .val (.ref b1)] [(.int (0 : Int32)), (.ref b1), (.int (0 : Int32)), (.ref b)])
      refine Go.step (fun _ k => XS.iloadN X23.here hx rfl (hb hby own_f66) rfl k) ?_
      show Go p e below _ T23 (mkF m 92 #[.val (.ref a1), .val (.int p1), .val (.int pe), .val (.ref b1)] [(.int pe), (.int (0 : Int32)), (.ref b1), (.int (0 : Int32)), (.ref b)])
      obtain ⟨T24, h24, L24, X24, e24, N24, K24, Bc24, st24⟩ := own_copy X23 hx hZ hown (hw _ (List.mem_of_getElem? (i := 30) rfl)) (hw _ (List.mem_of_getElem? (i := 33) rfl)) (hw _ (List.mem_of_getElem? (i := 31) rfl)) (hw _ (List.mem_of_getElem? (i := 32) rfl)) e23 B_b B_b1 (by decide) (by decide) hpe0 (by rw [show (0 : Int32).toInt = 0 by decide]; omega) (by rw [show (0 : Int32).toInt = 0 by decide]; omega) N20 g_b1 (g := (mkF m 92 #[.val (.ref a1), .val (.int p1), .val (.int pe), .val (.ref b1)] [(.int pe), (.int (0 : Int32)), (.ref b1), (.int (0 : Int32)), (.ref b)])) rfl (by rw [hml]; rfl) rfl (hb hby own_f67) (by decide) (W := 0) (by show 2 * 0 + _ ≤ _; exact Nat.le_of_eq rfl) (by decide +kernel)
      replace E_a1 := E_a1.keep K24
      replace F_start_a1 := F_start_a1.keep K24 (ninS ne_a1_b1 nin0)
      replace F_end_a1 := F_end_a1.keep K24 (ninS ne_a1_b1 nin0)
      replace F_lines_a1 := F_lines_a1.keep K24 (ninS ne_a1_b1 nin0)
      replace F_bytes_a1 := F_bytes_a1.keep K24 (ninS ne_a1_b1 nin0)
      replace B_b := B_b.keep K24 (ninS ne_b_b1 nin0)
      replace B_b1 := Bc24
      replace K0 := K0.trans K24 (allS (Or.inr sz_b1) (all0))
      replace Zn := Nat.le_trans Zn K24.1
      refine Go.step st24 ?_
      show Go p e below _ T24 (mkF m 95 #[.val (.ref a1), .val (.int p1), .val (.int pe), .val (.ref b1)] [])
      refine Go.step (fun _ k => XS.aloadN X24.here hx rfl (hb hby own_f68) rfl rfl k) ?_
      show Go p e below _ T24 (mkF m 96 #[.val (.ref a1), .val (.int p1), .val (.int pe), .val (.ref b1)] [(.ref a1)])
      refine Go.step (fun _ k => XS.aloadN X24.here hx rfl (hb hby own_f69) rfl rfl k) ?_
      show Go p e below _ T24 (mkF m 97 #[.val (.ref a1), .val (.int p1), .val (.int pe), .val (.ref b1)] [(.ref b1), (.ref a1)])
      obtain ⟨T25, h25, X25, e25, W25, st25⟩ := putF X24 hx hZ hown (host := "") (Or.inl (hw _ (List.mem_of_getElem? (i := 22) rfl))) Via.refl e24 F_bytes_a1 E_a1 (Or.inl (hw _ (List.mem_of_getElem? (i := 23) rfl))) (hw _ (List.mem_of_getElem? (i := 1) rfl)) (ty := (.array .byte)) (by decide) rfl rfl (g := (mkF m 97 #[.val (.ref a1), .val (.int p1), .val (.int pe), .val (.ref b1)] [(.ref b1), (.ref a1)])) rfl rfl (hb hby own_f70)
      have Fw25 := F_bytes_a1.same W25
      replace E_a1 := E_a1.wr W25
      replace F_start_a1 := F_start_a1.other W25 (Or.inr (slot_ne (Or.inl (hw _ (List.mem_of_getElem? (i := 42) rfl))) (Or.inl (hw _ (List.mem_of_getElem? (i := 23) rfl))) (by decide) (t := .int) (t' := (.array .byte)) (by decide) (by decide)))
      replace F_end_a1 := F_end_a1.other W25 (Or.inr (slot_ne (Or.inl (hw _ (List.mem_of_getElem? (i := 29) rfl))) (Or.inl (hw _ (List.mem_of_getElem? (i := 23) rfl))) (by decide) (t := .int) (t' := (.array .byte)) (by decide) (by decide)))
      replace F_lines_a1 := F_lines_a1.other W25 (Or.inr (slot_ne (Or.inl (hw _ (List.mem_of_getElem? (i := 35) rfl))) (Or.inl (hw _ (List.mem_of_getElem? (i := 23) rfl))) (by decide) (t := .int) (t' := (.array .byte)) (by decide) (by decide)))
      replace B_b := B_b.other W25 (Ne.symm ne_a1_b)
      replace B_b1 := B_b1.other W25 (Ne.symm ne_a1_b1)
      replace F_bytes_a1 := Fw25
      replace K0 := K0.wr W25 (Or.inl (List.mem_of_getElem? (i := 0) rfl))
      replace Zn := Nat.le_trans Zn (Nat.le_of_eq W25.size.symm)
      have N25 := Fr.snoc X25 N24 g_a1
      refine Go.step st25 ?_
      show Go p e below _ T25 (mkF m 100 #[.val (.ref a1), .val (.int p1), .val (.int pe), .val (.ref b1)] [])
      refine Go.step (fun _ k => XS.aloadN X25.here hx rfl (hb hby own_f71) rfl rfl k) ?_
      show Go p e below _ T25 (mkF m 101 #[.val (.ref a1), .val (.int p1), .val (.int pe), .val (.ref b1)] [(.ref a1)])
      refine Go.step (fun _ k => XS.iconst X25.here hx rfl (hb hby own_f72) k) ?_
      show Go p e below _ T25 (mkF m 102 #[.val (.ref a1), .val (.int p1), .val (.int pe), .val (.ref b1)] [(.int (0 : Int32)), (.ref a1)])
      obtain ⟨T26, h26, X26, e26, W26, st26⟩ := putF X25 hx hZ hown (host := "") (Or.inl (hw _ (List.mem_of_getElem? (i := 41) rfl))) Via.refl e25 F_start_a1 E_a1 (Or.inl (hw _ (List.mem_of_getElem? (i := 42) rfl))) (hw _ (List.mem_of_getElem? (i := 1) rfl)) (ty := .int) (by decide) rfl rfl (g := (mkF m 102 #[.val (.ref a1), .val (.int p1), .val (.int pe), .val (.ref b1)] [(.int (0 : Int32)), (.ref a1)])) rfl rfl (hb hby own_f73)
      have Fw26 := F_start_a1.same W26
      replace E_a1 := E_a1.wr W26
      replace F_end_a1 := F_end_a1.other W26 (Or.inr (slot_ne (Or.inl (hw _ (List.mem_of_getElem? (i := 29) rfl))) (Or.inl (hw _ (List.mem_of_getElem? (i := 42) rfl))) (by decide) (t := .int) (t' := .int) (by decide) (by decide)))
      replace F_lines_a1 := F_lines_a1.other W26 (Or.inr (slot_ne (Or.inl (hw _ (List.mem_of_getElem? (i := 35) rfl))) (Or.inl (hw _ (List.mem_of_getElem? (i := 42) rfl))) (by decide) (t := .int) (t' := .int) (by decide) (by decide)))
      replace B_b := B_b.other W26 (Ne.symm ne_a1_b)
      replace B_b1 := B_b1.other W26 (Ne.symm ne_a1_b1)
      replace F_bytes_a1 := F_bytes_a1.other W26 (Or.inr (slot_ne (Or.inl (hw _ (List.mem_of_getElem? (i := 23) rfl))) (Or.inl (hw _ (List.mem_of_getElem? (i := 42) rfl))) (by decide) (t := (.array .byte)) (t' := .int) (by decide) (by decide)))
      replace F_start_a1 := Fw26
      replace K0 := K0.wr W26 (Or.inl (List.mem_of_getElem? (i := 0) rfl))
      replace Zn := Nat.le_trans Zn (Nat.le_of_eq W26.size.symm)
      have N26 := Fr.snoc X26 N25 g_a1
      refine Go.step st26 ?_
      show Go p e below _ T26 (mkF m 105 #[.val (.ref a1), .val (.int p1), .val (.int pe), .val (.ref b1)] [])
      refine Go.step (fun _ k => XS.aloadN X26.here hx rfl (hb hby own_f74) rfl rfl k) ?_
      show Go p e below _ T26 (mkF m 106 #[.val (.ref a1), .val (.int p1), .val (.int pe), .val (.ref b1)] [(.ref a1)])
      refine Go.step (fun _ k => XS.iloadN X26.here hx rfl (hb hby own_f75) rfl k) ?_
      show Go p e below _ T26 (mkF m 107 #[.val (.ref a1), .val (.int p1), .val (.int pe), .val (.ref b1)] [(.int pe), (.ref a1)])
      obtain ⟨T27, h27, X27, e27, W27, st27⟩ := putF X26 hx hZ hown (host := "") (Or.inl (hw _ (List.mem_of_getElem? (i := 28) rfl))) Via.refl e26 F_end_a1 E_a1 (Or.inl (hw _ (List.mem_of_getElem? (i := 29) rfl))) (hw _ (List.mem_of_getElem? (i := 1) rfl)) (ty := .int) (by decide) rfl rfl (g := (mkF m 107 #[.val (.ref a1), .val (.int p1), .val (.int pe), .val (.ref b1)] [(.int pe), (.ref a1)])) rfl rfl (hb hby own_f76)
      have Fw27 := F_end_a1.same W27
      replace E_a1 := E_a1.wr W27
      replace F_lines_a1 := F_lines_a1.other W27 (Or.inr (slot_ne (Or.inl (hw _ (List.mem_of_getElem? (i := 35) rfl))) (Or.inl (hw _ (List.mem_of_getElem? (i := 29) rfl))) (by decide) (t := .int) (t' := .int) (by decide) (by decide)))
      replace B_b := B_b.other W27 (Ne.symm ne_a1_b)
      replace B_b1 := B_b1.other W27 (Ne.symm ne_a1_b1)
      replace F_bytes_a1 := F_bytes_a1.other W27 (Or.inr (slot_ne (Or.inl (hw _ (List.mem_of_getElem? (i := 23) rfl))) (Or.inl (hw _ (List.mem_of_getElem? (i := 29) rfl))) (by decide) (t := (.array .byte)) (t' := .int) (by decide) (by decide)))
      replace F_start_a1 := F_start_a1.other W27 (Or.inr (slot_ne (Or.inl (hw _ (List.mem_of_getElem? (i := 42) rfl))) (Or.inl (hw _ (List.mem_of_getElem? (i := 29) rfl))) (by decide) (t := .int) (t' := .int) (by decide) (by decide)))
      replace F_end_a1 := Fw27
      replace K0 := K0.wr W27 (Or.inl (List.mem_of_getElem? (i := 0) rfl))
      replace Zn := Nat.le_trans Zn (Nat.le_of_eq W27.size.symm)
      have N27 := Fr.snoc X27 N26 g_a1
      refine Go.step st27 ?_
      show Go p e below _ T27 (mkF m 110 #[.val (.ref a1), .val (.int p1), .val (.int pe), .val (.ref b1)] [])
      obtain ⟨fs, hr, hrun, hended, hW, hsame⟩ := X27.leave (v := none) (fun _ => rfl)
      refine Go.fin (X27.returnOut hx Bd.returns (hb hby own_f22) hr) hrun hended ?_
      refine ⟨_, _, rfl, ?_, ⟨_, rfl⟩, hW, hsame.mono (by decide) (by decide)⟩
      show QM2 Z a1 p1 pe pl P b z M h0 n0 _ T27.heap _
      rw [e27]
      exact ⟨b1, zz, rfl, N27, K0, ⟨E_a1, F_start_a1, F_end_a1, F_lines_a1, F_bytes_a1, B_b1, g_b1, np_b1, hpe0, by omega, by omega⟩, by omega, Or.inr sz_b1⟩
    · show Go p e below _ T15 (mkF m 62 #[.val (.ref a1), .val (.int p1), .val (.int pe), .val (.ref b)] [(.int (z / (2 : Int32))), (.int (pe + p1))])
      refine Go.step (fun _ k => XS.icmpYes X15.here hx rfl (pc0 := 62) (pc' := 81) rfl (hb hby own_f48) rfl (flt hc62_17).2.2.2 (by decide) (by decide) k) ?_
      show Go p e below _ T15 (mkF m 81 #[.val (.ref a1), .val (.int p1), .val (.int pe), .val (.ref b)] [])
      exfalso
      have q1 := Int32.lt_iff_toInt_lt.mp hc34_11
      have q2 : ¬ (z / (2 : Int32)).toInt < (pe + p1).toInt := fun q => hc62_17 (Int32.lt_iff_toInt_lt.mpr q)
      rw [hpp] at q1
      rw [hpp, hzd] at q2
      omega
  · show Go p e below _ T9 (mkF m 34 #[.val (.ref a1), .val (.int p1), .unset, .unset] [(.int z), (.int (pe + p1))])
    refine Go.step (fun _ k => XS.icmpYes X9.here hx rfl (pc0 := 34) (pc' := 110) rfl (hb hby own_f30) rfl (flt hc34_11).2.2.2 (by decide) (by decide) k) ?_
    show Go p e below _ T9 (mkF m 110 #[.val (.ref a1), .val (.int p1), .unset, .unset] [])
    have q1 : ¬ z.toInt < pe.toInt + p1.toInt := fun q => hc34_11 (Int32.lt_iff_toInt_lt.mpr (by rw [hpp]; exact q))
    obtain ⟨fs, hr, hrun, hended, hW, hsame⟩ := X9.leave (v := none) (fun _ => rfl)
    refine Go.fin (X9.returnOut hx Bd.returns (hb hby own_f22) hr) hrun hended ?_
    refine ⟨_, _, rfl, ?_, ⟨_, rfl⟩, hW, hsame.mono (by decide) (by decide)⟩
    show QM2 Z a1 p1 pe pl P b z M h0 n0 _ T9.heap _
    rw [e9]
    exact ⟨b, z, rfl, N0, K0, ⟨E_a1, F_start_a1, F_end_a1, F_lines_a1, F_bytes_a1, B_b, g_b, np_b, hpe0, hpz, by omega⟩, by omega, Or.inl rfl⟩
theorem own_f77 : decode prog_56_method_2_code 0 = .ok (.aload_n 1, 1) := by decide +kernel
theorem own_f78 : decode prog_56_method_2_code 1 = .ok (.arraylength, 1) := by decide +kernel
theorem own_f79 : decode prog_56_method_2_code 2 = .ok (.getstatic 7, 3) := by decide +kernel
theorem own_f80 : decode prog_56_method_2_code 5 = .ok (.arraylength, 1) := by decide +kernel
theorem own_f81 : decode prog_56_method_2_code 6 = .ok (.iadd, 1) := by decide +kernel
theorem own_f82 : decode prog_56_method_2_code 7 = .ok (.istore_n 2, 1) := by decide +kernel
theorem own_f83 : decode prog_56_method_2_code 8 = .ok (.aload_n 0, 1) := by decide +kernel
theorem own_f84 : decode prog_56_method_2_code 9 = .ok (.iload_n 2, 1) := by decide +kernel
theorem own_f85 : parseMethodDescriptor "(I)V" = some ⟨[.int], none⟩ := by decide +kernel
theorem own_f86 : decode prog_56_method_2_code 10 = .ok (.invokevirtual 13, 3) := by decide +kernel
theorem own_f87 : decode prog_56_method_2_code 13 = .ok (.aload_n 1, 1) := by decide +kernel
theorem own_f88 : decode prog_56_method_2_code 14 = .ok (.iconst 0, 1) := by decide +kernel
theorem own_f89 : decode prog_56_method_2_code 15 = .ok (.aload_n 0, 1) := by decide +kernel
theorem own_f90 : decode prog_56_method_2_code 16 = .ok (.getfield 19, 3) := by decide +kernel
theorem own_f91 : decode prog_56_method_2_code 19 = .ok (.aload_n 0, 1) := by decide +kernel
theorem own_f92 : decode prog_56_method_2_code 20 = .ok (.getfield 22, 3) := by decide +kernel
theorem own_f93 : decode prog_56_method_2_code 23 = .ok (.aload_n 1, 1) := by decide +kernel
theorem own_f94 : decode prog_56_method_2_code 24 = .ok (.arraylength, 1) := by decide +kernel
theorem own_f95 : decode prog_56_method_2_code 25 = .ok (.invokestatic 26, 3) := by decide +kernel
theorem own_f96 : decode prog_56_method_2_code 28 = .ok (.getstatic 7, 3) := by decide +kernel
theorem own_f97 : decode prog_56_method_2_code 31 = .ok (.iconst 0, 1) := by decide +kernel
theorem own_f98 : decode prog_56_method_2_code 32 = .ok (.aload_n 0, 1) := by decide +kernel
theorem own_f99 : decode prog_56_method_2_code 33 = .ok (.getfield 19, 3) := by decide +kernel
theorem own_f100 : decode prog_56_method_2_code 36 = .ok (.aload_n 0, 1) := by decide +kernel
theorem own_f101 : decode prog_56_method_2_code 37 = .ok (.getfield 22, 3) := by decide +kernel
theorem own_f102 : decode prog_56_method_2_code 40 = .ok (.aload_n 1, 1) := by decide +kernel
theorem own_f103 : decode prog_56_method_2_code 41 = .ok (.arraylength, 1) := by decide +kernel
theorem own_f104 : decode prog_56_method_2_code 42 = .ok (.iadd, 1) := by decide +kernel
theorem own_f105 : decode prog_56_method_2_code 43 = .ok (.getstatic 7, 3) := by decide +kernel
theorem own_f106 : decode prog_56_method_2_code 46 = .ok (.arraylength, 1) := by decide +kernel
theorem own_f107 : decode prog_56_method_2_code 47 = .ok (.invokestatic 26, 3) := by decide +kernel
theorem own_f108 : decode prog_56_method_2_code 50 = .ok (.aload_n 0, 1) := by decide +kernel
theorem own_f109 : decode prog_56_method_2_code 51 = .ok (.dup, 1) := by decide +kernel
theorem own_f110 : decode prog_56_method_2_code 52 = .ok (.getfield 22, 3) := by decide +kernel
theorem own_f111 : decode prog_56_method_2_code 55 = .ok (.iload_n 2, 1) := by decide +kernel
theorem own_f112 : decode prog_56_method_2_code 56 = .ok (.iadd, 1) := by decide +kernel
theorem own_f113 : decode prog_56_method_2_code 57 = .ok (.putfield 22, 3) := by decide +kernel
theorem own_f114 : decode prog_56_method_2_code 60 = .ok (.aload_n 0, 1) := by decide +kernel
theorem own_f115 : decode prog_56_method_2_code 61 = .ok (.dup, 1) := by decide +kernel
theorem own_f116 : decode prog_56_method_2_code 62 = .ok (.getfield 32, 3) := by decide +kernel
theorem own_f117 : decode prog_56_method_2_code 65 = .ok (.iconst 1, 1) := by decide +kernel
theorem own_f118 : decode prog_56_method_2_code 66 = .ok (.iadd, 1) := by decide +kernel
theorem own_f119 : decode prog_56_method_2_code 67 = .ok (.putfield 32, 3) := by decide +kernel
theorem own_f120 : decode prog_56_method_2_code 70 = .ok (.return_, 1) := by decide +kernel
theorem own_ef_W1 (m : MethodId) (a1 : Addr) (a2 : Addr) : entryFrame m #[(.ref a1), (.ref a2)] 3 = mkF m 0 #[.val (.ref a1), .val (.ref a2), .unset] [] := by first | (simp [entryFrame, mkF, argsToLocals, Value.category]; done) | rfl
def QW1 (Z : State) (a1 : Addr) (a2 : Addr) (pl : Int32) (P : List Addr) (aE : Addr) (n : Int32) (h0 : Heap) (n0 : Nat) (v : Option Value) (h : Heap) (L : List Loc) : Prop := ∃ (b : Addr) (z : Int32), v = none ∧ Fr n0 L ∧ Keep h0 h [a1] ∧ own_Rf Z h n0 P a1 ((0 : Int32) + (n + (2 : Int32))) (pl + (1 : Int32)) b z 4097 ∧ h0.size ≤ b
set_option maxRecDepth 65536 in
set_option maxHeartbeats 40000000 in
theorem rmW1 (l : Launch) (Z : State) (a0 : Array Value) (hw : ∀ d ∈ tables_1, d.before a0 Z = true) (ws : List Jvm.Cond) (a1 : Addr) (a2 : Addr) (pl : Int32) (P : List Addr) (aE : Addr) (n : Int32) (h0 : Heap) (n0 : Nat) (Z0 : n0 ≤ h0.size) (hR : own_Nl Z h0 a1 pl) (S0 : Sta Z Z.heap "com/example/frugal_sieve/frugalsieve/server/Lines" "LINE_END" "[B" (.ref aE)) (B0 : own_By Z Z.heap aE (2 : Int32)) (Od : Old Z n0 h0) (g_a1 : n0 ≤ a1) (B_a2 : own_By Z h0 a2 n) (hn : 0 ≤ n.toInt ∧ n.toInt ≤ 4095) (hPl : ∀ x ∈ P, x < h0.size) (hin : a2 ∈ P) :
    MetFree l (⟨"com/example/frugal_sieve/frugalsieve/server/Outbox", "write", "([B)V"⟩ : MethodName) (head1 (Jvm.Cond.code (⟨"com/example/frugal_sieve/frugalsieve/server/Outbox", "write", "([B)V"⟩ : MethodName) prog_56_method_2_code 3 none :: ws) ({ frames := 2, cells := 1, slots := 8194, locals := 45 } : Room)) (fun a U => a = #[(.ref a1), (.ref a2)] ∧ Z.Warmed39 U.vm ∧ U.heap = h0) (fun _ _ _ _ _ => True) (fun _ U o U' => ∃ v L, o = .returned v ∧ QW1 Z a1 a2 pl P aE n h0 n0 v U'.heap L ∧ FrameEnd U o U' L ({ frames := 2, cells := 1, slots := 8194, locals := 45 } : Room).cells ({ frames := 2, cells := 1, slots := 8194, locals := 45 } : Room).slots) := by
  refine MetFree.of_bodySF (plainFor_of_name own_f10) hisR ?_
  intro p e s m args below meth c s₁ Bd hml0 hP hK
  obtain ⟨rfl, hZ, hh⟩ := hP
  have hx := Bd.exec
  have hby := Bd.bytes
  have hml : c.maxLocals = 3 := hml0
  have hown : s.vm.findClass "com/example/frugal_sieve/frugalsieve/server/Outbox" = some m.cls := findClass_of_methodNamed Bd.named
  have hnm := (name_of_methodNamed Bd.named Bd.method).1
  have X0 : Stand p l e ({ frames := 2, cells := 1, slots := 8194, locals := 45 } : Room) s m #[(.ref a1), (.ref a2)] below meth c s₁ [] 0 0 := Stand.of_body Bd
  have e0 : s₁.heap = h0 := by rw [← hh, Bd.state]; rfl
  have N0 := Fr.nil n0
  refine Go.start (own_ef_W1 m a1 a2) ?_
  show Go p e below _ s₁ (mkF m 0 #[.val (.ref a1), .val (.ref a2), .unset] [])
  have Zn := Z0
  have K0 : Keep h0 h0 [a1] := Keep.refl h0 _
  have hl2 : (n + (2 : Int32)).toInt = n.toInt + 2 := by rw [Jvm.Kit.i32_add (by rw [show (2 : Int32).toInt = 2 by decide]; omega) (by rw [show (2 : Int32).toInt = 2 by decide]; omega), show (2 : Int32).toInt = 2 by decide]
  have ne_a2_a1 : a2 ≠ a1 := (own_By.ne hR.1 (hw _ (List.mem_of_getElem? (i := 1) rfl)) B_a2).symm
  refine Go.step (fun _ k => XS.aloadN X0.here hx rfl (hb hby own_f77) rfl rfl k) ?_
  show Go p e below _ s₁ (mkF m 1 #[.val (.ref a1), .val (.ref a2), .unset] [(.ref a2)])
  obtain ⟨_, _, ⟨cl28, Ar28, _, S28, Nn28, _, _⟩, _⟩ := id B_a2
  refine Go.step (X0.arraylength hx (by rw [e0]; exact Ar28.1) (State.isArrayOf_alike hZ.alike Ar28.2.1) (g := (mkF m 1 #[.val (.ref a1), .val (.ref a2), .unset] [(.ref a2)])) rfl rfl (hb hby own_f78)) ?_
  rw [len_of S28 Nn28]
  show Go p e below _ s₁ (mkF m 2 #[.val (.ref a1), .val (.ref a2), .unset] [(.int n)])
  have S_LINE_END := S0.ext Od.2
  have B_aE := B0.ext Od.2
  obtain ⟨T29, X29, e29, st29⟩ := getS2 X0 hx hZ hown (host := "") (Or.inl (hw _ (List.mem_of_getElem? (i := 15) rfl))) Via.refl e0 S_LINE_END (g := (mkF m 2 #[.val (.ref a1), .val (.ref a2), .unset] [(.int n)])) rfl (hb hby own_f79)
  refine Go.step st29 ?_
  show Go p e below _ T29 (mkF m 5 #[.val (.ref a1), .val (.ref a2), .unset] [(.ref aE), (.int n)])
  obtain ⟨_, _, ⟨cl30, Ar30, _, S30, Nn30, _, _⟩, _⟩ := id B_aE
  refine Go.step (X29.arraylength hx (by rw [e29]; exact Ar30.1) (State.isArrayOf_alike hZ.alike Ar30.2.1) (g := (mkF m 5 #[.val (.ref a1), .val (.ref a2), .unset] [(.ref aE), (.int n)])) rfl rfl (hb hby own_f80)) ?_
  rw [len_of S30 Nn30]
  show Go p e below _ T29 (mkF m 6 #[.val (.ref a1), .val (.ref a2), .unset] [(.int (2 : Int32)), (.int n)])
  refine Go.step (fun _ k => XS.iadd X29.here hx rfl (hb hby own_f81) rfl k) ?_
  show Go p e below _ T29 (mkF m 7 #[.val (.ref a1), .val (.ref a2), .unset] [(.int (n + (2 : Int32)))])
  refine Go.step (fun _ k => XS.istoreN X29.here hx rfl (hb hby own_f82) rfl (l' := #[.val (.ref a1), .val (.ref a2), .val (.int (n + (2 : Int32)))]) rfl k) ?_
  show Go p e below _ T29 (mkF m 8 #[.val (.ref a1), .val (.ref a2), .val (.int (n + (2 : Int32)))] [])
  refine Go.step (fun _ k => XS.aloadN X29.here hx rfl (hb hby own_f83) rfl rfl k) ?_
  show Go p e below _ T29 (mkF m 9 #[.val (.ref a1), .val (.ref a2), .val (.int (n + (2 : Int32)))] [(.ref a1)])
  refine Go.step (fun _ k => XS.iloadN X29.here hx rfl (hb hby own_f84) rfl k) ?_
  show Go p e below _ T29 (mkF m 10 #[.val (.ref a1), .val (.ref a2), .val (.int (n + (2 : Int32)))] [(.int (n + (2 : Int32))), (.ref a1)])
  have E_a1 := hR.1
  obtain ⟨cq32, q32, q32'⟩ := E_a1.cell
  obtain ⟨_, _, ⟨T32, L32, k32, n32⟩, -, X32, ⟨Lc32, hQ32, l32, y32, z32⟩, st32⟩ := X29.privateBack hx (y := (⟨"com/example/frugal_sieve/frugalsieve/server/Outbox", "makeRoom", "(I)V"⟩ : MethodName)) hown (mvT hZ (hw _ (List.mem_of_getElem? (i := 18) rfl))) (mvT hZ (hw _ (List.mem_of_getElem? (i := 19) rfl))) (Jvm.Kit.selects_private (by decide) (mvT hZ (hw _ (List.mem_of_getElem? (i := 1) rfl))) (mvP hZ (hw _ (List.mem_of_getElem? (i := 20) rfl))) (mvT hZ (hw _ (List.mem_of_getElem? (i := 19) rfl)))) (Cond.privateMethod_at (mvP hZ (hw _ (List.mem_of_getElem? (i := 20) rfl)) (args := #[]))) (mvT hZ (hw _ (List.mem_of_getElem? (i := 21) rfl))) (by decide) (backOf (W := 0) (rmM1 l Z a0 hw [] a1 (n + (2 : Int32)) pl P h0 n0 Zn hR g_a1 (by rw [hl2]; omega) hPl) hZ (hw _ (List.mem_of_getElem? (i := 21) rfl)) (hw _ (List.mem_of_getElem? (i := 2) rfl)) (by decide) (by decide)) (g := (mkF m 10 #[.val (.ref a1), .val (.ref a2), .val (.int (n + (2 : Int32)))] [(.int (n + (2 : Int32))), (.ref a1)])) rfl (by rw [hml]; rfl) (Steps.refl _) (a := a1) (by rw [e29]; exact q32) q32' (argsL := [(.int (n + (2 : Int32)))]) (rest := []) (lenOf own_f85 rfl) rfl (by show 2 * 0 + _ ≤ _; exact Nat.le_of_eq rfl) (hb hby own_f86) (fun _ _ => ⟨rfl, e29, (by dsimp only [Pt.cells, Pt.slots]; decide), (by dsimp only [Pt.cells, Pt.slots]; decide)⟩)
  dsimp only [Pt.U, Pt.locs, Pt.cells, Pt.slots] at X32 l32 y32 z32 st32 hQ32
  subst l32 y32 z32
  obtain ⟨b1, z1, rfl, N32q, K32, hRf, hz1, hloc⟩ := hQ32
  have N32 := Fr.app N0 N32q
  refine Go.step (fun _ k => st32.trans k) ?_
  replace Od := Od.keep K32 (allS g_a1 all0)
  replace B_a2 := B_a2.keep K32 (ninS ne_a2_a1 nin0)
  replace K0 := K0.trans K32 (allS (Or.inl (List.mem_of_getElem? (i := 0) rfl)) (all0))
  replace Zn := Nat.le_trans Zn K32.1
  show Go p e below _ T32 (mkF m 13 #[.val (.ref a1), .val (.ref a2), .val (.int (n + (2 : Int32)))] [])
  rw [hl2] at hz1
  obtain ⟨E_a1, F_start_a1, F_end_a1, F_lines_a1, F_bytes_a1, B_b1, g_b1, np_b1, hpe0, hpz, hzM⟩ := hRf
  have ne_a1_b1 : a1 ≠ b1 := own_By.ne E_a1 (hw _ (List.mem_of_getElem? (i := 1) rfl)) B_b1
  have ne_a2_b1 : a2 ≠ b1 := fun q => np_b1 (q ▸ hin)
  rw [show (0 : Int32).toInt = 0 by decide] at hpe0 hpz
  have hpn : ((0 : Int32) + n).toInt = (0 : Int32).toInt + n.toInt := Jvm.Kit.i32_add (by rw [show (0 : Int32).toInt = 0 by decide]; omega) (by rw [show (0 : Int32).toInt = 0 by decide]; omega)
  refine Go.step (fun _ k => XS.aloadN X32.here hx rfl (hb hby own_f87) rfl rfl k) ?_
  show Go p e below _ T32 (mkF m 14 #[.val (.ref a1), .val (.ref a2), .val (.int (n + (2 : Int32)))] [(.ref a2)])
  refine Go.step (fun _ k => XS.iconst X32.here hx rfl (hb hby own_f88) k) ?_
  show Go p e below _ T32 (mkF m 15 #[.val (.ref a1), .val (.ref a2), .val (.int (n + (2 : Int32)))] [(.int (0 : Int32)), (.ref a2)])
  refine Go.step (fun _ k => XS.aloadN X32.here hx rfl (hb hby own_f89) rfl rfl k) ?_
  show Go p e below _ T32 (mkF m 16 #[.val (.ref a1), .val (.ref a2), .val (.int (n + (2 : Int32)))] [(.ref a1), (.int (0 : Int32)), (.ref a2)])
  obtain ⟨T33, X33, e33, st33⟩ := getF X32 hx hZ hown (host := "") (Or.inl (hw _ (List.mem_of_getElem? (i := 22) rfl))) Via.refl rfl F_bytes_a1 (g := (mkF m 16 #[.val (.ref a1), .val (.ref a2), .val (.int (n + (2 : Int32)))] [(.ref a1), (.int (0 : Int32)), (.ref a2)])) rfl rfl (hb hby own_f90)
  refine Go.step st33 ?_
  show Go p e below _ T33 (mkF m 19 #[.val (.ref a1), .val (.ref a2), .val (.int (n + (2 : Int32)))] [(.ref b1), (.int (0 : Int32)), (.ref a2)])
  refine Go.step (fun _ k => XS.aloadN X33.here hx rfl (hb hby own_f91) rfl rfl k) ?_
  show Go p e below _ T33 (mkF m 20 #[.val (.ref a1), .val (.ref a2), .val (.int (n + (2 : Int32)))] [(.ref a1), (.ref b1), (.int (0 : Int32)), (.ref a2)])
  obtain ⟨T34, X34, e34, st34⟩ := getF X33 hx hZ hown (host := "") (Or.inl (hw _ (List.mem_of_getElem? (i := 28) rfl))) Via.refl e33 F_end_a1 (g := (mkF m 20 #[.val (.ref a1), .val (.ref a2), .val (.int (n + (2 : Int32)))] [(.ref a1), (.ref b1), (.int (0 : Int32)), (.ref a2)])) rfl rfl (hb hby own_f92)
  refine Go.step st34 ?_
  show Go p e below _ T34 (mkF m 23 #[.val (.ref a1), .val (.ref a2), .val (.int (n + (2 : Int32)))] [(.int (0 : Int32)), (.ref b1), (.int (0 : Int32)), (.ref a2)])
  refine Go.step (fun _ k => XS.aloadN X34.here hx rfl (hb hby own_f93) rfl rfl k) ?_
  show Go p e below _ T34 (mkF m 24 #[.val (.ref a1), .val (.ref a2), .val (.int (n + (2 : Int32)))] [(.ref a2), (.int (0 : Int32)), (.ref b1), (.int (0 : Int32)), (.ref a2)])
  obtain ⟨_, _, ⟨cl35, Ar35, _, S35, Nn35, _, _⟩, _⟩ := id B_a2
  refine Go.step (X34.arraylength hx (by rw [e34]; exact Ar35.1) (State.isArrayOf_alike hZ.alike Ar35.2.1) (g := (mkF m 24 #[.val (.ref a1), .val (.ref a2), .val (.int (n + (2 : Int32)))] [(.ref a2), (.int (0 : Int32)), (.ref b1), (.int (0 : Int32)), (.ref a2)])) rfl rfl (hb hby own_f94)) ?_
  rw [len_of S35 Nn35]
  show Go p e below _ T34 (mkF m 25 #[.val (.ref a1), .val (.ref a2), .val (.int (n + (2 : Int32)))] [(.int n), (.int (0 : Int32)), (.ref b1), (.int (0 : Int32)), (.ref a2)])
  obtain ⟨T36, h36, L36, X36, e36, N36, K36, Bc36, st36⟩ := own_copy X34 hx hZ hown (hw _ (List.mem_of_getElem? (i := 30) rfl)) (hw _ (List.mem_of_getElem? (i := 33) rfl)) (hw _ (List.mem_of_getElem? (i := 31) rfl)) (hw _ (List.mem_of_getElem? (i := 32) rfl)) e34 B_a2 B_b1 (by decide) (by rw [show (0 : Int32).toInt = 0 by decide]; omega) hn.1 (by rw [show (0 : Int32).toInt = 0 by decide]; omega) (by rw [show (0 : Int32).toInt = 0 by decide]; omega) N32 g_b1 (g := (mkF m 25 #[.val (.ref a1), .val (.ref a2), .val (.int (n + (2 : Int32)))] [(.int n), (.int (0 : Int32)), (.ref b1), (.int (0 : Int32)), (.ref a2)])) rfl (by rw [hml]; rfl) rfl (hb hby own_f95) (by decide) (W := 0) (by show 2 * 0 + _ ≤ _; exact Nat.le_of_eq rfl) (by decide +kernel)
  replace Od := Od.keep K36 (allS g_b1 all0)
  replace B_a2 := B_a2.keep K36 (ninS ne_a2_b1 nin0)
  replace E_a1 := E_a1.keep K36
  replace F_start_a1 := F_start_a1.keep K36 (ninS ne_a1_b1 nin0)
  replace F_end_a1 := F_end_a1.keep K36 (ninS ne_a1_b1 nin0)
  replace F_lines_a1 := F_lines_a1.keep K36 (ninS ne_a1_b1 nin0)
  replace F_bytes_a1 := F_bytes_a1.keep K36 (ninS ne_a1_b1 nin0)
  replace B_b1 := Bc36
  replace K0 := K0.trans K36 (allS (Or.inr hloc) (all0))
  replace Zn := Nat.le_trans Zn K36.1
  refine Go.step st36 ?_
  show Go p e below _ T36 (mkF m 28 #[.val (.ref a1), .val (.ref a2), .val (.int (n + (2 : Int32)))] [])
  have S_LINE_END := S0.ext Od.2
  have B_aE := B0.ext Od.2
  obtain ⟨T37, X37, e37, st37⟩ := getS2 X36 hx hZ hown (host := "") (Or.inl (hw _ (List.mem_of_getElem? (i := 15) rfl))) Via.refl e36 S_LINE_END (g := (mkF m 28 #[.val (.ref a1), .val (.ref a2), .val (.int (n + (2 : Int32)))] [])) rfl (hb hby own_f96)
  refine Go.step st37 ?_
  show Go p e below _ T37 (mkF m 31 #[.val (.ref a1), .val (.ref a2), .val (.int (n + (2 : Int32)))] [(.ref aE)])
  refine Go.step (fun _ k => XS.iconst X37.here hx rfl (hb hby own_f97) k) ?_
  show Go p e below _ T37 (mkF m 32 #[.val (.ref a1), .val (.ref a2), .val (.int (n + (2 : Int32)))] [(.int (0 : Int32)), (.ref aE)])
  refine Go.step (fun _ k => XS.aloadN X37.here hx rfl (hb hby own_f98) rfl rfl k) ?_
  show Go p e below _ T37 (mkF m 33 #[.val (.ref a1), .val (.ref a2), .val (.int (n + (2 : Int32)))] [(.ref a1), (.int (0 : Int32)), (.ref aE)])
  obtain ⟨T38, X38, e38, st38⟩ := getF X37 hx hZ hown (host := "") (Or.inl (hw _ (List.mem_of_getElem? (i := 22) rfl))) Via.refl e37 F_bytes_a1 (g := (mkF m 33 #[.val (.ref a1), .val (.ref a2), .val (.int (n + (2 : Int32)))] [(.ref a1), (.int (0 : Int32)), (.ref aE)])) rfl rfl (hb hby own_f99)
  refine Go.step st38 ?_
  show Go p e below _ T38 (mkF m 36 #[.val (.ref a1), .val (.ref a2), .val (.int (n + (2 : Int32)))] [(.ref b1), (.int (0 : Int32)), (.ref aE)])
  refine Go.step (fun _ k => XS.aloadN X38.here hx rfl (hb hby own_f100) rfl rfl k) ?_
  show Go p e below _ T38 (mkF m 37 #[.val (.ref a1), .val (.ref a2), .val (.int (n + (2 : Int32)))] [(.ref a1), (.ref b1), (.int (0 : Int32)), (.ref aE)])
  obtain ⟨T39, X39, e39, st39⟩ := getF X38 hx hZ hown (host := "") (Or.inl (hw _ (List.mem_of_getElem? (i := 28) rfl))) Via.refl e38 F_end_a1 (g := (mkF m 37 #[.val (.ref a1), .val (.ref a2), .val (.int (n + (2 : Int32)))] [(.ref a1), (.ref b1), (.int (0 : Int32)), (.ref aE)])) rfl rfl (hb hby own_f101)
  refine Go.step st39 ?_
  show Go p e below _ T39 (mkF m 40 #[.val (.ref a1), .val (.ref a2), .val (.int (n + (2 : Int32)))] [(.int (0 : Int32)), (.ref b1), (.int (0 : Int32)), (.ref aE)])
  refine Go.step (fun _ k => XS.aloadN X39.here hx rfl (hb hby own_f102) rfl rfl k) ?_
  show Go p e below _ T39 (mkF m 41 #[.val (.ref a1), .val (.ref a2), .val (.int (n + (2 : Int32)))] [(.ref a2), (.int (0 : Int32)), (.ref b1), (.int (0 : Int32)), (.ref aE)])
  obtain ⟨_, _, ⟨cl40, Ar40, _, S40, Nn40, _, _⟩, _⟩ := id B_a2
  refine Go.step (X39.arraylength hx (by rw [e39]; exact Ar40.1) (State.isArrayOf_alike hZ.alike Ar40.2.1) (g := (mkF m 41 #[.val (.ref a1), .val (.ref a2), .val (.int (n + (2 : Int32)))] [(.ref a2), (.int (0 : Int32)), (.ref b1), (.int (0 : Int32)), (.ref aE)])) rfl rfl (hb hby own_f103)) ?_
  rw [len_of S40 Nn40]
  show Go p e below _ T39 (mkF m 42 #[.val (.ref a1), .val (.ref a2), .val (.int (n + (2 : Int32)))] [(.int n), (.int (0 : Int32)), (.ref b1), (.int (0 : Int32)), (.ref aE)])
  refine Go.step (fun _ k => XS.iadd X39.here hx rfl (hb hby own_f104) rfl k) ?_
  show Go p e below _ T39 (mkF m 43 #[.val (.ref a1), .val (.ref a2), .val (.int (n + (2 : Int32)))] [(.int ((0 : Int32) + n)), (.ref b1), (.int (0 : Int32)), (.ref aE)])
  have S_LINE_END := S0.ext Od.2
  have B_aE := B0.ext Od.2
  obtain ⟨T41, X41, e41, st41⟩ := getS2 X39 hx hZ hown (host := "") (Or.inl (hw _ (List.mem_of_getElem? (i := 15) rfl))) Via.refl e39 S_LINE_END (g := (mkF m 43 #[.val (.ref a1), .val (.ref a2), .val (.int (n + (2 : Int32)))] [(.int ((0 : Int32) + n)), (.ref b1), (.int (0 : Int32)), (.ref aE)])) rfl (hb hby own_f105)
  refine Go.step st41 ?_
  show Go p e below _ T41 (mkF m 46 #[.val (.ref a1), .val (.ref a2), .val (.int (n + (2 : Int32)))] [(.ref aE), (.int ((0 : Int32) + n)), (.ref b1), (.int (0 : Int32)), (.ref aE)])
  obtain ⟨_, _, ⟨cl42, Ar42, _, S42, Nn42, _, _⟩, _⟩ := id B_aE
  refine Go.step (X41.arraylength hx (by rw [e41]; exact Ar42.1) (State.isArrayOf_alike hZ.alike Ar42.2.1) (g := (mkF m 46 #[.val (.ref a1), .val (.ref a2), .val (.int (n + (2 : Int32)))] [(.ref aE), (.int ((0 : Int32) + n)), (.ref b1), (.int (0 : Int32)), (.ref aE)])) rfl rfl (hb hby own_f106)) ?_
  rw [len_of S42 Nn42]
  show Go p e below _ T41 (mkF m 47 #[.val (.ref a1), .val (.ref a2), .val (.int (n + (2 : Int32)))] [(.int (2 : Int32)), (.int ((0 : Int32) + n)), (.ref b1), (.int (0 : Int32)), (.ref aE)])
  have S_LINE_END := S0.ext Od.2
  have B_aE := B0.ext Od.2
  rw [show (0 : Int32).toInt = 0 by decide] at hpn
  obtain ⟨T43, h43, L43, X43, e43, N43, K43, Bc43, st43⟩ := own_copy X41 hx hZ hown (hw _ (List.mem_of_getElem? (i := 30) rfl)) (hw _ (List.mem_of_getElem? (i := 33) rfl)) (hw _ (List.mem_of_getElem? (i := 31) rfl)) (hw _ (List.mem_of_getElem? (i := 32) rfl)) e41 B_aE B_b1 (by decide) (by rw [hpn]; omega) (by decide) (by decide) (by rw [hpn, show (2 : Int32).toInt = 2 by decide]; omega) N36 g_b1 (g := (mkF m 47 #[.val (.ref a1), .val (.ref a2), .val (.int (n + (2 : Int32)))] [(.int (2 : Int32)), (.int ((0 : Int32) + n)), (.ref b1), (.int (0 : Int32)), (.ref aE)])) rfl (by rw [hml]; rfl) rfl (hb hby own_f107) (by decide) (W := 0) (by show 2 * 0 + _ ≤ _; exact Nat.le_of_eq rfl) (by decide +kernel)
  replace Od := Od.keep K43 (allS g_b1 all0)
  replace B_a2 := B_a2.keep K43 (ninS ne_a2_b1 nin0)
  replace E_a1 := E_a1.keep K43
  replace F_start_a1 := F_start_a1.keep K43 (ninS ne_a1_b1 nin0)
  replace F_end_a1 := F_end_a1.keep K43 (ninS ne_a1_b1 nin0)
  replace F_lines_a1 := F_lines_a1.keep K43 (ninS ne_a1_b1 nin0)
  replace F_bytes_a1 := F_bytes_a1.keep K43 (ninS ne_a1_b1 nin0)
  replace B_b1 := Bc43
  replace K0 := K0.trans K43 (allS (Or.inr hloc) (all0))
  replace Zn := Nat.le_trans Zn K43.1
  refine Go.step st43 ?_
  show Go p e below _ T43 (mkF m 50 #[.val (.ref a1), .val (.ref a2), .val (.int (n + (2 : Int32)))] [])
  refine Go.step (fun _ k => XS.aloadN X43.here hx rfl (hb hby own_f108) rfl rfl k) ?_
  show Go p e below _ T43 (mkF m 51 #[.val (.ref a1), .val (.ref a2), .val (.int (n + (2 : Int32)))] [(.ref a1)])
  refine Go.step (fun _ k => XS.dup X43.here hx rfl (hb hby own_f109) rfl rfl k) ?_
  show Go p e below _ T43 (mkF m 52 #[.val (.ref a1), .val (.ref a2), .val (.int (n + (2 : Int32)))] [(.ref a1), (.ref a1)])
  obtain ⟨T44, X44, e44, st44⟩ := getF X43 hx hZ hown (host := "") (Or.inl (hw _ (List.mem_of_getElem? (i := 28) rfl))) Via.refl e43 F_end_a1 (g := (mkF m 52 #[.val (.ref a1), .val (.ref a2), .val (.int (n + (2 : Int32)))] [(.ref a1), (.ref a1)])) rfl rfl (hb hby own_f110)
  refine Go.step st44 ?_
  show Go p e below _ T44 (mkF m 55 #[.val (.ref a1), .val (.ref a2), .val (.int (n + (2 : Int32)))] [(.int (0 : Int32)), (.ref a1)])
  refine Go.step (fun _ k => XS.iloadN X44.here hx rfl (hb hby own_f111) rfl k) ?_
  show Go p e below _ T44 (mkF m 56 #[.val (.ref a1), .val (.ref a2), .val (.int (n + (2 : Int32)))] [(.int (n + (2 : Int32))), (.int (0 : Int32)), (.ref a1)])
  refine Go.step (fun _ k => XS.iadd X44.here hx rfl (hb hby own_f112) rfl k) ?_
  show Go p e below _ T44 (mkF m 57 #[.val (.ref a1), .val (.ref a2), .val (.int (n + (2 : Int32)))] [(.int ((0 : Int32) + (n + (2 : Int32)))), (.ref a1)])
  obtain ⟨T45, h45, X45, e45, W45, st45⟩ := putF X44 hx hZ hown (host := "") (Or.inl (hw _ (List.mem_of_getElem? (i := 28) rfl))) Via.refl e44 F_end_a1 E_a1 (Or.inl (hw _ (List.mem_of_getElem? (i := 29) rfl))) (hw _ (List.mem_of_getElem? (i := 1) rfl)) (ty := .int) (by decide) rfl rfl (g := (mkF m 57 #[.val (.ref a1), .val (.ref a2), .val (.int (n + (2 : Int32)))] [(.int ((0 : Int32) + (n + (2 : Int32)))), (.ref a1)])) rfl rfl (hb hby own_f113)
  have Fw45 := F_end_a1.same W45
  replace Od := Od.wr W45 g_a1
  replace B_a2 := B_a2.other W45 ne_a2_a1
  replace E_a1 := E_a1.wr W45
  replace F_start_a1 := F_start_a1.other W45 (Or.inr (slot_ne (Or.inl (hw _ (List.mem_of_getElem? (i := 42) rfl))) (Or.inl (hw _ (List.mem_of_getElem? (i := 29) rfl))) (by decide) (t := .int) (t' := .int) (by decide) (by decide)))
  replace F_lines_a1 := F_lines_a1.other W45 (Or.inr (slot_ne (Or.inl (hw _ (List.mem_of_getElem? (i := 35) rfl))) (Or.inl (hw _ (List.mem_of_getElem? (i := 29) rfl))) (by decide) (t := .int) (t' := .int) (by decide) (by decide)))
  replace F_bytes_a1 := F_bytes_a1.other W45 (Or.inr (slot_ne (Or.inl (hw _ (List.mem_of_getElem? (i := 23) rfl))) (Or.inl (hw _ (List.mem_of_getElem? (i := 29) rfl))) (by decide) (t := (.array .byte)) (t' := .int) (by decide) (by decide)))
  replace B_b1 := B_b1.other W45 (Ne.symm ne_a1_b1)
  replace F_end_a1 := Fw45
  replace K0 := K0.wr W45 (Or.inl (List.mem_of_getElem? (i := 0) rfl))
  replace Zn := Nat.le_trans Zn (Nat.le_of_eq W45.size.symm)
  have N45 := Fr.snoc X45 N43 g_a1
  refine Go.step st45 ?_
  show Go p e below _ T45 (mkF m 60 #[.val (.ref a1), .val (.ref a2), .val (.int (n + (2 : Int32)))] [])
  refine Go.step (fun _ k => XS.aloadN X45.here hx rfl (hb hby own_f114) rfl rfl k) ?_
  show Go p e below _ T45 (mkF m 61 #[.val (.ref a1), .val (.ref a2), .val (.int (n + (2 : Int32)))] [(.ref a1)])
  refine Go.step (fun _ k => XS.dup X45.here hx rfl (hb hby own_f115) rfl rfl k) ?_
  show Go p e below _ T45 (mkF m 62 #[.val (.ref a1), .val (.ref a2), .val (.int (n + (2 : Int32)))] [(.ref a1), (.ref a1)])
  obtain ⟨T46, X46, e46, st46⟩ := getF X45 hx hZ hown (host := "") (Or.inl (hw _ (List.mem_of_getElem? (i := 34) rfl))) Via.refl e45 F_lines_a1 (g := (mkF m 62 #[.val (.ref a1), .val (.ref a2), .val (.int (n + (2 : Int32)))] [(.ref a1), (.ref a1)])) rfl rfl (hb hby own_f116)
  refine Go.step st46 ?_
  show Go p e below _ T46 (mkF m 65 #[.val (.ref a1), .val (.ref a2), .val (.int (n + (2 : Int32)))] [(.int pl), (.ref a1)])
  refine Go.step (fun _ k => XS.iconst X46.here hx rfl (hb hby own_f117) k) ?_
  show Go p e below _ T46 (mkF m 66 #[.val (.ref a1), .val (.ref a2), .val (.int (n + (2 : Int32)))] [(.int (1 : Int32)), (.int pl), (.ref a1)])
  refine Go.step (fun _ k => XS.iadd X46.here hx rfl (hb hby own_f118) rfl k) ?_
  show Go p e below _ T46 (mkF m 67 #[.val (.ref a1), .val (.ref a2), .val (.int (n + (2 : Int32)))] [(.int (pl + (1 : Int32))), (.ref a1)])
  obtain ⟨T47, h47, X47, e47, W47, st47⟩ := putF X46 hx hZ hown (host := "") (Or.inl (hw _ (List.mem_of_getElem? (i := 34) rfl))) Via.refl e46 F_lines_a1 E_a1 (Or.inl (hw _ (List.mem_of_getElem? (i := 35) rfl))) (hw _ (List.mem_of_getElem? (i := 1) rfl)) (ty := .int) (by decide) rfl rfl (g := (mkF m 67 #[.val (.ref a1), .val (.ref a2), .val (.int (n + (2 : Int32)))] [(.int (pl + (1 : Int32))), (.ref a1)])) rfl rfl (hb hby own_f119)
  have Fw47 := F_lines_a1.same W47
  replace Od := Od.wr W47 g_a1
  replace B_a2 := B_a2.other W47 ne_a2_a1
  replace E_a1 := E_a1.wr W47
  replace F_start_a1 := F_start_a1.other W47 (Or.inr (slot_ne (Or.inl (hw _ (List.mem_of_getElem? (i := 42) rfl))) (Or.inl (hw _ (List.mem_of_getElem? (i := 35) rfl))) (by decide) (t := .int) (t' := .int) (by decide) (by decide)))
  replace F_bytes_a1 := F_bytes_a1.other W47 (Or.inr (slot_ne (Or.inl (hw _ (List.mem_of_getElem? (i := 23) rfl))) (Or.inl (hw _ (List.mem_of_getElem? (i := 35) rfl))) (by decide) (t := (.array .byte)) (t' := .int) (by decide) (by decide)))
  replace B_b1 := B_b1.other W47 (Ne.symm ne_a1_b1)
  replace F_end_a1 := F_end_a1.other W47 (Or.inr (slot_ne (Or.inl (hw _ (List.mem_of_getElem? (i := 29) rfl))) (Or.inl (hw _ (List.mem_of_getElem? (i := 35) rfl))) (by decide) (t := .int) (t' := .int) (by decide) (by decide)))
  replace F_lines_a1 := Fw47
  replace K0 := K0.wr W47 (Or.inl (List.mem_of_getElem? (i := 0) rfl))
  replace Zn := Nat.le_trans Zn (Nat.le_of_eq W47.size.symm)
  have N47 := Fr.snoc X47 N45 g_a1
  refine Go.step st47 ?_
  show Go p e below _ T47 (mkF m 70 #[.val (.ref a1), .val (.ref a2), .val (.int (n + (2 : Int32)))] [])
  have hend : ((0 : Int32) + (n + (2 : Int32))).toInt = n.toInt + 2 := by rw [Jvm.Kit.i32_add (by rw [hl2]; rw [show (0 : Int32).toInt = 0 by decide]; omega) (by rw [hl2]; rw [show (0 : Int32).toInt = 0 by decide]; omega), hl2]; rw [show (0 : Int32).toInt = 0 by decide]; omega
  obtain ⟨fs, hr, hrun, hended, hW, hsame⟩ := X47.leave (v := none) (fun _ => rfl)
  refine Go.fin (X47.returnOut hx Bd.returns (hb hby own_f120) hr) hrun hended ?_
  refine ⟨_, _, rfl, ?_, ⟨_, rfl⟩, hW, hsame.mono (by decide) (by decide)⟩
  show QW1 Z a1 a2 pl P aE n h0 n0 _ T47.heap _
  rw [e47]
  exact ⟨b1, z1, rfl, N47, K0, ⟨E_a1, F_start_a1, F_end_a1, F_lines_a1, F_bytes_a1, B_b1, g_b1, np_b1, by rw [hend]; omega, by rw [hend]; omega, hzM⟩, hloc⟩
theorem own_ef_W2 (m : MethodId) (a1 : Addr) (a2 : Addr) : entryFrame m #[(.ref a1), (.ref a2)] 3 = mkF m 0 #[.val (.ref a1), .val (.ref a2), .unset] [] := by first | (simp [entryFrame, mkF, argsToLocals, Value.category]; done) | rfl
def QW2 (Z : State) (a1 : Addr) (a2 : Addr) (pe pl : Int32) (P : List Addr) (b : Addr) (z : Int32) (M : Int) (aE : Addr) (n : Int32) (h0 : Heap) (n0 : Nat) (v : Option Value) (h : Heap) (L : List Loc) : Prop := ∃ (b' : Addr) (z' : Int32), v = none ∧ Fr n0 L ∧ Keep h0 h [a1, b] ∧ own_Rf Z h n0 P a1 (pe + (n + (2 : Int32))) (pl + (1 : Int32)) b' z' (M + 4097) ∧ (b' = b ∨ h0.size ≤ b')
set_option maxRecDepth 65536 in
set_option maxHeartbeats 40000000 in
theorem rmW2 (l : Launch) (Z : State) (a0 : Array Value) (hw : ∀ d ∈ tables_1, d.before a0 Z = true) (ws : List Jvm.Cond) (a1 : Addr) (a2 : Addr) (pe pl : Int32) (P : List Addr) (b : Addr) (z : Int32) (M : Int) (aE : Addr) (n : Int32) (h0 : Heap) (n0 : Nat) (Z0 : n0 ≤ h0.size) (hR : own_Rf Z h0 n0 P a1 pe pl b z M) (hM : 0 ≤ M ∧ M ≤ 4097) (S0 : Sta Z Z.heap "com/example/frugal_sieve/frugalsieve/server/Lines" "LINE_END" "[B" (.ref aE)) (B0 : own_By Z Z.heap aE (2 : Int32)) (Od : Old Z n0 h0) (g_a1 : n0 ≤ a1) (B_a2 : own_By Z h0 a2 n) (hn : 0 ≤ n.toInt ∧ n.toInt ≤ 4095) (hPl : ∀ x ∈ P, x < h0.size) (hin : a2 ∈ P) :
    MetFree l (⟨"com/example/frugal_sieve/frugalsieve/server/Outbox", "write", "([B)V"⟩ : MethodName) (head1 (Jvm.Cond.code (⟨"com/example/frugal_sieve/frugalsieve/server/Outbox", "write", "([B)V"⟩ : MethodName) prog_56_method_2_code 3 none :: ws) ({ frames := 2, cells := 1, slots := 8194, locals := 60 } : Room)) (fun a U => a = #[(.ref a1), (.ref a2)] ∧ Z.Warmed39 U.vm ∧ U.heap = h0) (fun _ _ _ _ _ => True) (fun _ U o U' => ∃ v L, o = .returned v ∧ QW2 Z a1 a2 pe pl P b z M aE n h0 n0 v U'.heap L ∧ FrameEnd U o U' L ({ frames := 2, cells := 1, slots := 8194, locals := 60 } : Room).cells ({ frames := 2, cells := 1, slots := 8194, locals := 60 } : Room).slots) := by
  refine MetFree.of_bodySF (plainFor_of_name own_f10) hisR ?_
  intro p e s m args below meth c s₁ Bd hml0 hP hK
  obtain ⟨rfl, hZ, hh⟩ := hP
  have hx := Bd.exec
  have hby := Bd.bytes
  have hml : c.maxLocals = 3 := hml0
  have hown : s.vm.findClass "com/example/frugal_sieve/frugalsieve/server/Outbox" = some m.cls := findClass_of_methodNamed Bd.named
  have hnm := (name_of_methodNamed Bd.named Bd.method).1
  have X0 : Stand p l e ({ frames := 2, cells := 1, slots := 8194, locals := 60 } : Room) s m #[(.ref a1), (.ref a2)] below meth c s₁ [] 0 0 := Stand.of_body Bd
  have e0 : s₁.heap = h0 := by rw [← hh, Bd.state]; rfl
  have N0 := Fr.nil n0
  refine Go.start (own_ef_W2 m a1 a2) ?_
  show Go p e below _ s₁ (mkF m 0 #[.val (.ref a1), .val (.ref a2), .unset] [])
  have Zn := Z0
  have K0 : Keep h0 h0 [a1, b] := Keep.refl h0 _
  have hl2 : (n + (2 : Int32)).toInt = n.toInt + 2 := by rw [Jvm.Kit.i32_add (by rw [show (2 : Int32).toInt = 2 by decide]; omega) (by rw [show (2 : Int32).toInt = 2 by decide]; omega), show (2 : Int32).toInt = 2 by decide]
  have ne_a2_a1 : a2 ≠ a1 := (own_By.ne hR.1 (hw _ (List.mem_of_getElem? (i := 1) rfl)) B_a2).symm
  have ne_a2_b : a2 ≠ b := fun q => hR.2.2.2.2.2.2.2.1 (q ▸ hin)
  have g_b := hR.2.2.2.2.2.2.1
  refine Go.step (fun _ k => XS.aloadN X0.here hx rfl (hb hby own_f77) rfl rfl k) ?_
  show Go p e below _ s₁ (mkF m 1 #[.val (.ref a1), .val (.ref a2), .unset] [(.ref a2)])
  obtain ⟨_, _, ⟨cl48, Ar48, _, S48, Nn48, _, _⟩, _⟩ := id B_a2
  refine Go.step (X0.arraylength hx (by rw [e0]; exact Ar48.1) (State.isArrayOf_alike hZ.alike Ar48.2.1) (g := (mkF m 1 #[.val (.ref a1), .val (.ref a2), .unset] [(.ref a2)])) rfl rfl (hb hby own_f78)) ?_
  rw [len_of S48 Nn48]
  show Go p e below _ s₁ (mkF m 2 #[.val (.ref a1), .val (.ref a2), .unset] [(.int n)])
  have S_LINE_END := S0.ext Od.2
  have B_aE := B0.ext Od.2
  obtain ⟨T49, X49, e49, st49⟩ := getS2 X0 hx hZ hown (host := "") (Or.inl (hw _ (List.mem_of_getElem? (i := 15) rfl))) Via.refl e0 S_LINE_END (g := (mkF m 2 #[.val (.ref a1), .val (.ref a2), .unset] [(.int n)])) rfl (hb hby own_f79)
  refine Go.step st49 ?_
  show Go p e below _ T49 (mkF m 5 #[.val (.ref a1), .val (.ref a2), .unset] [(.ref aE), (.int n)])
  obtain ⟨_, _, ⟨cl50, Ar50, _, S50, Nn50, _, _⟩, _⟩ := id B_aE
  refine Go.step (X49.arraylength hx (by rw [e49]; exact Ar50.1) (State.isArrayOf_alike hZ.alike Ar50.2.1) (g := (mkF m 5 #[.val (.ref a1), .val (.ref a2), .unset] [(.ref aE), (.int n)])) rfl rfl (hb hby own_f80)) ?_
  rw [len_of S50 Nn50]
  show Go p e below _ T49 (mkF m 6 #[.val (.ref a1), .val (.ref a2), .unset] [(.int (2 : Int32)), (.int n)])
  refine Go.step (fun _ k => XS.iadd X49.here hx rfl (hb hby own_f81) rfl k) ?_
  show Go p e below _ T49 (mkF m 7 #[.val (.ref a1), .val (.ref a2), .unset] [(.int (n + (2 : Int32)))])
  refine Go.step (fun _ k => XS.istoreN X49.here hx rfl (hb hby own_f82) rfl (l' := #[.val (.ref a1), .val (.ref a2), .val (.int (n + (2 : Int32)))]) rfl k) ?_
  show Go p e below _ T49 (mkF m 8 #[.val (.ref a1), .val (.ref a2), .val (.int (n + (2 : Int32)))] [])
  refine Go.step (fun _ k => XS.aloadN X49.here hx rfl (hb hby own_f83) rfl rfl k) ?_
  show Go p e below _ T49 (mkF m 9 #[.val (.ref a1), .val (.ref a2), .val (.int (n + (2 : Int32)))] [(.ref a1)])
  refine Go.step (fun _ k => XS.iloadN X49.here hx rfl (hb hby own_f84) rfl k) ?_
  show Go p e below _ T49 (mkF m 10 #[.val (.ref a1), .val (.ref a2), .val (.int (n + (2 : Int32)))] [(.int (n + (2 : Int32))), (.ref a1)])
  have E_a1 := hR.1
  obtain ⟨cq52, q52, q52'⟩ := E_a1.cell
  obtain ⟨_, _, ⟨T52, L52, k52, n52⟩, -, X52, ⟨Lc52, hQ52, l52, y52, z52⟩, st52⟩ := X49.privateBack hx (y := (⟨"com/example/frugal_sieve/frugalsieve/server/Outbox", "makeRoom", "(I)V"⟩ : MethodName)) hown (mvT hZ (hw _ (List.mem_of_getElem? (i := 18) rfl))) (mvT hZ (hw _ (List.mem_of_getElem? (i := 19) rfl))) (Jvm.Kit.selects_private (by decide) (mvT hZ (hw _ (List.mem_of_getElem? (i := 1) rfl))) (mvP hZ (hw _ (List.mem_of_getElem? (i := 20) rfl))) (mvT hZ (hw _ (List.mem_of_getElem? (i := 19) rfl)))) (Cond.privateMethod_at (mvP hZ (hw _ (List.mem_of_getElem? (i := 20) rfl)) (args := #[]))) (mvT hZ (hw _ (List.mem_of_getElem? (i := 21) rfl))) (by decide) (backOf (W := 0) (rmM2 l Z a0 hw [] a1 (n + (2 : Int32)) pe pl P b z M h0 n0 Zn hR g_a1 (by rw [hl2]; omega) hPl hM) hZ (hw _ (List.mem_of_getElem? (i := 21) rfl)) (hw _ (List.mem_of_getElem? (i := 2) rfl)) (by decide) (by decide)) (g := (mkF m 10 #[.val (.ref a1), .val (.ref a2), .val (.int (n + (2 : Int32)))] [(.int (n + (2 : Int32))), (.ref a1)])) rfl (by rw [hml]; rfl) (Steps.refl _) (a := a1) (by rw [e49]; exact q52) q52' (argsL := [(.int (n + (2 : Int32)))]) (rest := []) (lenOf own_f85 rfl) rfl (by show 2 * 0 + _ ≤ _; exact Nat.le_of_eq rfl) (hb hby own_f86) (fun _ _ => ⟨rfl, e49, (by dsimp only [Pt.cells, Pt.slots]; decide), (by dsimp only [Pt.cells, Pt.slots]; decide)⟩)
  dsimp only [Pt.U, Pt.locs, Pt.cells, Pt.slots] at X52 l52 y52 z52 st52 hQ52
  subst l52 y52 z52
  obtain ⟨b1, z1, rfl, N52q, K52, hRf, hz1, hloc⟩ := hQ52
  have N52 := Fr.app N0 N52q
  refine Go.step (fun _ k => st52.trans k) ?_
  replace Od := Od.keep K52 (allS g_a1 (allS g_b all0))
  replace B_a2 := B_a2.keep K52 (ninS ne_a2_a1 (ninS ne_a2_b nin0))
  replace K0 := K0.trans K52 (allS (Or.inl (List.mem_of_getElem? (i := 0) rfl)) (allS (Or.inl (List.mem_of_getElem? (i := 1) rfl)) (all0)))
  replace Zn := Nat.le_trans Zn K52.1
  show Go p e below _ T52 (mkF m 13 #[.val (.ref a1), .val (.ref a2), .val (.int (n + (2 : Int32)))] [])
  rw [hl2] at hz1
  obtain ⟨E_a1, F_start_a1, F_end_a1, F_lines_a1, F_bytes_a1, B_b1, g_b1, np_b1, hpe0, hpz, hzM⟩ := hRf
  have ne_a1_b1 : a1 ≠ b1 := own_By.ne E_a1 (hw _ (List.mem_of_getElem? (i := 1) rfl)) B_b1
  have ne_a2_b1 : a2 ≠ b1 := fun q => np_b1 (q ▸ hin)
  have hpn : (pe + n).toInt = pe.toInt + n.toInt := Jvm.Kit.i32_add (by omega) (by omega)
  refine Go.step (fun _ k => XS.aloadN X52.here hx rfl (hb hby own_f87) rfl rfl k) ?_
  show Go p e below _ T52 (mkF m 14 #[.val (.ref a1), .val (.ref a2), .val (.int (n + (2 : Int32)))] [(.ref a2)])
  refine Go.step (fun _ k => XS.iconst X52.here hx rfl (hb hby own_f88) k) ?_
  show Go p e below _ T52 (mkF m 15 #[.val (.ref a1), .val (.ref a2), .val (.int (n + (2 : Int32)))] [(.int (0 : Int32)), (.ref a2)])
  refine Go.step (fun _ k => XS.aloadN X52.here hx rfl (hb hby own_f89) rfl rfl k) ?_
  show Go p e below _ T52 (mkF m 16 #[.val (.ref a1), .val (.ref a2), .val (.int (n + (2 : Int32)))] [(.ref a1), (.int (0 : Int32)), (.ref a2)])
  obtain ⟨T53, X53, e53, st53⟩ := getF X52 hx hZ hown (host := "") (Or.inl (hw _ (List.mem_of_getElem? (i := 22) rfl))) Via.refl rfl F_bytes_a1 (g := (mkF m 16 #[.val (.ref a1), .val (.ref a2), .val (.int (n + (2 : Int32)))] [(.ref a1), (.int (0 : Int32)), (.ref a2)])) rfl rfl (hb hby own_f90)
  refine Go.step st53 ?_
  show Go p e below _ T53 (mkF m 19 #[.val (.ref a1), .val (.ref a2), .val (.int (n + (2 : Int32)))] [(.ref b1), (.int (0 : Int32)), (.ref a2)])
  refine Go.step (fun _ k => XS.aloadN X53.here hx rfl (hb hby own_f91) rfl rfl k) ?_
  show Go p e below _ T53 (mkF m 20 #[.val (.ref a1), .val (.ref a2), .val (.int (n + (2 : Int32)))] [(.ref a1), (.ref b1), (.int (0 : Int32)), (.ref a2)])
  obtain ⟨T54, X54, e54, st54⟩ := getF X53 hx hZ hown (host := "") (Or.inl (hw _ (List.mem_of_getElem? (i := 28) rfl))) Via.refl e53 F_end_a1 (g := (mkF m 20 #[.val (.ref a1), .val (.ref a2), .val (.int (n + (2 : Int32)))] [(.ref a1), (.ref b1), (.int (0 : Int32)), (.ref a2)])) rfl rfl (hb hby own_f92)
  refine Go.step st54 ?_
  show Go p e below _ T54 (mkF m 23 #[.val (.ref a1), .val (.ref a2), .val (.int (n + (2 : Int32)))] [(.int pe), (.ref b1), (.int (0 : Int32)), (.ref a2)])
  refine Go.step (fun _ k => XS.aloadN X54.here hx rfl (hb hby own_f93) rfl rfl k) ?_
  show Go p e below _ T54 (mkF m 24 #[.val (.ref a1), .val (.ref a2), .val (.int (n + (2 : Int32)))] [(.ref a2), (.int pe), (.ref b1), (.int (0 : Int32)), (.ref a2)])
  obtain ⟨_, _, ⟨cl55, Ar55, _, S55, Nn55, _, _⟩, _⟩ := id B_a2
  refine Go.step (X54.arraylength hx (by rw [e54]; exact Ar55.1) (State.isArrayOf_alike hZ.alike Ar55.2.1) (g := (mkF m 24 #[.val (.ref a1), .val (.ref a2), .val (.int (n + (2 : Int32)))] [(.ref a2), (.int pe), (.ref b1), (.int (0 : Int32)), (.ref a2)])) rfl rfl (hb hby own_f94)) ?_
  rw [len_of S55 Nn55]
  show Go p e below _ T54 (mkF m 25 #[.val (.ref a1), .val (.ref a2), .val (.int (n + (2 : Int32)))] [(.int n), (.int pe), (.ref b1), (.int (0 : Int32)), (.ref a2)])
  obtain ⟨T56, h56, L56, X56, e56, N56, K56, Bc56, st56⟩ := own_copy X54 hx hZ hown (hw _ (List.mem_of_getElem? (i := 30) rfl)) (hw _ (List.mem_of_getElem? (i := 33) rfl)) (hw _ (List.mem_of_getElem? (i := 31) rfl)) (hw _ (List.mem_of_getElem? (i := 32) rfl)) e54 B_a2 B_b1 (by decide) hpe0 hn.1 (by rw [show (0 : Int32).toInt = 0 by decide]; omega) (by omega) N52 g_b1 (g := (mkF m 25 #[.val (.ref a1), .val (.ref a2), .val (.int (n + (2 : Int32)))] [(.int n), (.int pe), (.ref b1), (.int (0 : Int32)), (.ref a2)])) rfl (by rw [hml]; rfl) rfl (hb hby own_f95) (by decide) (W := 0) (by show 2 * 0 + _ ≤ _; exact Nat.le_of_eq rfl) (by decide +kernel)
  replace Od := Od.keep K56 (allS g_b1 all0)
  replace B_a2 := B_a2.keep K56 (ninS ne_a2_b1 nin0)
  replace E_a1 := E_a1.keep K56
  replace F_start_a1 := F_start_a1.keep K56 (ninS ne_a1_b1 nin0)
  replace F_end_a1 := F_end_a1.keep K56 (ninS ne_a1_b1 nin0)
  replace F_lines_a1 := F_lines_a1.keep K56 (ninS ne_a1_b1 nin0)
  replace F_bytes_a1 := F_bytes_a1.keep K56 (ninS ne_a1_b1 nin0)
  replace B_b1 := Bc56
  replace K0 := K0.trans K56 (allS (hloc.imp (fun q => by rw [q]; exact List.mem_cons_of_mem _ (List.mem_cons_self ..)) id) (all0))
  replace Zn := Nat.le_trans Zn K56.1
  refine Go.step st56 ?_
  show Go p e below _ T56 (mkF m 28 #[.val (.ref a1), .val (.ref a2), .val (.int (n + (2 : Int32)))] [])
  have S_LINE_END := S0.ext Od.2
  have B_aE := B0.ext Od.2
  obtain ⟨T57, X57, e57, st57⟩ := getS2 X56 hx hZ hown (host := "") (Or.inl (hw _ (List.mem_of_getElem? (i := 15) rfl))) Via.refl e56 S_LINE_END (g := (mkF m 28 #[.val (.ref a1), .val (.ref a2), .val (.int (n + (2 : Int32)))] [])) rfl (hb hby own_f96)
  refine Go.step st57 ?_
  show Go p e below _ T57 (mkF m 31 #[.val (.ref a1), .val (.ref a2), .val (.int (n + (2 : Int32)))] [(.ref aE)])
  refine Go.step (fun _ k => XS.iconst X57.here hx rfl (hb hby own_f97) k) ?_
  show Go p e below _ T57 (mkF m 32 #[.val (.ref a1), .val (.ref a2), .val (.int (n + (2 : Int32)))] [(.int (0 : Int32)), (.ref aE)])
  refine Go.step (fun _ k => XS.aloadN X57.here hx rfl (hb hby own_f98) rfl rfl k) ?_
  show Go p e below _ T57 (mkF m 33 #[.val (.ref a1), .val (.ref a2), .val (.int (n + (2 : Int32)))] [(.ref a1), (.int (0 : Int32)), (.ref aE)])
  obtain ⟨T58, X58, e58, st58⟩ := getF X57 hx hZ hown (host := "") (Or.inl (hw _ (List.mem_of_getElem? (i := 22) rfl))) Via.refl e57 F_bytes_a1 (g := (mkF m 33 #[.val (.ref a1), .val (.ref a2), .val (.int (n + (2 : Int32)))] [(.ref a1), (.int (0 : Int32)), (.ref aE)])) rfl rfl (hb hby own_f99)
  refine Go.step st58 ?_
  show Go p e below _ T58 (mkF m 36 #[.val (.ref a1), .val (.ref a2), .val (.int (n + (2 : Int32)))] [(.ref b1), (.int (0 : Int32)), (.ref aE)])
  refine Go.step (fun _ k => XS.aloadN X58.here hx rfl (hb hby own_f100) rfl rfl k) ?_
  show Go p e below _ T58 (mkF m 37 #[.val (.ref a1), .val (.ref a2), .val (.int (n + (2 : Int32)))] [(.ref a1), (.ref b1), (.int (0 : Int32)), (.ref aE)])
  obtain ⟨T59, X59, e59, st59⟩ := getF X58 hx hZ hown (host := "") (Or.inl (hw _ (List.mem_of_getElem? (i := 28) rfl))) Via.refl e58 F_end_a1 (g := (mkF m 37 #[.val (.ref a1), .val (.ref a2), .val (.int (n + (2 : Int32)))] [(.ref a1), (.ref b1), (.int (0 : Int32)), (.ref aE)])) rfl rfl (hb hby own_f101)
  refine Go.step st59 ?_
  show Go p e below _ T59 (mkF m 40 #[.val (.ref a1), .val (.ref a2), .val (.int (n + (2 : Int32)))] [(.int pe), (.ref b1), (.int (0 : Int32)), (.ref aE)])
  refine Go.step (fun _ k => XS.aloadN X59.here hx rfl (hb hby own_f102) rfl rfl k) ?_
  show Go p e below _ T59 (mkF m 41 #[.val (.ref a1), .val (.ref a2), .val (.int (n + (2 : Int32)))] [(.ref a2), (.int pe), (.ref b1), (.int (0 : Int32)), (.ref aE)])
  obtain ⟨_, _, ⟨cl60, Ar60, _, S60, Nn60, _, _⟩, _⟩ := id B_a2
  refine Go.step (X59.arraylength hx (by rw [e59]; exact Ar60.1) (State.isArrayOf_alike hZ.alike Ar60.2.1) (g := (mkF m 41 #[.val (.ref a1), .val (.ref a2), .val (.int (n + (2 : Int32)))] [(.ref a2), (.int pe), (.ref b1), (.int (0 : Int32)), (.ref aE)])) rfl rfl (hb hby own_f103)) ?_
  rw [len_of S60 Nn60]
  show Go p e below _ T59 (mkF m 42 #[.val (.ref a1), .val (.ref a2), .val (.int (n + (2 : Int32)))] [(.int n), (.int pe), (.ref b1), (.int (0 : Int32)), (.ref aE)])
  refine Go.step (fun _ k => XS.iadd X59.here hx rfl (hb hby own_f104) rfl k) ?_
  show Go p e below _ T59 (mkF m 43 #[.val (.ref a1), .val (.ref a2), .val (.int (n + (2 : Int32)))] [(.int (pe + n)), (.ref b1), (.int (0 : Int32)), (.ref aE)])
  have S_LINE_END := S0.ext Od.2
  have B_aE := B0.ext Od.2
  obtain ⟨T61, X61, e61, st61⟩ := getS2 X59 hx hZ hown (host := "") (Or.inl (hw _ (List.mem_of_getElem? (i := 15) rfl))) Via.refl e59 S_LINE_END (g := (mkF m 43 #[.val (.ref a1), .val (.ref a2), .val (.int (n + (2 : Int32)))] [(.int (pe + n)), (.ref b1), (.int (0 : Int32)), (.ref aE)])) rfl (hb hby own_f105)
  refine Go.step st61 ?_
  show Go p e below _ T61 (mkF m 46 #[.val (.ref a1), .val (.ref a2), .val (.int (n + (2 : Int32)))] [(.ref aE), (.int (pe + n)), (.ref b1), (.int (0 : Int32)), (.ref aE)])
  obtain ⟨_, _, ⟨cl62, Ar62, _, S62, Nn62, _, _⟩, _⟩ := id B_aE
  refine Go.step (X61.arraylength hx (by rw [e61]; exact Ar62.1) (State.isArrayOf_alike hZ.alike Ar62.2.1) (g := (mkF m 46 #[.val (.ref a1), .val (.ref a2), .val (.int (n + (2 : Int32)))] [(.ref aE), (.int (pe + n)), (.ref b1), (.int (0 : Int32)), (.ref aE)])) rfl rfl (hb hby own_f106)) ?_
  rw [len_of S62 Nn62]
  show Go p e below _ T61 (mkF m 47 #[.val (.ref a1), .val (.ref a2), .val (.int (n + (2 : Int32)))] [(.int (2 : Int32)), (.int (pe + n)), (.ref b1), (.int (0 : Int32)), (.ref aE)])
  have S_LINE_END := S0.ext Od.2
  have B_aE := B0.ext Od.2
  obtain ⟨T63, h63, L63, X63, e63, N63, K63, Bc63, st63⟩ := own_copy X61 hx hZ hown (hw _ (List.mem_of_getElem? (i := 30) rfl)) (hw _ (List.mem_of_getElem? (i := 33) rfl)) (hw _ (List.mem_of_getElem? (i := 31) rfl)) (hw _ (List.mem_of_getElem? (i := 32) rfl)) e61 B_aE B_b1 (by decide) (by rw [hpn]; omega) (by decide) (by decide) (by rw [hpn, show (2 : Int32).toInt = 2 by decide]; omega) N56 g_b1 (g := (mkF m 47 #[.val (.ref a1), .val (.ref a2), .val (.int (n + (2 : Int32)))] [(.int (2 : Int32)), (.int (pe + n)), (.ref b1), (.int (0 : Int32)), (.ref aE)])) rfl (by rw [hml]; rfl) rfl (hb hby own_f107) (by decide) (W := 0) (by show 2 * 0 + _ ≤ _; exact Nat.le_of_eq rfl) (by decide +kernel)
  replace Od := Od.keep K63 (allS g_b1 all0)
  replace B_a2 := B_a2.keep K63 (ninS ne_a2_b1 nin0)
  replace E_a1 := E_a1.keep K63
  replace F_start_a1 := F_start_a1.keep K63 (ninS ne_a1_b1 nin0)
  replace F_end_a1 := F_end_a1.keep K63 (ninS ne_a1_b1 nin0)
  replace F_lines_a1 := F_lines_a1.keep K63 (ninS ne_a1_b1 nin0)
  replace F_bytes_a1 := F_bytes_a1.keep K63 (ninS ne_a1_b1 nin0)
  replace B_b1 := Bc63
  replace K0 := K0.trans K63 (allS (hloc.imp (fun q => by rw [q]; exact List.mem_cons_of_mem _ (List.mem_cons_self ..)) id) (all0))
  replace Zn := Nat.le_trans Zn K63.1
  refine Go.step st63 ?_
  show Go p e below _ T63 (mkF m 50 #[.val (.ref a1), .val (.ref a2), .val (.int (n + (2 : Int32)))] [])
  refine Go.step (fun _ k => XS.aloadN X63.here hx rfl (hb hby own_f108) rfl rfl k) ?_
  show Go p e below _ T63 (mkF m 51 #[.val (.ref a1), .val (.ref a2), .val (.int (n + (2 : Int32)))] [(.ref a1)])
  refine Go.step (fun _ k => XS.dup X63.here hx rfl (hb hby own_f109) rfl rfl k) ?_
  show Go p e below _ T63 (mkF m 52 #[.val (.ref a1), .val (.ref a2), .val (.int (n + (2 : Int32)))] [(.ref a1), (.ref a1)])
  obtain ⟨T64, X64, e64, st64⟩ := getF X63 hx hZ hown (host := "") (Or.inl (hw _ (List.mem_of_getElem? (i := 28) rfl))) Via.refl e63 F_end_a1 (g := (mkF m 52 #[.val (.ref a1), .val (.ref a2), .val (.int (n + (2 : Int32)))] [(.ref a1), (.ref a1)])) rfl rfl (hb hby own_f110)
  refine Go.step st64 ?_
  show Go p e below _ T64 (mkF m 55 #[.val (.ref a1), .val (.ref a2), .val (.int (n + (2 : Int32)))] [(.int pe), (.ref a1)])
  refine Go.step (fun _ k => XS.iloadN X64.here hx rfl (hb hby own_f111) rfl k) ?_
  show Go p e below _ T64 (mkF m 56 #[.val (.ref a1), .val (.ref a2), .val (.int (n + (2 : Int32)))] [(.int (n + (2 : Int32))), (.int pe), (.ref a1)])
  refine Go.step (fun _ k => XS.iadd X64.here hx rfl (hb hby own_f112) rfl k) ?_
  show Go p e below _ T64 (mkF m 57 #[.val (.ref a1), .val (.ref a2), .val (.int (n + (2 : Int32)))] [(.int (pe + (n + (2 : Int32)))), (.ref a1)])
  obtain ⟨T65, h65, X65, e65, W65, st65⟩ := putF X64 hx hZ hown (host := "") (Or.inl (hw _ (List.mem_of_getElem? (i := 28) rfl))) Via.refl e64 F_end_a1 E_a1 (Or.inl (hw _ (List.mem_of_getElem? (i := 29) rfl))) (hw _ (List.mem_of_getElem? (i := 1) rfl)) (ty := .int) (by decide) rfl rfl (g := (mkF m 57 #[.val (.ref a1), .val (.ref a2), .val (.int (n + (2 : Int32)))] [(.int (pe + (n + (2 : Int32)))), (.ref a1)])) rfl rfl (hb hby own_f113)
  have Fw65 := F_end_a1.same W65
  replace Od := Od.wr W65 g_a1
  replace B_a2 := B_a2.other W65 ne_a2_a1
  replace E_a1 := E_a1.wr W65
  replace F_start_a1 := F_start_a1.other W65 (Or.inr (slot_ne (Or.inl (hw _ (List.mem_of_getElem? (i := 42) rfl))) (Or.inl (hw _ (List.mem_of_getElem? (i := 29) rfl))) (by decide) (t := .int) (t' := .int) (by decide) (by decide)))
  replace F_lines_a1 := F_lines_a1.other W65 (Or.inr (slot_ne (Or.inl (hw _ (List.mem_of_getElem? (i := 35) rfl))) (Or.inl (hw _ (List.mem_of_getElem? (i := 29) rfl))) (by decide) (t := .int) (t' := .int) (by decide) (by decide)))
  replace F_bytes_a1 := F_bytes_a1.other W65 (Or.inr (slot_ne (Or.inl (hw _ (List.mem_of_getElem? (i := 23) rfl))) (Or.inl (hw _ (List.mem_of_getElem? (i := 29) rfl))) (by decide) (t := (.array .byte)) (t' := .int) (by decide) (by decide)))
  replace B_b1 := B_b1.other W65 (Ne.symm ne_a1_b1)
  replace F_end_a1 := Fw65
  replace K0 := K0.wr W65 (Or.inl (List.mem_of_getElem? (i := 0) rfl))
  replace Zn := Nat.le_trans Zn (Nat.le_of_eq W65.size.symm)
  have N65 := Fr.snoc X65 N63 g_a1
  refine Go.step st65 ?_
  show Go p e below _ T65 (mkF m 60 #[.val (.ref a1), .val (.ref a2), .val (.int (n + (2 : Int32)))] [])
  refine Go.step (fun _ k => XS.aloadN X65.here hx rfl (hb hby own_f114) rfl rfl k) ?_
  show Go p e below _ T65 (mkF m 61 #[.val (.ref a1), .val (.ref a2), .val (.int (n + (2 : Int32)))] [(.ref a1)])
  refine Go.step (fun _ k => XS.dup X65.here hx rfl (hb hby own_f115) rfl rfl k) ?_
  show Go p e below _ T65 (mkF m 62 #[.val (.ref a1), .val (.ref a2), .val (.int (n + (2 : Int32)))] [(.ref a1), (.ref a1)])
  obtain ⟨T66, X66, e66, st66⟩ := getF X65 hx hZ hown (host := "") (Or.inl (hw _ (List.mem_of_getElem? (i := 34) rfl))) Via.refl e65 F_lines_a1 (g := (mkF m 62 #[.val (.ref a1), .val (.ref a2), .val (.int (n + (2 : Int32)))] [(.ref a1), (.ref a1)])) rfl rfl (hb hby own_f116)
  refine Go.step st66 ?_
  show Go p e below _ T66 (mkF m 65 #[.val (.ref a1), .val (.ref a2), .val (.int (n + (2 : Int32)))] [(.int pl), (.ref a1)])
  refine Go.step (fun _ k => XS.iconst X66.here hx rfl (hb hby own_f117) k) ?_
  show Go p e below _ T66 (mkF m 66 #[.val (.ref a1), .val (.ref a2), .val (.int (n + (2 : Int32)))] [(.int (1 : Int32)), (.int pl), (.ref a1)])
  refine Go.step (fun _ k => XS.iadd X66.here hx rfl (hb hby own_f118) rfl k) ?_
  show Go p e below _ T66 (mkF m 67 #[.val (.ref a1), .val (.ref a2), .val (.int (n + (2 : Int32)))] [(.int (pl + (1 : Int32))), (.ref a1)])
  obtain ⟨T67, h67, X67, e67, W67, st67⟩ := putF X66 hx hZ hown (host := "") (Or.inl (hw _ (List.mem_of_getElem? (i := 34) rfl))) Via.refl e66 F_lines_a1 E_a1 (Or.inl (hw _ (List.mem_of_getElem? (i := 35) rfl))) (hw _ (List.mem_of_getElem? (i := 1) rfl)) (ty := .int) (by decide) rfl rfl (g := (mkF m 67 #[.val (.ref a1), .val (.ref a2), .val (.int (n + (2 : Int32)))] [(.int (pl + (1 : Int32))), (.ref a1)])) rfl rfl (hb hby own_f119)
  have Fw67 := F_lines_a1.same W67
  replace Od := Od.wr W67 g_a1
  replace B_a2 := B_a2.other W67 ne_a2_a1
  replace E_a1 := E_a1.wr W67
  replace F_start_a1 := F_start_a1.other W67 (Or.inr (slot_ne (Or.inl (hw _ (List.mem_of_getElem? (i := 42) rfl))) (Or.inl (hw _ (List.mem_of_getElem? (i := 35) rfl))) (by decide) (t := .int) (t' := .int) (by decide) (by decide)))
  replace F_bytes_a1 := F_bytes_a1.other W67 (Or.inr (slot_ne (Or.inl (hw _ (List.mem_of_getElem? (i := 23) rfl))) (Or.inl (hw _ (List.mem_of_getElem? (i := 35) rfl))) (by decide) (t := (.array .byte)) (t' := .int) (by decide) (by decide)))
  replace B_b1 := B_b1.other W67 (Ne.symm ne_a1_b1)
  replace F_end_a1 := F_end_a1.other W67 (Or.inr (slot_ne (Or.inl (hw _ (List.mem_of_getElem? (i := 29) rfl))) (Or.inl (hw _ (List.mem_of_getElem? (i := 35) rfl))) (by decide) (t := .int) (t' := .int) (by decide) (by decide)))
  replace F_lines_a1 := Fw67
  replace K0 := K0.wr W67 (Or.inl (List.mem_of_getElem? (i := 0) rfl))
  replace Zn := Nat.le_trans Zn (Nat.le_of_eq W67.size.symm)
  have N67 := Fr.snoc X67 N65 g_a1
  refine Go.step st67 ?_
  show Go p e below _ T67 (mkF m 70 #[.val (.ref a1), .val (.ref a2), .val (.int (n + (2 : Int32)))] [])
  have hend : (pe + (n + (2 : Int32))).toInt = pe.toInt + n.toInt + 2 := by rw [Jvm.Kit.i32_add (by rw [hl2]; omega) (by rw [hl2]; omega), hl2]; omega
  obtain ⟨fs, hr, hrun, hended, hW, hsame⟩ := X67.leave (v := none) (fun _ => rfl)
  refine Go.fin (X67.returnOut hx Bd.returns (hb hby own_f120) hr) hrun hended ?_
  refine ⟨_, _, rfl, ?_, ⟨_, rfl⟩, hW, hsame.mono (by decide) (by decide)⟩
  show QW2 Z a1 a2 pe pl P b z M aE n h0 n0 _ T67.heap _
  rw [e67]
  exact ⟨b1, z1, rfl, N67, K0, ⟨E_a1, F_start_a1, F_end_a1, F_lines_a1, F_bytes_a1, B_b1, g_b1, np_b1, by rw [hend]; omega, by rw [hend]; omega, hzM⟩, hloc⟩
theorem own_f121 : decode prog_56_method_8_code 0 = .ok (.aload_n 0, 1) := by decide +kernel
theorem own_f122 : decode prog_56_method_8_code 1 = .ok (.getfield 19, 3) := by decide +kernel
theorem own_f123 : decode prog_56_method_8_code 4 = .ok (.ifnull 19, 3) := by decide +kernel
theorem own_f124 : decode prog_56_method_8_code 23 = .ok (.aload_n 0, 1) := by decide +kernel
theorem own_f125 : decode prog_56_method_8_code 24 = .ok (.iconst 0, 1) := by decide +kernel
theorem own_f126 : decode prog_56_method_8_code 25 = .ok (.putfield 41, 3) := by decide +kernel
theorem own_f127 : decode prog_56_method_8_code 28 = .ok (.aload_n 0, 1) := by decide +kernel
theorem own_f128 : decode prog_56_method_8_code 29 = .ok (.iconst 0, 1) := by decide +kernel
theorem own_f129 : decode prog_56_method_8_code 30 = .ok (.putfield 22, 3) := by decide +kernel
theorem own_f130 : decode prog_56_method_8_code 33 = .ok (.aload_n 0, 1) := by decide +kernel
theorem own_f131 : decode prog_56_method_8_code 34 = .ok (.iconst 0, 1) := by decide +kernel
theorem own_f132 : decode prog_56_method_8_code 35 = .ok (.putfield 32, 3) := by decide +kernel
theorem own_f133 : decode prog_56_method_8_code 38 = .ok (.return_, 1) := by decide +kernel
theorem own_ef_C1 (m : MethodId) (a1 : Addr) : entryFrame m #[(.ref a1)] 1 = mkF m 0 #[.val (.ref a1)] [] := by first | (simp [entryFrame, mkF, argsToLocals, Value.category]; done) | rfl
def QC1 (Z : State) (a1 : Addr) (pl : Int32) (h0 : Heap) (n0 : Nat) (v : Option Value) (h : Heap) (L : List Loc) : Prop := v = none ∧ Fr n0 L ∧ Keep h0 h [a1] ∧ own_Nl Z h a1 0
set_option maxRecDepth 65536 in
set_option maxHeartbeats 40000000 in
theorem rmC1 (l : Launch) (Z : State) (a0 : Array Value) (hw : ∀ d ∈ tables_1, d.before a0 Z = true) (ws : List Jvm.Cond) (a1 : Addr) (pl : Int32) (h0 : Heap) (n0 : Nat) (Z0 : n0 ≤ h0.size) (hR : own_Nl Z h0 a1 pl) (g_a1 : n0 ≤ a1) :
    MetFree l (⟨"com/example/frugal_sieve/frugalsieve/server/Outbox", "clear", "()V"⟩ : MethodName) (head1 (Jvm.Cond.code (⟨"com/example/frugal_sieve/frugalsieve/server/Outbox", "clear", "()V"⟩ : MethodName) prog_56_method_8_code 1 none :: ws) ({ frames := 0, cells := 0, slots := 0, locals := 0 } : Room)) (fun a U => a = #[(.ref a1)] ∧ Z.Warmed39 U.vm ∧ U.heap = h0) (fun _ _ _ _ _ => True) (fun _ U o U' => ∃ v L, o = .returned v ∧ QC1 Z a1 pl h0 n0 v U'.heap L ∧ FrameEnd U o U' L ({ frames := 0, cells := 0, slots := 0, locals := 0 } : Room).cells ({ frames := 0, cells := 0, slots := 0, locals := 0 } : Room).slots) := by
  refine MetFree.of_bodySF (plainFor_of_name own_f10) hisR ?_
  intro p e s m args below meth c s₁ Bd hml0 hP hK
  obtain ⟨rfl, hZ, hh⟩ := hP
  have hx := Bd.exec
  have hby := Bd.bytes
  have hml : c.maxLocals = 1 := hml0
  have hown : s.vm.findClass "com/example/frugal_sieve/frugalsieve/server/Outbox" = some m.cls := findClass_of_methodNamed Bd.named
  have hnm := (name_of_methodNamed Bd.named Bd.method).1
  have X0 : Stand p l e ({ frames := 0, cells := 0, slots := 0, locals := 0 } : Room) s m #[(.ref a1)] below meth c s₁ [] 0 0 := Stand.of_body Bd
  have e0 : s₁.heap = h0 := by rw [← hh, Bd.state]; rfl
  have N0 := Fr.nil n0
  refine Go.start (own_ef_C1 m a1) ?_
  show Go p e below _ s₁ (mkF m 0 #[.val (.ref a1)] [])
  have Zn := Z0
  have K0 : Keep h0 h0 [a1] := Keep.refl h0 _
  obtain ⟨E_a1, F_start_a1, F_end_a1, F_lines_a1, F_bytes_a1⟩ := hR
  refine Go.step (fun _ k => XS.aloadN X0.here hx rfl (hb hby own_f121) rfl rfl k) ?_
  show Go p e below _ s₁ (mkF m 1 #[.val (.ref a1)] [(.ref a1)])
  obtain ⟨T68, X68, e68, st68⟩ := getF X0 hx hZ hown (host := "") (Or.inl (hw _ (List.mem_of_getElem? (i := 22) rfl))) Via.refl e0 F_bytes_a1 (g := (mkF m 1 #[.val (.ref a1)] [(.ref a1)])) rfl rfl (hb hby own_f122)
  refine Go.step st68 ?_
  show Go p e below _ T68 (mkF m 4 #[.val (.ref a1)] [.null])
  refine Go.step (fun _ k => XS.ifnullYes X68.here hx rfl (pc0 := 4) (pc' := 23) rfl (hb hby own_f123) rfl (by decide) (by decide) k) ?_
  show Go p e below _ T68 (mkF m 23 #[.val (.ref a1)] [])
  refine Go.step (fun _ k => XS.aloadN X68.here hx rfl (hb hby own_f124) rfl rfl k) ?_
  show Go p e below _ T68 (mkF m 24 #[.val (.ref a1)] [(.ref a1)])
  refine Go.step (fun _ k => XS.iconst X68.here hx rfl (hb hby own_f125) k) ?_
  show Go p e below _ T68 (mkF m 25 #[.val (.ref a1)] [(.int (0 : Int32)), (.ref a1)])
  obtain ⟨T69, h69, X69, e69, W69, st69⟩ := putF X68 hx hZ hown (host := "") (Or.inl (hw _ (List.mem_of_getElem? (i := 41) rfl))) Via.refl e68 F_start_a1 E_a1 (Or.inl (hw _ (List.mem_of_getElem? (i := 42) rfl))) (hw _ (List.mem_of_getElem? (i := 1) rfl)) (ty := .int) (by decide) rfl rfl (g := (mkF m 25 #[.val (.ref a1)] [(.int (0 : Int32)), (.ref a1)])) rfl rfl (hb hby own_f126)
  have Fw69 := F_start_a1.same W69
  replace E_a1 := E_a1.wr W69
  replace F_end_a1 := F_end_a1.other W69 (Or.inr (slot_ne (Or.inl (hw _ (List.mem_of_getElem? (i := 29) rfl))) (Or.inl (hw _ (List.mem_of_getElem? (i := 42) rfl))) (by decide) (t := .int) (t' := .int) (by decide) (by decide)))
  replace F_lines_a1 := F_lines_a1.other W69 (Or.inr (slot_ne (Or.inl (hw _ (List.mem_of_getElem? (i := 35) rfl))) (Or.inl (hw _ (List.mem_of_getElem? (i := 42) rfl))) (by decide) (t := .int) (t' := .int) (by decide) (by decide)))
  replace F_bytes_a1 := F_bytes_a1.other W69 (Or.inr (slot_ne (Or.inl (hw _ (List.mem_of_getElem? (i := 23) rfl))) (Or.inl (hw _ (List.mem_of_getElem? (i := 42) rfl))) (by decide) (t := (.array .byte)) (t' := .int) (by decide) (by decide)))
  replace F_start_a1 := Fw69
  replace K0 := K0.wr W69 (Or.inl (List.mem_of_getElem? (i := 0) rfl))
  replace Zn := Nat.le_trans Zn (Nat.le_of_eq W69.size.symm)
  have N69 := Fr.snoc X69 N0 g_a1
  refine Go.step st69 ?_
  show Go p e below _ T69 (mkF m 28 #[.val (.ref a1)] [])
  refine Go.step (fun _ k => XS.aloadN X69.here hx rfl (hb hby own_f127) rfl rfl k) ?_
  show Go p e below _ T69 (mkF m 29 #[.val (.ref a1)] [(.ref a1)])
  refine Go.step (fun _ k => XS.iconst X69.here hx rfl (hb hby own_f128) k) ?_
  show Go p e below _ T69 (mkF m 30 #[.val (.ref a1)] [(.int (0 : Int32)), (.ref a1)])
  obtain ⟨T70, h70, X70, e70, W70, st70⟩ := putF X69 hx hZ hown (host := "") (Or.inl (hw _ (List.mem_of_getElem? (i := 28) rfl))) Via.refl e69 F_end_a1 E_a1 (Or.inl (hw _ (List.mem_of_getElem? (i := 29) rfl))) (hw _ (List.mem_of_getElem? (i := 1) rfl)) (ty := .int) (by decide) rfl rfl (g := (mkF m 30 #[.val (.ref a1)] [(.int (0 : Int32)), (.ref a1)])) rfl rfl (hb hby own_f129)
  have Fw70 := F_end_a1.same W70
  replace E_a1 := E_a1.wr W70
  replace F_lines_a1 := F_lines_a1.other W70 (Or.inr (slot_ne (Or.inl (hw _ (List.mem_of_getElem? (i := 35) rfl))) (Or.inl (hw _ (List.mem_of_getElem? (i := 29) rfl))) (by decide) (t := .int) (t' := .int) (by decide) (by decide)))
  replace F_bytes_a1 := F_bytes_a1.other W70 (Or.inr (slot_ne (Or.inl (hw _ (List.mem_of_getElem? (i := 23) rfl))) (Or.inl (hw _ (List.mem_of_getElem? (i := 29) rfl))) (by decide) (t := (.array .byte)) (t' := .int) (by decide) (by decide)))
  replace F_start_a1 := F_start_a1.other W70 (Or.inr (slot_ne (Or.inl (hw _ (List.mem_of_getElem? (i := 42) rfl))) (Or.inl (hw _ (List.mem_of_getElem? (i := 29) rfl))) (by decide) (t := .int) (t' := .int) (by decide) (by decide)))
  replace F_end_a1 := Fw70
  replace K0 := K0.wr W70 (Or.inl (List.mem_of_getElem? (i := 0) rfl))
  replace Zn := Nat.le_trans Zn (Nat.le_of_eq W70.size.symm)
  have N70 := Fr.snoc X70 N69 g_a1
  refine Go.step st70 ?_
  show Go p e below _ T70 (mkF m 33 #[.val (.ref a1)] [])
  refine Go.step (fun _ k => XS.aloadN X70.here hx rfl (hb hby own_f130) rfl rfl k) ?_
  show Go p e below _ T70 (mkF m 34 #[.val (.ref a1)] [(.ref a1)])
  refine Go.step (fun _ k => XS.iconst X70.here hx rfl (hb hby own_f131) k) ?_
  show Go p e below _ T70 (mkF m 35 #[.val (.ref a1)] [(.int (0 : Int32)), (.ref a1)])
  obtain ⟨T71, h71, X71, e71, W71, st71⟩ := putF X70 hx hZ hown (host := "") (Or.inl (hw _ (List.mem_of_getElem? (i := 34) rfl))) Via.refl e70 F_lines_a1 E_a1 (Or.inl (hw _ (List.mem_of_getElem? (i := 35) rfl))) (hw _ (List.mem_of_getElem? (i := 1) rfl)) (ty := .int) (by decide) rfl rfl (g := (mkF m 35 #[.val (.ref a1)] [(.int (0 : Int32)), (.ref a1)])) rfl rfl (hb hby own_f132)
  have Fw71 := F_lines_a1.same W71
  replace E_a1 := E_a1.wr W71
  replace F_bytes_a1 := F_bytes_a1.other W71 (Or.inr (slot_ne (Or.inl (hw _ (List.mem_of_getElem? (i := 23) rfl))) (Or.inl (hw _ (List.mem_of_getElem? (i := 35) rfl))) (by decide) (t := (.array .byte)) (t' := .int) (by decide) (by decide)))
  replace F_start_a1 := F_start_a1.other W71 (Or.inr (slot_ne (Or.inl (hw _ (List.mem_of_getElem? (i := 42) rfl))) (Or.inl (hw _ (List.mem_of_getElem? (i := 35) rfl))) (by decide) (t := .int) (t' := .int) (by decide) (by decide)))
  replace F_end_a1 := F_end_a1.other W71 (Or.inr (slot_ne (Or.inl (hw _ (List.mem_of_getElem? (i := 29) rfl))) (Or.inl (hw _ (List.mem_of_getElem? (i := 35) rfl))) (by decide) (t := .int) (t' := .int) (by decide) (by decide)))
  replace F_lines_a1 := Fw71
  replace K0 := K0.wr W71 (Or.inl (List.mem_of_getElem? (i := 0) rfl))
  replace Zn := Nat.le_trans Zn (Nat.le_of_eq W71.size.symm)
  have N71 := Fr.snoc X71 N70 g_a1
  refine Go.step st71 ?_
  show Go p e below _ T71 (mkF m 38 #[.val (.ref a1)] [])
  obtain ⟨fs, hr, hrun, hended, hW, hsame⟩ := X71.leave (v := none) (fun _ => rfl)
  refine Go.fin (X71.returnOut hx Bd.returns (hb hby own_f133) hr) hrun hended ?_
  refine ⟨_, _, rfl, ?_, ⟨_, rfl⟩, hW, hsame.mono (by decide) (by decide)⟩
  show QC1 Z a1 pl h0 n0 _ T71.heap _
  rw [e71]
  exact ⟨rfl, N71, K0, E_a1, F_start_a1, F_end_a1, F_lines_a1, F_bytes_a1⟩
theorem own_f134 : decode prog_56_method_8_code 7 = .ok (.aload_n 0, 1) := by decide +kernel
theorem own_f135 : decode prog_56_method_8_code 8 = .ok (.getfield 19, 3) := by decide +kernel
theorem own_f136 : decode prog_56_method_8_code 11 = .ok (.arraylength, 1) := by decide +kernel
theorem own_f137 : decode prog_56_method_8_code 12 = .ok (.sipush 2048, 3) := by decide +kernel
theorem own_f138 : decode prog_56_method_8_code 15 = .ok (.if_icmp .le 8, 3) := by decide +kernel
theorem own_f139 : decode prog_56_method_8_code 18 = .ok (.aload_n 0, 1) := by decide +kernel
theorem own_f140 : decode prog_56_method_8_code 19 = .ok (.aconst_null, 1) := by decide +kernel
theorem own_f141 : decode prog_56_method_8_code 20 = .ok (.putfield 19, 3) := by decide +kernel
theorem own_ef_C2 (m : MethodId) (a1 : Addr) : entryFrame m #[(.ref a1)] 1 = mkF m 0 #[.val (.ref a1)] [] := by first | (simp [entryFrame, mkF, argsToLocals, Value.category]; done) | rfl
def QC2 (Z : State) (a1 : Addr) (pe pl : Int32) (P : List Addr) (b : Addr) (z : Int32) (M : Int) (h0 : Heap) (n0 : Nat) (v : Option Value) (h : Heap) (L : List Loc) : Prop := v = none ∧ Fr n0 L ∧ Keep h0 h [a1] ∧ (own_Nl Z h a1 0 ∨ own_Rf Z h n0 P a1 0 0 b z 2048)
set_option maxRecDepth 65536 in
set_option maxHeartbeats 40000000 in
theorem rmC2 (l : Launch) (Z : State) (a0 : Array Value) (hw : ∀ d ∈ tables_1, d.before a0 Z = true) (ws : List Jvm.Cond) (a1 : Addr) (pe pl : Int32) (P : List Addr) (b : Addr) (z : Int32) (M : Int) (h0 : Heap) (n0 : Nat) (Z0 : n0 ≤ h0.size) (hR : own_Rf Z h0 n0 P a1 pe pl b z M) (g_a1 : n0 ≤ a1) :
    MetFree l (⟨"com/example/frugal_sieve/frugalsieve/server/Outbox", "clear", "()V"⟩ : MethodName) (head1 (Jvm.Cond.code (⟨"com/example/frugal_sieve/frugalsieve/server/Outbox", "clear", "()V"⟩ : MethodName) prog_56_method_8_code 1 none :: ws) ({ frames := 0, cells := 0, slots := 0, locals := 0 } : Room)) (fun a U => a = #[(.ref a1)] ∧ Z.Warmed39 U.vm ∧ U.heap = h0) (fun _ _ _ _ _ => True) (fun _ U o U' => ∃ v L, o = .returned v ∧ QC2 Z a1 pe pl P b z M h0 n0 v U'.heap L ∧ FrameEnd U o U' L ({ frames := 0, cells := 0, slots := 0, locals := 0 } : Room).cells ({ frames := 0, cells := 0, slots := 0, locals := 0 } : Room).slots) := by
  refine MetFree.of_bodySF (plainFor_of_name own_f10) hisR ?_
  intro p e s m args below meth c s₁ Bd hml0 hP hK
  obtain ⟨rfl, hZ, hh⟩ := hP
  have hx := Bd.exec
  have hby := Bd.bytes
  have hml : c.maxLocals = 1 := hml0
  have hown : s.vm.findClass "com/example/frugal_sieve/frugalsieve/server/Outbox" = some m.cls := findClass_of_methodNamed Bd.named
  have hnm := (name_of_methodNamed Bd.named Bd.method).1
  have X0 : Stand p l e ({ frames := 0, cells := 0, slots := 0, locals := 0 } : Room) s m #[(.ref a1)] below meth c s₁ [] 0 0 := Stand.of_body Bd
  have e0 : s₁.heap = h0 := by rw [← hh, Bd.state]; rfl
  have N0 := Fr.nil n0
  refine Go.start (own_ef_C2 m a1) ?_
  show Go p e below _ s₁ (mkF m 0 #[.val (.ref a1)] [])
  have Zn := Z0
  have K0 : Keep h0 h0 [a1] := Keep.refl h0 _
  obtain ⟨E_a1, F_start_a1, F_end_a1, F_lines_a1, F_bytes_a1, B_b, g_b, np_b, hpe0, hpz, hzM⟩ := hR
  have ne_a1_b : a1 ≠ b := own_By.ne E_a1 (hw _ (List.mem_of_getElem? (i := 1) rfl)) B_b
  refine Go.step (fun _ k => XS.aloadN X0.here hx rfl (hb hby own_f121) rfl rfl k) ?_
  show Go p e below _ s₁ (mkF m 1 #[.val (.ref a1)] [(.ref a1)])
  obtain ⟨T72, X72, e72, st72⟩ := getF X0 hx hZ hown (host := "") (Or.inl (hw _ (List.mem_of_getElem? (i := 22) rfl))) Via.refl e0 F_bytes_a1 (g := (mkF m 1 #[.val (.ref a1)] [(.ref a1)])) rfl rfl (hb hby own_f122)
  refine Go.step st72 ?_
  show Go p e below _ T72 (mkF m 4 #[.val (.ref a1)] [(.ref b)])
  refine Go.step (fun _ k => XS.ifnullNo X72.here hx rfl (hb hby own_f123) rfl k) ?_
  show Go p e below _ T72 (mkF m 7 #[.val (.ref a1)] [])
  refine Go.step (fun _ k => XS.aloadN X72.here hx rfl (hb hby own_f134) rfl rfl k) ?_
  show Go p e below _ T72 (mkF m 8 #[.val (.ref a1)] [(.ref a1)])
  obtain ⟨T73, X73, e73, st73⟩ := getF X72 hx hZ hown (host := "") (Or.inl (hw _ (List.mem_of_getElem? (i := 22) rfl))) Via.refl e72 F_bytes_a1 (g := (mkF m 8 #[.val (.ref a1)] [(.ref a1)])) rfl rfl (hb hby own_f135)
  refine Go.step st73 ?_
  show Go p e below _ T73 (mkF m 11 #[.val (.ref a1)] [(.ref b)])
  obtain ⟨_, _, ⟨cl74, Ar74, _, S74, Nn74, _, _⟩, _⟩ := id B_b
  refine Go.step (X73.arraylength hx (by rw [e73]; exact Ar74.1) (State.isArrayOf_alike hZ.alike Ar74.2.1) (g := (mkF m 11 #[.val (.ref a1)] [(.ref b)])) rfl rfl (hb hby own_f136)) ?_
  rw [len_of S74 Nn74]
  show Go p e below _ T73 (mkF m 12 #[.val (.ref a1)] [(.int z)])
  refine Go.step (fun _ k => XS.sipush X73.here hx rfl (hb hby own_f137) k) ?_
  show Go p e below _ T73 (mkF m 15 #[.val (.ref a1)] [(.int (2048 : Int32)), (.int z)])
  by_cases hc15_75 : (2048 : Int32) < z
  · show Go p e below _ T73 (mkF m 15 #[.val (.ref a1)] [(.int (2048 : Int32)), (.int z)])
    refine Go.step (fun _ k => XS.icmpNo X73.here hx rfl (hb hby own_f138) rfl (tlt hc15_75).2.2.2 k) ?_
    show Go p e below _ T73 (mkF m 18 #[.val (.ref a1)] [])
    refine Go.step (fun _ k => XS.aloadN X73.here hx rfl (hb hby own_f139) rfl rfl k) ?_
    show Go p e below _ T73 (mkF m 19 #[.val (.ref a1)] [(.ref a1)])
    refine Go.step (fun _ k => XS.aconstNull X73.here hx rfl (hb hby own_f140) k) ?_
    show Go p e below _ T73 (mkF m 20 #[.val (.ref a1)] [.null, (.ref a1)])
    obtain ⟨T76, h76, X76, e76, W76, st76⟩ := putF X73 hx hZ hown (host := "") (Or.inl (hw _ (List.mem_of_getElem? (i := 22) rfl))) Via.refl e73 F_bytes_a1 E_a1 (Or.inl (hw _ (List.mem_of_getElem? (i := 23) rfl))) (hw _ (List.mem_of_getElem? (i := 1) rfl)) (ty := (.array .byte)) (by decide) rfl rfl (g := (mkF m 20 #[.val (.ref a1)] [.null, (.ref a1)])) rfl rfl (hb hby own_f141)
    have Fw76 := F_bytes_a1.same W76
    replace E_a1 := E_a1.wr W76
    replace F_start_a1 := F_start_a1.other W76 (Or.inr (slot_ne (Or.inl (hw _ (List.mem_of_getElem? (i := 42) rfl))) (Or.inl (hw _ (List.mem_of_getElem? (i := 23) rfl))) (by decide) (t := .int) (t' := (.array .byte)) (by decide) (by decide)))
    replace F_end_a1 := F_end_a1.other W76 (Or.inr (slot_ne (Or.inl (hw _ (List.mem_of_getElem? (i := 29) rfl))) (Or.inl (hw _ (List.mem_of_getElem? (i := 23) rfl))) (by decide) (t := .int) (t' := (.array .byte)) (by decide) (by decide)))
    replace F_lines_a1 := F_lines_a1.other W76 (Or.inr (slot_ne (Or.inl (hw _ (List.mem_of_getElem? (i := 35) rfl))) (Or.inl (hw _ (List.mem_of_getElem? (i := 23) rfl))) (by decide) (t := .int) (t' := (.array .byte)) (by decide) (by decide)))
    replace B_b := B_b.other W76 (Ne.symm ne_a1_b)
    replace F_bytes_a1 := Fw76
    replace K0 := K0.wr W76 (Or.inl (List.mem_of_getElem? (i := 0) rfl))
    replace Zn := Nat.le_trans Zn (Nat.le_of_eq W76.size.symm)
    have N76 := Fr.snoc X76 N0 g_a1
    refine Go.step st76 ?_
    show Go p e below _ T76 (mkF m 23 #[.val (.ref a1)] [])
    refine Go.step (fun _ k => XS.aloadN X76.here hx rfl (hb hby own_f124) rfl rfl k) ?_
    show Go p e below _ T76 (mkF m 24 #[.val (.ref a1)] [(.ref a1)])
    refine Go.step (fun _ k => XS.iconst X76.here hx rfl (hb hby own_f125) k) ?_
    show Go p e below _ T76 (mkF m 25 #[.val (.ref a1)] [(.int (0 : Int32)), (.ref a1)])
    obtain ⟨T77, h77, X77, e77, W77, st77⟩ := putF X76 hx hZ hown (host := "") (Or.inl (hw _ (List.mem_of_getElem? (i := 41) rfl))) Via.refl e76 F_start_a1 E_a1 (Or.inl (hw _ (List.mem_of_getElem? (i := 42) rfl))) (hw _ (List.mem_of_getElem? (i := 1) rfl)) (ty := .int) (by decide) rfl rfl (g := (mkF m 25 #[.val (.ref a1)] [(.int (0 : Int32)), (.ref a1)])) rfl rfl (hb hby own_f126)
    have Fw77 := F_start_a1.same W77
    replace E_a1 := E_a1.wr W77
    replace F_end_a1 := F_end_a1.other W77 (Or.inr (slot_ne (Or.inl (hw _ (List.mem_of_getElem? (i := 29) rfl))) (Or.inl (hw _ (List.mem_of_getElem? (i := 42) rfl))) (by decide) (t := .int) (t' := .int) (by decide) (by decide)))
    replace F_lines_a1 := F_lines_a1.other W77 (Or.inr (slot_ne (Or.inl (hw _ (List.mem_of_getElem? (i := 35) rfl))) (Or.inl (hw _ (List.mem_of_getElem? (i := 42) rfl))) (by decide) (t := .int) (t' := .int) (by decide) (by decide)))
    replace B_b := B_b.other W77 (Ne.symm ne_a1_b)
    replace F_bytes_a1 := F_bytes_a1.other W77 (Or.inr (slot_ne (Or.inl (hw _ (List.mem_of_getElem? (i := 23) rfl))) (Or.inl (hw _ (List.mem_of_getElem? (i := 42) rfl))) (by decide) (t := (.array .byte)) (t' := .int) (by decide) (by decide)))
    replace F_start_a1 := Fw77
    replace K0 := K0.wr W77 (Or.inl (List.mem_of_getElem? (i := 0) rfl))
    replace Zn := Nat.le_trans Zn (Nat.le_of_eq W77.size.symm)
    have N77 := Fr.snoc X77 N76 g_a1
    refine Go.step st77 ?_
    show Go p e below _ T77 (mkF m 28 #[.val (.ref a1)] [])
    refine Go.step (fun _ k => XS.aloadN X77.here hx rfl (hb hby own_f127) rfl rfl k) ?_
    show Go p e below _ T77 (mkF m 29 #[.val (.ref a1)] [(.ref a1)])
    refine Go.step (fun _ k => XS.iconst X77.here hx rfl (hb hby own_f128) k) ?_
    show Go p e below _ T77 (mkF m 30 #[.val (.ref a1)] [(.int (0 : Int32)), (.ref a1)])
    obtain ⟨T78, h78, X78, e78, W78, st78⟩ := putF X77 hx hZ hown (host := "") (Or.inl (hw _ (List.mem_of_getElem? (i := 28) rfl))) Via.refl e77 F_end_a1 E_a1 (Or.inl (hw _ (List.mem_of_getElem? (i := 29) rfl))) (hw _ (List.mem_of_getElem? (i := 1) rfl)) (ty := .int) (by decide) rfl rfl (g := (mkF m 30 #[.val (.ref a1)] [(.int (0 : Int32)), (.ref a1)])) rfl rfl (hb hby own_f129)
    have Fw78 := F_end_a1.same W78
    replace E_a1 := E_a1.wr W78
    replace F_lines_a1 := F_lines_a1.other W78 (Or.inr (slot_ne (Or.inl (hw _ (List.mem_of_getElem? (i := 35) rfl))) (Or.inl (hw _ (List.mem_of_getElem? (i := 29) rfl))) (by decide) (t := .int) (t' := .int) (by decide) (by decide)))
    replace B_b := B_b.other W78 (Ne.symm ne_a1_b)
    replace F_bytes_a1 := F_bytes_a1.other W78 (Or.inr (slot_ne (Or.inl (hw _ (List.mem_of_getElem? (i := 23) rfl))) (Or.inl (hw _ (List.mem_of_getElem? (i := 29) rfl))) (by decide) (t := (.array .byte)) (t' := .int) (by decide) (by decide)))
    replace F_start_a1 := F_start_a1.other W78 (Or.inr (slot_ne (Or.inl (hw _ (List.mem_of_getElem? (i := 42) rfl))) (Or.inl (hw _ (List.mem_of_getElem? (i := 29) rfl))) (by decide) (t := .int) (t' := .int) (by decide) (by decide)))
    replace F_end_a1 := Fw78
    replace K0 := K0.wr W78 (Or.inl (List.mem_of_getElem? (i := 0) rfl))
    replace Zn := Nat.le_trans Zn (Nat.le_of_eq W78.size.symm)
    have N78 := Fr.snoc X78 N77 g_a1
    refine Go.step st78 ?_
    show Go p e below _ T78 (mkF m 33 #[.val (.ref a1)] [])
    refine Go.step (fun _ k => XS.aloadN X78.here hx rfl (hb hby own_f130) rfl rfl k) ?_
    show Go p e below _ T78 (mkF m 34 #[.val (.ref a1)] [(.ref a1)])
    refine Go.step (fun _ k => XS.iconst X78.here hx rfl (hb hby own_f131) k) ?_
    show Go p e below _ T78 (mkF m 35 #[.val (.ref a1)] [(.int (0 : Int32)), (.ref a1)])
    obtain ⟨T79, h79, X79, e79, W79, st79⟩ := putF X78 hx hZ hown (host := "") (Or.inl (hw _ (List.mem_of_getElem? (i := 34) rfl))) Via.refl e78 F_lines_a1 E_a1 (Or.inl (hw _ (List.mem_of_getElem? (i := 35) rfl))) (hw _ (List.mem_of_getElem? (i := 1) rfl)) (ty := .int) (by decide) rfl rfl (g := (mkF m 35 #[.val (.ref a1)] [(.int (0 : Int32)), (.ref a1)])) rfl rfl (hb hby own_f132)
    have Fw79 := F_lines_a1.same W79
    replace E_a1 := E_a1.wr W79
    replace B_b := B_b.other W79 (Ne.symm ne_a1_b)
    replace F_bytes_a1 := F_bytes_a1.other W79 (Or.inr (slot_ne (Or.inl (hw _ (List.mem_of_getElem? (i := 23) rfl))) (Or.inl (hw _ (List.mem_of_getElem? (i := 35) rfl))) (by decide) (t := (.array .byte)) (t' := .int) (by decide) (by decide)))
    replace F_start_a1 := F_start_a1.other W79 (Or.inr (slot_ne (Or.inl (hw _ (List.mem_of_getElem? (i := 42) rfl))) (Or.inl (hw _ (List.mem_of_getElem? (i := 35) rfl))) (by decide) (t := .int) (t' := .int) (by decide) (by decide)))
    replace F_end_a1 := F_end_a1.other W79 (Or.inr (slot_ne (Or.inl (hw _ (List.mem_of_getElem? (i := 29) rfl))) (Or.inl (hw _ (List.mem_of_getElem? (i := 35) rfl))) (by decide) (t := .int) (t' := .int) (by decide) (by decide)))
    replace F_lines_a1 := Fw79
    replace K0 := K0.wr W79 (Or.inl (List.mem_of_getElem? (i := 0) rfl))
    replace Zn := Nat.le_trans Zn (Nat.le_of_eq W79.size.symm)
    have N79 := Fr.snoc X79 N78 g_a1
    refine Go.step st79 ?_
    show Go p e below _ T79 (mkF m 38 #[.val (.ref a1)] [])
    obtain ⟨fs, hr, hrun, hended, hW, hsame⟩ := X79.leave (v := none) (fun _ => rfl)
    refine Go.fin (X79.returnOut hx Bd.returns (hb hby own_f133) hr) hrun hended ?_
    refine ⟨_, _, rfl, ?_, ⟨_, rfl⟩, hW, hsame.mono (by decide) (by decide)⟩
    show QC2 Z a1 pe pl P b z M h0 n0 _ T79.heap _
    rw [e79]
    exact ⟨rfl, N79, K0, Or.inl ⟨E_a1, F_start_a1, F_end_a1, F_lines_a1, F_bytes_a1⟩⟩
  · show Go p e below _ T73 (mkF m 15 #[.val (.ref a1)] [(.int (2048 : Int32)), (.int z)])
    refine Go.step (fun _ k => XS.icmpYes X73.here hx rfl (pc0 := 15) (pc' := 23) rfl (hb hby own_f138) rfl (flt hc15_75).2.2.2 (by decide) (by decide) k) ?_
    show Go p e below _ T73 (mkF m 23 #[.val (.ref a1)] [])
    refine Go.step (fun _ k => XS.aloadN X73.here hx rfl (hb hby own_f124) rfl rfl k) ?_
    show Go p e below _ T73 (mkF m 24 #[.val (.ref a1)] [(.ref a1)])
    refine Go.step (fun _ k => XS.iconst X73.here hx rfl (hb hby own_f125) k) ?_
    show Go p e below _ T73 (mkF m 25 #[.val (.ref a1)] [(.int (0 : Int32)), (.ref a1)])
    obtain ⟨T80, h80, X80, e80, W80, st80⟩ := putF X73 hx hZ hown (host := "") (Or.inl (hw _ (List.mem_of_getElem? (i := 41) rfl))) Via.refl e73 F_start_a1 E_a1 (Or.inl (hw _ (List.mem_of_getElem? (i := 42) rfl))) (hw _ (List.mem_of_getElem? (i := 1) rfl)) (ty := .int) (by decide) rfl rfl (g := (mkF m 25 #[.val (.ref a1)] [(.int (0 : Int32)), (.ref a1)])) rfl rfl (hb hby own_f126)
    have Fw80 := F_start_a1.same W80
    replace E_a1 := E_a1.wr W80
    replace F_end_a1 := F_end_a1.other W80 (Or.inr (slot_ne (Or.inl (hw _ (List.mem_of_getElem? (i := 29) rfl))) (Or.inl (hw _ (List.mem_of_getElem? (i := 42) rfl))) (by decide) (t := .int) (t' := .int) (by decide) (by decide)))
    replace F_lines_a1 := F_lines_a1.other W80 (Or.inr (slot_ne (Or.inl (hw _ (List.mem_of_getElem? (i := 35) rfl))) (Or.inl (hw _ (List.mem_of_getElem? (i := 42) rfl))) (by decide) (t := .int) (t' := .int) (by decide) (by decide)))
    replace F_bytes_a1 := F_bytes_a1.other W80 (Or.inr (slot_ne (Or.inl (hw _ (List.mem_of_getElem? (i := 23) rfl))) (Or.inl (hw _ (List.mem_of_getElem? (i := 42) rfl))) (by decide) (t := (.array .byte)) (t' := .int) (by decide) (by decide)))
    replace B_b := B_b.other W80 (Ne.symm ne_a1_b)
    replace F_start_a1 := Fw80
    replace K0 := K0.wr W80 (Or.inl (List.mem_of_getElem? (i := 0) rfl))
    replace Zn := Nat.le_trans Zn (Nat.le_of_eq W80.size.symm)
    have N80 := Fr.snoc X80 N0 g_a1
    refine Go.step st80 ?_
    show Go p e below _ T80 (mkF m 28 #[.val (.ref a1)] [])
    refine Go.step (fun _ k => XS.aloadN X80.here hx rfl (hb hby own_f127) rfl rfl k) ?_
    show Go p e below _ T80 (mkF m 29 #[.val (.ref a1)] [(.ref a1)])
    refine Go.step (fun _ k => XS.iconst X80.here hx rfl (hb hby own_f128) k) ?_
    show Go p e below _ T80 (mkF m 30 #[.val (.ref a1)] [(.int (0 : Int32)), (.ref a1)])
    obtain ⟨T81, h81, X81, e81, W81, st81⟩ := putF X80 hx hZ hown (host := "") (Or.inl (hw _ (List.mem_of_getElem? (i := 28) rfl))) Via.refl e80 F_end_a1 E_a1 (Or.inl (hw _ (List.mem_of_getElem? (i := 29) rfl))) (hw _ (List.mem_of_getElem? (i := 1) rfl)) (ty := .int) (by decide) rfl rfl (g := (mkF m 30 #[.val (.ref a1)] [(.int (0 : Int32)), (.ref a1)])) rfl rfl (hb hby own_f129)
    have Fw81 := F_end_a1.same W81
    replace E_a1 := E_a1.wr W81
    replace F_lines_a1 := F_lines_a1.other W81 (Or.inr (slot_ne (Or.inl (hw _ (List.mem_of_getElem? (i := 35) rfl))) (Or.inl (hw _ (List.mem_of_getElem? (i := 29) rfl))) (by decide) (t := .int) (t' := .int) (by decide) (by decide)))
    replace F_bytes_a1 := F_bytes_a1.other W81 (Or.inr (slot_ne (Or.inl (hw _ (List.mem_of_getElem? (i := 23) rfl))) (Or.inl (hw _ (List.mem_of_getElem? (i := 29) rfl))) (by decide) (t := (.array .byte)) (t' := .int) (by decide) (by decide)))
    replace B_b := B_b.other W81 (Ne.symm ne_a1_b)
    replace F_start_a1 := F_start_a1.other W81 (Or.inr (slot_ne (Or.inl (hw _ (List.mem_of_getElem? (i := 42) rfl))) (Or.inl (hw _ (List.mem_of_getElem? (i := 29) rfl))) (by decide) (t := .int) (t' := .int) (by decide) (by decide)))
    replace F_end_a1 := Fw81
    replace K0 := K0.wr W81 (Or.inl (List.mem_of_getElem? (i := 0) rfl))
    replace Zn := Nat.le_trans Zn (Nat.le_of_eq W81.size.symm)
    have N81 := Fr.snoc X81 N80 g_a1
    refine Go.step st81 ?_
    show Go p e below _ T81 (mkF m 33 #[.val (.ref a1)] [])
    refine Go.step (fun _ k => XS.aloadN X81.here hx rfl (hb hby own_f130) rfl rfl k) ?_
    show Go p e below _ T81 (mkF m 34 #[.val (.ref a1)] [(.ref a1)])
    refine Go.step (fun _ k => XS.iconst X81.here hx rfl (hb hby own_f131) k) ?_
    show Go p e below _ T81 (mkF m 35 #[.val (.ref a1)] [(.int (0 : Int32)), (.ref a1)])
    obtain ⟨T82, h82, X82, e82, W82, st82⟩ := putF X81 hx hZ hown (host := "") (Or.inl (hw _ (List.mem_of_getElem? (i := 34) rfl))) Via.refl e81 F_lines_a1 E_a1 (Or.inl (hw _ (List.mem_of_getElem? (i := 35) rfl))) (hw _ (List.mem_of_getElem? (i := 1) rfl)) (ty := .int) (by decide) rfl rfl (g := (mkF m 35 #[.val (.ref a1)] [(.int (0 : Int32)), (.ref a1)])) rfl rfl (hb hby own_f132)
    have Fw82 := F_lines_a1.same W82
    replace E_a1 := E_a1.wr W82
    replace F_bytes_a1 := F_bytes_a1.other W82 (Or.inr (slot_ne (Or.inl (hw _ (List.mem_of_getElem? (i := 23) rfl))) (Or.inl (hw _ (List.mem_of_getElem? (i := 35) rfl))) (by decide) (t := (.array .byte)) (t' := .int) (by decide) (by decide)))
    replace B_b := B_b.other W82 (Ne.symm ne_a1_b)
    replace F_start_a1 := F_start_a1.other W82 (Or.inr (slot_ne (Or.inl (hw _ (List.mem_of_getElem? (i := 42) rfl))) (Or.inl (hw _ (List.mem_of_getElem? (i := 35) rfl))) (by decide) (t := .int) (t' := .int) (by decide) (by decide)))
    replace F_end_a1 := F_end_a1.other W82 (Or.inr (slot_ne (Or.inl (hw _ (List.mem_of_getElem? (i := 29) rfl))) (Or.inl (hw _ (List.mem_of_getElem? (i := 35) rfl))) (by decide) (t := .int) (t' := .int) (by decide) (by decide)))
    replace F_lines_a1 := Fw82
    replace K0 := K0.wr W82 (Or.inl (List.mem_of_getElem? (i := 0) rfl))
    replace Zn := Nat.le_trans Zn (Nat.le_of_eq W82.size.symm)
    have N82 := Fr.snoc X82 N81 g_a1
    refine Go.step st82 ?_
    show Go p e below _ T82 (mkF m 38 #[.val (.ref a1)] [])
    have q1 : ¬ (2048 : Int32).toInt < z.toInt := fun q => hc15_75 (Int32.lt_iff_toInt_lt.mpr q)
    rw [show (2048 : Int32).toInt = 2048 by decide] at q1
    obtain ⟨fs, hr, hrun, hended, hW, hsame⟩ := X82.leave (v := none) (fun _ => rfl)
    refine Go.fin (X82.returnOut hx Bd.returns (hb hby own_f133) hr) hrun hended ?_
    refine ⟨_, _, rfl, ?_, ⟨_, rfl⟩, hW, hsame.mono (by decide) (by decide)⟩
    show QC2 Z a1 pe pl P b z M h0 n0 _ T82.heap _
    rw [e82]
    exact ⟨rfl, N82, K0, Or.inr ⟨E_a1, F_start_a1, F_end_a1, F_lines_a1, F_bytes_a1, B_b, g_b, np_b, by decide, by rw [show (0 : Int32).toInt = 0 by decide]; omega, by omega⟩⟩
theorem own_f142 : decode prog_56_method_4_code 0 = .ok (.aload_n 0, 1) := by decide +kernel
theorem own_f143 : decode prog_56_method_4_code 1 = .ok (.getfield 41, 3) := by decide +kernel
theorem own_f144 : decode prog_56_method_4_code 4 = .ok (.aload_n 0, 1) := by decide +kernel
theorem own_f145 : decode prog_56_method_4_code 5 = .ok (.getfield 22, 3) := by decide +kernel
theorem own_f146 : decode prog_56_method_4_code 8 = .ok (.if_icmp .ne 7, 3) := by decide +kernel
theorem own_f147 : decode prog_56_method_4_code 11 = .ok (.iconst 1, 1) := by decide +kernel
theorem own_f148 : decode prog_56_method_4_code 12 = .ok (.goto 4, 3) := by decide +kernel
theorem own_f149 : decode prog_56_method_4_code 16 = .ok (.ireturn, 1) := by decide +kernel
theorem own_ef_E (m : MethodId) (a1 : Addr) : entryFrame m #[(.ref a1)] 1 = mkF m 0 #[.val (.ref a1)] [] := by first | (simp [entryFrame, mkF, argsToLocals, Value.category]; done) | rfl
def QE (Z : State) (a1 : Addr) (h0 : Heap) (n0 : Nat) (v : Option Value) (h : Heap) (L : List Loc) : Prop := v = some (.int (1 : Int32)) ∧ Fr n0 L ∧ h = h0
set_option maxRecDepth 65536 in
set_option maxHeartbeats 40000000 in
theorem rmE (l : Launch) (Z : State) (a0 : Array Value) (hw : ∀ d ∈ tables_1, d.before a0 Z = true) (ws : List Jvm.Cond) (a1 : Addr) (h0 : Heap) (n0 : Nat) (Z0 : n0 ≤ h0.size) (F_start_a1 : Fld Z h0 a1 "com/example/frugal_sieve/frugalsieve/server/Outbox" "start" "I" (.int (0 : Int32))) (F_end_a1 : Fld Z h0 a1 "com/example/frugal_sieve/frugalsieve/server/Outbox" "end" "I" (.int (0 : Int32))) :
    MetFree l (⟨"com/example/frugal_sieve/frugalsieve/server/Outbox", "isEmpty", "()Z"⟩ : MethodName) (head1 (Jvm.Cond.code (⟨"com/example/frugal_sieve/frugalsieve/server/Outbox", "isEmpty", "()Z"⟩ : MethodName) prog_56_method_4_code 1 (some .boolean) :: ws) ({ frames := 0, cells := 0, slots := 0, locals := 0 } : Room)) (fun a U => a = #[(.ref a1)] ∧ Z.Warmed39 U.vm ∧ U.heap = h0) (fun _ _ _ _ _ => True) (fun _ U o U' => ∃ v L, o = .returned v ∧ QE Z a1 h0 n0 v U'.heap L ∧ FrameEnd U o U' L ({ frames := 0, cells := 0, slots := 0, locals := 0 } : Room).cells ({ frames := 0, cells := 0, slots := 0, locals := 0 } : Room).slots) := by
  refine MetFree.of_bodySF (plainFor_of_name own_f10) hisR ?_
  intro p e s m args below meth c s₁ Bd hml0 hP hK
  obtain ⟨rfl, hZ, hh⟩ := hP
  have hx := Bd.exec
  have hby := Bd.bytes
  have hml : c.maxLocals = 1 := hml0
  have hown : s.vm.findClass "com/example/frugal_sieve/frugalsieve/server/Outbox" = some m.cls := findClass_of_methodNamed Bd.named
  have hnm := (name_of_methodNamed Bd.named Bd.method).1
  have X0 : Stand p l e ({ frames := 0, cells := 0, slots := 0, locals := 0 } : Room) s m #[(.ref a1)] below meth c s₁ [] 0 0 := Stand.of_body Bd
  have e0 : s₁.heap = h0 := by rw [← hh, Bd.state]; rfl
  have N0 := Fr.nil n0
  refine Go.start (own_ef_E m a1) ?_
  show Go p e below _ s₁ (mkF m 0 #[.val (.ref a1)] [])
  refine Go.step (fun _ k => XS.aloadN X0.here hx rfl (hb hby own_f142) rfl rfl k) ?_
  show Go p e below _ s₁ (mkF m 1 #[.val (.ref a1)] [(.ref a1)])
  obtain ⟨T83, X83, e83, st83⟩ := getF X0 hx hZ hown (host := "") (Or.inl (hw _ (List.mem_of_getElem? (i := 41) rfl))) Via.refl e0 F_start_a1 (g := (mkF m 1 #[.val (.ref a1)] [(.ref a1)])) rfl rfl (hb hby own_f143)
  refine Go.step st83 ?_
  show Go p e below _ T83 (mkF m 4 #[.val (.ref a1)] [(.int (0 : Int32))])
  refine Go.step (fun _ k => XS.aloadN X83.here hx rfl (hb hby own_f144) rfl rfl k) ?_
  show Go p e below _ T83 (mkF m 5 #[.val (.ref a1)] [(.ref a1), (.int (0 : Int32))])
  obtain ⟨T84, X84, e84, st84⟩ := getF X83 hx hZ hown (host := "") (Or.inl (hw _ (List.mem_of_getElem? (i := 28) rfl))) Via.refl e83 F_end_a1 (g := (mkF m 5 #[.val (.ref a1)] [(.ref a1), (.int (0 : Int32))])) rfl rfl (hb hby own_f145)
  refine Go.step st84 ?_
  show Go p e below _ T84 (mkF m 8 #[.val (.ref a1)] [(.int (0 : Int32)), (.int (0 : Int32))])
  refine Go.step (fun _ k => XS.icmpNo X84.here hx rfl (hb hby own_f146) rfl (teq rfl).2 k) ?_
  show Go p e below _ T84 (mkF m 11 #[.val (.ref a1)] [])
  refine Go.step (fun _ k => XS.iconst X84.here hx rfl (hb hby own_f147) k) ?_
  show Go p e below _ T84 (mkF m 12 #[.val (.ref a1)] [(.int (1 : Int32))])
  refine Go.step (fun _ k => XS.goto X84.here hx rfl (pc0 := 12) (pc' := 16) rfl (hb hby own_f148) (by decide) (by decide) k) ?_
  show Go p e below _ T84 (mkF m 16 #[.val (.ref a1)] [(.int (1 : Int32))])
  obtain ⟨fs, hr, hrun, hended, hW, hsame⟩ := X84.leave (v := some (.int (1 : Int32))) (fun h => by rw [Bd.returns] at h; cases h)
  refine Go.fin (retN X84 hx (t := .boolean) Bd.returns (by simp) (hb hby own_f149) hr) hrun hended ?_
  refine ⟨_, _, rfl, ?_, ⟨_, rfl⟩, hW, hsame.mono (by decide) (by decide)⟩
  show QE Z a1 h0 n0 _ T84.heap _
  rw [e84]
  exact ⟨rfl, N0, rfl⟩
theorem own_f150 : decode prog_56_method_5_code 0 = .ok (.aload_n 0, 1) := by decide +kernel
theorem own_f151 : decode prog_56_method_5_code 1 = .ok (.getfield 22, 3) := by decide +kernel
theorem own_f152 : decode prog_56_method_5_code 4 = .ok (.aload_n 0, 1) := by decide +kernel
theorem own_f153 : decode prog_56_method_5_code 5 = .ok (.getfield 41, 3) := by decide +kernel
theorem own_f154 : decode prog_56_method_5_code 8 = .ok (.isub, 1) := by decide +kernel
theorem own_f155 : decode prog_56_method_5_code 9 = .ok (.i2l, 1) := by decide +kernel
theorem own_f156 : decode prog_56_method_5_code 10 = .ok (.ldc2_w 44, 3) := by decide +kernel
theorem own_f157 : decode prog_56_method_5_code 13 = .ok (.aload_n 0, 1) := by decide +kernel
theorem own_f158 : decode prog_56_method_5_code 14 = .ok (.getfield 32, 3) := by decide +kernel
theorem own_f159 : decode prog_56_method_5_code 17 = .ok (.i2l, 1) := by decide +kernel
theorem own_f160 : decode prog_56_method_5_code 18 = .ok (.lmul, 1) := by decide +kernel
theorem own_f161 : decode prog_56_method_5_code 19 = .ok (.ladd, 1) := by decide +kernel
theorem own_f162 : decode prog_56_method_5_code 20 = .ok (.lreturn, 1) := by decide +kernel
theorem own_ef_B (m : MethodId) (a1 : Addr) : entryFrame m #[(.ref a1)] 1 = mkF m 0 #[.val (.ref a1)] [] := by first | (simp [entryFrame, mkF, argsToLocals, Value.category]; done) | rfl
def QB (Z : State) (a1 : Addr) (pe pl : Int32) (h0 : Heap) (n0 : Nat) (v : Option Value) (h : Heap) (L : List Loc) : Prop := v = some (.long ((pe - (0 : Int32)).toInt64 + ((96 : Int64) * (pl.toInt64)))) ∧ Fr n0 L ∧ h = h0
set_option maxRecDepth 65536 in
set_option maxHeartbeats 40000000 in
theorem rmB (l : Launch) (Z : State) (a0 : Array Value) (hw : ∀ d ∈ tables_1, d.before a0 Z = true) (ws : List Jvm.Cond) (a1 : Addr) (pe pl : Int32) (h0 : Heap) (n0 : Nat) (Z0 : n0 ≤ h0.size) (F_start_a1 : Fld Z h0 a1 "com/example/frugal_sieve/frugalsieve/server/Outbox" "start" "I" (.int (0 : Int32))) (F_end_a1 : Fld Z h0 a1 "com/example/frugal_sieve/frugalsieve/server/Outbox" "end" "I" (.int pe)) (F_lines_a1 : Fld Z h0 a1 "com/example/frugal_sieve/frugalsieve/server/Outbox" "lines" "I" (.int pl)) :
    MetFree l (⟨"com/example/frugal_sieve/frugalsieve/server/Outbox", "waitingBytes", "()J"⟩ : MethodName) (head1 (Jvm.Cond.code (⟨"com/example/frugal_sieve/frugalsieve/server/Outbox", "waitingBytes", "()J"⟩ : MethodName) prog_56_method_5_code 1 (some .long) :: ws) ({ frames := 0, cells := 0, slots := 0, locals := 0 } : Room)) (fun a U => a = #[(.ref a1)] ∧ Z.Warmed39 U.vm ∧ U.heap = h0) (fun _ _ _ _ _ => True) (fun _ U o U' => ∃ v L, o = .returned v ∧ QB Z a1 pe pl h0 n0 v U'.heap L ∧ FrameEnd U o U' L ({ frames := 0, cells := 0, slots := 0, locals := 0 } : Room).cells ({ frames := 0, cells := 0, slots := 0, locals := 0 } : Room).slots) := by
  refine MetFree.of_bodySF (plainFor_of_name own_f10) hisR ?_
  intro p e s m args below meth c s₁ Bd hml0 hP hK
  obtain ⟨rfl, hZ, hh⟩ := hP
  have hx := Bd.exec
  have hby := Bd.bytes
  have hml : c.maxLocals = 1 := hml0
  have hown : s.vm.findClass "com/example/frugal_sieve/frugalsieve/server/Outbox" = some m.cls := findClass_of_methodNamed Bd.named
  have hnm := (name_of_methodNamed Bd.named Bd.method).1
  have X0 : Stand p l e ({ frames := 0, cells := 0, slots := 0, locals := 0 } : Room) s m #[(.ref a1)] below meth c s₁ [] 0 0 := Stand.of_body Bd
  have e0 : s₁.heap = h0 := by rw [← hh, Bd.state]; rfl
  have N0 := Fr.nil n0
  refine Go.start (own_ef_B m a1) ?_
  show Go p e below _ s₁ (mkF m 0 #[.val (.ref a1)] [])
  refine Go.step (fun _ k => XS.aloadN X0.here hx rfl (hb hby own_f150) rfl rfl k) ?_
  show Go p e below _ s₁ (mkF m 1 #[.val (.ref a1)] [(.ref a1)])
  obtain ⟨T85, X85, e85, st85⟩ := getF X0 hx hZ hown (host := "") (Or.inl (hw _ (List.mem_of_getElem? (i := 28) rfl))) Via.refl e0 F_end_a1 (g := (mkF m 1 #[.val (.ref a1)] [(.ref a1)])) rfl rfl (hb hby own_f151)
  refine Go.step st85 ?_
  show Go p e below _ T85 (mkF m 4 #[.val (.ref a1)] [(.int pe)])
  refine Go.step (fun _ k => XS.aloadN X85.here hx rfl (hb hby own_f152) rfl rfl k) ?_
  show Go p e below _ T85 (mkF m 5 #[.val (.ref a1)] [(.ref a1), (.int pe)])
  obtain ⟨T86, X86, e86, st86⟩ := getF X85 hx hZ hown (host := "") (Or.inl (hw _ (List.mem_of_getElem? (i := 41) rfl))) Via.refl e85 F_start_a1 (g := (mkF m 5 #[.val (.ref a1)] [(.ref a1), (.int pe)])) rfl rfl (hb hby own_f153)
  refine Go.step st86 ?_
  show Go p e below _ T86 (mkF m 8 #[.val (.ref a1)] [(.int (0 : Int32)), (.int pe)])
  refine Go.step (fun _ k => XS.isub X86.here hx rfl (hb hby own_f154) rfl k) ?_
  show Go p e below _ T86 (mkF m 9 #[.val (.ref a1)] [(.int (pe - (0 : Int32)))])
  refine Go.step (fun _ k => XS.i2l X86.here hx rfl (hb hby own_f155) rfl k) ?_
  show Go p e below _ T86 (mkF m 10 #[.val (.ref a1)] [(.long ((pe - (0 : Int32)).toInt64))])
  refine Go.step (X86.ldc2Long hx hown (mvT hZ (hw _ (List.mem_of_getElem? (i := 53) rfl))) (g := (mkF m 10 #[.val (.ref a1)] [(.long ((pe - (0 : Int32)).toInt64))])) rfl (hb hby own_f156)) ?_
  show Go p e below _ T86 (mkF m 13 #[.val (.ref a1)] [(.long (96 : Int64)), (.long ((pe - (0 : Int32)).toInt64))])
  refine Go.step (fun _ k => XS.aloadN X86.here hx rfl (hb hby own_f157) rfl rfl k) ?_
  show Go p e below _ T86 (mkF m 14 #[.val (.ref a1)] [(.ref a1), (.long (96 : Int64)), (.long ((pe - (0 : Int32)).toInt64))])
  obtain ⟨T87, X87, e87, st87⟩ := getF X86 hx hZ hown (host := "") (Or.inl (hw _ (List.mem_of_getElem? (i := 34) rfl))) Via.refl e86 F_lines_a1 (g := (mkF m 14 #[.val (.ref a1)] [(.ref a1), (.long (96 : Int64)), (.long ((pe - (0 : Int32)).toInt64))])) rfl rfl (hb hby own_f158)
  refine Go.step st87 ?_
  show Go p e below _ T87 (mkF m 17 #[.val (.ref a1)] [(.int pl), (.long (96 : Int64)), (.long ((pe - (0 : Int32)).toInt64))])
  refine Go.step (fun _ k => XS.i2l X87.here hx rfl (hb hby own_f159) rfl k) ?_
  show Go p e below _ T87 (mkF m 18 #[.val (.ref a1)] [(.long (pl.toInt64)), (.long (96 : Int64)), (.long ((pe - (0 : Int32)).toInt64))])
  refine Go.step (fun _ k => XS.lmul X87.here hx rfl (hb hby own_f160) rfl k) ?_
  show Go p e below _ T87 (mkF m 19 #[.val (.ref a1)] [(.long ((96 : Int64) * (pl.toInt64))), (.long ((pe - (0 : Int32)).toInt64))])
  refine Go.step (fun _ k => XS.ladd X87.here hx rfl (hb hby own_f161) rfl k) ?_
  show Go p e below _ T87 (mkF m 20 #[.val (.ref a1)] [(.long (((pe - (0 : Int32)).toInt64) + ((96 : Int64) * (pl.toInt64))))])
  obtain ⟨fs, hr, hrun, hended, hW, hsame⟩ := X87.leave (v := some (.long (((pe - (0 : Int32)).toInt64) + ((96 : Int64) * (pl.toInt64))))) (fun h => by rw [Bd.returns] at h; cases h)
  refine Go.fin (own_retJ X87 hx Bd.returns (hb hby own_f162) hr) hrun hended ?_
  refine ⟨_, _, rfl, ?_, ⟨_, rfl⟩, hW, hsame.mono (by decide) (by decide)⟩
  show QB Z a1 pe pl h0 n0 _ T87.heap _
  rw [e87]
  exact ⟨rfl, N0, rfl⟩
theorem own_f163 : parseMethodDescriptor "()V" = some ⟨[], none⟩ := by decide +kernel
theorem own_f164 : parseMethodDescriptor "()Z" = some ⟨[], some .boolean⟩ := by decide +kernel
theorem own_f165 : parseMethodDescriptor "()J" = some ⟨[], some .long⟩ := by decide +kernel
theorem own_f166 : parseMethodDescriptor "([B)V" = some ⟨[(.array .byte)], none⟩ := by decide +kernel
theorem own_f167 : plainName "com/example/frugal_sieve/frugalsieve/server/OutboxClearPinLaw" = true := by first | (simp [plainName, overriddenIn]; done) | decide +kernel
theorem own_ef_0 (m : MethodId) (i0 : Int32) (i1 : Int32) (i2 : Int32) : entryFrame m #[(.int i0), (.int i1), (.int i2)] maxLocals = mkF m 0 #[.val (.int i0), .val (.int i1), .val (.int i2), .unset, .unset, .unset, .unset, .unset, .unset] [] := by first | (simp [entryFrame, mkF, argsToLocals, Value.category, maxLocals]; done) | rfl
def Q0 (Z : State) (i0 : Int32) (i1 : Int32) (i2 : Int32) (aE : Addr) (h0 : Heap) (n0 : Nat) (v : Option Value) (h : Heap) (L : List Loc) : Prop := v = some (.int 1) ∧ Fr n0 L
set_option maxRecDepth 65536 in
set_option maxHeartbeats 40000000 in
theorem rm0 (l : Launch) (Z : State) (a0 : Array Value) (hw : ∀ d ∈ tables_1, d.before a0 Z = true) (ws : List Jvm.Cond) (i0 : Int32) (i1 : Int32) (i2 : Int32) (aE : Addr) (h0 : Heap) (n0 : Nat) (Z0 : n0 ≤ h0.size) (S0 : Sta Z Z.heap "com/example/frugal_sieve/frugalsieve/server/Lines" "LINE_END" "[B" (.ref aE)) (B0 : own_By Z Z.heap aE (2 : Int32)) (Od : Old Z n0 h0) :
    MetFree l x (head1 (Jvm.Cond.code x code maxLocals ret :: ws) room_1) (fun a U => a = #[(.int i0), (.int i1), (.int i2)] ∧ Z.Warmed39 U.vm ∧ U.heap = h0) (fun _ _ _ _ _ => True) (fun _ U o U' => ∃ v L, o = .returned v ∧ Q0 Z i0 i1 i2 aE h0 n0 v U'.heap L ∧ FrameEnd U o U' L 24 57472) := by
  refine MetFree.of_bodySF (plainFor_of_name own_f167) hisR ?_
  intro p e s m args below meth c s₁ Bd hml0 hP hK
  obtain ⟨rfl, hZ, hh⟩ := hP
  have hx := Bd.exec
  have hby := Bd.bytes
  have hml : c.maxLocals = 9 := hml0
  have hown : s.vm.findClass "com/example/frugal_sieve/frugalsieve/server/OutboxClearPinLaw" = some m.cls := findClass_of_methodNamed Bd.named
  have hnm := (name_of_methodNamed Bd.named Bd.method).1
  have X0 : Stand p l e room_1 s m #[(.int i0), (.int i1), (.int i2)] below meth c s₁ [] 0 0 := Stand.of_body Bd
  have e0 : s₁.heap = h0 := by rw [← hh, Bd.state]; rfl
  have N0 := Fr.nil n0
  refine Go.start (own_ef_0 m i0 i1 i2) ?_
  show Go p e below _ s₁ (mkF m 0 #[.val (.int i0), .val (.int i1), .val (.int i2), .unset, .unset, .unset, .unset, .unset, .unset] [])
  have Zn := Z0
  have K0 : Keep h0 h0 [] := Keep.refl h0 _
  obtain ⟨T88, h88, X88, e88, E88, A88, D88, U88, st88⟩ := newO X0 hx hZ hown (hw _ (List.mem_of_getElem? (i := 0) rfl)) (hw _ (List.mem_of_getElem? (i := 1) rfl)) (hw _ (List.mem_of_getElem? (i := 2) rfl)) e0 (g := (mkF m 0 #[.val (.int i0), .val (.int i1), .val (.int i2), .unset, .unset, .unset, .unset, .unset, .unset] [])) rfl (hb hby at_0) (by decide) (by decide)
  obtain ⟨ob, g88⟩ : ∃ z, z = h0.size := ⟨_, rfl⟩
  rw [← g88] at A88 D88 U88 st88
  have g_ob : n0 ≤ ob := Nat.le_trans Zn (Nat.le_of_eq g88.symm)
  replace Od := Od.ext E88
  replace Zn := Nat.le_trans Zn E88.1
  replace K0 := K0.ext E88
  have E_ob := A88
  have F_bytes_ob : Fld Z h88 ob "com/example/frugal_sieve/frugalsieve/server/Outbox" "bytes" "[B" .null := D88 (Or.inl (hw _ (List.mem_of_getElem? (i := 23) rfl))) (ty := (.array .byte)) (by decide)
  have F_end_ob : Fld Z h88 ob "com/example/frugal_sieve/frugalsieve/server/Outbox" "end" "I" (.int (0 : Int32)) := D88 (Or.inl (hw _ (List.mem_of_getElem? (i := 29) rfl))) (ty := .int) (by decide)
  have F_lines_ob : Fld Z h88 ob "com/example/frugal_sieve/frugalsieve/server/Outbox" "lines" "I" (.int (0 : Int32)) := D88 (Or.inl (hw _ (List.mem_of_getElem? (i := 35) rfl))) (ty := .int) (by decide)
  have F_start_ob : Fld Z h88 ob "com/example/frugal_sieve/frugalsieve/server/Outbox" "start" "I" (.int (0 : Int32)) := D88 (Or.inl (hw _ (List.mem_of_getElem? (i := 42) rfl))) (ty := .int) (by decide)
  refine Go.step st88 ?_
  show Go p e below _ T88 (mkF m 3 #[.val (.int i0), .val (.int i1), .val (.int i2), .unset, .unset, .unset, .unset, .unset, .unset] [(.ref ob)])
  refine Go.step (fun _ k => XS.dup X88.here hx rfl (hb hby at_3) rfl rfl k) ?_
  show Go p e below _ T88 (mkF m 4 #[.val (.int i0), .val (.int i1), .val (.int i2), .unset, .unset, .unset, .unset, .unset, .unset] [(.ref ob), (.ref ob)])
  obtain ⟨_, _, ⟨T89, L89, k89, n89⟩, -, X89, ⟨Lc89, hQ89, l89, y89, z89⟩, st89⟩ := X88.specialBack hx (y := (⟨"com/example/frugal_sieve/frugalsieve/server/Outbox", "<init>", "()V"⟩ : MethodName)) rfl hown (mvT hZ (hw _ (List.mem_of_getElem? (i := 3) rfl))) (mvT hZ (hw _ (List.mem_of_getElem? (i := 4) rfl))) (mvT hZ (hw _ (List.mem_of_getElem? (i := 5) rfl))) (by decide) (backOf (W := 1) (rmI l Z a0 hw [] ob h88 n0 Zn) hZ (hw _ (List.mem_of_getElem? (i := 5) rfl)) (hw _ (List.mem_of_getElem? (i := 2) rfl)) (by decide) (by decide)) (g := (mkF m 4 #[.val (.int i0), .val (.int i1), .val (.int i2), .unset, .unset, .unset, .unset, .unset, .unset] [(.ref ob), (.ref ob)])) rfl (by rw [hml]; rfl) (Steps.refl _) (a := ob) (argsL := []) (rest := [(.ref ob)]) (lenOf own_f163 rfl) rfl (by show 2 * 0 + _ ≤ _; exact Nat.le_of_eq rfl) (hb hby at_4) (fun _ _ => ⟨rfl, e88, (by dsimp only [Pt.cells, Pt.slots]; decide), (by dsimp only [Pt.cells, Pt.slots]; decide)⟩)
  dsimp only [Pt.U, Pt.locs, Pt.cells, Pt.slots] at X89 l89 y89 z89 st89 hQ89
  subst l89 y89 z89
  obtain ⟨rfl, N89q, e89⟩ := hQ89
  have N89 := Fr.app N0 N89q
  refine Go.step (fun _ k => st89.trans k) ?_
  show Go p e below _ T89 (mkF m 7 #[.val (.int i0), .val (.int i1), .val (.int i2), .unset, .unset, .unset, .unset, .unset, .unset] [(.ref ob)])
  refine Go.step (fun _ k => XS.astoreN X89.here hx rfl (hb hby at_7) rfl rfl (l' := #[.val (.int i0), .val (.int i1), .val (.int i2), .val (.ref ob), .unset, .unset, .unset, .unset, .unset]) rfl k) ?_
  show Go p e below _ T89 (mkF m 8 #[.val (.int i0), .val (.int i1), .val (.int i2), .val (.ref ob), .unset, .unset, .unset, .unset, .unset] [])
  refine Go.step (fun _ k => XS.iloadN X89.here hx rfl (hb hby at_8) rfl k) ?_
  show Go p e below _ T89 (mkF m 9 #[.val (.int i0), .val (.int i1), .val (.int i2), .val (.ref ob), .unset, .unset, .unset, .unset, .unset] [(.int i2)])
  refine Go.step (fun _ k => XS.iconst X89.here hx rfl (hb hby at_9) k) ?_
  show Go p e below _ T89 (mkF m 10 #[.val (.int i0), .val (.int i1), .val (.int i2), .val (.ref ob), .unset, .unset, .unset, .unset, .unset] [(.int (3 : Int32)), (.int i2)])
  refine Go.step (fun _ k => XS.iand X89.here hx rfl (hb hby at_10) rfl k) ?_
  show Go p e below _ T89 (mkF m 11 #[.val (.int i0), .val (.int i1), .val (.int i2), .val (.ref ob), .unset, .unset, .unset, .unset, .unset] [(.int (i2 &&& (3 : Int32)))])
  obtain ⟨nk, e_nk⟩ : ∃ zq : Int32, zq = (i2 &&& (3 : Int32)) := ⟨_, rfl⟩
  rw [← e_nk]
  show Go p e below _ T89 (mkF m 11 #[.val (.int i0), .val (.int i1), .val (.int i2), .val (.ref ob), .unset, .unset, .unset, .unset, .unset] [(.int nk)])
  refine Go.step (fun _ k => XS.istore X89.here hx rfl (hb hby at_11) rfl (l' := #[.val (.int i0), .val (.int i1), .val (.int i2), .val (.ref ob), .val (.int nk), .unset, .unset, .unset, .unset]) rfl k) ?_
  show Go p e below _ T89 (mkF m 13 #[.val (.int i0), .val (.int i1), .val (.int i2), .val (.ref ob), .val (.int nk), .unset, .unset, .unset, .unset] [])
  refine Go.step (fun _ k => XS.iloadN X89.here hx rfl (hb hby at_13) rfl k) ?_
  show Go p e below _ T89 (mkF m 14 #[.val (.int i0), .val (.int i1), .val (.int i2), .val (.ref ob), .val (.int nk), .unset, .unset, .unset, .unset] [(.int i0)])
  refine Go.step (fun _ k => XS.sipush X89.here hx rfl (hb hby at_14) k) ?_
  show Go p e below _ T89 (mkF m 17 #[.val (.int i0), .val (.int i1), .val (.int i2), .val (.ref ob), .val (.int nk), .unset, .unset, .unset, .unset] [(.int (4095 : Int32)), (.int i0)])
  refine Go.step (fun _ k => XS.iand X89.here hx rfl (hb hby at_17) rfl k) ?_
  show Go p e below _ T89 (mkF m 18 #[.val (.int i0), .val (.int i1), .val (.int i2), .val (.ref ob), .val (.int nk), .unset, .unset, .unset, .unset] [(.int (i0 &&& (4095 : Int32)))])
  obtain ⟨nA, e_nA⟩ : ∃ zq : Int32, zq = (i0 &&& (4095 : Int32)) := ⟨_, rfl⟩
  rw [← e_nA]
  show Go p e below _ T89 (mkF m 18 #[.val (.int i0), .val (.int i1), .val (.int i2), .val (.ref ob), .val (.int nk), .unset, .unset, .unset, .unset] [(.int nA)])
  have hnA : 0 ≤ nA.toInt ∧ nA.toInt ≤ 4095 := by rw [e_nA]; exact own_a4095 _
  obtain ⟨T90, h90, k90, X90, e90, E90, A90, st90⟩ := newP X89 hx hZ (hw _ (List.mem_of_getElem? (i := 9) rfl)) e89 (g := (mkF m 18 #[.val (.int i0), .val (.int i1), .val (.int i2), .val (.ref ob), .val (.int nk), .unset, .unset, .unset, .unset] [(.int nA)])) rfl (hb hby at_18) rfl (own_nlt hnA.1) (cap := 4095) (own_cap (by omega)) (by decide) (by decide) (by decide)
  obtain ⟨lA, g90⟩ : ∃ z, z = h88.size := ⟨_, rfl⟩
  rw [← g90] at A90 st90
  have ne_ob_lA : ob ≠ lA := Nat.ne_of_lt (Nat.lt_of_lt_of_le E_ob.lt (Nat.le_of_eq g90.symm))
  have g_lA : n0 ≤ lA := Nat.le_trans Zn (Nat.le_of_eq g90.symm)
  replace Od := Od.ext E90
  replace E_ob := E_ob.ext E90
  replace F_bytes_ob := F_bytes_ob.ext E90
  replace F_end_ob := F_end_ob.ext E90
  replace F_lines_ob := F_lines_ob.ext E90
  replace F_start_ob := F_start_ob.ext E90
  replace Zn := Nat.le_trans Zn E90.1
  have B_lA : own_By Z h90 lA nA := own_By.new A90 (own_nlt hnA.1)
  refine Go.step st90 ?_
  show Go p e below _ T90 (mkF m 20 #[.val (.int i0), .val (.int i1), .val (.int i2), .val (.ref ob), .val (.int nk), .unset, .unset, .unset, .unset] [(.ref lA)])
  refine Go.step (fun _ k => XS.astore X90.here hx rfl (hb hby at_20) rfl rfl (l' := #[.val (.int i0), .val (.int i1), .val (.int i2), .val (.ref ob), .val (.int nk), .val (.ref lA), .unset, .unset, .unset]) rfl k) ?_
  show Go p e below _ T90 (mkF m 22 #[.val (.int i0), .val (.int i1), .val (.int i2), .val (.ref ob), .val (.int nk), .val (.ref lA), .unset, .unset, .unset] [])
  refine Go.step (fun _ k => XS.iloadN X90.here hx rfl (hb hby at_22) rfl k) ?_
  show Go p e below _ T90 (mkF m 23 #[.val (.int i0), .val (.int i1), .val (.int i2), .val (.ref ob), .val (.int nk), .val (.ref lA), .unset, .unset, .unset] [(.int i1)])
  refine Go.step (fun _ k => XS.sipush X90.here hx rfl (hb hby at_23) k) ?_
  show Go p e below _ T90 (mkF m 26 #[.val (.int i0), .val (.int i1), .val (.int i2), .val (.ref ob), .val (.int nk), .val (.ref lA), .unset, .unset, .unset] [(.int (4095 : Int32)), (.int i1)])
  refine Go.step (fun _ k => XS.iand X90.here hx rfl (hb hby at_26) rfl k) ?_
  show Go p e below _ T90 (mkF m 27 #[.val (.int i0), .val (.int i1), .val (.int i2), .val (.ref ob), .val (.int nk), .val (.ref lA), .unset, .unset, .unset] [(.int (i1 &&& (4095 : Int32)))])
  obtain ⟨nB, e_nB⟩ : ∃ zq : Int32, zq = (i1 &&& (4095 : Int32)) := ⟨_, rfl⟩
  rw [← e_nB]
  show Go p e below _ T90 (mkF m 27 #[.val (.int i0), .val (.int i1), .val (.int i2), .val (.ref ob), .val (.int nk), .val (.ref lA), .unset, .unset, .unset] [(.int nB)])
  have hnB : 0 ≤ nB.toInt ∧ nB.toInt ≤ 4095 := by rw [e_nB]; exact own_a4095 _
  obtain ⟨T91, h91, k91, X91, e91, E91, A91, st91⟩ := newP X90 hx hZ (hw _ (List.mem_of_getElem? (i := 9) rfl)) e90 (g := (mkF m 27 #[.val (.int i0), .val (.int i1), .val (.int i2), .val (.ref ob), .val (.int nk), .val (.ref lA), .unset, .unset, .unset] [(.int nB)])) rfl (hb hby at_27) rfl (own_nlt hnB.1) (cap := 4095) (own_cap (by omega)) (by decide) (by decide) (by decide)
  obtain ⟨lB, g91⟩ : ∃ z, z = h90.size := ⟨_, rfl⟩
  rw [← g91] at A91 st91
  have ne_ob_lB : ob ≠ lB := Nat.ne_of_lt (Nat.lt_of_lt_of_le E_ob.lt (Nat.le_of_eq g91.symm))
  have ne_lA_lB : lA ≠ lB := Nat.ne_of_lt (Nat.lt_of_lt_of_le B_lA.lt (Nat.le_of_eq g91.symm))
  have g_lB : n0 ≤ lB := Nat.le_trans Zn (Nat.le_of_eq g91.symm)
  replace Od := Od.ext E91
  replace E_ob := E_ob.ext E91
  replace F_bytes_ob := F_bytes_ob.ext E91
  replace F_end_ob := F_end_ob.ext E91
  replace F_lines_ob := F_lines_ob.ext E91
  replace F_start_ob := F_start_ob.ext E91
  replace B_lA := B_lA.ext E91
  replace Zn := Nat.le_trans Zn E91.1
  have B_lB : own_By Z h91 lB nB := own_By.new A91 (own_nlt hnB.1)
  refine Go.step st91 ?_
  show Go p e below _ T91 (mkF m 29 #[.val (.int i0), .val (.int i1), .val (.int i2), .val (.ref ob), .val (.int nk), .val (.ref lA), .unset, .unset, .unset] [(.ref lB)])
  refine Go.step (fun _ k => XS.astore X91.here hx rfl (hb hby at_29) rfl rfl (l' := #[.val (.int i0), .val (.int i1), .val (.int i2), .val (.ref ob), .val (.int nk), .val (.ref lA), .val (.ref lB), .unset, .unset]) rfl k) ?_
  show Go p e below _ T91 (mkF m 31 #[.val (.int i0), .val (.int i1), .val (.int i2), .val (.ref ob), .val (.int nk), .val (.ref lA), .val (.ref lB), .unset, .unset] [])
  refine Go.step (fun _ k => XS.iloadN X91.here hx rfl (hb hby at_31) rfl k) ?_
  show Go p e below _ T91 (mkF m 32 #[.val (.int i0), .val (.int i1), .val (.int i2), .val (.ref ob), .val (.int nk), .val (.ref lA), .val (.ref lB), .unset, .unset] [(.int i2)])
  refine Go.step (fun _ k => XS.iconst X91.here hx rfl (hb hby at_32) k) ?_
  show Go p e below _ T91 (mkF m 33 #[.val (.int i0), .val (.int i1), .val (.int i2), .val (.ref ob), .val (.int nk), .val (.ref lA), .val (.ref lB), .unset, .unset] [(.int (2 : Int32)), (.int i2)])
  refine Go.step (fun _ k => XS.iushr X91.here hx rfl (hb hby at_33) rfl k) ?_
  show Go p e below _ T91 (mkF m 34 #[.val (.int i0), .val (.int i1), .val (.int i2), .val (.ref ob), .val (.int nk), .val (.ref lA), .val (.ref lB), .unset, .unset] [(.int ((i2.toUInt32 >>> ((2 : Int32) &&& 31).toUInt32).toInt32))])
  refine Go.step (fun _ k => XS.sipush X91.here hx rfl (hb hby at_34) k) ?_
  show Go p e below _ T91 (mkF m 37 #[.val (.int i0), .val (.int i1), .val (.int i2), .val (.ref ob), .val (.int nk), .val (.ref lA), .val (.ref lB), .unset, .unset] [(.int (4095 : Int32)), (.int ((i2.toUInt32 >>> ((2 : Int32) &&& 31).toUInt32).toInt32))])
  refine Go.step (fun _ k => XS.iand X91.here hx rfl (hb hby at_37) rfl k) ?_
  show Go p e below _ T91 (mkF m 38 #[.val (.int i0), .val (.int i1), .val (.int i2), .val (.ref ob), .val (.int nk), .val (.ref lA), .val (.ref lB), .unset, .unset] [(.int (((i2.toUInt32 >>> ((2 : Int32) &&& 31).toUInt32).toInt32) &&& (4095 : Int32)))])
  obtain ⟨nD, e_nD⟩ : ∃ zq : Int32, zq = (((i2.toUInt32 >>> ((2 : Int32) &&& 31).toUInt32).toInt32) &&& (4095 : Int32)) := ⟨_, rfl⟩
  rw [← e_nD]
  show Go p e below _ T91 (mkF m 38 #[.val (.int i0), .val (.int i1), .val (.int i2), .val (.ref ob), .val (.int nk), .val (.ref lA), .val (.ref lB), .unset, .unset] [(.int nD)])
  have hnD : 0 ≤ nD.toInt ∧ nD.toInt ≤ 4095 := by rw [e_nD]; exact own_a4095 _
  obtain ⟨T92, h92, k92, X92, e92, E92, A92, st92⟩ := newP X91 hx hZ (hw _ (List.mem_of_getElem? (i := 9) rfl)) e91 (g := (mkF m 38 #[.val (.int i0), .val (.int i1), .val (.int i2), .val (.ref ob), .val (.int nk), .val (.ref lA), .val (.ref lB), .unset, .unset] [(.int nD)])) rfl (hb hby at_38) rfl (own_nlt hnD.1) (cap := 4095) (own_cap (by omega)) (by decide) (by decide) (by decide)
  obtain ⟨lD, g92⟩ : ∃ z, z = h91.size := ⟨_, rfl⟩
  rw [← g92] at A92 st92
  have ne_ob_lD : ob ≠ lD := Nat.ne_of_lt (Nat.lt_of_lt_of_le E_ob.lt (Nat.le_of_eq g92.symm))
  have ne_lA_lD : lA ≠ lD := Nat.ne_of_lt (Nat.lt_of_lt_of_le B_lA.lt (Nat.le_of_eq g92.symm))
  have ne_lB_lD : lB ≠ lD := Nat.ne_of_lt (Nat.lt_of_lt_of_le B_lB.lt (Nat.le_of_eq g92.symm))
  have g_lD : n0 ≤ lD := Nat.le_trans Zn (Nat.le_of_eq g92.symm)
  replace Od := Od.ext E92
  replace E_ob := E_ob.ext E92
  replace F_bytes_ob := F_bytes_ob.ext E92
  replace F_end_ob := F_end_ob.ext E92
  replace F_lines_ob := F_lines_ob.ext E92
  replace F_start_ob := F_start_ob.ext E92
  replace B_lA := B_lA.ext E92
  replace B_lB := B_lB.ext E92
  replace Zn := Nat.le_trans Zn E92.1
  have B_lD : own_By Z h92 lD nD := own_By.new A92 (own_nlt hnD.1)
  refine Go.step st92 ?_
  show Go p e below _ T92 (mkF m 40 #[.val (.int i0), .val (.int i1), .val (.int i2), .val (.ref ob), .val (.int nk), .val (.ref lA), .val (.ref lB), .unset, .unset] [(.ref lD)])
  refine Go.step (fun _ k => XS.astore X92.here hx rfl (hb hby at_40) rfl rfl (l' := #[.val (.int i0), .val (.int i1), .val (.int i2), .val (.ref ob), .val (.int nk), .val (.ref lA), .val (.ref lB), .val (.ref lD), .unset]) rfl k) ?_
  show Go p e below _ T92 (mkF m 42 #[.val (.int i0), .val (.int i1), .val (.int i2), .val (.ref ob), .val (.int nk), .val (.ref lA), .val (.ref lB), .val (.ref lD), .unset] [])
  have hR : own_Nl Z h92 ob 0 := ⟨E_ob, F_start_ob, F_end_ob, F_lines_ob, F_bytes_ob⟩
  refine Go.step (fun _ k => XS.iload X92.here hx rfl (hb hby at_42) rfl k) ?_
  show Go p e below _ T92 (mkF m 44 #[.val (.int i0), .val (.int i1), .val (.int i2), .val (.ref ob), .val (.int nk), .val (.ref lA), .val (.ref lB), .val (.ref lD), .unset] [(.int nk)])
  refine Go.step (fun _ k => XS.iconst X92.here hx rfl (hb hby at_44) k) ?_
  show Go p e below _ T92 (mkF m 45 #[.val (.int i0), .val (.int i1), .val (.int i2), .val (.ref ob), .val (.int nk), .val (.ref lA), .val (.ref lB), .val (.ref lD), .unset] [(.int (1 : Int32)), (.int nk)])
  by_cases hc45_93 : nk < (1 : Int32)
  · show Go p e below _ T92 (mkF m 45 #[.val (.int i0), .val (.int i1), .val (.int i2), .val (.ref ob), .val (.int nk), .val (.ref lA), .val (.ref lB), .val (.ref lD), .unset] [(.int (1 : Int32)), (.int nk)])
    refine Go.step (fun _ k => XS.icmpYes X92.here hx rfl (pc0 := 45) (pc' := 54) rfl (hb hby at_45) rfl (tlt hc45_93).1 (by decide) (by decide) k) ?_
    show Go p e below _ T92 (mkF m 54 #[.val (.int i0), .val (.int i1), .val (.int i2), .val (.ref ob), .val (.int nk), .val (.ref lA), .val (.ref lB), .val (.ref lD), .unset] [])
    refine Go.step (fun _ k => XS.iload X92.here hx rfl (hb hby at_54) rfl k) ?_
    show Go p e below _ T92 (mkF m 56 #[.val (.int i0), .val (.int i1), .val (.int i2), .val (.ref ob), .val (.int nk), .val (.ref lA), .val (.ref lB), .val (.ref lD), .unset] [(.int nk)])
    refine Go.step (fun _ k => XS.iconst X92.here hx rfl (hb hby at_56) k) ?_
    show Go p e below _ T92 (mkF m 57 #[.val (.int i0), .val (.int i1), .val (.int i2), .val (.ref ob), .val (.int nk), .val (.ref lA), .val (.ref lB), .val (.ref lD), .unset] [(.int (2 : Int32)), (.int nk)])
    by_cases hc57_94 : nk < (2 : Int32)
    · show Go p e below _ T92 (mkF m 57 #[.val (.int i0), .val (.int i1), .val (.int i2), .val (.ref ob), .val (.int nk), .val (.ref lA), .val (.ref lB), .val (.ref lD), .unset] [(.int (2 : Int32)), (.int nk)])
      refine Go.step (fun _ k => XS.icmpYes X92.here hx rfl (pc0 := 57) (pc' := 66) rfl (hb hby at_57) rfl (tlt hc57_94).1 (by decide) (by decide) k) ?_
      show Go p e below _ T92 (mkF m 66 #[.val (.int i0), .val (.int i1), .val (.int i2), .val (.ref ob), .val (.int nk), .val (.ref lA), .val (.ref lB), .val (.ref lD), .unset] [])
      refine Go.step (fun _ k => XS.aloadN X92.here hx rfl (hb hby at_66) rfl rfl k) ?_
      show Go p e below _ T92 (mkF m 67 #[.val (.int i0), .val (.int i1), .val (.int i2), .val (.ref ob), .val (.int nk), .val (.ref lA), .val (.ref lB), .val (.ref lD), .unset] [(.ref ob)])
      obtain ⟨cq95, kq95, q95a, q95b, q95c⟩ := isOf hZ e92 E_ob
      obtain ⟨_, _, ⟨T95, L95, k95, n95⟩, -, X95, ⟨Lc95, hQ95, l95, y95, z95⟩, st95⟩ := X92.virtualBack hx (y := (⟨"com/example/frugal_sieve/frugalsieve/server/Outbox", "clear", "()V"⟩ : MethodName)) (z := (⟨"com/example/frugal_sieve/frugalsieve/server/Outbox", "clear", "()V"⟩ : MethodName)) hown (mvT hZ (hw _ (List.mem_of_getElem? (i := 36) rfl))) (mvT hZ (hw _ (List.mem_of_getElem? (i := 37) rfl))) (notFace_of_selects (args := #[]) (mvT hZ (hw _ (List.mem_of_getElem? (i := 39) rfl)))) (mvT hZ (hw _ (List.mem_of_getElem? (i := 39) rfl))) (mvT hZ (hw _ (List.mem_of_getElem? (i := 38) rfl))) (by decide) (backOf (W := 0) (rmC1 l Z a0 hw [] ob (0 : Int32) h92 n0 Zn hR g_ob) hZ (hw _ (List.mem_of_getElem? (i := 40) rfl)) (hw _ (List.mem_of_getElem? (i := 2) rfl)) (by decide) (by decide)) q95a q95c (g := (mkF m 67 #[.val (.int i0), .val (.int i1), .val (.int i2), .val (.ref ob), .val (.int nk), .val (.ref lA), .val (.ref lB), .val (.ref lD), .unset] [(.ref ob)])) rfl (by rw [hml]; rfl) (Steps.refl _) (argsL := []) (rest := []) (lenOf own_f163 rfl) rfl (by show 2 * 0 + _ ≤ _; exact Nat.le_of_eq rfl) (hb hby at_67) (fun _ _ => ⟨rfl, e92, (by dsimp only [Pt.cells, Pt.slots]; decide), (by dsimp only [Pt.cells, Pt.slots]; decide)⟩)
      dsimp only [Pt.U, Pt.locs, Pt.cells, Pt.slots] at X95 l95 y95 z95 st95 hQ95
      subst l95 y95 z95
      obtain ⟨rfl, N95q, K95, hR⟩ := hQ95
      have N95 := Fr.app N89 N95q
      refine Go.step (fun _ k => st95.trans k) ?_
      replace Od := Od.keep K95 (allS g_ob all0)
      replace E_ob := E_ob.keep K95
      replace B_lA := B_lA.keep K95 (ninS (Ne.symm ne_ob_lA) nin0)
      replace B_lB := B_lB.keep K95 (ninS (Ne.symm ne_ob_lB) nin0)
      replace B_lD := B_lD.keep K95 (ninS (Ne.symm ne_ob_lD) nin0)
      replace Zn := Nat.le_trans Zn K95.1
      show Go p e below _ T95 (mkF m 70 #[.val (.int i0), .val (.int i1), .val (.int i2), .val (.ref ob), .val (.int nk), .val (.ref lA), .val (.ref lB), .val (.ref lD), .unset] [])
      refine Go.step (fun _ k => XS.aloadN X95.here hx rfl (hb hby at_70) rfl rfl k) ?_
      show Go p e below _ T95 (mkF m 71 #[.val (.int i0), .val (.int i1), .val (.int i2), .val (.ref ob), .val (.int nk), .val (.ref lA), .val (.ref lB), .val (.ref lD), .unset] [(.ref ob)])
      obtain ⟨cq96, kq96, q96a, q96b, q96c⟩ := isOf hZ rfl E_ob
      obtain ⟨_, _, ⟨T96, L96, k96, n96⟩, -, X96, ⟨Lc96, hQ96, l96, y96, z96⟩, st96⟩ := X95.virtualBack hx (y := (⟨"com/example/frugal_sieve/frugalsieve/server/Outbox", "isEmpty", "()Z"⟩ : MethodName)) (z := (⟨"com/example/frugal_sieve/frugalsieve/server/Outbox", "isEmpty", "()Z"⟩ : MethodName)) hown (mvT hZ (hw _ (List.mem_of_getElem? (i := 43) rfl))) (mvT hZ (hw _ (List.mem_of_getElem? (i := 44) rfl))) (notFace_of_selects (args := #[]) (mvT hZ (hw _ (List.mem_of_getElem? (i := 46) rfl)))) (mvT hZ (hw _ (List.mem_of_getElem? (i := 46) rfl))) (mvT hZ (hw _ (List.mem_of_getElem? (i := 45) rfl))) (by decide) (backOf (W := 0) (rmE l Z a0 hw [] ob T95.heap n0 Zn hR.2.1 hR.2.2.1) hZ (hw _ (List.mem_of_getElem? (i := 47) rfl)) (hw _ (List.mem_of_getElem? (i := 2) rfl)) (by decide) (by decide)) q96a q96c (g := (mkF m 71 #[.val (.int i0), .val (.int i1), .val (.int i2), .val (.ref ob), .val (.int nk), .val (.ref lA), .val (.ref lB), .val (.ref lD), .unset] [(.ref ob)])) rfl (by rw [hml]; rfl) (Steps.refl _) (argsL := []) (rest := []) (lenOf own_f164 rfl) rfl (by show 2 * 0 + _ ≤ _; exact Nat.le_of_eq rfl) (hb hby at_71) (fun _ _ => ⟨rfl, rfl, (by dsimp only [Pt.cells, Pt.slots]; decide), (by dsimp only [Pt.cells, Pt.slots]; decide)⟩)
      dsimp only [Pt.U, Pt.locs, Pt.cells, Pt.slots] at X96 l96 y96 z96 st96 hQ96
      subst l96 y96 z96
      obtain ⟨rfl, N96q, e96⟩ := hQ96
      have N96 := Fr.app N95 N96q
      refine Go.step (fun _ k => st96.trans k) ?_
      show Go p e below _ T96 (mkF m 74 #[.val (.int i0), .val (.int i1), .val (.int i2), .val (.ref ob), .val (.int nk), .val (.ref lA), .val (.ref lB), .val (.ref lD), .unset] [(.int (1 : Int32))])
      refine Go.step (fun _ k => XS.ifNo X96.here hx rfl (hb hby at_74) rfl ((if0 _ _).trans (feq (by decide)).1) k) ?_
      show Go p e below _ T96 (mkF m 77 #[.val (.int i0), .val (.int i1), .val (.int i2), .val (.ref ob), .val (.int nk), .val (.ref lA), .val (.ref lB), .val (.ref lD), .unset] [])
      refine Go.step (fun _ k => XS.aloadN X96.here hx rfl (hb hby at_77) rfl rfl k) ?_
      show Go p e below _ T96 (mkF m 78 #[.val (.int i0), .val (.int i1), .val (.int i2), .val (.ref ob), .val (.int nk), .val (.ref lA), .val (.ref lB), .val (.ref lD), .unset] [(.ref ob)])
      obtain ⟨cq97, kq97, q97a, q97b, q97c⟩ := isOf hZ e96 E_ob
      obtain ⟨_, _, ⟨T97, L97, k97, n97⟩, -, X97, ⟨Lc97, hQ97, l97, y97, z97⟩, st97⟩ := X96.virtualBack hx (y := (⟨"com/example/frugal_sieve/frugalsieve/server/Outbox", "waitingBytes", "()J"⟩ : MethodName)) (z := (⟨"com/example/frugal_sieve/frugalsieve/server/Outbox", "waitingBytes", "()J"⟩ : MethodName)) hown (mvT hZ (hw _ (List.mem_of_getElem? (i := 48) rfl))) (mvT hZ (hw _ (List.mem_of_getElem? (i := 49) rfl))) (notFace_of_selects (args := #[]) (mvT hZ (hw _ (List.mem_of_getElem? (i := 51) rfl)))) (mvT hZ (hw _ (List.mem_of_getElem? (i := 51) rfl))) (mvT hZ (hw _ (List.mem_of_getElem? (i := 50) rfl))) (by decide) (backOf (W := 0) (rmB l Z a0 hw [] ob (0 : Int32) (0 : Int32) T95.heap n0 Zn hR.2.1 hR.2.2.1 hR.2.2.2.1) hZ (hw _ (List.mem_of_getElem? (i := 52) rfl)) (hw _ (List.mem_of_getElem? (i := 2) rfl)) (by decide) (by decide)) q97a q97c (g := (mkF m 78 #[.val (.int i0), .val (.int i1), .val (.int i2), .val (.ref ob), .val (.int nk), .val (.ref lA), .val (.ref lB), .val (.ref lD), .unset] [(.ref ob)])) rfl (by rw [hml]; rfl) (Steps.refl _) (argsL := []) (rest := []) (lenOf own_f165 rfl) rfl (by show 2 * 0 + _ ≤ _; exact Nat.le_of_eq rfl) (hb hby at_78) (fun _ _ => ⟨rfl, e96, (by dsimp only [Pt.cells, Pt.slots]; decide), (by dsimp only [Pt.cells, Pt.slots]; decide)⟩)
      dsimp only [Pt.U, Pt.locs, Pt.cells, Pt.slots] at X97 l97 y97 z97 st97 hQ97
      subst l97 y97 z97
      obtain ⟨rfl, N97q, e97⟩ := hQ97
      have N97 := Fr.app N96 N97q
      refine Go.step (fun _ k => st97.trans k) ?_
      show Go p e below _ T97 (mkF m 81 #[.val (.int i0), .val (.int i1), .val (.int i2), .val (.ref ob), .val (.int nk), .val (.ref lA), .val (.ref lB), .val (.ref lD), .unset] [(.long (((0 : Int32) - (0 : Int32)).toInt64 + ((96 : Int64) * ((0 : Int32).toInt64))))])
      refine Go.step (fun _ k => XS.lconst X97.here hx rfl (hb hby at_81) k) ?_
      show Go p e below _ T97 (mkF m 82 #[.val (.int i0), .val (.int i1), .val (.int i2), .val (.ref ob), .val (.int nk), .val (.ref lA), .val (.ref lB), .val (.ref lD), .unset] [(.long (0 : Int64)), (.long (((0 : Int32) - (0 : Int32)).toInt64 + ((96 : Int64) * ((0 : Int32).toInt64))))])
      refine Go.step (fun _ k => XS.lcmp X97.here hx rfl (hb hby at_82) rfl k) ?_
      show Go p e below _ T97 (mkF m 83 #[.val (.int i0), .val (.int i1), .val (.int i2), .val (.ref ob), .val (.int nk), .val (.ref lA), .val (.ref lB), .val (.ref lD), .unset] [(.int (lcmpW (((0 : Int32) - (0 : Int32)).toInt64 + ((96 : Int64) * ((0 : Int32).toInt64))) (0 : Int64)))])
      refine Go.step (fun _ k => XS.ifNo X97.here hx rfl (hb hby at_83) rfl ((if0 _ _).trans (teq (by decide)).2) k) ?_
      show Go p e below _ T97 (mkF m 86 #[.val (.int i0), .val (.int i1), .val (.int i2), .val (.ref ob), .val (.int nk), .val (.ref lA), .val (.ref lB), .val (.ref lD), .unset] [])
      refine Go.step (fun _ k => XS.iconst X97.here hx rfl (hb hby at_86) k) ?_
      show Go p e below _ T97 (mkF m 87 #[.val (.int i0), .val (.int i1), .val (.int i2), .val (.ref ob), .val (.int nk), .val (.ref lA), .val (.ref lB), .val (.ref lD), .unset] [(.int (1 : Int32))])
      refine Go.step (fun _ k => XS.goto X97.here hx rfl (pc0 := 87) (pc' := 91) rfl (hb hby at_87) (by decide) (by decide) k) ?_
      show Go p e below _ T97 (mkF m 91 #[.val (.int i0), .val (.int i1), .val (.int i2), .val (.ref ob), .val (.int nk), .val (.ref lA), .val (.ref lB), .val (.ref lD), .unset] [(.int (1 : Int32))])
      refine Go.step (fun _ k => XS.istore X97.here hx rfl (hb hby at_91) rfl (l' := #[.val (.int i0), .val (.int i1), .val (.int i2), .val (.ref ob), .val (.int nk), .val (.ref lA), .val (.ref lB), .val (.ref lD), .val (.int (1 : Int32))]) rfl k) ?_
      show Go p e below _ T97 (mkF m 93 #[.val (.int i0), .val (.int i1), .val (.int i2), .val (.ref ob), .val (.int nk), .val (.ref lA), .val (.ref lB), .val (.ref lD), .val (.int (1 : Int32))] [])
      refine Go.step (fun _ k => XS.aloadN X97.here hx rfl (hb hby at_93) rfl rfl k) ?_
      show Go p e below _ T97 (mkF m 94 #[.val (.int i0), .val (.int i1), .val (.int i2), .val (.ref ob), .val (.int nk), .val (.ref lA), .val (.ref lB), .val (.ref lD), .val (.int (1 : Int32))] [(.ref ob)])
      refine Go.step (fun _ k => XS.aload X97.here hx rfl (hb hby at_94) rfl rfl k) ?_
      show Go p e below _ T97 (mkF m 96 #[.val (.int i0), .val (.int i1), .val (.int i2), .val (.ref ob), .val (.int nk), .val (.ref lA), .val (.ref lB), .val (.ref lD), .val (.int (1 : Int32))] [(.ref lD), (.ref ob)])
      obtain ⟨cq99, kq99, q99a, q99b, q99c⟩ := isOf hZ e97 E_ob
      obtain ⟨_, _, ⟨T99, L99, k99, n99⟩, -, X99, ⟨Lc99, hQ99, l99, y99, z99⟩, st99⟩ := X97.virtualBack hx (y := (⟨"com/example/frugal_sieve/frugalsieve/server/Outbox", "write", "([B)V"⟩ : MethodName)) (z := (⟨"com/example/frugal_sieve/frugalsieve/server/Outbox", "write", "([B)V"⟩ : MethodName)) hown (mvT hZ (hw _ (List.mem_of_getElem? (i := 10) rfl))) (mvT hZ (hw _ (List.mem_of_getElem? (i := 11) rfl))) (notFace_of_selects (args := #[]) (mvT hZ (hw _ (List.mem_of_getElem? (i := 13) rfl)))) (mvT hZ (hw _ (List.mem_of_getElem? (i := 13) rfl))) (mvT hZ (hw _ (List.mem_of_getElem? (i := 12) rfl))) (by decide) (backOf (W := 0) (rmW1 l Z a0 hw [] ob lD (0 : Int32) [lA, lB, lD] aE nD T95.heap n0 Zn hR S0 B0 Od g_ob B_lD hnD (own_P3 B_lA.lt B_lB.lt B_lD.lt) (List.mem_of_getElem? (i := 2) rfl)) hZ (hw _ (List.mem_of_getElem? (i := 14) rfl)) (hw _ (List.mem_of_getElem? (i := 2) rfl)) (by decide) (by decide)) q99a q99c (g := (mkF m 96 #[.val (.int i0), .val (.int i1), .val (.int i2), .val (.ref ob), .val (.int nk), .val (.ref lA), .val (.ref lB), .val (.ref lD), .val (.int (1 : Int32))] [(.ref lD), (.ref ob)])) rfl (by rw [hml]; rfl) (Steps.refl _) (argsL := [(.ref lD)]) (rest := []) (lenOf own_f166 rfl) rfl (by show 2 * 0 + _ ≤ _; exact Nat.le_of_eq rfl) (hb hby at_96) (fun _ _ => ⟨rfl, e97, (by dsimp only [Pt.cells, Pt.slots]; decide), (by dsimp only [Pt.cells, Pt.slots]; decide)⟩)
      dsimp only [Pt.U, Pt.locs, Pt.cells, Pt.slots] at X99 l99 y99 z99 st99 hQ99
      subst l99 y99 z99
      obtain ⟨b98q, zb98q, rfl, N99q, K99, hR, hloc⟩ := hQ99
      have N99 := Fr.app N97 N99q
      refine Go.step (fun _ k => st99.trans k) ?_
      replace Od := Od.keep K99 (allS g_ob all0)
      replace E_ob := E_ob.keep K99
      replace B_lA := B_lA.keep K99 (ninS (Ne.symm ne_ob_lA) nin0)
      replace B_lB := B_lB.keep K99 (ninS (Ne.symm ne_ob_lB) nin0)
      replace B_lD := B_lD.keep K99 (ninS (Ne.symm ne_ob_lD) nin0)
      replace Zn := Nat.le_trans Zn K99.1
      show Go p e below _ T99 (mkF m 99 #[.val (.int i0), .val (.int i1), .val (.int i2), .val (.ref ob), .val (.int nk), .val (.ref lA), .val (.ref lB), .val (.ref lD), .val (.int (1 : Int32))] [])
      have g_b98q := hR.2.2.2.2.2.2.1
      have np_b98q := hR.2.2.2.2.2.2.2.1
      have ne_lA_b98q : lA ≠ b98q := fun q => np_b98q (q ▸ (List.mem_of_getElem? (i := 0) rfl))
      have ne_lB_b98q : lB ≠ b98q := fun q => np_b98q (q ▸ (List.mem_of_getElem? (i := 1) rfl))
      have ne_lD_b98q : lD ≠ b98q := fun q => np_b98q (q ▸ (List.mem_of_getElem? (i := 2) rfl))
      refine Go.step (fun _ k => XS.iload X99.here hx rfl (hb hby at_99) rfl k) ?_
      show Go p e below _ T99 (mkF m 101 #[.val (.int i0), .val (.int i1), .val (.int i2), .val (.ref ob), .val (.int nk), .val (.ref lA), .val (.ref lB), .val (.ref lD), .val (.int (1 : Int32))] [(.int (1 : Int32))])
      refine Go.step (fun _ k => XS.ifNo X99.here hx rfl (hb hby at_101) rfl ((if0 _ _).trans (feq (by decide)).1) k) ?_
      show Go p e below _ T99 (mkF m 104 #[.val (.int i0), .val (.int i1), .val (.int i2), .val (.ref ob), .val (.int nk), .val (.ref lA), .val (.ref lB), .val (.ref lD), .val (.int (1 : Int32))] [])
      refine Go.step (fun _ k => XS.aloadN X99.here hx rfl (hb hby at_104) rfl rfl k) ?_
      show Go p e below _ T99 (mkF m 105 #[.val (.int i0), .val (.int i1), .val (.int i2), .val (.ref ob), .val (.int nk), .val (.ref lA), .val (.ref lB), .val (.ref lD), .val (.int (1 : Int32))] [(.ref ob)])
      obtain ⟨cq100, kq100, q100a, q100b, q100c⟩ := isOf hZ rfl E_ob
      obtain ⟨_, _, ⟨T100, L100, k100, n100⟩, -, X100, ⟨Lc100, hQ100, l100, y100, z100⟩, st100⟩ := X99.virtualBack hx (y := (⟨"com/example/frugal_sieve/frugalsieve/server/Outbox", "waitingBytes", "()J"⟩ : MethodName)) (z := (⟨"com/example/frugal_sieve/frugalsieve/server/Outbox", "waitingBytes", "()J"⟩ : MethodName)) hown (mvT hZ (hw _ (List.mem_of_getElem? (i := 48) rfl))) (mvT hZ (hw _ (List.mem_of_getElem? (i := 49) rfl))) (notFace_of_selects (args := #[]) (mvT hZ (hw _ (List.mem_of_getElem? (i := 51) rfl)))) (mvT hZ (hw _ (List.mem_of_getElem? (i := 51) rfl))) (mvT hZ (hw _ (List.mem_of_getElem? (i := 50) rfl))) (by decide) (backOf (W := 0) (rmB l Z a0 hw [] ob ((0 : Int32) + (nD + (2 : Int32))) ((0 : Int32) + (1 : Int32)) T99.heap n0 Zn hR.2.1 hR.2.2.1 hR.2.2.2.1) hZ (hw _ (List.mem_of_getElem? (i := 52) rfl)) (hw _ (List.mem_of_getElem? (i := 2) rfl)) (by decide) (by decide)) q100a q100c (g := (mkF m 105 #[.val (.int i0), .val (.int i1), .val (.int i2), .val (.ref ob), .val (.int nk), .val (.ref lA), .val (.ref lB), .val (.ref lD), .val (.int (1 : Int32))] [(.ref ob)])) rfl (by rw [hml]; rfl) (Steps.refl _) (argsL := []) (rest := []) (lenOf own_f165 rfl) rfl (by show 2 * 0 + _ ≤ _; exact Nat.le_of_eq rfl) (hb hby at_105) (fun _ _ => ⟨rfl, rfl, (by dsimp only [Pt.cells, Pt.slots]; decide), (by dsimp only [Pt.cells, Pt.slots]; decide)⟩)
      dsimp only [Pt.U, Pt.locs, Pt.cells, Pt.slots] at X100 l100 y100 z100 st100 hQ100
      subst l100 y100 z100
      obtain ⟨rfl, N100q, e100⟩ := hQ100
      have N100 := Fr.app N99 N100q
      refine Go.step (fun _ k => st100.trans k) ?_
      show Go p e below _ T100 (mkF m 108 #[.val (.int i0), .val (.int i1), .val (.int i2), .val (.ref ob), .val (.int nk), .val (.ref lA), .val (.ref lB), .val (.ref lD), .val (.int (1 : Int32))] [(.long ((((0 : Int32) + (nD + (2 : Int32))) - (0 : Int32)).toInt64 + ((96 : Int64) * (((0 : Int32) + (1 : Int32)).toInt64))))])
      refine Go.step (fun _ k => XS.aload X100.here hx rfl (hb hby at_108) rfl rfl k) ?_
      show Go p e below _ T100 (mkF m 110 #[.val (.int i0), .val (.int i1), .val (.int i2), .val (.ref ob), .val (.int nk), .val (.ref lA), .val (.ref lB), .val (.ref lD), .val (.int (1 : Int32))] [(.ref lD), (.long ((((0 : Int32) + (nD + (2 : Int32))) - (0 : Int32)).toInt64 + ((96 : Int64) * (((0 : Int32) + (1 : Int32)).toInt64))))])
      obtain ⟨_, _, ⟨cl101, Ar101, _, S101, Nn101, _, _⟩, _⟩ := id B_lD
      refine Go.step (X100.arraylength hx (by rw [e100]; exact Ar101.1) (State.isArrayOf_alike hZ.alike Ar101.2.1) (g := (mkF m 110 #[.val (.int i0), .val (.int i1), .val (.int i2), .val (.ref ob), .val (.int nk), .val (.ref lA), .val (.ref lB), .val (.ref lD), .val (.int (1 : Int32))] [(.ref lD), (.long ((((0 : Int32) + (nD + (2 : Int32))) - (0 : Int32)).toInt64 + ((96 : Int64) * (((0 : Int32) + (1 : Int32)).toInt64))))])) rfl rfl (hb hby at_110)) ?_
      rw [len_of S101 Nn101]
      show Go p e below _ T100 (mkF m 111 #[.val (.int i0), .val (.int i1), .val (.int i2), .val (.ref ob), .val (.int nk), .val (.ref lA), .val (.ref lB), .val (.ref lD), .val (.int (1 : Int32))] [(.int nD), (.long ((((0 : Int32) + (nD + (2 : Int32))) - (0 : Int32)).toInt64 + ((96 : Int64) * (((0 : Int32) + (1 : Int32)).toInt64))))])
      refine Go.step (fun _ k => XS.iconst X100.here hx rfl (hb hby at_111) k) ?_
      show Go p e below _ T100 (mkF m 112 #[.val (.int i0), .val (.int i1), .val (.int i2), .val (.ref ob), .val (.int nk), .val (.ref lA), .val (.ref lB), .val (.ref lD), .val (.int (1 : Int32))] [(.int (2 : Int32)), (.int nD), (.long ((((0 : Int32) + (nD + (2 : Int32))) - (0 : Int32)).toInt64 + ((96 : Int64) * (((0 : Int32) + (1 : Int32)).toInt64))))])
      refine Go.step (fun _ k => XS.iadd X100.here hx rfl (hb hby at_112) rfl k) ?_
      show Go p e below _ T100 (mkF m 113 #[.val (.int i0), .val (.int i1), .val (.int i2), .val (.ref ob), .val (.int nk), .val (.ref lA), .val (.ref lB), .val (.ref lD), .val (.int (1 : Int32))] [(.int (nD + (2 : Int32))), (.long ((((0 : Int32) + (nD + (2 : Int32))) - (0 : Int32)).toInt64 + ((96 : Int64) * (((0 : Int32) + (1 : Int32)).toInt64))))])
      refine Go.step (fun _ k => XS.bipush X100.here hx rfl (hb hby at_113) k) ?_
      show Go p e below _ T100 (mkF m 115 #[.val (.int i0), .val (.int i1), .val (.int i2), .val (.ref ob), .val (.int nk), .val (.ref lA), .val (.ref lB), .val (.ref lD), .val (.int (1 : Int32))] [(.int (96 : Int32)), (.int (nD + (2 : Int32))), (.long ((((0 : Int32) + (nD + (2 : Int32))) - (0 : Int32)).toInt64 + ((96 : Int64) * (((0 : Int32) + (1 : Int32)).toInt64))))])
      refine Go.step (fun _ k => XS.iadd X100.here hx rfl (hb hby at_115) rfl k) ?_
      show Go p e below _ T100 (mkF m 116 #[.val (.int i0), .val (.int i1), .val (.int i2), .val (.ref ob), .val (.int nk), .val (.ref lA), .val (.ref lB), .val (.ref lD), .val (.int (1 : Int32))] [(.int ((nD + (2 : Int32)) + (96 : Int32))), (.long ((((0 : Int32) + (nD + (2 : Int32))) - (0 : Int32)).toInt64 + ((96 : Int64) * (((0 : Int32) + (1 : Int32)).toInt64))))])
      refine Go.step (fun _ k => XS.i2l X100.here hx rfl (hb hby at_116) rfl k) ?_
      show Go p e below _ T100 (mkF m 117 #[.val (.int i0), .val (.int i1), .val (.int i2), .val (.ref ob), .val (.int nk), .val (.ref lA), .val (.ref lB), .val (.ref lD), .val (.int (1 : Int32))] [(.long (((nD + (2 : Int32)) + (96 : Int32)).toInt64)), (.long ((((0 : Int32) + (nD + (2 : Int32))) - (0 : Int32)).toInt64 + ((96 : Int64) * (((0 : Int32) + (1 : Int32)).toInt64))))])
      refine Go.step (fun _ k => XS.lcmp X100.here hx rfl (hb hby at_117) rfl k) ?_
      show Go p e below _ T100 (mkF m 118 #[.val (.int i0), .val (.int i1), .val (.int i2), .val (.ref ob), .val (.int nk), .val (.ref lA), .val (.ref lB), .val (.ref lD), .val (.int (1 : Int32))] [(.int (lcmpW ((((0 : Int32) + (nD + (2 : Int32))) - (0 : Int32)).toInt64 + ((96 : Int64) * (((0 : Int32) + (1 : Int32)).toInt64))) (((nD + (2 : Int32)) + (96 : Int32)).toInt64)))])
      refine Go.step (fun _ k => XS.ifNo X100.here hx rfl (hb hby at_118) rfl ((if0 _ _).trans (teq (own_wb hnD)).2) k) ?_
      show Go p e below _ T100 (mkF m 121 #[.val (.int i0), .val (.int i1), .val (.int i2), .val (.ref ob), .val (.int nk), .val (.ref lA), .val (.ref lB), .val (.ref lD), .val (.int (1 : Int32))] [])
      refine Go.step (fun _ k => XS.iconst X100.here hx rfl (hb hby at_121) k) ?_
      show Go p e below _ T100 (mkF m 122 #[.val (.int i0), .val (.int i1), .val (.int i2), .val (.ref ob), .val (.int nk), .val (.ref lA), .val (.ref lB), .val (.ref lD), .val (.int (1 : Int32))] [(.int (1 : Int32))])
      refine Go.step (fun _ k => XS.goto X100.here hx rfl (pc0 := 122) (pc' := 126) rfl (hb hby at_122) (by decide) (by decide) k) ?_
      show Go p e below _ T100 (mkF m 126 #[.val (.int i0), .val (.int i1), .val (.int i2), .val (.ref ob), .val (.int nk), .val (.ref lA), .val (.ref lB), .val (.ref lD), .val (.int (1 : Int32))] [(.int (1 : Int32))])
      refine Go.step (fun _ k => XS.istore X100.here hx rfl (hb hby at_126) rfl (l' := #[.val (.int i0), .val (.int i1), .val (.int i2), .val (.ref ob), .val (.int nk), .val (.ref lA), .val (.ref lB), .val (.ref lD), .val (.int (1 : Int32))]) rfl k) ?_
      show Go p e below _ T100 (mkF m 128 #[.val (.int i0), .val (.int i1), .val (.int i2), .val (.ref ob), .val (.int nk), .val (.ref lA), .val (.ref lB), .val (.ref lD), .val (.int (1 : Int32))] [])
      refine Go.step (fun _ k => XS.aloadN X100.here hx rfl (hb hby at_128) rfl rfl k) ?_
      show Go p e below _ T100 (mkF m 129 #[.val (.int i0), .val (.int i1), .val (.int i2), .val (.ref ob), .val (.int nk), .val (.ref lA), .val (.ref lB), .val (.ref lD), .val (.int (1 : Int32))] [(.ref ob)])
      obtain ⟨cq102, kq102, q102a, q102b, q102c⟩ := isOf hZ e100 E_ob
      obtain ⟨_, _, ⟨T102, L102, k102, n102⟩, -, X102, ⟨Lc102, hQ102, l102, y102, z102⟩, st102⟩ := X100.virtualBack hx (y := (⟨"com/example/frugal_sieve/frugalsieve/server/Outbox", "clear", "()V"⟩ : MethodName)) (z := (⟨"com/example/frugal_sieve/frugalsieve/server/Outbox", "clear", "()V"⟩ : MethodName)) hown (mvT hZ (hw _ (List.mem_of_getElem? (i := 36) rfl))) (mvT hZ (hw _ (List.mem_of_getElem? (i := 37) rfl))) (notFace_of_selects (args := #[]) (mvT hZ (hw _ (List.mem_of_getElem? (i := 39) rfl)))) (mvT hZ (hw _ (List.mem_of_getElem? (i := 39) rfl))) (mvT hZ (hw _ (List.mem_of_getElem? (i := 38) rfl))) (by decide) (backOf (W := 0) (rmC2 l Z a0 hw [] ob ((0 : Int32) + (nD + (2 : Int32))) ((0 : Int32) + (1 : Int32)) [lA, lB, lD] b98q zb98q 4097 T99.heap n0 Zn hR g_ob) hZ (hw _ (List.mem_of_getElem? (i := 40) rfl)) (hw _ (List.mem_of_getElem? (i := 2) rfl)) (by decide) (by decide)) q102a q102c (g := (mkF m 129 #[.val (.int i0), .val (.int i1), .val (.int i2), .val (.ref ob), .val (.int nk), .val (.ref lA), .val (.ref lB), .val (.ref lD), .val (.int (1 : Int32))] [(.ref ob)])) rfl (by rw [hml]; rfl) (Steps.refl _) (argsL := []) (rest := []) (lenOf own_f163 rfl) rfl (by show 2 * 0 + _ ≤ _; exact Nat.le_of_eq rfl) (hb hby at_129) (fun _ _ => ⟨rfl, e100, (by dsimp only [Pt.cells, Pt.slots]; decide), (by dsimp only [Pt.cells, Pt.slots]; decide)⟩)
      dsimp only [Pt.U, Pt.locs, Pt.cells, Pt.slots] at X102 l102 y102 z102 st102 hQ102
      subst l102 y102 z102
      obtain ⟨rfl, N102q, K102, hD⟩ := hQ102
      have N102 := Fr.app N100 N102q
      refine Go.step (fun _ k => st102.trans k) ?_
      replace Od := Od.keep K102 (allS g_ob all0)
      replace E_ob := E_ob.keep K102
      replace B_lA := B_lA.keep K102 (ninS (Ne.symm ne_ob_lA) nin0)
      replace B_lB := B_lB.keep K102 (ninS (Ne.symm ne_ob_lB) nin0)
      replace B_lD := B_lD.keep K102 (ninS (Ne.symm ne_ob_lD) nin0)
      replace Zn := Nat.le_trans Zn K102.1
      show Go p e below _ T102 (mkF m 132 #[.val (.int i0), .val (.int i1), .val (.int i2), .val (.ref ob), .val (.int nk), .val (.ref lA), .val (.ref lB), .val (.ref lD), .val (.int (1 : Int32))] [])
      have hF : Fld Z T102.heap ob "com/example/frugal_sieve/frugalsieve/server/Outbox" "start" "I" (.int (0 : Int32)) ∧ Fld Z T102.heap ob "com/example/frugal_sieve/frugalsieve/server/Outbox" "end" "I" (.int (0 : Int32)) ∧ Fld Z T102.heap ob "com/example/frugal_sieve/frugalsieve/server/Outbox" "lines" "I" (.int (0 : Int32)) := hD.elim (fun q => ⟨q.2.1, q.2.2.1, q.2.2.2.1⟩) (fun q => ⟨q.2.1, q.2.2.1, q.2.2.2.1⟩)
      refine Go.step (fun _ k => XS.iload X102.here hx rfl (hb hby at_132) rfl k) ?_
      show Go p e below _ T102 (mkF m 134 #[.val (.int i0), .val (.int i1), .val (.int i2), .val (.ref ob), .val (.int nk), .val (.ref lA), .val (.ref lB), .val (.ref lD), .val (.int (1 : Int32))] [(.int (1 : Int32))])
      refine Go.step (fun _ k => XS.ifNo X102.here hx rfl (hb hby at_134) rfl ((if0 _ _).trans (feq (by decide)).1) k) ?_
      show Go p e below _ T102 (mkF m 137 #[.val (.int i0), .val (.int i1), .val (.int i2), .val (.ref ob), .val (.int nk), .val (.ref lA), .val (.ref lB), .val (.ref lD), .val (.int (1 : Int32))] [])
      refine Go.step (fun _ k => XS.aloadN X102.here hx rfl (hb hby at_137) rfl rfl k) ?_
      show Go p e below _ T102 (mkF m 138 #[.val (.int i0), .val (.int i1), .val (.int i2), .val (.ref ob), .val (.int nk), .val (.ref lA), .val (.ref lB), .val (.ref lD), .val (.int (1 : Int32))] [(.ref ob)])
      obtain ⟨cq103, kq103, q103a, q103b, q103c⟩ := isOf hZ rfl E_ob
      obtain ⟨_, _, ⟨T103, L103, k103, n103⟩, -, X103, ⟨Lc103, hQ103, l103, y103, z103⟩, st103⟩ := X102.virtualBack hx (y := (⟨"com/example/frugal_sieve/frugalsieve/server/Outbox", "isEmpty", "()Z"⟩ : MethodName)) (z := (⟨"com/example/frugal_sieve/frugalsieve/server/Outbox", "isEmpty", "()Z"⟩ : MethodName)) hown (mvT hZ (hw _ (List.mem_of_getElem? (i := 43) rfl))) (mvT hZ (hw _ (List.mem_of_getElem? (i := 44) rfl))) (notFace_of_selects (args := #[]) (mvT hZ (hw _ (List.mem_of_getElem? (i := 46) rfl)))) (mvT hZ (hw _ (List.mem_of_getElem? (i := 46) rfl))) (mvT hZ (hw _ (List.mem_of_getElem? (i := 45) rfl))) (by decide) (backOf (W := 0) (rmE l Z a0 hw [] ob T102.heap n0 Zn hF.1 hF.2.1) hZ (hw _ (List.mem_of_getElem? (i := 47) rfl)) (hw _ (List.mem_of_getElem? (i := 2) rfl)) (by decide) (by decide)) q103a q103c (g := (mkF m 138 #[.val (.int i0), .val (.int i1), .val (.int i2), .val (.ref ob), .val (.int nk), .val (.ref lA), .val (.ref lB), .val (.ref lD), .val (.int (1 : Int32))] [(.ref ob)])) rfl (by rw [hml]; rfl) (Steps.refl _) (argsL := []) (rest := []) (lenOf own_f164 rfl) rfl (by show 2 * 0 + _ ≤ _; exact Nat.le_of_eq rfl) (hb hby at_138) (fun _ _ => ⟨rfl, rfl, (by dsimp only [Pt.cells, Pt.slots]; decide), (by dsimp only [Pt.cells, Pt.slots]; decide)⟩)
      dsimp only [Pt.U, Pt.locs, Pt.cells, Pt.slots] at X103 l103 y103 z103 st103 hQ103
      subst l103 y103 z103
      obtain ⟨rfl, N103q, e103⟩ := hQ103
      have N103 := Fr.app N102 N103q
      refine Go.step (fun _ k => st103.trans k) ?_
      show Go p e below _ T103 (mkF m 141 #[.val (.int i0), .val (.int i1), .val (.int i2), .val (.ref ob), .val (.int nk), .val (.ref lA), .val (.ref lB), .val (.ref lD), .val (.int (1 : Int32))] [(.int (1 : Int32))])
      refine Go.step (fun _ k => XS.ifNo X103.here hx rfl (hb hby at_141) rfl ((if0 _ _).trans (feq (by decide)).1) k) ?_
      show Go p e below _ T103 (mkF m 144 #[.val (.int i0), .val (.int i1), .val (.int i2), .val (.ref ob), .val (.int nk), .val (.ref lA), .val (.ref lB), .val (.ref lD), .val (.int (1 : Int32))] [])
      refine Go.step (fun _ k => XS.aloadN X103.here hx rfl (hb hby at_144) rfl rfl k) ?_
      show Go p e below _ T103 (mkF m 145 #[.val (.int i0), .val (.int i1), .val (.int i2), .val (.ref ob), .val (.int nk), .val (.ref lA), .val (.ref lB), .val (.ref lD), .val (.int (1 : Int32))] [(.ref ob)])
      obtain ⟨cq104, kq104, q104a, q104b, q104c⟩ := isOf hZ e103 E_ob
      obtain ⟨_, _, ⟨T104, L104, k104, n104⟩, -, X104, ⟨Lc104, hQ104, l104, y104, z104⟩, st104⟩ := X103.virtualBack hx (y := (⟨"com/example/frugal_sieve/frugalsieve/server/Outbox", "waitingBytes", "()J"⟩ : MethodName)) (z := (⟨"com/example/frugal_sieve/frugalsieve/server/Outbox", "waitingBytes", "()J"⟩ : MethodName)) hown (mvT hZ (hw _ (List.mem_of_getElem? (i := 48) rfl))) (mvT hZ (hw _ (List.mem_of_getElem? (i := 49) rfl))) (notFace_of_selects (args := #[]) (mvT hZ (hw _ (List.mem_of_getElem? (i := 51) rfl)))) (mvT hZ (hw _ (List.mem_of_getElem? (i := 51) rfl))) (mvT hZ (hw _ (List.mem_of_getElem? (i := 50) rfl))) (by decide) (backOf (W := 0) (rmB l Z a0 hw [] ob (0 : Int32) (0 : Int32) T102.heap n0 Zn hF.1 hF.2.1 hF.2.2) hZ (hw _ (List.mem_of_getElem? (i := 52) rfl)) (hw _ (List.mem_of_getElem? (i := 2) rfl)) (by decide) (by decide)) q104a q104c (g := (mkF m 145 #[.val (.int i0), .val (.int i1), .val (.int i2), .val (.ref ob), .val (.int nk), .val (.ref lA), .val (.ref lB), .val (.ref lD), .val (.int (1 : Int32))] [(.ref ob)])) rfl (by rw [hml]; rfl) (Steps.refl _) (argsL := []) (rest := []) (lenOf own_f165 rfl) rfl (by show 2 * 0 + _ ≤ _; exact Nat.le_of_eq rfl) (hb hby at_145) (fun _ _ => ⟨rfl, e103, (by dsimp only [Pt.cells, Pt.slots]; decide), (by dsimp only [Pt.cells, Pt.slots]; decide)⟩)
      dsimp only [Pt.U, Pt.locs, Pt.cells, Pt.slots] at X104 l104 y104 z104 st104 hQ104
      subst l104 y104 z104
      obtain ⟨rfl, N104q, e104⟩ := hQ104
      have N104 := Fr.app N103 N104q
      refine Go.step (fun _ k => st104.trans k) ?_
      show Go p e below _ T104 (mkF m 148 #[.val (.int i0), .val (.int i1), .val (.int i2), .val (.ref ob), .val (.int nk), .val (.ref lA), .val (.ref lB), .val (.ref lD), .val (.int (1 : Int32))] [(.long (((0 : Int32) - (0 : Int32)).toInt64 + ((96 : Int64) * ((0 : Int32).toInt64))))])
      refine Go.step (fun _ k => XS.lconst X104.here hx rfl (hb hby at_148) k) ?_
      show Go p e below _ T104 (mkF m 149 #[.val (.int i0), .val (.int i1), .val (.int i2), .val (.ref ob), .val (.int nk), .val (.ref lA), .val (.ref lB), .val (.ref lD), .val (.int (1 : Int32))] [(.long (0 : Int64)), (.long (((0 : Int32) - (0 : Int32)).toInt64 + ((96 : Int64) * ((0 : Int32).toInt64))))])
      refine Go.step (fun _ k => XS.lcmp X104.here hx rfl (hb hby at_149) rfl k) ?_
      show Go p e below _ T104 (mkF m 150 #[.val (.int i0), .val (.int i1), .val (.int i2), .val (.ref ob), .val (.int nk), .val (.ref lA), .val (.ref lB), .val (.ref lD), .val (.int (1 : Int32))] [(.int (lcmpW (((0 : Int32) - (0 : Int32)).toInt64 + ((96 : Int64) * ((0 : Int32).toInt64))) (0 : Int64)))])
      refine Go.step (fun _ k => XS.ifNo X104.here hx rfl (hb hby at_150) rfl ((if0 _ _).trans (teq (by decide)).2) k) ?_
      show Go p e below _ T104 (mkF m 153 #[.val (.int i0), .val (.int i1), .val (.int i2), .val (.ref ob), .val (.int nk), .val (.ref lA), .val (.ref lB), .val (.ref lD), .val (.int (1 : Int32))] [])
      refine Go.step (fun _ k => XS.iconst X104.here hx rfl (hb hby at_153) k) ?_
      show Go p e below _ T104 (mkF m 154 #[.val (.int i0), .val (.int i1), .val (.int i2), .val (.ref ob), .val (.int nk), .val (.ref lA), .val (.ref lB), .val (.ref lD), .val (.int (1 : Int32))] [(.int (1 : Int32))])
      refine Go.step (fun _ k => XS.goto X104.here hx rfl (pc0 := 154) (pc' := 158) rfl (hb hby at_154) (by decide) (by decide) k) ?_
      show Go p e below _ T104 (mkF m 158 #[.val (.int i0), .val (.int i1), .val (.int i2), .val (.ref ob), .val (.int nk), .val (.ref lA), .val (.ref lB), .val (.ref lD), .val (.int (1 : Int32))] [(.int (1 : Int32))])
      refine Go.step (fun _ k => XS.istore X104.here hx rfl (hb hby at_158) rfl (l' := #[.val (.int i0), .val (.int i1), .val (.int i2), .val (.ref ob), .val (.int nk), .val (.ref lA), .val (.ref lB), .val (.ref lD), .val (.int (1 : Int32))]) rfl k) ?_
      show Go p e below _ T104 (mkF m 160 #[.val (.int i0), .val (.int i1), .val (.int i2), .val (.ref ob), .val (.int nk), .val (.ref lA), .val (.ref lB), .val (.ref lD), .val (.int (1 : Int32))] [])
      refine Go.step (fun _ k => XS.iload X104.here hx rfl (hb hby at_160) rfl k) ?_
      show Go p e below _ T104 (mkF m 162 #[.val (.int i0), .val (.int i1), .val (.int i2), .val (.ref ob), .val (.int nk), .val (.ref lA), .val (.ref lB), .val (.ref lD), .val (.int (1 : Int32))] [(.int (1 : Int32))])
      obtain ⟨fs, hr, hrun, hended, hW, hsame⟩ := X104.leave (v := some (.int (1 : Int32))) (fun h => by rw [Bd.returns] at h; cases h)
      refine Go.fin (retN X104 hx (t := .boolean) Bd.returns (by simp) (hb hby at_162) hr) hrun hended ?_
      refine ⟨_, _, rfl, ?_, ⟨_, rfl⟩, hW, hsame.mono (by decide) (by decide)⟩
      show Q0 Z i0 i1 i2 aE h0 n0 _ T104.heap _
      rw [e104]
      exact ⟨rfl, N104⟩
    · show Go p e below _ T92 (mkF m 57 #[.val (.int i0), .val (.int i1), .val (.int i2), .val (.ref ob), .val (.int nk), .val (.ref lA), .val (.ref lB), .val (.ref lD), .unset] [(.int (2 : Int32)), (.int nk)])
      refine Go.step (fun _ k => XS.icmpNo X92.here hx rfl (hb hby at_57) rfl (flt hc57_94).1 k) ?_
      show Go p e below _ T92 (mkF m 60 #[.val (.int i0), .val (.int i1), .val (.int i2), .val (.ref ob), .val (.int nk), .val (.ref lA), .val (.ref lB), .val (.ref lD), .unset] [])
      refine Go.step (fun _ k => XS.aloadN X92.here hx rfl (hb hby at_60) rfl rfl k) ?_
      show Go p e below _ T92 (mkF m 61 #[.val (.int i0), .val (.int i1), .val (.int i2), .val (.ref ob), .val (.int nk), .val (.ref lA), .val (.ref lB), .val (.ref lD), .unset] [(.ref ob)])
      refine Go.step (fun _ k => XS.aload X92.here hx rfl (hb hby at_61) rfl rfl k) ?_
      show Go p e below _ T92 (mkF m 63 #[.val (.int i0), .val (.int i1), .val (.int i2), .val (.ref ob), .val (.int nk), .val (.ref lA), .val (.ref lB), .val (.ref lD), .unset] [(.ref lB), (.ref ob)])
      obtain ⟨cq106, kq106, q106a, q106b, q106c⟩ := isOf hZ e92 E_ob
      obtain ⟨_, _, ⟨T106, L106, k106, n106⟩, -, X106, ⟨Lc106, hQ106, l106, y106, z106⟩, st106⟩ := X92.virtualBack hx (y := (⟨"com/example/frugal_sieve/frugalsieve/server/Outbox", "write", "([B)V"⟩ : MethodName)) (z := (⟨"com/example/frugal_sieve/frugalsieve/server/Outbox", "write", "([B)V"⟩ : MethodName)) hown (mvT hZ (hw _ (List.mem_of_getElem? (i := 10) rfl))) (mvT hZ (hw _ (List.mem_of_getElem? (i := 11) rfl))) (notFace_of_selects (args := #[]) (mvT hZ (hw _ (List.mem_of_getElem? (i := 13) rfl)))) (mvT hZ (hw _ (List.mem_of_getElem? (i := 13) rfl))) (mvT hZ (hw _ (List.mem_of_getElem? (i := 12) rfl))) (by decide) (backOf (W := 0) (rmW1 l Z a0 hw [] ob lB (0 : Int32) [lA, lB, lD] aE nB h92 n0 Zn hR S0 B0 Od g_ob B_lB hnB (own_P3 B_lA.lt B_lB.lt B_lD.lt) (List.mem_of_getElem? (i := 1) rfl)) hZ (hw _ (List.mem_of_getElem? (i := 14) rfl)) (hw _ (List.mem_of_getElem? (i := 2) rfl)) (by decide) (by decide)) q106a q106c (g := (mkF m 63 #[.val (.int i0), .val (.int i1), .val (.int i2), .val (.ref ob), .val (.int nk), .val (.ref lA), .val (.ref lB), .val (.ref lD), .unset] [(.ref lB), (.ref ob)])) rfl (by rw [hml]; rfl) (Steps.refl _) (argsL := [(.ref lB)]) (rest := []) (lenOf own_f166 rfl) rfl (by show 2 * 0 + _ ≤ _; exact Nat.le_of_eq rfl) (hb hby at_63) (fun _ _ => ⟨rfl, e92, (by dsimp only [Pt.cells, Pt.slots]; decide), (by dsimp only [Pt.cells, Pt.slots]; decide)⟩)
      dsimp only [Pt.U, Pt.locs, Pt.cells, Pt.slots] at X106 l106 y106 z106 st106 hQ106
      subst l106 y106 z106
      obtain ⟨b105q, zb105q, rfl, N106q, K106, hR, hloc⟩ := hQ106
      have N106 := Fr.app N89 N106q
      refine Go.step (fun _ k => st106.trans k) ?_
      replace Od := Od.keep K106 (allS g_ob all0)
      replace E_ob := E_ob.keep K106
      replace B_lA := B_lA.keep K106 (ninS (Ne.symm ne_ob_lA) nin0)
      replace B_lB := B_lB.keep K106 (ninS (Ne.symm ne_ob_lB) nin0)
      replace B_lD := B_lD.keep K106 (ninS (Ne.symm ne_ob_lD) nin0)
      replace Zn := Nat.le_trans Zn K106.1
      show Go p e below _ T106 (mkF m 66 #[.val (.int i0), .val (.int i1), .val (.int i2), .val (.ref ob), .val (.int nk), .val (.ref lA), .val (.ref lB), .val (.ref lD), .unset] [])
      have g_b105q := hR.2.2.2.2.2.2.1
      have np_b105q := hR.2.2.2.2.2.2.2.1
      have ne_lA_b105q : lA ≠ b105q := fun q => np_b105q (q ▸ (List.mem_of_getElem? (i := 0) rfl))
      have ne_lB_b105q : lB ≠ b105q := fun q => np_b105q (q ▸ (List.mem_of_getElem? (i := 1) rfl))
      have ne_lD_b105q : lD ≠ b105q := fun q => np_b105q (q ▸ (List.mem_of_getElem? (i := 2) rfl))
      refine Go.step (fun _ k => XS.aloadN X106.here hx rfl (hb hby at_66) rfl rfl k) ?_
      show Go p e below _ T106 (mkF m 67 #[.val (.int i0), .val (.int i1), .val (.int i2), .val (.ref ob), .val (.int nk), .val (.ref lA), .val (.ref lB), .val (.ref lD), .unset] [(.ref ob)])
      obtain ⟨cq107, kq107, q107a, q107b, q107c⟩ := isOf hZ rfl E_ob
      obtain ⟨_, _, ⟨T107, L107, k107, n107⟩, -, X107, ⟨Lc107, hQ107, l107, y107, z107⟩, st107⟩ := X106.virtualBack hx (y := (⟨"com/example/frugal_sieve/frugalsieve/server/Outbox", "clear", "()V"⟩ : MethodName)) (z := (⟨"com/example/frugal_sieve/frugalsieve/server/Outbox", "clear", "()V"⟩ : MethodName)) hown (mvT hZ (hw _ (List.mem_of_getElem? (i := 36) rfl))) (mvT hZ (hw _ (List.mem_of_getElem? (i := 37) rfl))) (notFace_of_selects (args := #[]) (mvT hZ (hw _ (List.mem_of_getElem? (i := 39) rfl)))) (mvT hZ (hw _ (List.mem_of_getElem? (i := 39) rfl))) (mvT hZ (hw _ (List.mem_of_getElem? (i := 38) rfl))) (by decide) (backOf (W := 0) (rmC2 l Z a0 hw [] ob ((0 : Int32) + (nB + (2 : Int32))) ((0 : Int32) + (1 : Int32)) [lA, lB, lD] b105q zb105q 4097 T106.heap n0 Zn hR g_ob) hZ (hw _ (List.mem_of_getElem? (i := 40) rfl)) (hw _ (List.mem_of_getElem? (i := 2) rfl)) (by decide) (by decide)) q107a q107c (g := (mkF m 67 #[.val (.int i0), .val (.int i1), .val (.int i2), .val (.ref ob), .val (.int nk), .val (.ref lA), .val (.ref lB), .val (.ref lD), .unset] [(.ref ob)])) rfl (by rw [hml]; rfl) (Steps.refl _) (argsL := []) (rest := []) (lenOf own_f163 rfl) rfl (by show 2 * 0 + _ ≤ _; exact Nat.le_of_eq rfl) (hb hby at_67) (fun _ _ => ⟨rfl, rfl, (by dsimp only [Pt.cells, Pt.slots]; decide), (by dsimp only [Pt.cells, Pt.slots]; decide)⟩)
      dsimp only [Pt.U, Pt.locs, Pt.cells, Pt.slots] at X107 l107 y107 z107 st107 hQ107
      subst l107 y107 z107
      obtain ⟨rfl, N107q, K107, hD⟩ := hQ107
      have N107 := Fr.app N106 N107q
      refine Go.step (fun _ k => st107.trans k) ?_
      replace Od := Od.keep K107 (allS g_ob all0)
      replace E_ob := E_ob.keep K107
      replace B_lA := B_lA.keep K107 (ninS (Ne.symm ne_ob_lA) nin0)
      replace B_lB := B_lB.keep K107 (ninS (Ne.symm ne_ob_lB) nin0)
      replace B_lD := B_lD.keep K107 (ninS (Ne.symm ne_ob_lD) nin0)
      replace Zn := Nat.le_trans Zn K107.1
      show Go p e below _ T107 (mkF m 70 #[.val (.int i0), .val (.int i1), .val (.int i2), .val (.ref ob), .val (.int nk), .val (.ref lA), .val (.ref lB), .val (.ref lD), .unset] [])
      rcases hD with hR | hR
      · show Go p e below _ T107 (mkF m 70 #[.val (.int i0), .val (.int i1), .val (.int i2), .val (.ref ob), .val (.int nk), .val (.ref lA), .val (.ref lB), .val (.ref lD), .unset] [])
        refine Go.step (fun _ k => XS.aloadN X107.here hx rfl (hb hby at_70) rfl rfl k) ?_
        show Go p e below _ T107 (mkF m 71 #[.val (.int i0), .val (.int i1), .val (.int i2), .val (.ref ob), .val (.int nk), .val (.ref lA), .val (.ref lB), .val (.ref lD), .unset] [(.ref ob)])
        obtain ⟨cq108, kq108, q108a, q108b, q108c⟩ := isOf hZ rfl E_ob
        obtain ⟨_, _, ⟨T108, L108, k108, n108⟩, -, X108, ⟨Lc108, hQ108, l108, y108, z108⟩, st108⟩ := X107.virtualBack hx (y := (⟨"com/example/frugal_sieve/frugalsieve/server/Outbox", "isEmpty", "()Z"⟩ : MethodName)) (z := (⟨"com/example/frugal_sieve/frugalsieve/server/Outbox", "isEmpty", "()Z"⟩ : MethodName)) hown (mvT hZ (hw _ (List.mem_of_getElem? (i := 43) rfl))) (mvT hZ (hw _ (List.mem_of_getElem? (i := 44) rfl))) (notFace_of_selects (args := #[]) (mvT hZ (hw _ (List.mem_of_getElem? (i := 46) rfl)))) (mvT hZ (hw _ (List.mem_of_getElem? (i := 46) rfl))) (mvT hZ (hw _ (List.mem_of_getElem? (i := 45) rfl))) (by decide) (backOf (W := 0) (rmE l Z a0 hw [] ob T107.heap n0 Zn hR.2.1 hR.2.2.1) hZ (hw _ (List.mem_of_getElem? (i := 47) rfl)) (hw _ (List.mem_of_getElem? (i := 2) rfl)) (by decide) (by decide)) q108a q108c (g := (mkF m 71 #[.val (.int i0), .val (.int i1), .val (.int i2), .val (.ref ob), .val (.int nk), .val (.ref lA), .val (.ref lB), .val (.ref lD), .unset] [(.ref ob)])) rfl (by rw [hml]; rfl) (Steps.refl _) (argsL := []) (rest := []) (lenOf own_f164 rfl) rfl (by show 2 * 0 + _ ≤ _; exact Nat.le_of_eq rfl) (hb hby at_71) (fun _ _ => ⟨rfl, rfl, (by dsimp only [Pt.cells, Pt.slots]; decide), (by dsimp only [Pt.cells, Pt.slots]; decide)⟩)
        dsimp only [Pt.U, Pt.locs, Pt.cells, Pt.slots] at X108 l108 y108 z108 st108 hQ108
        subst l108 y108 z108
        obtain ⟨rfl, N108q, e108⟩ := hQ108
        have N108 := Fr.app N107 N108q
        refine Go.step (fun _ k => st108.trans k) ?_
        show Go p e below _ T108 (mkF m 74 #[.val (.int i0), .val (.int i1), .val (.int i2), .val (.ref ob), .val (.int nk), .val (.ref lA), .val (.ref lB), .val (.ref lD), .unset] [(.int (1 : Int32))])
        refine Go.step (fun _ k => XS.ifNo X108.here hx rfl (hb hby at_74) rfl ((if0 _ _).trans (feq (by decide)).1) k) ?_
        show Go p e below _ T108 (mkF m 77 #[.val (.int i0), .val (.int i1), .val (.int i2), .val (.ref ob), .val (.int nk), .val (.ref lA), .val (.ref lB), .val (.ref lD), .unset] [])
        refine Go.step (fun _ k => XS.aloadN X108.here hx rfl (hb hby at_77) rfl rfl k) ?_
        show Go p e below _ T108 (mkF m 78 #[.val (.int i0), .val (.int i1), .val (.int i2), .val (.ref ob), .val (.int nk), .val (.ref lA), .val (.ref lB), .val (.ref lD), .unset] [(.ref ob)])
        obtain ⟨cq109, kq109, q109a, q109b, q109c⟩ := isOf hZ e108 E_ob
        obtain ⟨_, _, ⟨T109, L109, k109, n109⟩, -, X109, ⟨Lc109, hQ109, l109, y109, z109⟩, st109⟩ := X108.virtualBack hx (y := (⟨"com/example/frugal_sieve/frugalsieve/server/Outbox", "waitingBytes", "()J"⟩ : MethodName)) (z := (⟨"com/example/frugal_sieve/frugalsieve/server/Outbox", "waitingBytes", "()J"⟩ : MethodName)) hown (mvT hZ (hw _ (List.mem_of_getElem? (i := 48) rfl))) (mvT hZ (hw _ (List.mem_of_getElem? (i := 49) rfl))) (notFace_of_selects (args := #[]) (mvT hZ (hw _ (List.mem_of_getElem? (i := 51) rfl)))) (mvT hZ (hw _ (List.mem_of_getElem? (i := 51) rfl))) (mvT hZ (hw _ (List.mem_of_getElem? (i := 50) rfl))) (by decide) (backOf (W := 0) (rmB l Z a0 hw [] ob (0 : Int32) (0 : Int32) T107.heap n0 Zn hR.2.1 hR.2.2.1 hR.2.2.2.1) hZ (hw _ (List.mem_of_getElem? (i := 52) rfl)) (hw _ (List.mem_of_getElem? (i := 2) rfl)) (by decide) (by decide)) q109a q109c (g := (mkF m 78 #[.val (.int i0), .val (.int i1), .val (.int i2), .val (.ref ob), .val (.int nk), .val (.ref lA), .val (.ref lB), .val (.ref lD), .unset] [(.ref ob)])) rfl (by rw [hml]; rfl) (Steps.refl _) (argsL := []) (rest := []) (lenOf own_f165 rfl) rfl (by show 2 * 0 + _ ≤ _; exact Nat.le_of_eq rfl) (hb hby at_78) (fun _ _ => ⟨rfl, e108, (by dsimp only [Pt.cells, Pt.slots]; decide), (by dsimp only [Pt.cells, Pt.slots]; decide)⟩)
        dsimp only [Pt.U, Pt.locs, Pt.cells, Pt.slots] at X109 l109 y109 z109 st109 hQ109
        subst l109 y109 z109
        obtain ⟨rfl, N109q, e109⟩ := hQ109
        have N109 := Fr.app N108 N109q
        refine Go.step (fun _ k => st109.trans k) ?_
        show Go p e below _ T109 (mkF m 81 #[.val (.int i0), .val (.int i1), .val (.int i2), .val (.ref ob), .val (.int nk), .val (.ref lA), .val (.ref lB), .val (.ref lD), .unset] [(.long (((0 : Int32) - (0 : Int32)).toInt64 + ((96 : Int64) * ((0 : Int32).toInt64))))])
        refine Go.step (fun _ k => XS.lconst X109.here hx rfl (hb hby at_81) k) ?_
        show Go p e below _ T109 (mkF m 82 #[.val (.int i0), .val (.int i1), .val (.int i2), .val (.ref ob), .val (.int nk), .val (.ref lA), .val (.ref lB), .val (.ref lD), .unset] [(.long (0 : Int64)), (.long (((0 : Int32) - (0 : Int32)).toInt64 + ((96 : Int64) * ((0 : Int32).toInt64))))])
        refine Go.step (fun _ k => XS.lcmp X109.here hx rfl (hb hby at_82) rfl k) ?_
        show Go p e below _ T109 (mkF m 83 #[.val (.int i0), .val (.int i1), .val (.int i2), .val (.ref ob), .val (.int nk), .val (.ref lA), .val (.ref lB), .val (.ref lD), .unset] [(.int (lcmpW (((0 : Int32) - (0 : Int32)).toInt64 + ((96 : Int64) * ((0 : Int32).toInt64))) (0 : Int64)))])
        refine Go.step (fun _ k => XS.ifNo X109.here hx rfl (hb hby at_83) rfl ((if0 _ _).trans (teq (by decide)).2) k) ?_
        show Go p e below _ T109 (mkF m 86 #[.val (.int i0), .val (.int i1), .val (.int i2), .val (.ref ob), .val (.int nk), .val (.ref lA), .val (.ref lB), .val (.ref lD), .unset] [])
        refine Go.step (fun _ k => XS.iconst X109.here hx rfl (hb hby at_86) k) ?_
        show Go p e below _ T109 (mkF m 87 #[.val (.int i0), .val (.int i1), .val (.int i2), .val (.ref ob), .val (.int nk), .val (.ref lA), .val (.ref lB), .val (.ref lD), .unset] [(.int (1 : Int32))])
        refine Go.step (fun _ k => XS.goto X109.here hx rfl (pc0 := 87) (pc' := 91) rfl (hb hby at_87) (by decide) (by decide) k) ?_
        show Go p e below _ T109 (mkF m 91 #[.val (.int i0), .val (.int i1), .val (.int i2), .val (.ref ob), .val (.int nk), .val (.ref lA), .val (.ref lB), .val (.ref lD), .unset] [(.int (1 : Int32))])
        refine Go.step (fun _ k => XS.istore X109.here hx rfl (hb hby at_91) rfl (l' := #[.val (.int i0), .val (.int i1), .val (.int i2), .val (.ref ob), .val (.int nk), .val (.ref lA), .val (.ref lB), .val (.ref lD), .val (.int (1 : Int32))]) rfl k) ?_
        show Go p e below _ T109 (mkF m 93 #[.val (.int i0), .val (.int i1), .val (.int i2), .val (.ref ob), .val (.int nk), .val (.ref lA), .val (.ref lB), .val (.ref lD), .val (.int (1 : Int32))] [])
        refine Go.step (fun _ k => XS.aloadN X109.here hx rfl (hb hby at_93) rfl rfl k) ?_
        show Go p e below _ T109 (mkF m 94 #[.val (.int i0), .val (.int i1), .val (.int i2), .val (.ref ob), .val (.int nk), .val (.ref lA), .val (.ref lB), .val (.ref lD), .val (.int (1 : Int32))] [(.ref ob)])
        refine Go.step (fun _ k => XS.aload X109.here hx rfl (hb hby at_94) rfl rfl k) ?_
        show Go p e below _ T109 (mkF m 96 #[.val (.int i0), .val (.int i1), .val (.int i2), .val (.ref ob), .val (.int nk), .val (.ref lA), .val (.ref lB), .val (.ref lD), .val (.int (1 : Int32))] [(.ref lD), (.ref ob)])
        obtain ⟨cq111, kq111, q111a, q111b, q111c⟩ := isOf hZ e109 E_ob
        obtain ⟨_, _, ⟨T111, L111, k111, n111⟩, -, X111, ⟨Lc111, hQ111, l111, y111, z111⟩, st111⟩ := X109.virtualBack hx (y := (⟨"com/example/frugal_sieve/frugalsieve/server/Outbox", "write", "([B)V"⟩ : MethodName)) (z := (⟨"com/example/frugal_sieve/frugalsieve/server/Outbox", "write", "([B)V"⟩ : MethodName)) hown (mvT hZ (hw _ (List.mem_of_getElem? (i := 10) rfl))) (mvT hZ (hw _ (List.mem_of_getElem? (i := 11) rfl))) (notFace_of_selects (args := #[]) (mvT hZ (hw _ (List.mem_of_getElem? (i := 13) rfl)))) (mvT hZ (hw _ (List.mem_of_getElem? (i := 13) rfl))) (mvT hZ (hw _ (List.mem_of_getElem? (i := 12) rfl))) (by decide) (backOf (W := 0) (rmW1 l Z a0 hw [] ob lD (0 : Int32) [lA, lB, lD] aE nD T107.heap n0 Zn hR S0 B0 Od g_ob B_lD hnD (own_P3 B_lA.lt B_lB.lt B_lD.lt) (List.mem_of_getElem? (i := 2) rfl)) hZ (hw _ (List.mem_of_getElem? (i := 14) rfl)) (hw _ (List.mem_of_getElem? (i := 2) rfl)) (by decide) (by decide)) q111a q111c (g := (mkF m 96 #[.val (.int i0), .val (.int i1), .val (.int i2), .val (.ref ob), .val (.int nk), .val (.ref lA), .val (.ref lB), .val (.ref lD), .val (.int (1 : Int32))] [(.ref lD), (.ref ob)])) rfl (by rw [hml]; rfl) (Steps.refl _) (argsL := [(.ref lD)]) (rest := []) (lenOf own_f166 rfl) rfl (by show 2 * 0 + _ ≤ _; exact Nat.le_of_eq rfl) (hb hby at_96) (fun _ _ => ⟨rfl, e109, (by dsimp only [Pt.cells, Pt.slots]; decide), (by dsimp only [Pt.cells, Pt.slots]; decide)⟩)
        dsimp only [Pt.U, Pt.locs, Pt.cells, Pt.slots] at X111 l111 y111 z111 st111 hQ111
        subst l111 y111 z111
        obtain ⟨b110q, zb110q, rfl, N111q, K111, hR, hloc⟩ := hQ111
        have N111 := Fr.app N109 N111q
        refine Go.step (fun _ k => st111.trans k) ?_
        replace Od := Od.keep K111 (allS g_ob all0)
        replace E_ob := E_ob.keep K111
        replace B_lA := B_lA.keep K111 (ninS (Ne.symm ne_ob_lA) nin0)
        replace B_lB := B_lB.keep K111 (ninS (Ne.symm ne_ob_lB) nin0)
        replace B_lD := B_lD.keep K111 (ninS (Ne.symm ne_ob_lD) nin0)
        replace Zn := Nat.le_trans Zn K111.1
        show Go p e below _ T111 (mkF m 99 #[.val (.int i0), .val (.int i1), .val (.int i2), .val (.ref ob), .val (.int nk), .val (.ref lA), .val (.ref lB), .val (.ref lD), .val (.int (1 : Int32))] [])
        have g_b110q := hR.2.2.2.2.2.2.1
        have np_b110q := hR.2.2.2.2.2.2.2.1
        have ne_lA_b110q : lA ≠ b110q := fun q => np_b110q (q ▸ (List.mem_of_getElem? (i := 0) rfl))
        have ne_lB_b110q : lB ≠ b110q := fun q => np_b110q (q ▸ (List.mem_of_getElem? (i := 1) rfl))
        have ne_lD_b110q : lD ≠ b110q := fun q => np_b110q (q ▸ (List.mem_of_getElem? (i := 2) rfl))
        refine Go.step (fun _ k => XS.iload X111.here hx rfl (hb hby at_99) rfl k) ?_
        show Go p e below _ T111 (mkF m 101 #[.val (.int i0), .val (.int i1), .val (.int i2), .val (.ref ob), .val (.int nk), .val (.ref lA), .val (.ref lB), .val (.ref lD), .val (.int (1 : Int32))] [(.int (1 : Int32))])
        refine Go.step (fun _ k => XS.ifNo X111.here hx rfl (hb hby at_101) rfl ((if0 _ _).trans (feq (by decide)).1) k) ?_
        show Go p e below _ T111 (mkF m 104 #[.val (.int i0), .val (.int i1), .val (.int i2), .val (.ref ob), .val (.int nk), .val (.ref lA), .val (.ref lB), .val (.ref lD), .val (.int (1 : Int32))] [])
        refine Go.step (fun _ k => XS.aloadN X111.here hx rfl (hb hby at_104) rfl rfl k) ?_
        show Go p e below _ T111 (mkF m 105 #[.val (.int i0), .val (.int i1), .val (.int i2), .val (.ref ob), .val (.int nk), .val (.ref lA), .val (.ref lB), .val (.ref lD), .val (.int (1 : Int32))] [(.ref ob)])
        obtain ⟨cq112, kq112, q112a, q112b, q112c⟩ := isOf hZ rfl E_ob
        obtain ⟨_, _, ⟨T112, L112, k112, n112⟩, -, X112, ⟨Lc112, hQ112, l112, y112, z112⟩, st112⟩ := X111.virtualBack hx (y := (⟨"com/example/frugal_sieve/frugalsieve/server/Outbox", "waitingBytes", "()J"⟩ : MethodName)) (z := (⟨"com/example/frugal_sieve/frugalsieve/server/Outbox", "waitingBytes", "()J"⟩ : MethodName)) hown (mvT hZ (hw _ (List.mem_of_getElem? (i := 48) rfl))) (mvT hZ (hw _ (List.mem_of_getElem? (i := 49) rfl))) (notFace_of_selects (args := #[]) (mvT hZ (hw _ (List.mem_of_getElem? (i := 51) rfl)))) (mvT hZ (hw _ (List.mem_of_getElem? (i := 51) rfl))) (mvT hZ (hw _ (List.mem_of_getElem? (i := 50) rfl))) (by decide) (backOf (W := 0) (rmB l Z a0 hw [] ob ((0 : Int32) + (nD + (2 : Int32))) ((0 : Int32) + (1 : Int32)) T111.heap n0 Zn hR.2.1 hR.2.2.1 hR.2.2.2.1) hZ (hw _ (List.mem_of_getElem? (i := 52) rfl)) (hw _ (List.mem_of_getElem? (i := 2) rfl)) (by decide) (by decide)) q112a q112c (g := (mkF m 105 #[.val (.int i0), .val (.int i1), .val (.int i2), .val (.ref ob), .val (.int nk), .val (.ref lA), .val (.ref lB), .val (.ref lD), .val (.int (1 : Int32))] [(.ref ob)])) rfl (by rw [hml]; rfl) (Steps.refl _) (argsL := []) (rest := []) (lenOf own_f165 rfl) rfl (by show 2 * 0 + _ ≤ _; exact Nat.le_of_eq rfl) (hb hby at_105) (fun _ _ => ⟨rfl, rfl, (by dsimp only [Pt.cells, Pt.slots]; decide), (by dsimp only [Pt.cells, Pt.slots]; decide)⟩)
        dsimp only [Pt.U, Pt.locs, Pt.cells, Pt.slots] at X112 l112 y112 z112 st112 hQ112
        subst l112 y112 z112
        obtain ⟨rfl, N112q, e112⟩ := hQ112
        have N112 := Fr.app N111 N112q
        refine Go.step (fun _ k => st112.trans k) ?_
        show Go p e below _ T112 (mkF m 108 #[.val (.int i0), .val (.int i1), .val (.int i2), .val (.ref ob), .val (.int nk), .val (.ref lA), .val (.ref lB), .val (.ref lD), .val (.int (1 : Int32))] [(.long ((((0 : Int32) + (nD + (2 : Int32))) - (0 : Int32)).toInt64 + ((96 : Int64) * (((0 : Int32) + (1 : Int32)).toInt64))))])
        refine Go.step (fun _ k => XS.aload X112.here hx rfl (hb hby at_108) rfl rfl k) ?_
        show Go p e below _ T112 (mkF m 110 #[.val (.int i0), .val (.int i1), .val (.int i2), .val (.ref ob), .val (.int nk), .val (.ref lA), .val (.ref lB), .val (.ref lD), .val (.int (1 : Int32))] [(.ref lD), (.long ((((0 : Int32) + (nD + (2 : Int32))) - (0 : Int32)).toInt64 + ((96 : Int64) * (((0 : Int32) + (1 : Int32)).toInt64))))])
        obtain ⟨_, _, ⟨cl113, Ar113, _, S113, Nn113, _, _⟩, _⟩ := id B_lD
        refine Go.step (X112.arraylength hx (by rw [e112]; exact Ar113.1) (State.isArrayOf_alike hZ.alike Ar113.2.1) (g := (mkF m 110 #[.val (.int i0), .val (.int i1), .val (.int i2), .val (.ref ob), .val (.int nk), .val (.ref lA), .val (.ref lB), .val (.ref lD), .val (.int (1 : Int32))] [(.ref lD), (.long ((((0 : Int32) + (nD + (2 : Int32))) - (0 : Int32)).toInt64 + ((96 : Int64) * (((0 : Int32) + (1 : Int32)).toInt64))))])) rfl rfl (hb hby at_110)) ?_
        rw [len_of S113 Nn113]
        show Go p e below _ T112 (mkF m 111 #[.val (.int i0), .val (.int i1), .val (.int i2), .val (.ref ob), .val (.int nk), .val (.ref lA), .val (.ref lB), .val (.ref lD), .val (.int (1 : Int32))] [(.int nD), (.long ((((0 : Int32) + (nD + (2 : Int32))) - (0 : Int32)).toInt64 + ((96 : Int64) * (((0 : Int32) + (1 : Int32)).toInt64))))])
        refine Go.step (fun _ k => XS.iconst X112.here hx rfl (hb hby at_111) k) ?_
        show Go p e below _ T112 (mkF m 112 #[.val (.int i0), .val (.int i1), .val (.int i2), .val (.ref ob), .val (.int nk), .val (.ref lA), .val (.ref lB), .val (.ref lD), .val (.int (1 : Int32))] [(.int (2 : Int32)), (.int nD), (.long ((((0 : Int32) + (nD + (2 : Int32))) - (0 : Int32)).toInt64 + ((96 : Int64) * (((0 : Int32) + (1 : Int32)).toInt64))))])
        refine Go.step (fun _ k => XS.iadd X112.here hx rfl (hb hby at_112) rfl k) ?_
        show Go p e below _ T112 (mkF m 113 #[.val (.int i0), .val (.int i1), .val (.int i2), .val (.ref ob), .val (.int nk), .val (.ref lA), .val (.ref lB), .val (.ref lD), .val (.int (1 : Int32))] [(.int (nD + (2 : Int32))), (.long ((((0 : Int32) + (nD + (2 : Int32))) - (0 : Int32)).toInt64 + ((96 : Int64) * (((0 : Int32) + (1 : Int32)).toInt64))))])
        refine Go.step (fun _ k => XS.bipush X112.here hx rfl (hb hby at_113) k) ?_
        show Go p e below _ T112 (mkF m 115 #[.val (.int i0), .val (.int i1), .val (.int i2), .val (.ref ob), .val (.int nk), .val (.ref lA), .val (.ref lB), .val (.ref lD), .val (.int (1 : Int32))] [(.int (96 : Int32)), (.int (nD + (2 : Int32))), (.long ((((0 : Int32) + (nD + (2 : Int32))) - (0 : Int32)).toInt64 + ((96 : Int64) * (((0 : Int32) + (1 : Int32)).toInt64))))])
        refine Go.step (fun _ k => XS.iadd X112.here hx rfl (hb hby at_115) rfl k) ?_
        show Go p e below _ T112 (mkF m 116 #[.val (.int i0), .val (.int i1), .val (.int i2), .val (.ref ob), .val (.int nk), .val (.ref lA), .val (.ref lB), .val (.ref lD), .val (.int (1 : Int32))] [(.int ((nD + (2 : Int32)) + (96 : Int32))), (.long ((((0 : Int32) + (nD + (2 : Int32))) - (0 : Int32)).toInt64 + ((96 : Int64) * (((0 : Int32) + (1 : Int32)).toInt64))))])
        refine Go.step (fun _ k => XS.i2l X112.here hx rfl (hb hby at_116) rfl k) ?_
        show Go p e below _ T112 (mkF m 117 #[.val (.int i0), .val (.int i1), .val (.int i2), .val (.ref ob), .val (.int nk), .val (.ref lA), .val (.ref lB), .val (.ref lD), .val (.int (1 : Int32))] [(.long (((nD + (2 : Int32)) + (96 : Int32)).toInt64)), (.long ((((0 : Int32) + (nD + (2 : Int32))) - (0 : Int32)).toInt64 + ((96 : Int64) * (((0 : Int32) + (1 : Int32)).toInt64))))])
        refine Go.step (fun _ k => XS.lcmp X112.here hx rfl (hb hby at_117) rfl k) ?_
        show Go p e below _ T112 (mkF m 118 #[.val (.int i0), .val (.int i1), .val (.int i2), .val (.ref ob), .val (.int nk), .val (.ref lA), .val (.ref lB), .val (.ref lD), .val (.int (1 : Int32))] [(.int (lcmpW ((((0 : Int32) + (nD + (2 : Int32))) - (0 : Int32)).toInt64 + ((96 : Int64) * (((0 : Int32) + (1 : Int32)).toInt64))) (((nD + (2 : Int32)) + (96 : Int32)).toInt64)))])
        refine Go.step (fun _ k => XS.ifNo X112.here hx rfl (hb hby at_118) rfl ((if0 _ _).trans (teq (own_wb hnD)).2) k) ?_
        show Go p e below _ T112 (mkF m 121 #[.val (.int i0), .val (.int i1), .val (.int i2), .val (.ref ob), .val (.int nk), .val (.ref lA), .val (.ref lB), .val (.ref lD), .val (.int (1 : Int32))] [])
        refine Go.step (fun _ k => XS.iconst X112.here hx rfl (hb hby at_121) k) ?_
        show Go p e below _ T112 (mkF m 122 #[.val (.int i0), .val (.int i1), .val (.int i2), .val (.ref ob), .val (.int nk), .val (.ref lA), .val (.ref lB), .val (.ref lD), .val (.int (1 : Int32))] [(.int (1 : Int32))])
        refine Go.step (fun _ k => XS.goto X112.here hx rfl (pc0 := 122) (pc' := 126) rfl (hb hby at_122) (by decide) (by decide) k) ?_
        show Go p e below _ T112 (mkF m 126 #[.val (.int i0), .val (.int i1), .val (.int i2), .val (.ref ob), .val (.int nk), .val (.ref lA), .val (.ref lB), .val (.ref lD), .val (.int (1 : Int32))] [(.int (1 : Int32))])
        refine Go.step (fun _ k => XS.istore X112.here hx rfl (hb hby at_126) rfl (l' := #[.val (.int i0), .val (.int i1), .val (.int i2), .val (.ref ob), .val (.int nk), .val (.ref lA), .val (.ref lB), .val (.ref lD), .val (.int (1 : Int32))]) rfl k) ?_
        show Go p e below _ T112 (mkF m 128 #[.val (.int i0), .val (.int i1), .val (.int i2), .val (.ref ob), .val (.int nk), .val (.ref lA), .val (.ref lB), .val (.ref lD), .val (.int (1 : Int32))] [])
        refine Go.step (fun _ k => XS.aloadN X112.here hx rfl (hb hby at_128) rfl rfl k) ?_
        show Go p e below _ T112 (mkF m 129 #[.val (.int i0), .val (.int i1), .val (.int i2), .val (.ref ob), .val (.int nk), .val (.ref lA), .val (.ref lB), .val (.ref lD), .val (.int (1 : Int32))] [(.ref ob)])
        obtain ⟨cq114, kq114, q114a, q114b, q114c⟩ := isOf hZ e112 E_ob
        obtain ⟨_, _, ⟨T114, L114, k114, n114⟩, -, X114, ⟨Lc114, hQ114, l114, y114, z114⟩, st114⟩ := X112.virtualBack hx (y := (⟨"com/example/frugal_sieve/frugalsieve/server/Outbox", "clear", "()V"⟩ : MethodName)) (z := (⟨"com/example/frugal_sieve/frugalsieve/server/Outbox", "clear", "()V"⟩ : MethodName)) hown (mvT hZ (hw _ (List.mem_of_getElem? (i := 36) rfl))) (mvT hZ (hw _ (List.mem_of_getElem? (i := 37) rfl))) (notFace_of_selects (args := #[]) (mvT hZ (hw _ (List.mem_of_getElem? (i := 39) rfl)))) (mvT hZ (hw _ (List.mem_of_getElem? (i := 39) rfl))) (mvT hZ (hw _ (List.mem_of_getElem? (i := 38) rfl))) (by decide) (backOf (W := 0) (rmC2 l Z a0 hw [] ob ((0 : Int32) + (nD + (2 : Int32))) ((0 : Int32) + (1 : Int32)) [lA, lB, lD] b110q zb110q 4097 T111.heap n0 Zn hR g_ob) hZ (hw _ (List.mem_of_getElem? (i := 40) rfl)) (hw _ (List.mem_of_getElem? (i := 2) rfl)) (by decide) (by decide)) q114a q114c (g := (mkF m 129 #[.val (.int i0), .val (.int i1), .val (.int i2), .val (.ref ob), .val (.int nk), .val (.ref lA), .val (.ref lB), .val (.ref lD), .val (.int (1 : Int32))] [(.ref ob)])) rfl (by rw [hml]; rfl) (Steps.refl _) (argsL := []) (rest := []) (lenOf own_f163 rfl) rfl (by show 2 * 0 + _ ≤ _; exact Nat.le_of_eq rfl) (hb hby at_129) (fun _ _ => ⟨rfl, e112, (by dsimp only [Pt.cells, Pt.slots]; decide), (by dsimp only [Pt.cells, Pt.slots]; decide)⟩)
        dsimp only [Pt.U, Pt.locs, Pt.cells, Pt.slots] at X114 l114 y114 z114 st114 hQ114
        subst l114 y114 z114
        obtain ⟨rfl, N114q, K114, hD⟩ := hQ114
        have N114 := Fr.app N112 N114q
        refine Go.step (fun _ k => st114.trans k) ?_
        replace Od := Od.keep K114 (allS g_ob all0)
        replace E_ob := E_ob.keep K114
        replace B_lA := B_lA.keep K114 (ninS (Ne.symm ne_ob_lA) nin0)
        replace B_lB := B_lB.keep K114 (ninS (Ne.symm ne_ob_lB) nin0)
        replace B_lD := B_lD.keep K114 (ninS (Ne.symm ne_ob_lD) nin0)
        replace Zn := Nat.le_trans Zn K114.1
        show Go p e below _ T114 (mkF m 132 #[.val (.int i0), .val (.int i1), .val (.int i2), .val (.ref ob), .val (.int nk), .val (.ref lA), .val (.ref lB), .val (.ref lD), .val (.int (1 : Int32))] [])
        have hF : Fld Z T114.heap ob "com/example/frugal_sieve/frugalsieve/server/Outbox" "start" "I" (.int (0 : Int32)) ∧ Fld Z T114.heap ob "com/example/frugal_sieve/frugalsieve/server/Outbox" "end" "I" (.int (0 : Int32)) ∧ Fld Z T114.heap ob "com/example/frugal_sieve/frugalsieve/server/Outbox" "lines" "I" (.int (0 : Int32)) := hD.elim (fun q => ⟨q.2.1, q.2.2.1, q.2.2.2.1⟩) (fun q => ⟨q.2.1, q.2.2.1, q.2.2.2.1⟩)
        refine Go.step (fun _ k => XS.iload X114.here hx rfl (hb hby at_132) rfl k) ?_
        show Go p e below _ T114 (mkF m 134 #[.val (.int i0), .val (.int i1), .val (.int i2), .val (.ref ob), .val (.int nk), .val (.ref lA), .val (.ref lB), .val (.ref lD), .val (.int (1 : Int32))] [(.int (1 : Int32))])
        refine Go.step (fun _ k => XS.ifNo X114.here hx rfl (hb hby at_134) rfl ((if0 _ _).trans (feq (by decide)).1) k) ?_
        show Go p e below _ T114 (mkF m 137 #[.val (.int i0), .val (.int i1), .val (.int i2), .val (.ref ob), .val (.int nk), .val (.ref lA), .val (.ref lB), .val (.ref lD), .val (.int (1 : Int32))] [])
        refine Go.step (fun _ k => XS.aloadN X114.here hx rfl (hb hby at_137) rfl rfl k) ?_
        show Go p e below _ T114 (mkF m 138 #[.val (.int i0), .val (.int i1), .val (.int i2), .val (.ref ob), .val (.int nk), .val (.ref lA), .val (.ref lB), .val (.ref lD), .val (.int (1 : Int32))] [(.ref ob)])
        obtain ⟨cq115, kq115, q115a, q115b, q115c⟩ := isOf hZ rfl E_ob
        obtain ⟨_, _, ⟨T115, L115, k115, n115⟩, -, X115, ⟨Lc115, hQ115, l115, y115, z115⟩, st115⟩ := X114.virtualBack hx (y := (⟨"com/example/frugal_sieve/frugalsieve/server/Outbox", "isEmpty", "()Z"⟩ : MethodName)) (z := (⟨"com/example/frugal_sieve/frugalsieve/server/Outbox", "isEmpty", "()Z"⟩ : MethodName)) hown (mvT hZ (hw _ (List.mem_of_getElem? (i := 43) rfl))) (mvT hZ (hw _ (List.mem_of_getElem? (i := 44) rfl))) (notFace_of_selects (args := #[]) (mvT hZ (hw _ (List.mem_of_getElem? (i := 46) rfl)))) (mvT hZ (hw _ (List.mem_of_getElem? (i := 46) rfl))) (mvT hZ (hw _ (List.mem_of_getElem? (i := 45) rfl))) (by decide) (backOf (W := 0) (rmE l Z a0 hw [] ob T114.heap n0 Zn hF.1 hF.2.1) hZ (hw _ (List.mem_of_getElem? (i := 47) rfl)) (hw _ (List.mem_of_getElem? (i := 2) rfl)) (by decide) (by decide)) q115a q115c (g := (mkF m 138 #[.val (.int i0), .val (.int i1), .val (.int i2), .val (.ref ob), .val (.int nk), .val (.ref lA), .val (.ref lB), .val (.ref lD), .val (.int (1 : Int32))] [(.ref ob)])) rfl (by rw [hml]; rfl) (Steps.refl _) (argsL := []) (rest := []) (lenOf own_f164 rfl) rfl (by show 2 * 0 + _ ≤ _; exact Nat.le_of_eq rfl) (hb hby at_138) (fun _ _ => ⟨rfl, rfl, (by dsimp only [Pt.cells, Pt.slots]; decide), (by dsimp only [Pt.cells, Pt.slots]; decide)⟩)
        dsimp only [Pt.U, Pt.locs, Pt.cells, Pt.slots] at X115 l115 y115 z115 st115 hQ115
        subst l115 y115 z115
        obtain ⟨rfl, N115q, e115⟩ := hQ115
        have N115 := Fr.app N114 N115q
        refine Go.step (fun _ k => st115.trans k) ?_
        show Go p e below _ T115 (mkF m 141 #[.val (.int i0), .val (.int i1), .val (.int i2), .val (.ref ob), .val (.int nk), .val (.ref lA), .val (.ref lB), .val (.ref lD), .val (.int (1 : Int32))] [(.int (1 : Int32))])
        refine Go.step (fun _ k => XS.ifNo X115.here hx rfl (hb hby at_141) rfl ((if0 _ _).trans (feq (by decide)).1) k) ?_
        show Go p e below _ T115 (mkF m 144 #[.val (.int i0), .val (.int i1), .val (.int i2), .val (.ref ob), .val (.int nk), .val (.ref lA), .val (.ref lB), .val (.ref lD), .val (.int (1 : Int32))] [])
        refine Go.step (fun _ k => XS.aloadN X115.here hx rfl (hb hby at_144) rfl rfl k) ?_
        show Go p e below _ T115 (mkF m 145 #[.val (.int i0), .val (.int i1), .val (.int i2), .val (.ref ob), .val (.int nk), .val (.ref lA), .val (.ref lB), .val (.ref lD), .val (.int (1 : Int32))] [(.ref ob)])
        obtain ⟨cq116, kq116, q116a, q116b, q116c⟩ := isOf hZ e115 E_ob
        obtain ⟨_, _, ⟨T116, L116, k116, n116⟩, -, X116, ⟨Lc116, hQ116, l116, y116, z116⟩, st116⟩ := X115.virtualBack hx (y := (⟨"com/example/frugal_sieve/frugalsieve/server/Outbox", "waitingBytes", "()J"⟩ : MethodName)) (z := (⟨"com/example/frugal_sieve/frugalsieve/server/Outbox", "waitingBytes", "()J"⟩ : MethodName)) hown (mvT hZ (hw _ (List.mem_of_getElem? (i := 48) rfl))) (mvT hZ (hw _ (List.mem_of_getElem? (i := 49) rfl))) (notFace_of_selects (args := #[]) (mvT hZ (hw _ (List.mem_of_getElem? (i := 51) rfl)))) (mvT hZ (hw _ (List.mem_of_getElem? (i := 51) rfl))) (mvT hZ (hw _ (List.mem_of_getElem? (i := 50) rfl))) (by decide) (backOf (W := 0) (rmB l Z a0 hw [] ob (0 : Int32) (0 : Int32) T114.heap n0 Zn hF.1 hF.2.1 hF.2.2) hZ (hw _ (List.mem_of_getElem? (i := 52) rfl)) (hw _ (List.mem_of_getElem? (i := 2) rfl)) (by decide) (by decide)) q116a q116c (g := (mkF m 145 #[.val (.int i0), .val (.int i1), .val (.int i2), .val (.ref ob), .val (.int nk), .val (.ref lA), .val (.ref lB), .val (.ref lD), .val (.int (1 : Int32))] [(.ref ob)])) rfl (by rw [hml]; rfl) (Steps.refl _) (argsL := []) (rest := []) (lenOf own_f165 rfl) rfl (by show 2 * 0 + _ ≤ _; exact Nat.le_of_eq rfl) (hb hby at_145) (fun _ _ => ⟨rfl, e115, (by dsimp only [Pt.cells, Pt.slots]; decide), (by dsimp only [Pt.cells, Pt.slots]; decide)⟩)
        dsimp only [Pt.U, Pt.locs, Pt.cells, Pt.slots] at X116 l116 y116 z116 st116 hQ116
        subst l116 y116 z116
        obtain ⟨rfl, N116q, e116⟩ := hQ116
        have N116 := Fr.app N115 N116q
        refine Go.step (fun _ k => st116.trans k) ?_
        show Go p e below _ T116 (mkF m 148 #[.val (.int i0), .val (.int i1), .val (.int i2), .val (.ref ob), .val (.int nk), .val (.ref lA), .val (.ref lB), .val (.ref lD), .val (.int (1 : Int32))] [(.long (((0 : Int32) - (0 : Int32)).toInt64 + ((96 : Int64) * ((0 : Int32).toInt64))))])
        refine Go.step (fun _ k => XS.lconst X116.here hx rfl (hb hby at_148) k) ?_
        show Go p e below _ T116 (mkF m 149 #[.val (.int i0), .val (.int i1), .val (.int i2), .val (.ref ob), .val (.int nk), .val (.ref lA), .val (.ref lB), .val (.ref lD), .val (.int (1 : Int32))] [(.long (0 : Int64)), (.long (((0 : Int32) - (0 : Int32)).toInt64 + ((96 : Int64) * ((0 : Int32).toInt64))))])
        refine Go.step (fun _ k => XS.lcmp X116.here hx rfl (hb hby at_149) rfl k) ?_
        show Go p e below _ T116 (mkF m 150 #[.val (.int i0), .val (.int i1), .val (.int i2), .val (.ref ob), .val (.int nk), .val (.ref lA), .val (.ref lB), .val (.ref lD), .val (.int (1 : Int32))] [(.int (lcmpW (((0 : Int32) - (0 : Int32)).toInt64 + ((96 : Int64) * ((0 : Int32).toInt64))) (0 : Int64)))])
        refine Go.step (fun _ k => XS.ifNo X116.here hx rfl (hb hby at_150) rfl ((if0 _ _).trans (teq (by decide)).2) k) ?_
        show Go p e below _ T116 (mkF m 153 #[.val (.int i0), .val (.int i1), .val (.int i2), .val (.ref ob), .val (.int nk), .val (.ref lA), .val (.ref lB), .val (.ref lD), .val (.int (1 : Int32))] [])
        refine Go.step (fun _ k => XS.iconst X116.here hx rfl (hb hby at_153) k) ?_
        show Go p e below _ T116 (mkF m 154 #[.val (.int i0), .val (.int i1), .val (.int i2), .val (.ref ob), .val (.int nk), .val (.ref lA), .val (.ref lB), .val (.ref lD), .val (.int (1 : Int32))] [(.int (1 : Int32))])
        refine Go.step (fun _ k => XS.goto X116.here hx rfl (pc0 := 154) (pc' := 158) rfl (hb hby at_154) (by decide) (by decide) k) ?_
        show Go p e below _ T116 (mkF m 158 #[.val (.int i0), .val (.int i1), .val (.int i2), .val (.ref ob), .val (.int nk), .val (.ref lA), .val (.ref lB), .val (.ref lD), .val (.int (1 : Int32))] [(.int (1 : Int32))])
        refine Go.step (fun _ k => XS.istore X116.here hx rfl (hb hby at_158) rfl (l' := #[.val (.int i0), .val (.int i1), .val (.int i2), .val (.ref ob), .val (.int nk), .val (.ref lA), .val (.ref lB), .val (.ref lD), .val (.int (1 : Int32))]) rfl k) ?_
        show Go p e below _ T116 (mkF m 160 #[.val (.int i0), .val (.int i1), .val (.int i2), .val (.ref ob), .val (.int nk), .val (.ref lA), .val (.ref lB), .val (.ref lD), .val (.int (1 : Int32))] [])
        refine Go.step (fun _ k => XS.iload X116.here hx rfl (hb hby at_160) rfl k) ?_
        show Go p e below _ T116 (mkF m 162 #[.val (.int i0), .val (.int i1), .val (.int i2), .val (.ref ob), .val (.int nk), .val (.ref lA), .val (.ref lB), .val (.ref lD), .val (.int (1 : Int32))] [(.int (1 : Int32))])
        obtain ⟨fs, hr, hrun, hended, hW, hsame⟩ := X116.leave (v := some (.int (1 : Int32))) (fun h => by rw [Bd.returns] at h; cases h)
        refine Go.fin (retN X116 hx (t := .boolean) Bd.returns (by simp) (hb hby at_162) hr) hrun hended ?_
        refine ⟨_, _, rfl, ?_, ⟨_, rfl⟩, hW, hsame.mono (by decide) (by decide)⟩
        show Q0 Z i0 i1 i2 aE h0 n0 _ T116.heap _
        rw [e116]
        exact ⟨rfl, N116⟩
      · show Go p e below _ T107 (mkF m 70 #[.val (.int i0), .val (.int i1), .val (.int i2), .val (.ref ob), .val (.int nk), .val (.ref lA), .val (.ref lB), .val (.ref lD), .unset] [])
        refine Go.step (fun _ k => XS.aloadN X107.here hx rfl (hb hby at_70) rfl rfl k) ?_
        show Go p e below _ T107 (mkF m 71 #[.val (.int i0), .val (.int i1), .val (.int i2), .val (.ref ob), .val (.int nk), .val (.ref lA), .val (.ref lB), .val (.ref lD), .unset] [(.ref ob)])
        obtain ⟨cq117, kq117, q117a, q117b, q117c⟩ := isOf hZ rfl E_ob
        obtain ⟨_, _, ⟨T117, L117, k117, n117⟩, -, X117, ⟨Lc117, hQ117, l117, y117, z117⟩, st117⟩ := X107.virtualBack hx (y := (⟨"com/example/frugal_sieve/frugalsieve/server/Outbox", "isEmpty", "()Z"⟩ : MethodName)) (z := (⟨"com/example/frugal_sieve/frugalsieve/server/Outbox", "isEmpty", "()Z"⟩ : MethodName)) hown (mvT hZ (hw _ (List.mem_of_getElem? (i := 43) rfl))) (mvT hZ (hw _ (List.mem_of_getElem? (i := 44) rfl))) (notFace_of_selects (args := #[]) (mvT hZ (hw _ (List.mem_of_getElem? (i := 46) rfl)))) (mvT hZ (hw _ (List.mem_of_getElem? (i := 46) rfl))) (mvT hZ (hw _ (List.mem_of_getElem? (i := 45) rfl))) (by decide) (backOf (W := 0) (rmE l Z a0 hw [] ob T107.heap n0 Zn hR.2.1 hR.2.2.1) hZ (hw _ (List.mem_of_getElem? (i := 47) rfl)) (hw _ (List.mem_of_getElem? (i := 2) rfl)) (by decide) (by decide)) q117a q117c (g := (mkF m 71 #[.val (.int i0), .val (.int i1), .val (.int i2), .val (.ref ob), .val (.int nk), .val (.ref lA), .val (.ref lB), .val (.ref lD), .unset] [(.ref ob)])) rfl (by rw [hml]; rfl) (Steps.refl _) (argsL := []) (rest := []) (lenOf own_f164 rfl) rfl (by show 2 * 0 + _ ≤ _; exact Nat.le_of_eq rfl) (hb hby at_71) (fun _ _ => ⟨rfl, rfl, (by dsimp only [Pt.cells, Pt.slots]; decide), (by dsimp only [Pt.cells, Pt.slots]; decide)⟩)
        dsimp only [Pt.U, Pt.locs, Pt.cells, Pt.slots] at X117 l117 y117 z117 st117 hQ117
        subst l117 y117 z117
        obtain ⟨rfl, N117q, e117⟩ := hQ117
        have N117 := Fr.app N107 N117q
        refine Go.step (fun _ k => st117.trans k) ?_
        show Go p e below _ T117 (mkF m 74 #[.val (.int i0), .val (.int i1), .val (.int i2), .val (.ref ob), .val (.int nk), .val (.ref lA), .val (.ref lB), .val (.ref lD), .unset] [(.int (1 : Int32))])
        refine Go.step (fun _ k => XS.ifNo X117.here hx rfl (hb hby at_74) rfl ((if0 _ _).trans (feq (by decide)).1) k) ?_
        show Go p e below _ T117 (mkF m 77 #[.val (.int i0), .val (.int i1), .val (.int i2), .val (.ref ob), .val (.int nk), .val (.ref lA), .val (.ref lB), .val (.ref lD), .unset] [])
        refine Go.step (fun _ k => XS.aloadN X117.here hx rfl (hb hby at_77) rfl rfl k) ?_
        show Go p e below _ T117 (mkF m 78 #[.val (.int i0), .val (.int i1), .val (.int i2), .val (.ref ob), .val (.int nk), .val (.ref lA), .val (.ref lB), .val (.ref lD), .unset] [(.ref ob)])
        obtain ⟨cq118, kq118, q118a, q118b, q118c⟩ := isOf hZ e117 E_ob
        obtain ⟨_, _, ⟨T118, L118, k118, n118⟩, -, X118, ⟨Lc118, hQ118, l118, y118, z118⟩, st118⟩ := X117.virtualBack hx (y := (⟨"com/example/frugal_sieve/frugalsieve/server/Outbox", "waitingBytes", "()J"⟩ : MethodName)) (z := (⟨"com/example/frugal_sieve/frugalsieve/server/Outbox", "waitingBytes", "()J"⟩ : MethodName)) hown (mvT hZ (hw _ (List.mem_of_getElem? (i := 48) rfl))) (mvT hZ (hw _ (List.mem_of_getElem? (i := 49) rfl))) (notFace_of_selects (args := #[]) (mvT hZ (hw _ (List.mem_of_getElem? (i := 51) rfl)))) (mvT hZ (hw _ (List.mem_of_getElem? (i := 51) rfl))) (mvT hZ (hw _ (List.mem_of_getElem? (i := 50) rfl))) (by decide) (backOf (W := 0) (rmB l Z a0 hw [] ob (0 : Int32) (0 : Int32) T107.heap n0 Zn hR.2.1 hR.2.2.1 hR.2.2.2.1) hZ (hw _ (List.mem_of_getElem? (i := 52) rfl)) (hw _ (List.mem_of_getElem? (i := 2) rfl)) (by decide) (by decide)) q118a q118c (g := (mkF m 78 #[.val (.int i0), .val (.int i1), .val (.int i2), .val (.ref ob), .val (.int nk), .val (.ref lA), .val (.ref lB), .val (.ref lD), .unset] [(.ref ob)])) rfl (by rw [hml]; rfl) (Steps.refl _) (argsL := []) (rest := []) (lenOf own_f165 rfl) rfl (by show 2 * 0 + _ ≤ _; exact Nat.le_of_eq rfl) (hb hby at_78) (fun _ _ => ⟨rfl, e117, (by dsimp only [Pt.cells, Pt.slots]; decide), (by dsimp only [Pt.cells, Pt.slots]; decide)⟩)
        dsimp only [Pt.U, Pt.locs, Pt.cells, Pt.slots] at X118 l118 y118 z118 st118 hQ118
        subst l118 y118 z118
        obtain ⟨rfl, N118q, e118⟩ := hQ118
        have N118 := Fr.app N117 N118q
        refine Go.step (fun _ k => st118.trans k) ?_
        show Go p e below _ T118 (mkF m 81 #[.val (.int i0), .val (.int i1), .val (.int i2), .val (.ref ob), .val (.int nk), .val (.ref lA), .val (.ref lB), .val (.ref lD), .unset] [(.long (((0 : Int32) - (0 : Int32)).toInt64 + ((96 : Int64) * ((0 : Int32).toInt64))))])
        refine Go.step (fun _ k => XS.lconst X118.here hx rfl (hb hby at_81) k) ?_
        show Go p e below _ T118 (mkF m 82 #[.val (.int i0), .val (.int i1), .val (.int i2), .val (.ref ob), .val (.int nk), .val (.ref lA), .val (.ref lB), .val (.ref lD), .unset] [(.long (0 : Int64)), (.long (((0 : Int32) - (0 : Int32)).toInt64 + ((96 : Int64) * ((0 : Int32).toInt64))))])
        refine Go.step (fun _ k => XS.lcmp X118.here hx rfl (hb hby at_82) rfl k) ?_
        show Go p e below _ T118 (mkF m 83 #[.val (.int i0), .val (.int i1), .val (.int i2), .val (.ref ob), .val (.int nk), .val (.ref lA), .val (.ref lB), .val (.ref lD), .unset] [(.int (lcmpW (((0 : Int32) - (0 : Int32)).toInt64 + ((96 : Int64) * ((0 : Int32).toInt64))) (0 : Int64)))])
        refine Go.step (fun _ k => XS.ifNo X118.here hx rfl (hb hby at_83) rfl ((if0 _ _).trans (teq (by decide)).2) k) ?_
        show Go p e below _ T118 (mkF m 86 #[.val (.int i0), .val (.int i1), .val (.int i2), .val (.ref ob), .val (.int nk), .val (.ref lA), .val (.ref lB), .val (.ref lD), .unset] [])
        refine Go.step (fun _ k => XS.iconst X118.here hx rfl (hb hby at_86) k) ?_
        show Go p e below _ T118 (mkF m 87 #[.val (.int i0), .val (.int i1), .val (.int i2), .val (.ref ob), .val (.int nk), .val (.ref lA), .val (.ref lB), .val (.ref lD), .unset] [(.int (1 : Int32))])
        refine Go.step (fun _ k => XS.goto X118.here hx rfl (pc0 := 87) (pc' := 91) rfl (hb hby at_87) (by decide) (by decide) k) ?_
        show Go p e below _ T118 (mkF m 91 #[.val (.int i0), .val (.int i1), .val (.int i2), .val (.ref ob), .val (.int nk), .val (.ref lA), .val (.ref lB), .val (.ref lD), .unset] [(.int (1 : Int32))])
        refine Go.step (fun _ k => XS.istore X118.here hx rfl (hb hby at_91) rfl (l' := #[.val (.int i0), .val (.int i1), .val (.int i2), .val (.ref ob), .val (.int nk), .val (.ref lA), .val (.ref lB), .val (.ref lD), .val (.int (1 : Int32))]) rfl k) ?_
        show Go p e below _ T118 (mkF m 93 #[.val (.int i0), .val (.int i1), .val (.int i2), .val (.ref ob), .val (.int nk), .val (.ref lA), .val (.ref lB), .val (.ref lD), .val (.int (1 : Int32))] [])
        refine Go.step (fun _ k => XS.aloadN X118.here hx rfl (hb hby at_93) rfl rfl k) ?_
        show Go p e below _ T118 (mkF m 94 #[.val (.int i0), .val (.int i1), .val (.int i2), .val (.ref ob), .val (.int nk), .val (.ref lA), .val (.ref lB), .val (.ref lD), .val (.int (1 : Int32))] [(.ref ob)])
        refine Go.step (fun _ k => XS.aload X118.here hx rfl (hb hby at_94) rfl rfl k) ?_
        show Go p e below _ T118 (mkF m 96 #[.val (.int i0), .val (.int i1), .val (.int i2), .val (.ref ob), .val (.int nk), .val (.ref lA), .val (.ref lB), .val (.ref lD), .val (.int (1 : Int32))] [(.ref lD), (.ref ob)])
        obtain ⟨cq120, kq120, q120a, q120b, q120c⟩ := isOf hZ e118 E_ob
        obtain ⟨_, _, ⟨T120, L120, k120, n120⟩, -, X120, ⟨Lc120, hQ120, l120, y120, z120⟩, st120⟩ := X118.virtualBack hx (y := (⟨"com/example/frugal_sieve/frugalsieve/server/Outbox", "write", "([B)V"⟩ : MethodName)) (z := (⟨"com/example/frugal_sieve/frugalsieve/server/Outbox", "write", "([B)V"⟩ : MethodName)) hown (mvT hZ (hw _ (List.mem_of_getElem? (i := 10) rfl))) (mvT hZ (hw _ (List.mem_of_getElem? (i := 11) rfl))) (notFace_of_selects (args := #[]) (mvT hZ (hw _ (List.mem_of_getElem? (i := 13) rfl)))) (mvT hZ (hw _ (List.mem_of_getElem? (i := 13) rfl))) (mvT hZ (hw _ (List.mem_of_getElem? (i := 12) rfl))) (by decide) (backOf (W := 0) (rmW2 l Z a0 hw [] ob lD (0 : Int32) (0 : Int32) [lA, lB, lD] b105q zb105q 2048 aE nD T107.heap n0 Zn hR (by decide) S0 B0 Od g_ob B_lD hnD (own_P3 B_lA.lt B_lB.lt B_lD.lt) (List.mem_of_getElem? (i := 2) rfl)) hZ (hw _ (List.mem_of_getElem? (i := 14) rfl)) (hw _ (List.mem_of_getElem? (i := 2) rfl)) (by decide) (by decide)) q120a q120c (g := (mkF m 96 #[.val (.int i0), .val (.int i1), .val (.int i2), .val (.ref ob), .val (.int nk), .val (.ref lA), .val (.ref lB), .val (.ref lD), .val (.int (1 : Int32))] [(.ref lD), (.ref ob)])) rfl (by rw [hml]; rfl) (Steps.refl _) (argsL := [(.ref lD)]) (rest := []) (lenOf own_f166 rfl) rfl (by show 2 * 0 + _ ≤ _; exact Nat.le_of_eq rfl) (hb hby at_96) (fun _ _ => ⟨rfl, e118, (by dsimp only [Pt.cells, Pt.slots]; decide), (by dsimp only [Pt.cells, Pt.slots]; decide)⟩)
        dsimp only [Pt.U, Pt.locs, Pt.cells, Pt.slots] at X120 l120 y120 z120 st120 hQ120
        subst l120 y120 z120
        obtain ⟨b119q, zb119q, rfl, N120q, K120, hR, hloc⟩ := hQ120
        have N120 := Fr.app N118 N120q
        refine Go.step (fun _ k => st120.trans k) ?_
        replace Od := Od.keep K120 (allS g_ob (allS g_b105q all0))
        replace E_ob := E_ob.keep K120
        replace B_lA := B_lA.keep K120 (ninS (Ne.symm ne_ob_lA) (ninS ne_lA_b105q nin0))
        replace B_lB := B_lB.keep K120 (ninS (Ne.symm ne_ob_lB) (ninS ne_lB_b105q nin0))
        replace B_lD := B_lD.keep K120 (ninS (Ne.symm ne_ob_lD) (ninS ne_lD_b105q nin0))
        replace Zn := Nat.le_trans Zn K120.1
        show Go p e below _ T120 (mkF m 99 #[.val (.int i0), .val (.int i1), .val (.int i2), .val (.ref ob), .val (.int nk), .val (.ref lA), .val (.ref lB), .val (.ref lD), .val (.int (1 : Int32))] [])
        have g_b119q := hR.2.2.2.2.2.2.1
        have np_b119q := hR.2.2.2.2.2.2.2.1
        have ne_lA_b119q : lA ≠ b119q := fun q => np_b119q (q ▸ (List.mem_of_getElem? (i := 0) rfl))
        have ne_lB_b119q : lB ≠ b119q := fun q => np_b119q (q ▸ (List.mem_of_getElem? (i := 1) rfl))
        have ne_lD_b119q : lD ≠ b119q := fun q => np_b119q (q ▸ (List.mem_of_getElem? (i := 2) rfl))
        refine Go.step (fun _ k => XS.iload X120.here hx rfl (hb hby at_99) rfl k) ?_
        show Go p e below _ T120 (mkF m 101 #[.val (.int i0), .val (.int i1), .val (.int i2), .val (.ref ob), .val (.int nk), .val (.ref lA), .val (.ref lB), .val (.ref lD), .val (.int (1 : Int32))] [(.int (1 : Int32))])
        refine Go.step (fun _ k => XS.ifNo X120.here hx rfl (hb hby at_101) rfl ((if0 _ _).trans (feq (by decide)).1) k) ?_
        show Go p e below _ T120 (mkF m 104 #[.val (.int i0), .val (.int i1), .val (.int i2), .val (.ref ob), .val (.int nk), .val (.ref lA), .val (.ref lB), .val (.ref lD), .val (.int (1 : Int32))] [])
        refine Go.step (fun _ k => XS.aloadN X120.here hx rfl (hb hby at_104) rfl rfl k) ?_
        show Go p e below _ T120 (mkF m 105 #[.val (.int i0), .val (.int i1), .val (.int i2), .val (.ref ob), .val (.int nk), .val (.ref lA), .val (.ref lB), .val (.ref lD), .val (.int (1 : Int32))] [(.ref ob)])
        obtain ⟨cq121, kq121, q121a, q121b, q121c⟩ := isOf hZ rfl E_ob
        obtain ⟨_, _, ⟨T121, L121, k121, n121⟩, -, X121, ⟨Lc121, hQ121, l121, y121, z121⟩, st121⟩ := X120.virtualBack hx (y := (⟨"com/example/frugal_sieve/frugalsieve/server/Outbox", "waitingBytes", "()J"⟩ : MethodName)) (z := (⟨"com/example/frugal_sieve/frugalsieve/server/Outbox", "waitingBytes", "()J"⟩ : MethodName)) hown (mvT hZ (hw _ (List.mem_of_getElem? (i := 48) rfl))) (mvT hZ (hw _ (List.mem_of_getElem? (i := 49) rfl))) (notFace_of_selects (args := #[]) (mvT hZ (hw _ (List.mem_of_getElem? (i := 51) rfl)))) (mvT hZ (hw _ (List.mem_of_getElem? (i := 51) rfl))) (mvT hZ (hw _ (List.mem_of_getElem? (i := 50) rfl))) (by decide) (backOf (W := 0) (rmB l Z a0 hw [] ob ((0 : Int32) + (nD + (2 : Int32))) ((0 : Int32) + (1 : Int32)) T120.heap n0 Zn hR.2.1 hR.2.2.1 hR.2.2.2.1) hZ (hw _ (List.mem_of_getElem? (i := 52) rfl)) (hw _ (List.mem_of_getElem? (i := 2) rfl)) (by decide) (by decide)) q121a q121c (g := (mkF m 105 #[.val (.int i0), .val (.int i1), .val (.int i2), .val (.ref ob), .val (.int nk), .val (.ref lA), .val (.ref lB), .val (.ref lD), .val (.int (1 : Int32))] [(.ref ob)])) rfl (by rw [hml]; rfl) (Steps.refl _) (argsL := []) (rest := []) (lenOf own_f165 rfl) rfl (by show 2 * 0 + _ ≤ _; exact Nat.le_of_eq rfl) (hb hby at_105) (fun _ _ => ⟨rfl, rfl, (by dsimp only [Pt.cells, Pt.slots]; decide), (by dsimp only [Pt.cells, Pt.slots]; decide)⟩)
        dsimp only [Pt.U, Pt.locs, Pt.cells, Pt.slots] at X121 l121 y121 z121 st121 hQ121
        subst l121 y121 z121
        obtain ⟨rfl, N121q, e121⟩ := hQ121
        have N121 := Fr.app N120 N121q
        refine Go.step (fun _ k => st121.trans k) ?_
        show Go p e below _ T121 (mkF m 108 #[.val (.int i0), .val (.int i1), .val (.int i2), .val (.ref ob), .val (.int nk), .val (.ref lA), .val (.ref lB), .val (.ref lD), .val (.int (1 : Int32))] [(.long ((((0 : Int32) + (nD + (2 : Int32))) - (0 : Int32)).toInt64 + ((96 : Int64) * (((0 : Int32) + (1 : Int32)).toInt64))))])
        refine Go.step (fun _ k => XS.aload X121.here hx rfl (hb hby at_108) rfl rfl k) ?_
        show Go p e below _ T121 (mkF m 110 #[.val (.int i0), .val (.int i1), .val (.int i2), .val (.ref ob), .val (.int nk), .val (.ref lA), .val (.ref lB), .val (.ref lD), .val (.int (1 : Int32))] [(.ref lD), (.long ((((0 : Int32) + (nD + (2 : Int32))) - (0 : Int32)).toInt64 + ((96 : Int64) * (((0 : Int32) + (1 : Int32)).toInt64))))])
        obtain ⟨_, _, ⟨cl122, Ar122, _, S122, Nn122, _, _⟩, _⟩ := id B_lD
        refine Go.step (X121.arraylength hx (by rw [e121]; exact Ar122.1) (State.isArrayOf_alike hZ.alike Ar122.2.1) (g := (mkF m 110 #[.val (.int i0), .val (.int i1), .val (.int i2), .val (.ref ob), .val (.int nk), .val (.ref lA), .val (.ref lB), .val (.ref lD), .val (.int (1 : Int32))] [(.ref lD), (.long ((((0 : Int32) + (nD + (2 : Int32))) - (0 : Int32)).toInt64 + ((96 : Int64) * (((0 : Int32) + (1 : Int32)).toInt64))))])) rfl rfl (hb hby at_110)) ?_
        rw [len_of S122 Nn122]
        show Go p e below _ T121 (mkF m 111 #[.val (.int i0), .val (.int i1), .val (.int i2), .val (.ref ob), .val (.int nk), .val (.ref lA), .val (.ref lB), .val (.ref lD), .val (.int (1 : Int32))] [(.int nD), (.long ((((0 : Int32) + (nD + (2 : Int32))) - (0 : Int32)).toInt64 + ((96 : Int64) * (((0 : Int32) + (1 : Int32)).toInt64))))])
        refine Go.step (fun _ k => XS.iconst X121.here hx rfl (hb hby at_111) k) ?_
        show Go p e below _ T121 (mkF m 112 #[.val (.int i0), .val (.int i1), .val (.int i2), .val (.ref ob), .val (.int nk), .val (.ref lA), .val (.ref lB), .val (.ref lD), .val (.int (1 : Int32))] [(.int (2 : Int32)), (.int nD), (.long ((((0 : Int32) + (nD + (2 : Int32))) - (0 : Int32)).toInt64 + ((96 : Int64) * (((0 : Int32) + (1 : Int32)).toInt64))))])
        refine Go.step (fun _ k => XS.iadd X121.here hx rfl (hb hby at_112) rfl k) ?_
        show Go p e below _ T121 (mkF m 113 #[.val (.int i0), .val (.int i1), .val (.int i2), .val (.ref ob), .val (.int nk), .val (.ref lA), .val (.ref lB), .val (.ref lD), .val (.int (1 : Int32))] [(.int (nD + (2 : Int32))), (.long ((((0 : Int32) + (nD + (2 : Int32))) - (0 : Int32)).toInt64 + ((96 : Int64) * (((0 : Int32) + (1 : Int32)).toInt64))))])
        refine Go.step (fun _ k => XS.bipush X121.here hx rfl (hb hby at_113) k) ?_
        show Go p e below _ T121 (mkF m 115 #[.val (.int i0), .val (.int i1), .val (.int i2), .val (.ref ob), .val (.int nk), .val (.ref lA), .val (.ref lB), .val (.ref lD), .val (.int (1 : Int32))] [(.int (96 : Int32)), (.int (nD + (2 : Int32))), (.long ((((0 : Int32) + (nD + (2 : Int32))) - (0 : Int32)).toInt64 + ((96 : Int64) * (((0 : Int32) + (1 : Int32)).toInt64))))])
        refine Go.step (fun _ k => XS.iadd X121.here hx rfl (hb hby at_115) rfl k) ?_
        show Go p e below _ T121 (mkF m 116 #[.val (.int i0), .val (.int i1), .val (.int i2), .val (.ref ob), .val (.int nk), .val (.ref lA), .val (.ref lB), .val (.ref lD), .val (.int (1 : Int32))] [(.int ((nD + (2 : Int32)) + (96 : Int32))), (.long ((((0 : Int32) + (nD + (2 : Int32))) - (0 : Int32)).toInt64 + ((96 : Int64) * (((0 : Int32) + (1 : Int32)).toInt64))))])
        refine Go.step (fun _ k => XS.i2l X121.here hx rfl (hb hby at_116) rfl k) ?_
        show Go p e below _ T121 (mkF m 117 #[.val (.int i0), .val (.int i1), .val (.int i2), .val (.ref ob), .val (.int nk), .val (.ref lA), .val (.ref lB), .val (.ref lD), .val (.int (1 : Int32))] [(.long (((nD + (2 : Int32)) + (96 : Int32)).toInt64)), (.long ((((0 : Int32) + (nD + (2 : Int32))) - (0 : Int32)).toInt64 + ((96 : Int64) * (((0 : Int32) + (1 : Int32)).toInt64))))])
        refine Go.step (fun _ k => XS.lcmp X121.here hx rfl (hb hby at_117) rfl k) ?_
        show Go p e below _ T121 (mkF m 118 #[.val (.int i0), .val (.int i1), .val (.int i2), .val (.ref ob), .val (.int nk), .val (.ref lA), .val (.ref lB), .val (.ref lD), .val (.int (1 : Int32))] [(.int (lcmpW ((((0 : Int32) + (nD + (2 : Int32))) - (0 : Int32)).toInt64 + ((96 : Int64) * (((0 : Int32) + (1 : Int32)).toInt64))) (((nD + (2 : Int32)) + (96 : Int32)).toInt64)))])
        refine Go.step (fun _ k => XS.ifNo X121.here hx rfl (hb hby at_118) rfl ((if0 _ _).trans (teq (own_wb hnD)).2) k) ?_
        show Go p e below _ T121 (mkF m 121 #[.val (.int i0), .val (.int i1), .val (.int i2), .val (.ref ob), .val (.int nk), .val (.ref lA), .val (.ref lB), .val (.ref lD), .val (.int (1 : Int32))] [])
        refine Go.step (fun _ k => XS.iconst X121.here hx rfl (hb hby at_121) k) ?_
        show Go p e below _ T121 (mkF m 122 #[.val (.int i0), .val (.int i1), .val (.int i2), .val (.ref ob), .val (.int nk), .val (.ref lA), .val (.ref lB), .val (.ref lD), .val (.int (1 : Int32))] [(.int (1 : Int32))])
        refine Go.step (fun _ k => XS.goto X121.here hx rfl (pc0 := 122) (pc' := 126) rfl (hb hby at_122) (by decide) (by decide) k) ?_
        show Go p e below _ T121 (mkF m 126 #[.val (.int i0), .val (.int i1), .val (.int i2), .val (.ref ob), .val (.int nk), .val (.ref lA), .val (.ref lB), .val (.ref lD), .val (.int (1 : Int32))] [(.int (1 : Int32))])
        refine Go.step (fun _ k => XS.istore X121.here hx rfl (hb hby at_126) rfl (l' := #[.val (.int i0), .val (.int i1), .val (.int i2), .val (.ref ob), .val (.int nk), .val (.ref lA), .val (.ref lB), .val (.ref lD), .val (.int (1 : Int32))]) rfl k) ?_
        show Go p e below _ T121 (mkF m 128 #[.val (.int i0), .val (.int i1), .val (.int i2), .val (.ref ob), .val (.int nk), .val (.ref lA), .val (.ref lB), .val (.ref lD), .val (.int (1 : Int32))] [])
        refine Go.step (fun _ k => XS.aloadN X121.here hx rfl (hb hby at_128) rfl rfl k) ?_
        show Go p e below _ T121 (mkF m 129 #[.val (.int i0), .val (.int i1), .val (.int i2), .val (.ref ob), .val (.int nk), .val (.ref lA), .val (.ref lB), .val (.ref lD), .val (.int (1 : Int32))] [(.ref ob)])
        obtain ⟨cq123, kq123, q123a, q123b, q123c⟩ := isOf hZ e121 E_ob
        obtain ⟨_, _, ⟨T123, L123, k123, n123⟩, -, X123, ⟨Lc123, hQ123, l123, y123, z123⟩, st123⟩ := X121.virtualBack hx (y := (⟨"com/example/frugal_sieve/frugalsieve/server/Outbox", "clear", "()V"⟩ : MethodName)) (z := (⟨"com/example/frugal_sieve/frugalsieve/server/Outbox", "clear", "()V"⟩ : MethodName)) hown (mvT hZ (hw _ (List.mem_of_getElem? (i := 36) rfl))) (mvT hZ (hw _ (List.mem_of_getElem? (i := 37) rfl))) (notFace_of_selects (args := #[]) (mvT hZ (hw _ (List.mem_of_getElem? (i := 39) rfl)))) (mvT hZ (hw _ (List.mem_of_getElem? (i := 39) rfl))) (mvT hZ (hw _ (List.mem_of_getElem? (i := 38) rfl))) (by decide) (backOf (W := 0) (rmC2 l Z a0 hw [] ob ((0 : Int32) + (nD + (2 : Int32))) ((0 : Int32) + (1 : Int32)) [lA, lB, lD] b119q zb119q (2048 + 4097) T120.heap n0 Zn hR g_ob) hZ (hw _ (List.mem_of_getElem? (i := 40) rfl)) (hw _ (List.mem_of_getElem? (i := 2) rfl)) (by decide) (by decide)) q123a q123c (g := (mkF m 129 #[.val (.int i0), .val (.int i1), .val (.int i2), .val (.ref ob), .val (.int nk), .val (.ref lA), .val (.ref lB), .val (.ref lD), .val (.int (1 : Int32))] [(.ref ob)])) rfl (by rw [hml]; rfl) (Steps.refl _) (argsL := []) (rest := []) (lenOf own_f163 rfl) rfl (by show 2 * 0 + _ ≤ _; exact Nat.le_of_eq rfl) (hb hby at_129) (fun _ _ => ⟨rfl, e121, (by dsimp only [Pt.cells, Pt.slots]; decide), (by dsimp only [Pt.cells, Pt.slots]; decide)⟩)
        dsimp only [Pt.U, Pt.locs, Pt.cells, Pt.slots] at X123 l123 y123 z123 st123 hQ123
        subst l123 y123 z123
        obtain ⟨rfl, N123q, K123, hD⟩ := hQ123
        have N123 := Fr.app N121 N123q
        refine Go.step (fun _ k => st123.trans k) ?_
        replace Od := Od.keep K123 (allS g_ob all0)
        replace E_ob := E_ob.keep K123
        replace B_lA := B_lA.keep K123 (ninS (Ne.symm ne_ob_lA) nin0)
        replace B_lB := B_lB.keep K123 (ninS (Ne.symm ne_ob_lB) nin0)
        replace B_lD := B_lD.keep K123 (ninS (Ne.symm ne_ob_lD) nin0)
        replace Zn := Nat.le_trans Zn K123.1
        show Go p e below _ T123 (mkF m 132 #[.val (.int i0), .val (.int i1), .val (.int i2), .val (.ref ob), .val (.int nk), .val (.ref lA), .val (.ref lB), .val (.ref lD), .val (.int (1 : Int32))] [])
        have hF : Fld Z T123.heap ob "com/example/frugal_sieve/frugalsieve/server/Outbox" "start" "I" (.int (0 : Int32)) ∧ Fld Z T123.heap ob "com/example/frugal_sieve/frugalsieve/server/Outbox" "end" "I" (.int (0 : Int32)) ∧ Fld Z T123.heap ob "com/example/frugal_sieve/frugalsieve/server/Outbox" "lines" "I" (.int (0 : Int32)) := hD.elim (fun q => ⟨q.2.1, q.2.2.1, q.2.2.2.1⟩) (fun q => ⟨q.2.1, q.2.2.1, q.2.2.2.1⟩)
        refine Go.step (fun _ k => XS.iload X123.here hx rfl (hb hby at_132) rfl k) ?_
        show Go p e below _ T123 (mkF m 134 #[.val (.int i0), .val (.int i1), .val (.int i2), .val (.ref ob), .val (.int nk), .val (.ref lA), .val (.ref lB), .val (.ref lD), .val (.int (1 : Int32))] [(.int (1 : Int32))])
        refine Go.step (fun _ k => XS.ifNo X123.here hx rfl (hb hby at_134) rfl ((if0 _ _).trans (feq (by decide)).1) k) ?_
        show Go p e below _ T123 (mkF m 137 #[.val (.int i0), .val (.int i1), .val (.int i2), .val (.ref ob), .val (.int nk), .val (.ref lA), .val (.ref lB), .val (.ref lD), .val (.int (1 : Int32))] [])
        refine Go.step (fun _ k => XS.aloadN X123.here hx rfl (hb hby at_137) rfl rfl k) ?_
        show Go p e below _ T123 (mkF m 138 #[.val (.int i0), .val (.int i1), .val (.int i2), .val (.ref ob), .val (.int nk), .val (.ref lA), .val (.ref lB), .val (.ref lD), .val (.int (1 : Int32))] [(.ref ob)])
        obtain ⟨cq124, kq124, q124a, q124b, q124c⟩ := isOf hZ rfl E_ob
        obtain ⟨_, _, ⟨T124, L124, k124, n124⟩, -, X124, ⟨Lc124, hQ124, l124, y124, z124⟩, st124⟩ := X123.virtualBack hx (y := (⟨"com/example/frugal_sieve/frugalsieve/server/Outbox", "isEmpty", "()Z"⟩ : MethodName)) (z := (⟨"com/example/frugal_sieve/frugalsieve/server/Outbox", "isEmpty", "()Z"⟩ : MethodName)) hown (mvT hZ (hw _ (List.mem_of_getElem? (i := 43) rfl))) (mvT hZ (hw _ (List.mem_of_getElem? (i := 44) rfl))) (notFace_of_selects (args := #[]) (mvT hZ (hw _ (List.mem_of_getElem? (i := 46) rfl)))) (mvT hZ (hw _ (List.mem_of_getElem? (i := 46) rfl))) (mvT hZ (hw _ (List.mem_of_getElem? (i := 45) rfl))) (by decide) (backOf (W := 0) (rmE l Z a0 hw [] ob T123.heap n0 Zn hF.1 hF.2.1) hZ (hw _ (List.mem_of_getElem? (i := 47) rfl)) (hw _ (List.mem_of_getElem? (i := 2) rfl)) (by decide) (by decide)) q124a q124c (g := (mkF m 138 #[.val (.int i0), .val (.int i1), .val (.int i2), .val (.ref ob), .val (.int nk), .val (.ref lA), .val (.ref lB), .val (.ref lD), .val (.int (1 : Int32))] [(.ref ob)])) rfl (by rw [hml]; rfl) (Steps.refl _) (argsL := []) (rest := []) (lenOf own_f164 rfl) rfl (by show 2 * 0 + _ ≤ _; exact Nat.le_of_eq rfl) (hb hby at_138) (fun _ _ => ⟨rfl, rfl, (by dsimp only [Pt.cells, Pt.slots]; decide), (by dsimp only [Pt.cells, Pt.slots]; decide)⟩)
        dsimp only [Pt.U, Pt.locs, Pt.cells, Pt.slots] at X124 l124 y124 z124 st124 hQ124
        subst l124 y124 z124
        obtain ⟨rfl, N124q, e124⟩ := hQ124
        have N124 := Fr.app N123 N124q
        refine Go.step (fun _ k => st124.trans k) ?_
        show Go p e below _ T124 (mkF m 141 #[.val (.int i0), .val (.int i1), .val (.int i2), .val (.ref ob), .val (.int nk), .val (.ref lA), .val (.ref lB), .val (.ref lD), .val (.int (1 : Int32))] [(.int (1 : Int32))])
        refine Go.step (fun _ k => XS.ifNo X124.here hx rfl (hb hby at_141) rfl ((if0 _ _).trans (feq (by decide)).1) k) ?_
        show Go p e below _ T124 (mkF m 144 #[.val (.int i0), .val (.int i1), .val (.int i2), .val (.ref ob), .val (.int nk), .val (.ref lA), .val (.ref lB), .val (.ref lD), .val (.int (1 : Int32))] [])
        refine Go.step (fun _ k => XS.aloadN X124.here hx rfl (hb hby at_144) rfl rfl k) ?_
        show Go p e below _ T124 (mkF m 145 #[.val (.int i0), .val (.int i1), .val (.int i2), .val (.ref ob), .val (.int nk), .val (.ref lA), .val (.ref lB), .val (.ref lD), .val (.int (1 : Int32))] [(.ref ob)])
        obtain ⟨cq125, kq125, q125a, q125b, q125c⟩ := isOf hZ e124 E_ob
        obtain ⟨_, _, ⟨T125, L125, k125, n125⟩, -, X125, ⟨Lc125, hQ125, l125, y125, z125⟩, st125⟩ := X124.virtualBack hx (y := (⟨"com/example/frugal_sieve/frugalsieve/server/Outbox", "waitingBytes", "()J"⟩ : MethodName)) (z := (⟨"com/example/frugal_sieve/frugalsieve/server/Outbox", "waitingBytes", "()J"⟩ : MethodName)) hown (mvT hZ (hw _ (List.mem_of_getElem? (i := 48) rfl))) (mvT hZ (hw _ (List.mem_of_getElem? (i := 49) rfl))) (notFace_of_selects (args := #[]) (mvT hZ (hw _ (List.mem_of_getElem? (i := 51) rfl)))) (mvT hZ (hw _ (List.mem_of_getElem? (i := 51) rfl))) (mvT hZ (hw _ (List.mem_of_getElem? (i := 50) rfl))) (by decide) (backOf (W := 0) (rmB l Z a0 hw [] ob (0 : Int32) (0 : Int32) T123.heap n0 Zn hF.1 hF.2.1 hF.2.2) hZ (hw _ (List.mem_of_getElem? (i := 52) rfl)) (hw _ (List.mem_of_getElem? (i := 2) rfl)) (by decide) (by decide)) q125a q125c (g := (mkF m 145 #[.val (.int i0), .val (.int i1), .val (.int i2), .val (.ref ob), .val (.int nk), .val (.ref lA), .val (.ref lB), .val (.ref lD), .val (.int (1 : Int32))] [(.ref ob)])) rfl (by rw [hml]; rfl) (Steps.refl _) (argsL := []) (rest := []) (lenOf own_f165 rfl) rfl (by show 2 * 0 + _ ≤ _; exact Nat.le_of_eq rfl) (hb hby at_145) (fun _ _ => ⟨rfl, e124, (by dsimp only [Pt.cells, Pt.slots]; decide), (by dsimp only [Pt.cells, Pt.slots]; decide)⟩)
        dsimp only [Pt.U, Pt.locs, Pt.cells, Pt.slots] at X125 l125 y125 z125 st125 hQ125
        subst l125 y125 z125
        obtain ⟨rfl, N125q, e125⟩ := hQ125
        have N125 := Fr.app N124 N125q
        refine Go.step (fun _ k => st125.trans k) ?_
        show Go p e below _ T125 (mkF m 148 #[.val (.int i0), .val (.int i1), .val (.int i2), .val (.ref ob), .val (.int nk), .val (.ref lA), .val (.ref lB), .val (.ref lD), .val (.int (1 : Int32))] [(.long (((0 : Int32) - (0 : Int32)).toInt64 + ((96 : Int64) * ((0 : Int32).toInt64))))])
        refine Go.step (fun _ k => XS.lconst X125.here hx rfl (hb hby at_148) k) ?_
        show Go p e below _ T125 (mkF m 149 #[.val (.int i0), .val (.int i1), .val (.int i2), .val (.ref ob), .val (.int nk), .val (.ref lA), .val (.ref lB), .val (.ref lD), .val (.int (1 : Int32))] [(.long (0 : Int64)), (.long (((0 : Int32) - (0 : Int32)).toInt64 + ((96 : Int64) * ((0 : Int32).toInt64))))])
        refine Go.step (fun _ k => XS.lcmp X125.here hx rfl (hb hby at_149) rfl k) ?_
        show Go p e below _ T125 (mkF m 150 #[.val (.int i0), .val (.int i1), .val (.int i2), .val (.ref ob), .val (.int nk), .val (.ref lA), .val (.ref lB), .val (.ref lD), .val (.int (1 : Int32))] [(.int (lcmpW (((0 : Int32) - (0 : Int32)).toInt64 + ((96 : Int64) * ((0 : Int32).toInt64))) (0 : Int64)))])
        refine Go.step (fun _ k => XS.ifNo X125.here hx rfl (hb hby at_150) rfl ((if0 _ _).trans (teq (by decide)).2) k) ?_
        show Go p e below _ T125 (mkF m 153 #[.val (.int i0), .val (.int i1), .val (.int i2), .val (.ref ob), .val (.int nk), .val (.ref lA), .val (.ref lB), .val (.ref lD), .val (.int (1 : Int32))] [])
        refine Go.step (fun _ k => XS.iconst X125.here hx rfl (hb hby at_153) k) ?_
        show Go p e below _ T125 (mkF m 154 #[.val (.int i0), .val (.int i1), .val (.int i2), .val (.ref ob), .val (.int nk), .val (.ref lA), .val (.ref lB), .val (.ref lD), .val (.int (1 : Int32))] [(.int (1 : Int32))])
        refine Go.step (fun _ k => XS.goto X125.here hx rfl (pc0 := 154) (pc' := 158) rfl (hb hby at_154) (by decide) (by decide) k) ?_
        show Go p e below _ T125 (mkF m 158 #[.val (.int i0), .val (.int i1), .val (.int i2), .val (.ref ob), .val (.int nk), .val (.ref lA), .val (.ref lB), .val (.ref lD), .val (.int (1 : Int32))] [(.int (1 : Int32))])
        refine Go.step (fun _ k => XS.istore X125.here hx rfl (hb hby at_158) rfl (l' := #[.val (.int i0), .val (.int i1), .val (.int i2), .val (.ref ob), .val (.int nk), .val (.ref lA), .val (.ref lB), .val (.ref lD), .val (.int (1 : Int32))]) rfl k) ?_
        show Go p e below _ T125 (mkF m 160 #[.val (.int i0), .val (.int i1), .val (.int i2), .val (.ref ob), .val (.int nk), .val (.ref lA), .val (.ref lB), .val (.ref lD), .val (.int (1 : Int32))] [])
        refine Go.step (fun _ k => XS.iload X125.here hx rfl (hb hby at_160) rfl k) ?_
        show Go p e below _ T125 (mkF m 162 #[.val (.int i0), .val (.int i1), .val (.int i2), .val (.ref ob), .val (.int nk), .val (.ref lA), .val (.ref lB), .val (.ref lD), .val (.int (1 : Int32))] [(.int (1 : Int32))])
        obtain ⟨fs, hr, hrun, hended, hW, hsame⟩ := X125.leave (v := some (.int (1 : Int32))) (fun h => by rw [Bd.returns] at h; cases h)
        refine Go.fin (retN X125 hx (t := .boolean) Bd.returns (by simp) (hb hby at_162) hr) hrun hended ?_
        refine ⟨_, _, rfl, ?_, ⟨_, rfl⟩, hW, hsame.mono (by decide) (by decide)⟩
        show Q0 Z i0 i1 i2 aE h0 n0 _ T125.heap _
        rw [e125]
        exact ⟨rfl, N125⟩
  · show Go p e below _ T92 (mkF m 45 #[.val (.int i0), .val (.int i1), .val (.int i2), .val (.ref ob), .val (.int nk), .val (.ref lA), .val (.ref lB), .val (.ref lD), .unset] [(.int (1 : Int32)), (.int nk)])
    refine Go.step (fun _ k => XS.icmpNo X92.here hx rfl (hb hby at_45) rfl (flt hc45_93).1 k) ?_
    show Go p e below _ T92 (mkF m 48 #[.val (.int i0), .val (.int i1), .val (.int i2), .val (.ref ob), .val (.int nk), .val (.ref lA), .val (.ref lB), .val (.ref lD), .unset] [])
    refine Go.step (fun _ k => XS.aloadN X92.here hx rfl (hb hby at_48) rfl rfl k) ?_
    show Go p e below _ T92 (mkF m 49 #[.val (.int i0), .val (.int i1), .val (.int i2), .val (.ref ob), .val (.int nk), .val (.ref lA), .val (.ref lB), .val (.ref lD), .unset] [(.ref ob)])
    refine Go.step (fun _ k => XS.aload X92.here hx rfl (hb hby at_49) rfl rfl k) ?_
    show Go p e below _ T92 (mkF m 51 #[.val (.int i0), .val (.int i1), .val (.int i2), .val (.ref ob), .val (.int nk), .val (.ref lA), .val (.ref lB), .val (.ref lD), .unset] [(.ref lA), (.ref ob)])
    obtain ⟨cq127, kq127, q127a, q127b, q127c⟩ := isOf hZ e92 E_ob
    obtain ⟨_, _, ⟨T127, L127, k127, n127⟩, -, X127, ⟨Lc127, hQ127, l127, y127, z127⟩, st127⟩ := X92.virtualBack hx (y := (⟨"com/example/frugal_sieve/frugalsieve/server/Outbox", "write", "([B)V"⟩ : MethodName)) (z := (⟨"com/example/frugal_sieve/frugalsieve/server/Outbox", "write", "([B)V"⟩ : MethodName)) hown (mvT hZ (hw _ (List.mem_of_getElem? (i := 10) rfl))) (mvT hZ (hw _ (List.mem_of_getElem? (i := 11) rfl))) (notFace_of_selects (args := #[]) (mvT hZ (hw _ (List.mem_of_getElem? (i := 13) rfl)))) (mvT hZ (hw _ (List.mem_of_getElem? (i := 13) rfl))) (mvT hZ (hw _ (List.mem_of_getElem? (i := 12) rfl))) (by decide) (backOf (W := 0) (rmW1 l Z a0 hw [] ob lA (0 : Int32) [lA, lB, lD] aE nA h92 n0 Zn hR S0 B0 Od g_ob B_lA hnA (own_P3 B_lA.lt B_lB.lt B_lD.lt) (List.mem_of_getElem? (i := 0) rfl)) hZ (hw _ (List.mem_of_getElem? (i := 14) rfl)) (hw _ (List.mem_of_getElem? (i := 2) rfl)) (by decide) (by decide)) q127a q127c (g := (mkF m 51 #[.val (.int i0), .val (.int i1), .val (.int i2), .val (.ref ob), .val (.int nk), .val (.ref lA), .val (.ref lB), .val (.ref lD), .unset] [(.ref lA), (.ref ob)])) rfl (by rw [hml]; rfl) (Steps.refl _) (argsL := [(.ref lA)]) (rest := []) (lenOf own_f166 rfl) rfl (by show 2 * 0 + _ ≤ _; exact Nat.le_of_eq rfl) (hb hby at_51) (fun _ _ => ⟨rfl, e92, (by dsimp only [Pt.cells, Pt.slots]; decide), (by dsimp only [Pt.cells, Pt.slots]; decide)⟩)
    dsimp only [Pt.U, Pt.locs, Pt.cells, Pt.slots] at X127 l127 y127 z127 st127 hQ127
    subst l127 y127 z127
    obtain ⟨b126q, zb126q, rfl, N127q, K127, hR, hloc⟩ := hQ127
    have N127 := Fr.app N89 N127q
    refine Go.step (fun _ k => st127.trans k) ?_
    replace Od := Od.keep K127 (allS g_ob all0)
    replace E_ob := E_ob.keep K127
    replace B_lA := B_lA.keep K127 (ninS (Ne.symm ne_ob_lA) nin0)
    replace B_lB := B_lB.keep K127 (ninS (Ne.symm ne_ob_lB) nin0)
    replace B_lD := B_lD.keep K127 (ninS (Ne.symm ne_ob_lD) nin0)
    replace Zn := Nat.le_trans Zn K127.1
    show Go p e below _ T127 (mkF m 54 #[.val (.int i0), .val (.int i1), .val (.int i2), .val (.ref ob), .val (.int nk), .val (.ref lA), .val (.ref lB), .val (.ref lD), .unset] [])
    have g_b126q := hR.2.2.2.2.2.2.1
    have np_b126q := hR.2.2.2.2.2.2.2.1
    have ne_lA_b126q : lA ≠ b126q := fun q => np_b126q (q ▸ (List.mem_of_getElem? (i := 0) rfl))
    have ne_lB_b126q : lB ≠ b126q := fun q => np_b126q (q ▸ (List.mem_of_getElem? (i := 1) rfl))
    have ne_lD_b126q : lD ≠ b126q := fun q => np_b126q (q ▸ (List.mem_of_getElem? (i := 2) rfl))
    refine Go.step (fun _ k => XS.iload X127.here hx rfl (hb hby at_54) rfl k) ?_
    show Go p e below _ T127 (mkF m 56 #[.val (.int i0), .val (.int i1), .val (.int i2), .val (.ref ob), .val (.int nk), .val (.ref lA), .val (.ref lB), .val (.ref lD), .unset] [(.int nk)])
    refine Go.step (fun _ k => XS.iconst X127.here hx rfl (hb hby at_56) k) ?_
    show Go p e below _ T127 (mkF m 57 #[.val (.int i0), .val (.int i1), .val (.int i2), .val (.ref ob), .val (.int nk), .val (.ref lA), .val (.ref lB), .val (.ref lD), .unset] [(.int (2 : Int32)), (.int nk)])
    by_cases hc57_128 : nk < (2 : Int32)
    · show Go p e below _ T127 (mkF m 57 #[.val (.int i0), .val (.int i1), .val (.int i2), .val (.ref ob), .val (.int nk), .val (.ref lA), .val (.ref lB), .val (.ref lD), .unset] [(.int (2 : Int32)), (.int nk)])
      refine Go.step (fun _ k => XS.icmpYes X127.here hx rfl (pc0 := 57) (pc' := 66) rfl (hb hby at_57) rfl (tlt hc57_128).1 (by decide) (by decide) k) ?_
      show Go p e below _ T127 (mkF m 66 #[.val (.int i0), .val (.int i1), .val (.int i2), .val (.ref ob), .val (.int nk), .val (.ref lA), .val (.ref lB), .val (.ref lD), .unset] [])
      refine Go.step (fun _ k => XS.aloadN X127.here hx rfl (hb hby at_66) rfl rfl k) ?_
      show Go p e below _ T127 (mkF m 67 #[.val (.int i0), .val (.int i1), .val (.int i2), .val (.ref ob), .val (.int nk), .val (.ref lA), .val (.ref lB), .val (.ref lD), .unset] [(.ref ob)])
      obtain ⟨cq129, kq129, q129a, q129b, q129c⟩ := isOf hZ rfl E_ob
      obtain ⟨_, _, ⟨T129, L129, k129, n129⟩, -, X129, ⟨Lc129, hQ129, l129, y129, z129⟩, st129⟩ := X127.virtualBack hx (y := (⟨"com/example/frugal_sieve/frugalsieve/server/Outbox", "clear", "()V"⟩ : MethodName)) (z := (⟨"com/example/frugal_sieve/frugalsieve/server/Outbox", "clear", "()V"⟩ : MethodName)) hown (mvT hZ (hw _ (List.mem_of_getElem? (i := 36) rfl))) (mvT hZ (hw _ (List.mem_of_getElem? (i := 37) rfl))) (notFace_of_selects (args := #[]) (mvT hZ (hw _ (List.mem_of_getElem? (i := 39) rfl)))) (mvT hZ (hw _ (List.mem_of_getElem? (i := 39) rfl))) (mvT hZ (hw _ (List.mem_of_getElem? (i := 38) rfl))) (by decide) (backOf (W := 0) (rmC2 l Z a0 hw [] ob ((0 : Int32) + (nA + (2 : Int32))) ((0 : Int32) + (1 : Int32)) [lA, lB, lD] b126q zb126q 4097 T127.heap n0 Zn hR g_ob) hZ (hw _ (List.mem_of_getElem? (i := 40) rfl)) (hw _ (List.mem_of_getElem? (i := 2) rfl)) (by decide) (by decide)) q129a q129c (g := (mkF m 67 #[.val (.int i0), .val (.int i1), .val (.int i2), .val (.ref ob), .val (.int nk), .val (.ref lA), .val (.ref lB), .val (.ref lD), .unset] [(.ref ob)])) rfl (by rw [hml]; rfl) (Steps.refl _) (argsL := []) (rest := []) (lenOf own_f163 rfl) rfl (by show 2 * 0 + _ ≤ _; exact Nat.le_of_eq rfl) (hb hby at_67) (fun _ _ => ⟨rfl, rfl, (by dsimp only [Pt.cells, Pt.slots]; decide), (by dsimp only [Pt.cells, Pt.slots]; decide)⟩)
      dsimp only [Pt.U, Pt.locs, Pt.cells, Pt.slots] at X129 l129 y129 z129 st129 hQ129
      subst l129 y129 z129
      obtain ⟨rfl, N129q, K129, hD⟩ := hQ129
      have N129 := Fr.app N127 N129q
      refine Go.step (fun _ k => st129.trans k) ?_
      replace Od := Od.keep K129 (allS g_ob all0)
      replace E_ob := E_ob.keep K129
      replace B_lA := B_lA.keep K129 (ninS (Ne.symm ne_ob_lA) nin0)
      replace B_lB := B_lB.keep K129 (ninS (Ne.symm ne_ob_lB) nin0)
      replace B_lD := B_lD.keep K129 (ninS (Ne.symm ne_ob_lD) nin0)
      replace Zn := Nat.le_trans Zn K129.1
      show Go p e below _ T129 (mkF m 70 #[.val (.int i0), .val (.int i1), .val (.int i2), .val (.ref ob), .val (.int nk), .val (.ref lA), .val (.ref lB), .val (.ref lD), .unset] [])
      rcases hD with hR | hR
      · show Go p e below _ T129 (mkF m 70 #[.val (.int i0), .val (.int i1), .val (.int i2), .val (.ref ob), .val (.int nk), .val (.ref lA), .val (.ref lB), .val (.ref lD), .unset] [])
        refine Go.step (fun _ k => XS.aloadN X129.here hx rfl (hb hby at_70) rfl rfl k) ?_
        show Go p e below _ T129 (mkF m 71 #[.val (.int i0), .val (.int i1), .val (.int i2), .val (.ref ob), .val (.int nk), .val (.ref lA), .val (.ref lB), .val (.ref lD), .unset] [(.ref ob)])
        obtain ⟨cq130, kq130, q130a, q130b, q130c⟩ := isOf hZ rfl E_ob
        obtain ⟨_, _, ⟨T130, L130, k130, n130⟩, -, X130, ⟨Lc130, hQ130, l130, y130, z130⟩, st130⟩ := X129.virtualBack hx (y := (⟨"com/example/frugal_sieve/frugalsieve/server/Outbox", "isEmpty", "()Z"⟩ : MethodName)) (z := (⟨"com/example/frugal_sieve/frugalsieve/server/Outbox", "isEmpty", "()Z"⟩ : MethodName)) hown (mvT hZ (hw _ (List.mem_of_getElem? (i := 43) rfl))) (mvT hZ (hw _ (List.mem_of_getElem? (i := 44) rfl))) (notFace_of_selects (args := #[]) (mvT hZ (hw _ (List.mem_of_getElem? (i := 46) rfl)))) (mvT hZ (hw _ (List.mem_of_getElem? (i := 46) rfl))) (mvT hZ (hw _ (List.mem_of_getElem? (i := 45) rfl))) (by decide) (backOf (W := 0) (rmE l Z a0 hw [] ob T129.heap n0 Zn hR.2.1 hR.2.2.1) hZ (hw _ (List.mem_of_getElem? (i := 47) rfl)) (hw _ (List.mem_of_getElem? (i := 2) rfl)) (by decide) (by decide)) q130a q130c (g := (mkF m 71 #[.val (.int i0), .val (.int i1), .val (.int i2), .val (.ref ob), .val (.int nk), .val (.ref lA), .val (.ref lB), .val (.ref lD), .unset] [(.ref ob)])) rfl (by rw [hml]; rfl) (Steps.refl _) (argsL := []) (rest := []) (lenOf own_f164 rfl) rfl (by show 2 * 0 + _ ≤ _; exact Nat.le_of_eq rfl) (hb hby at_71) (fun _ _ => ⟨rfl, rfl, (by dsimp only [Pt.cells, Pt.slots]; decide), (by dsimp only [Pt.cells, Pt.slots]; decide)⟩)
        dsimp only [Pt.U, Pt.locs, Pt.cells, Pt.slots] at X130 l130 y130 z130 st130 hQ130
        subst l130 y130 z130
        obtain ⟨rfl, N130q, e130⟩ := hQ130
        have N130 := Fr.app N129 N130q
        refine Go.step (fun _ k => st130.trans k) ?_
        show Go p e below _ T130 (mkF m 74 #[.val (.int i0), .val (.int i1), .val (.int i2), .val (.ref ob), .val (.int nk), .val (.ref lA), .val (.ref lB), .val (.ref lD), .unset] [(.int (1 : Int32))])
        refine Go.step (fun _ k => XS.ifNo X130.here hx rfl (hb hby at_74) rfl ((if0 _ _).trans (feq (by decide)).1) k) ?_
        show Go p e below _ T130 (mkF m 77 #[.val (.int i0), .val (.int i1), .val (.int i2), .val (.ref ob), .val (.int nk), .val (.ref lA), .val (.ref lB), .val (.ref lD), .unset] [])
        refine Go.step (fun _ k => XS.aloadN X130.here hx rfl (hb hby at_77) rfl rfl k) ?_
        show Go p e below _ T130 (mkF m 78 #[.val (.int i0), .val (.int i1), .val (.int i2), .val (.ref ob), .val (.int nk), .val (.ref lA), .val (.ref lB), .val (.ref lD), .unset] [(.ref ob)])
        obtain ⟨cq131, kq131, q131a, q131b, q131c⟩ := isOf hZ e130 E_ob
        obtain ⟨_, _, ⟨T131, L131, k131, n131⟩, -, X131, ⟨Lc131, hQ131, l131, y131, z131⟩, st131⟩ := X130.virtualBack hx (y := (⟨"com/example/frugal_sieve/frugalsieve/server/Outbox", "waitingBytes", "()J"⟩ : MethodName)) (z := (⟨"com/example/frugal_sieve/frugalsieve/server/Outbox", "waitingBytes", "()J"⟩ : MethodName)) hown (mvT hZ (hw _ (List.mem_of_getElem? (i := 48) rfl))) (mvT hZ (hw _ (List.mem_of_getElem? (i := 49) rfl))) (notFace_of_selects (args := #[]) (mvT hZ (hw _ (List.mem_of_getElem? (i := 51) rfl)))) (mvT hZ (hw _ (List.mem_of_getElem? (i := 51) rfl))) (mvT hZ (hw _ (List.mem_of_getElem? (i := 50) rfl))) (by decide) (backOf (W := 0) (rmB l Z a0 hw [] ob (0 : Int32) (0 : Int32) T129.heap n0 Zn hR.2.1 hR.2.2.1 hR.2.2.2.1) hZ (hw _ (List.mem_of_getElem? (i := 52) rfl)) (hw _ (List.mem_of_getElem? (i := 2) rfl)) (by decide) (by decide)) q131a q131c (g := (mkF m 78 #[.val (.int i0), .val (.int i1), .val (.int i2), .val (.ref ob), .val (.int nk), .val (.ref lA), .val (.ref lB), .val (.ref lD), .unset] [(.ref ob)])) rfl (by rw [hml]; rfl) (Steps.refl _) (argsL := []) (rest := []) (lenOf own_f165 rfl) rfl (by show 2 * 0 + _ ≤ _; exact Nat.le_of_eq rfl) (hb hby at_78) (fun _ _ => ⟨rfl, e130, (by dsimp only [Pt.cells, Pt.slots]; decide), (by dsimp only [Pt.cells, Pt.slots]; decide)⟩)
        dsimp only [Pt.U, Pt.locs, Pt.cells, Pt.slots] at X131 l131 y131 z131 st131 hQ131
        subst l131 y131 z131
        obtain ⟨rfl, N131q, e131⟩ := hQ131
        have N131 := Fr.app N130 N131q
        refine Go.step (fun _ k => st131.trans k) ?_
        show Go p e below _ T131 (mkF m 81 #[.val (.int i0), .val (.int i1), .val (.int i2), .val (.ref ob), .val (.int nk), .val (.ref lA), .val (.ref lB), .val (.ref lD), .unset] [(.long (((0 : Int32) - (0 : Int32)).toInt64 + ((96 : Int64) * ((0 : Int32).toInt64))))])
        refine Go.step (fun _ k => XS.lconst X131.here hx rfl (hb hby at_81) k) ?_
        show Go p e below _ T131 (mkF m 82 #[.val (.int i0), .val (.int i1), .val (.int i2), .val (.ref ob), .val (.int nk), .val (.ref lA), .val (.ref lB), .val (.ref lD), .unset] [(.long (0 : Int64)), (.long (((0 : Int32) - (0 : Int32)).toInt64 + ((96 : Int64) * ((0 : Int32).toInt64))))])
        refine Go.step (fun _ k => XS.lcmp X131.here hx rfl (hb hby at_82) rfl k) ?_
        show Go p e below _ T131 (mkF m 83 #[.val (.int i0), .val (.int i1), .val (.int i2), .val (.ref ob), .val (.int nk), .val (.ref lA), .val (.ref lB), .val (.ref lD), .unset] [(.int (lcmpW (((0 : Int32) - (0 : Int32)).toInt64 + ((96 : Int64) * ((0 : Int32).toInt64))) (0 : Int64)))])
        refine Go.step (fun _ k => XS.ifNo X131.here hx rfl (hb hby at_83) rfl ((if0 _ _).trans (teq (by decide)).2) k) ?_
        show Go p e below _ T131 (mkF m 86 #[.val (.int i0), .val (.int i1), .val (.int i2), .val (.ref ob), .val (.int nk), .val (.ref lA), .val (.ref lB), .val (.ref lD), .unset] [])
        refine Go.step (fun _ k => XS.iconst X131.here hx rfl (hb hby at_86) k) ?_
        show Go p e below _ T131 (mkF m 87 #[.val (.int i0), .val (.int i1), .val (.int i2), .val (.ref ob), .val (.int nk), .val (.ref lA), .val (.ref lB), .val (.ref lD), .unset] [(.int (1 : Int32))])
        refine Go.step (fun _ k => XS.goto X131.here hx rfl (pc0 := 87) (pc' := 91) rfl (hb hby at_87) (by decide) (by decide) k) ?_
        show Go p e below _ T131 (mkF m 91 #[.val (.int i0), .val (.int i1), .val (.int i2), .val (.ref ob), .val (.int nk), .val (.ref lA), .val (.ref lB), .val (.ref lD), .unset] [(.int (1 : Int32))])
        refine Go.step (fun _ k => XS.istore X131.here hx rfl (hb hby at_91) rfl (l' := #[.val (.int i0), .val (.int i1), .val (.int i2), .val (.ref ob), .val (.int nk), .val (.ref lA), .val (.ref lB), .val (.ref lD), .val (.int (1 : Int32))]) rfl k) ?_
        show Go p e below _ T131 (mkF m 93 #[.val (.int i0), .val (.int i1), .val (.int i2), .val (.ref ob), .val (.int nk), .val (.ref lA), .val (.ref lB), .val (.ref lD), .val (.int (1 : Int32))] [])
        refine Go.step (fun _ k => XS.aloadN X131.here hx rfl (hb hby at_93) rfl rfl k) ?_
        show Go p e below _ T131 (mkF m 94 #[.val (.int i0), .val (.int i1), .val (.int i2), .val (.ref ob), .val (.int nk), .val (.ref lA), .val (.ref lB), .val (.ref lD), .val (.int (1 : Int32))] [(.ref ob)])
        refine Go.step (fun _ k => XS.aload X131.here hx rfl (hb hby at_94) rfl rfl k) ?_
        show Go p e below _ T131 (mkF m 96 #[.val (.int i0), .val (.int i1), .val (.int i2), .val (.ref ob), .val (.int nk), .val (.ref lA), .val (.ref lB), .val (.ref lD), .val (.int (1 : Int32))] [(.ref lD), (.ref ob)])
        obtain ⟨cq133, kq133, q133a, q133b, q133c⟩ := isOf hZ e131 E_ob
        obtain ⟨_, _, ⟨T133, L133, k133, n133⟩, -, X133, ⟨Lc133, hQ133, l133, y133, z133⟩, st133⟩ := X131.virtualBack hx (y := (⟨"com/example/frugal_sieve/frugalsieve/server/Outbox", "write", "([B)V"⟩ : MethodName)) (z := (⟨"com/example/frugal_sieve/frugalsieve/server/Outbox", "write", "([B)V"⟩ : MethodName)) hown (mvT hZ (hw _ (List.mem_of_getElem? (i := 10) rfl))) (mvT hZ (hw _ (List.mem_of_getElem? (i := 11) rfl))) (notFace_of_selects (args := #[]) (mvT hZ (hw _ (List.mem_of_getElem? (i := 13) rfl)))) (mvT hZ (hw _ (List.mem_of_getElem? (i := 13) rfl))) (mvT hZ (hw _ (List.mem_of_getElem? (i := 12) rfl))) (by decide) (backOf (W := 0) (rmW1 l Z a0 hw [] ob lD (0 : Int32) [lA, lB, lD] aE nD T129.heap n0 Zn hR S0 B0 Od g_ob B_lD hnD (own_P3 B_lA.lt B_lB.lt B_lD.lt) (List.mem_of_getElem? (i := 2) rfl)) hZ (hw _ (List.mem_of_getElem? (i := 14) rfl)) (hw _ (List.mem_of_getElem? (i := 2) rfl)) (by decide) (by decide)) q133a q133c (g := (mkF m 96 #[.val (.int i0), .val (.int i1), .val (.int i2), .val (.ref ob), .val (.int nk), .val (.ref lA), .val (.ref lB), .val (.ref lD), .val (.int (1 : Int32))] [(.ref lD), (.ref ob)])) rfl (by rw [hml]; rfl) (Steps.refl _) (argsL := [(.ref lD)]) (rest := []) (lenOf own_f166 rfl) rfl (by show 2 * 0 + _ ≤ _; exact Nat.le_of_eq rfl) (hb hby at_96) (fun _ _ => ⟨rfl, e131, (by dsimp only [Pt.cells, Pt.slots]; decide), (by dsimp only [Pt.cells, Pt.slots]; decide)⟩)
        dsimp only [Pt.U, Pt.locs, Pt.cells, Pt.slots] at X133 l133 y133 z133 st133 hQ133
        subst l133 y133 z133
        obtain ⟨b132q, zb132q, rfl, N133q, K133, hR, hloc⟩ := hQ133
        have N133 := Fr.app N131 N133q
        refine Go.step (fun _ k => st133.trans k) ?_
        replace Od := Od.keep K133 (allS g_ob all0)
        replace E_ob := E_ob.keep K133
        replace B_lA := B_lA.keep K133 (ninS (Ne.symm ne_ob_lA) nin0)
        replace B_lB := B_lB.keep K133 (ninS (Ne.symm ne_ob_lB) nin0)
        replace B_lD := B_lD.keep K133 (ninS (Ne.symm ne_ob_lD) nin0)
        replace Zn := Nat.le_trans Zn K133.1
        show Go p e below _ T133 (mkF m 99 #[.val (.int i0), .val (.int i1), .val (.int i2), .val (.ref ob), .val (.int nk), .val (.ref lA), .val (.ref lB), .val (.ref lD), .val (.int (1 : Int32))] [])
        have g_b132q := hR.2.2.2.2.2.2.1
        have np_b132q := hR.2.2.2.2.2.2.2.1
        have ne_lA_b132q : lA ≠ b132q := fun q => np_b132q (q ▸ (List.mem_of_getElem? (i := 0) rfl))
        have ne_lB_b132q : lB ≠ b132q := fun q => np_b132q (q ▸ (List.mem_of_getElem? (i := 1) rfl))
        have ne_lD_b132q : lD ≠ b132q := fun q => np_b132q (q ▸ (List.mem_of_getElem? (i := 2) rfl))
        refine Go.step (fun _ k => XS.iload X133.here hx rfl (hb hby at_99) rfl k) ?_
        show Go p e below _ T133 (mkF m 101 #[.val (.int i0), .val (.int i1), .val (.int i2), .val (.ref ob), .val (.int nk), .val (.ref lA), .val (.ref lB), .val (.ref lD), .val (.int (1 : Int32))] [(.int (1 : Int32))])
        refine Go.step (fun _ k => XS.ifNo X133.here hx rfl (hb hby at_101) rfl ((if0 _ _).trans (feq (by decide)).1) k) ?_
        show Go p e below _ T133 (mkF m 104 #[.val (.int i0), .val (.int i1), .val (.int i2), .val (.ref ob), .val (.int nk), .val (.ref lA), .val (.ref lB), .val (.ref lD), .val (.int (1 : Int32))] [])
        refine Go.step (fun _ k => XS.aloadN X133.here hx rfl (hb hby at_104) rfl rfl k) ?_
        show Go p e below _ T133 (mkF m 105 #[.val (.int i0), .val (.int i1), .val (.int i2), .val (.ref ob), .val (.int nk), .val (.ref lA), .val (.ref lB), .val (.ref lD), .val (.int (1 : Int32))] [(.ref ob)])
        obtain ⟨cq134, kq134, q134a, q134b, q134c⟩ := isOf hZ rfl E_ob
        obtain ⟨_, _, ⟨T134, L134, k134, n134⟩, -, X134, ⟨Lc134, hQ134, l134, y134, z134⟩, st134⟩ := X133.virtualBack hx (y := (⟨"com/example/frugal_sieve/frugalsieve/server/Outbox", "waitingBytes", "()J"⟩ : MethodName)) (z := (⟨"com/example/frugal_sieve/frugalsieve/server/Outbox", "waitingBytes", "()J"⟩ : MethodName)) hown (mvT hZ (hw _ (List.mem_of_getElem? (i := 48) rfl))) (mvT hZ (hw _ (List.mem_of_getElem? (i := 49) rfl))) (notFace_of_selects (args := #[]) (mvT hZ (hw _ (List.mem_of_getElem? (i := 51) rfl)))) (mvT hZ (hw _ (List.mem_of_getElem? (i := 51) rfl))) (mvT hZ (hw _ (List.mem_of_getElem? (i := 50) rfl))) (by decide) (backOf (W := 0) (rmB l Z a0 hw [] ob ((0 : Int32) + (nD + (2 : Int32))) ((0 : Int32) + (1 : Int32)) T133.heap n0 Zn hR.2.1 hR.2.2.1 hR.2.2.2.1) hZ (hw _ (List.mem_of_getElem? (i := 52) rfl)) (hw _ (List.mem_of_getElem? (i := 2) rfl)) (by decide) (by decide)) q134a q134c (g := (mkF m 105 #[.val (.int i0), .val (.int i1), .val (.int i2), .val (.ref ob), .val (.int nk), .val (.ref lA), .val (.ref lB), .val (.ref lD), .val (.int (1 : Int32))] [(.ref ob)])) rfl (by rw [hml]; rfl) (Steps.refl _) (argsL := []) (rest := []) (lenOf own_f165 rfl) rfl (by show 2 * 0 + _ ≤ _; exact Nat.le_of_eq rfl) (hb hby at_105) (fun _ _ => ⟨rfl, rfl, (by dsimp only [Pt.cells, Pt.slots]; decide), (by dsimp only [Pt.cells, Pt.slots]; decide)⟩)
        dsimp only [Pt.U, Pt.locs, Pt.cells, Pt.slots] at X134 l134 y134 z134 st134 hQ134
        subst l134 y134 z134
        obtain ⟨rfl, N134q, e134⟩ := hQ134
        have N134 := Fr.app N133 N134q
        refine Go.step (fun _ k => st134.trans k) ?_
        show Go p e below _ T134 (mkF m 108 #[.val (.int i0), .val (.int i1), .val (.int i2), .val (.ref ob), .val (.int nk), .val (.ref lA), .val (.ref lB), .val (.ref lD), .val (.int (1 : Int32))] [(.long ((((0 : Int32) + (nD + (2 : Int32))) - (0 : Int32)).toInt64 + ((96 : Int64) * (((0 : Int32) + (1 : Int32)).toInt64))))])
        refine Go.step (fun _ k => XS.aload X134.here hx rfl (hb hby at_108) rfl rfl k) ?_
        show Go p e below _ T134 (mkF m 110 #[.val (.int i0), .val (.int i1), .val (.int i2), .val (.ref ob), .val (.int nk), .val (.ref lA), .val (.ref lB), .val (.ref lD), .val (.int (1 : Int32))] [(.ref lD), (.long ((((0 : Int32) + (nD + (2 : Int32))) - (0 : Int32)).toInt64 + ((96 : Int64) * (((0 : Int32) + (1 : Int32)).toInt64))))])
        obtain ⟨_, _, ⟨cl135, Ar135, _, S135, Nn135, _, _⟩, _⟩ := id B_lD
        refine Go.step (X134.arraylength hx (by rw [e134]; exact Ar135.1) (State.isArrayOf_alike hZ.alike Ar135.2.1) (g := (mkF m 110 #[.val (.int i0), .val (.int i1), .val (.int i2), .val (.ref ob), .val (.int nk), .val (.ref lA), .val (.ref lB), .val (.ref lD), .val (.int (1 : Int32))] [(.ref lD), (.long ((((0 : Int32) + (nD + (2 : Int32))) - (0 : Int32)).toInt64 + ((96 : Int64) * (((0 : Int32) + (1 : Int32)).toInt64))))])) rfl rfl (hb hby at_110)) ?_
        rw [len_of S135 Nn135]
        show Go p e below _ T134 (mkF m 111 #[.val (.int i0), .val (.int i1), .val (.int i2), .val (.ref ob), .val (.int nk), .val (.ref lA), .val (.ref lB), .val (.ref lD), .val (.int (1 : Int32))] [(.int nD), (.long ((((0 : Int32) + (nD + (2 : Int32))) - (0 : Int32)).toInt64 + ((96 : Int64) * (((0 : Int32) + (1 : Int32)).toInt64))))])
        refine Go.step (fun _ k => XS.iconst X134.here hx rfl (hb hby at_111) k) ?_
        show Go p e below _ T134 (mkF m 112 #[.val (.int i0), .val (.int i1), .val (.int i2), .val (.ref ob), .val (.int nk), .val (.ref lA), .val (.ref lB), .val (.ref lD), .val (.int (1 : Int32))] [(.int (2 : Int32)), (.int nD), (.long ((((0 : Int32) + (nD + (2 : Int32))) - (0 : Int32)).toInt64 + ((96 : Int64) * (((0 : Int32) + (1 : Int32)).toInt64))))])
        refine Go.step (fun _ k => XS.iadd X134.here hx rfl (hb hby at_112) rfl k) ?_
        show Go p e below _ T134 (mkF m 113 #[.val (.int i0), .val (.int i1), .val (.int i2), .val (.ref ob), .val (.int nk), .val (.ref lA), .val (.ref lB), .val (.ref lD), .val (.int (1 : Int32))] [(.int (nD + (2 : Int32))), (.long ((((0 : Int32) + (nD + (2 : Int32))) - (0 : Int32)).toInt64 + ((96 : Int64) * (((0 : Int32) + (1 : Int32)).toInt64))))])
        refine Go.step (fun _ k => XS.bipush X134.here hx rfl (hb hby at_113) k) ?_
        show Go p e below _ T134 (mkF m 115 #[.val (.int i0), .val (.int i1), .val (.int i2), .val (.ref ob), .val (.int nk), .val (.ref lA), .val (.ref lB), .val (.ref lD), .val (.int (1 : Int32))] [(.int (96 : Int32)), (.int (nD + (2 : Int32))), (.long ((((0 : Int32) + (nD + (2 : Int32))) - (0 : Int32)).toInt64 + ((96 : Int64) * (((0 : Int32) + (1 : Int32)).toInt64))))])
        refine Go.step (fun _ k => XS.iadd X134.here hx rfl (hb hby at_115) rfl k) ?_
        show Go p e below _ T134 (mkF m 116 #[.val (.int i0), .val (.int i1), .val (.int i2), .val (.ref ob), .val (.int nk), .val (.ref lA), .val (.ref lB), .val (.ref lD), .val (.int (1 : Int32))] [(.int ((nD + (2 : Int32)) + (96 : Int32))), (.long ((((0 : Int32) + (nD + (2 : Int32))) - (0 : Int32)).toInt64 + ((96 : Int64) * (((0 : Int32) + (1 : Int32)).toInt64))))])
        refine Go.step (fun _ k => XS.i2l X134.here hx rfl (hb hby at_116) rfl k) ?_
        show Go p e below _ T134 (mkF m 117 #[.val (.int i0), .val (.int i1), .val (.int i2), .val (.ref ob), .val (.int nk), .val (.ref lA), .val (.ref lB), .val (.ref lD), .val (.int (1 : Int32))] [(.long (((nD + (2 : Int32)) + (96 : Int32)).toInt64)), (.long ((((0 : Int32) + (nD + (2 : Int32))) - (0 : Int32)).toInt64 + ((96 : Int64) * (((0 : Int32) + (1 : Int32)).toInt64))))])
        refine Go.step (fun _ k => XS.lcmp X134.here hx rfl (hb hby at_117) rfl k) ?_
        show Go p e below _ T134 (mkF m 118 #[.val (.int i0), .val (.int i1), .val (.int i2), .val (.ref ob), .val (.int nk), .val (.ref lA), .val (.ref lB), .val (.ref lD), .val (.int (1 : Int32))] [(.int (lcmpW ((((0 : Int32) + (nD + (2 : Int32))) - (0 : Int32)).toInt64 + ((96 : Int64) * (((0 : Int32) + (1 : Int32)).toInt64))) (((nD + (2 : Int32)) + (96 : Int32)).toInt64)))])
        refine Go.step (fun _ k => XS.ifNo X134.here hx rfl (hb hby at_118) rfl ((if0 _ _).trans (teq (own_wb hnD)).2) k) ?_
        show Go p e below _ T134 (mkF m 121 #[.val (.int i0), .val (.int i1), .val (.int i2), .val (.ref ob), .val (.int nk), .val (.ref lA), .val (.ref lB), .val (.ref lD), .val (.int (1 : Int32))] [])
        refine Go.step (fun _ k => XS.iconst X134.here hx rfl (hb hby at_121) k) ?_
        show Go p e below _ T134 (mkF m 122 #[.val (.int i0), .val (.int i1), .val (.int i2), .val (.ref ob), .val (.int nk), .val (.ref lA), .val (.ref lB), .val (.ref lD), .val (.int (1 : Int32))] [(.int (1 : Int32))])
        refine Go.step (fun _ k => XS.goto X134.here hx rfl (pc0 := 122) (pc' := 126) rfl (hb hby at_122) (by decide) (by decide) k) ?_
        show Go p e below _ T134 (mkF m 126 #[.val (.int i0), .val (.int i1), .val (.int i2), .val (.ref ob), .val (.int nk), .val (.ref lA), .val (.ref lB), .val (.ref lD), .val (.int (1 : Int32))] [(.int (1 : Int32))])
        refine Go.step (fun _ k => XS.istore X134.here hx rfl (hb hby at_126) rfl (l' := #[.val (.int i0), .val (.int i1), .val (.int i2), .val (.ref ob), .val (.int nk), .val (.ref lA), .val (.ref lB), .val (.ref lD), .val (.int (1 : Int32))]) rfl k) ?_
        show Go p e below _ T134 (mkF m 128 #[.val (.int i0), .val (.int i1), .val (.int i2), .val (.ref ob), .val (.int nk), .val (.ref lA), .val (.ref lB), .val (.ref lD), .val (.int (1 : Int32))] [])
        refine Go.step (fun _ k => XS.aloadN X134.here hx rfl (hb hby at_128) rfl rfl k) ?_
        show Go p e below _ T134 (mkF m 129 #[.val (.int i0), .val (.int i1), .val (.int i2), .val (.ref ob), .val (.int nk), .val (.ref lA), .val (.ref lB), .val (.ref lD), .val (.int (1 : Int32))] [(.ref ob)])
        obtain ⟨cq136, kq136, q136a, q136b, q136c⟩ := isOf hZ e134 E_ob
        obtain ⟨_, _, ⟨T136, L136, k136, n136⟩, -, X136, ⟨Lc136, hQ136, l136, y136, z136⟩, st136⟩ := X134.virtualBack hx (y := (⟨"com/example/frugal_sieve/frugalsieve/server/Outbox", "clear", "()V"⟩ : MethodName)) (z := (⟨"com/example/frugal_sieve/frugalsieve/server/Outbox", "clear", "()V"⟩ : MethodName)) hown (mvT hZ (hw _ (List.mem_of_getElem? (i := 36) rfl))) (mvT hZ (hw _ (List.mem_of_getElem? (i := 37) rfl))) (notFace_of_selects (args := #[]) (mvT hZ (hw _ (List.mem_of_getElem? (i := 39) rfl)))) (mvT hZ (hw _ (List.mem_of_getElem? (i := 39) rfl))) (mvT hZ (hw _ (List.mem_of_getElem? (i := 38) rfl))) (by decide) (backOf (W := 0) (rmC2 l Z a0 hw [] ob ((0 : Int32) + (nD + (2 : Int32))) ((0 : Int32) + (1 : Int32)) [lA, lB, lD] b132q zb132q 4097 T133.heap n0 Zn hR g_ob) hZ (hw _ (List.mem_of_getElem? (i := 40) rfl)) (hw _ (List.mem_of_getElem? (i := 2) rfl)) (by decide) (by decide)) q136a q136c (g := (mkF m 129 #[.val (.int i0), .val (.int i1), .val (.int i2), .val (.ref ob), .val (.int nk), .val (.ref lA), .val (.ref lB), .val (.ref lD), .val (.int (1 : Int32))] [(.ref ob)])) rfl (by rw [hml]; rfl) (Steps.refl _) (argsL := []) (rest := []) (lenOf own_f163 rfl) rfl (by show 2 * 0 + _ ≤ _; exact Nat.le_of_eq rfl) (hb hby at_129) (fun _ _ => ⟨rfl, e134, (by dsimp only [Pt.cells, Pt.slots]; decide), (by dsimp only [Pt.cells, Pt.slots]; decide)⟩)
        dsimp only [Pt.U, Pt.locs, Pt.cells, Pt.slots] at X136 l136 y136 z136 st136 hQ136
        subst l136 y136 z136
        obtain ⟨rfl, N136q, K136, hD⟩ := hQ136
        have N136 := Fr.app N134 N136q
        refine Go.step (fun _ k => st136.trans k) ?_
        replace Od := Od.keep K136 (allS g_ob all0)
        replace E_ob := E_ob.keep K136
        replace B_lA := B_lA.keep K136 (ninS (Ne.symm ne_ob_lA) nin0)
        replace B_lB := B_lB.keep K136 (ninS (Ne.symm ne_ob_lB) nin0)
        replace B_lD := B_lD.keep K136 (ninS (Ne.symm ne_ob_lD) nin0)
        replace Zn := Nat.le_trans Zn K136.1
        show Go p e below _ T136 (mkF m 132 #[.val (.int i0), .val (.int i1), .val (.int i2), .val (.ref ob), .val (.int nk), .val (.ref lA), .val (.ref lB), .val (.ref lD), .val (.int (1 : Int32))] [])
        have hF : Fld Z T136.heap ob "com/example/frugal_sieve/frugalsieve/server/Outbox" "start" "I" (.int (0 : Int32)) ∧ Fld Z T136.heap ob "com/example/frugal_sieve/frugalsieve/server/Outbox" "end" "I" (.int (0 : Int32)) ∧ Fld Z T136.heap ob "com/example/frugal_sieve/frugalsieve/server/Outbox" "lines" "I" (.int (0 : Int32)) := hD.elim (fun q => ⟨q.2.1, q.2.2.1, q.2.2.2.1⟩) (fun q => ⟨q.2.1, q.2.2.1, q.2.2.2.1⟩)
        refine Go.step (fun _ k => XS.iload X136.here hx rfl (hb hby at_132) rfl k) ?_
        show Go p e below _ T136 (mkF m 134 #[.val (.int i0), .val (.int i1), .val (.int i2), .val (.ref ob), .val (.int nk), .val (.ref lA), .val (.ref lB), .val (.ref lD), .val (.int (1 : Int32))] [(.int (1 : Int32))])
        refine Go.step (fun _ k => XS.ifNo X136.here hx rfl (hb hby at_134) rfl ((if0 _ _).trans (feq (by decide)).1) k) ?_
        show Go p e below _ T136 (mkF m 137 #[.val (.int i0), .val (.int i1), .val (.int i2), .val (.ref ob), .val (.int nk), .val (.ref lA), .val (.ref lB), .val (.ref lD), .val (.int (1 : Int32))] [])
        refine Go.step (fun _ k => XS.aloadN X136.here hx rfl (hb hby at_137) rfl rfl k) ?_
        show Go p e below _ T136 (mkF m 138 #[.val (.int i0), .val (.int i1), .val (.int i2), .val (.ref ob), .val (.int nk), .val (.ref lA), .val (.ref lB), .val (.ref lD), .val (.int (1 : Int32))] [(.ref ob)])
        obtain ⟨cq137, kq137, q137a, q137b, q137c⟩ := isOf hZ rfl E_ob
        obtain ⟨_, _, ⟨T137, L137, k137, n137⟩, -, X137, ⟨Lc137, hQ137, l137, y137, z137⟩, st137⟩ := X136.virtualBack hx (y := (⟨"com/example/frugal_sieve/frugalsieve/server/Outbox", "isEmpty", "()Z"⟩ : MethodName)) (z := (⟨"com/example/frugal_sieve/frugalsieve/server/Outbox", "isEmpty", "()Z"⟩ : MethodName)) hown (mvT hZ (hw _ (List.mem_of_getElem? (i := 43) rfl))) (mvT hZ (hw _ (List.mem_of_getElem? (i := 44) rfl))) (notFace_of_selects (args := #[]) (mvT hZ (hw _ (List.mem_of_getElem? (i := 46) rfl)))) (mvT hZ (hw _ (List.mem_of_getElem? (i := 46) rfl))) (mvT hZ (hw _ (List.mem_of_getElem? (i := 45) rfl))) (by decide) (backOf (W := 0) (rmE l Z a0 hw [] ob T136.heap n0 Zn hF.1 hF.2.1) hZ (hw _ (List.mem_of_getElem? (i := 47) rfl)) (hw _ (List.mem_of_getElem? (i := 2) rfl)) (by decide) (by decide)) q137a q137c (g := (mkF m 138 #[.val (.int i0), .val (.int i1), .val (.int i2), .val (.ref ob), .val (.int nk), .val (.ref lA), .val (.ref lB), .val (.ref lD), .val (.int (1 : Int32))] [(.ref ob)])) rfl (by rw [hml]; rfl) (Steps.refl _) (argsL := []) (rest := []) (lenOf own_f164 rfl) rfl (by show 2 * 0 + _ ≤ _; exact Nat.le_of_eq rfl) (hb hby at_138) (fun _ _ => ⟨rfl, rfl, (by dsimp only [Pt.cells, Pt.slots]; decide), (by dsimp only [Pt.cells, Pt.slots]; decide)⟩)
        dsimp only [Pt.U, Pt.locs, Pt.cells, Pt.slots] at X137 l137 y137 z137 st137 hQ137
        subst l137 y137 z137
        obtain ⟨rfl, N137q, e137⟩ := hQ137
        have N137 := Fr.app N136 N137q
        refine Go.step (fun _ k => st137.trans k) ?_
        show Go p e below _ T137 (mkF m 141 #[.val (.int i0), .val (.int i1), .val (.int i2), .val (.ref ob), .val (.int nk), .val (.ref lA), .val (.ref lB), .val (.ref lD), .val (.int (1 : Int32))] [(.int (1 : Int32))])
        refine Go.step (fun _ k => XS.ifNo X137.here hx rfl (hb hby at_141) rfl ((if0 _ _).trans (feq (by decide)).1) k) ?_
        show Go p e below _ T137 (mkF m 144 #[.val (.int i0), .val (.int i1), .val (.int i2), .val (.ref ob), .val (.int nk), .val (.ref lA), .val (.ref lB), .val (.ref lD), .val (.int (1 : Int32))] [])
        refine Go.step (fun _ k => XS.aloadN X137.here hx rfl (hb hby at_144) rfl rfl k) ?_
        show Go p e below _ T137 (mkF m 145 #[.val (.int i0), .val (.int i1), .val (.int i2), .val (.ref ob), .val (.int nk), .val (.ref lA), .val (.ref lB), .val (.ref lD), .val (.int (1 : Int32))] [(.ref ob)])
        obtain ⟨cq138, kq138, q138a, q138b, q138c⟩ := isOf hZ e137 E_ob
        obtain ⟨_, _, ⟨T138, L138, k138, n138⟩, -, X138, ⟨Lc138, hQ138, l138, y138, z138⟩, st138⟩ := X137.virtualBack hx (y := (⟨"com/example/frugal_sieve/frugalsieve/server/Outbox", "waitingBytes", "()J"⟩ : MethodName)) (z := (⟨"com/example/frugal_sieve/frugalsieve/server/Outbox", "waitingBytes", "()J"⟩ : MethodName)) hown (mvT hZ (hw _ (List.mem_of_getElem? (i := 48) rfl))) (mvT hZ (hw _ (List.mem_of_getElem? (i := 49) rfl))) (notFace_of_selects (args := #[]) (mvT hZ (hw _ (List.mem_of_getElem? (i := 51) rfl)))) (mvT hZ (hw _ (List.mem_of_getElem? (i := 51) rfl))) (mvT hZ (hw _ (List.mem_of_getElem? (i := 50) rfl))) (by decide) (backOf (W := 0) (rmB l Z a0 hw [] ob (0 : Int32) (0 : Int32) T136.heap n0 Zn hF.1 hF.2.1 hF.2.2) hZ (hw _ (List.mem_of_getElem? (i := 52) rfl)) (hw _ (List.mem_of_getElem? (i := 2) rfl)) (by decide) (by decide)) q138a q138c (g := (mkF m 145 #[.val (.int i0), .val (.int i1), .val (.int i2), .val (.ref ob), .val (.int nk), .val (.ref lA), .val (.ref lB), .val (.ref lD), .val (.int (1 : Int32))] [(.ref ob)])) rfl (by rw [hml]; rfl) (Steps.refl _) (argsL := []) (rest := []) (lenOf own_f165 rfl) rfl (by show 2 * 0 + _ ≤ _; exact Nat.le_of_eq rfl) (hb hby at_145) (fun _ _ => ⟨rfl, e137, (by dsimp only [Pt.cells, Pt.slots]; decide), (by dsimp only [Pt.cells, Pt.slots]; decide)⟩)
        dsimp only [Pt.U, Pt.locs, Pt.cells, Pt.slots] at X138 l138 y138 z138 st138 hQ138
        subst l138 y138 z138
        obtain ⟨rfl, N138q, e138⟩ := hQ138
        have N138 := Fr.app N137 N138q
        refine Go.step (fun _ k => st138.trans k) ?_
        show Go p e below _ T138 (mkF m 148 #[.val (.int i0), .val (.int i1), .val (.int i2), .val (.ref ob), .val (.int nk), .val (.ref lA), .val (.ref lB), .val (.ref lD), .val (.int (1 : Int32))] [(.long (((0 : Int32) - (0 : Int32)).toInt64 + ((96 : Int64) * ((0 : Int32).toInt64))))])
        refine Go.step (fun _ k => XS.lconst X138.here hx rfl (hb hby at_148) k) ?_
        show Go p e below _ T138 (mkF m 149 #[.val (.int i0), .val (.int i1), .val (.int i2), .val (.ref ob), .val (.int nk), .val (.ref lA), .val (.ref lB), .val (.ref lD), .val (.int (1 : Int32))] [(.long (0 : Int64)), (.long (((0 : Int32) - (0 : Int32)).toInt64 + ((96 : Int64) * ((0 : Int32).toInt64))))])
        refine Go.step (fun _ k => XS.lcmp X138.here hx rfl (hb hby at_149) rfl k) ?_
        show Go p e below _ T138 (mkF m 150 #[.val (.int i0), .val (.int i1), .val (.int i2), .val (.ref ob), .val (.int nk), .val (.ref lA), .val (.ref lB), .val (.ref lD), .val (.int (1 : Int32))] [(.int (lcmpW (((0 : Int32) - (0 : Int32)).toInt64 + ((96 : Int64) * ((0 : Int32).toInt64))) (0 : Int64)))])
        refine Go.step (fun _ k => XS.ifNo X138.here hx rfl (hb hby at_150) rfl ((if0 _ _).trans (teq (by decide)).2) k) ?_
        show Go p e below _ T138 (mkF m 153 #[.val (.int i0), .val (.int i1), .val (.int i2), .val (.ref ob), .val (.int nk), .val (.ref lA), .val (.ref lB), .val (.ref lD), .val (.int (1 : Int32))] [])
        refine Go.step (fun _ k => XS.iconst X138.here hx rfl (hb hby at_153) k) ?_
        show Go p e below _ T138 (mkF m 154 #[.val (.int i0), .val (.int i1), .val (.int i2), .val (.ref ob), .val (.int nk), .val (.ref lA), .val (.ref lB), .val (.ref lD), .val (.int (1 : Int32))] [(.int (1 : Int32))])
        refine Go.step (fun _ k => XS.goto X138.here hx rfl (pc0 := 154) (pc' := 158) rfl (hb hby at_154) (by decide) (by decide) k) ?_
        show Go p e below _ T138 (mkF m 158 #[.val (.int i0), .val (.int i1), .val (.int i2), .val (.ref ob), .val (.int nk), .val (.ref lA), .val (.ref lB), .val (.ref lD), .val (.int (1 : Int32))] [(.int (1 : Int32))])
        refine Go.step (fun _ k => XS.istore X138.here hx rfl (hb hby at_158) rfl (l' := #[.val (.int i0), .val (.int i1), .val (.int i2), .val (.ref ob), .val (.int nk), .val (.ref lA), .val (.ref lB), .val (.ref lD), .val (.int (1 : Int32))]) rfl k) ?_
        show Go p e below _ T138 (mkF m 160 #[.val (.int i0), .val (.int i1), .val (.int i2), .val (.ref ob), .val (.int nk), .val (.ref lA), .val (.ref lB), .val (.ref lD), .val (.int (1 : Int32))] [])
        refine Go.step (fun _ k => XS.iload X138.here hx rfl (hb hby at_160) rfl k) ?_
        show Go p e below _ T138 (mkF m 162 #[.val (.int i0), .val (.int i1), .val (.int i2), .val (.ref ob), .val (.int nk), .val (.ref lA), .val (.ref lB), .val (.ref lD), .val (.int (1 : Int32))] [(.int (1 : Int32))])
        obtain ⟨fs, hr, hrun, hended, hW, hsame⟩ := X138.leave (v := some (.int (1 : Int32))) (fun h => by rw [Bd.returns] at h; cases h)
        refine Go.fin (retN X138 hx (t := .boolean) Bd.returns (by simp) (hb hby at_162) hr) hrun hended ?_
        refine ⟨_, _, rfl, ?_, ⟨_, rfl⟩, hW, hsame.mono (by decide) (by decide)⟩
        show Q0 Z i0 i1 i2 aE h0 n0 _ T138.heap _
        rw [e138]
        exact ⟨rfl, N138⟩
      · show Go p e below _ T129 (mkF m 70 #[.val (.int i0), .val (.int i1), .val (.int i2), .val (.ref ob), .val (.int nk), .val (.ref lA), .val (.ref lB), .val (.ref lD), .unset] [])
        refine Go.step (fun _ k => XS.aloadN X129.here hx rfl (hb hby at_70) rfl rfl k) ?_
        show Go p e below _ T129 (mkF m 71 #[.val (.int i0), .val (.int i1), .val (.int i2), .val (.ref ob), .val (.int nk), .val (.ref lA), .val (.ref lB), .val (.ref lD), .unset] [(.ref ob)])
        obtain ⟨cq139, kq139, q139a, q139b, q139c⟩ := isOf hZ rfl E_ob
        obtain ⟨_, _, ⟨T139, L139, k139, n139⟩, -, X139, ⟨Lc139, hQ139, l139, y139, z139⟩, st139⟩ := X129.virtualBack hx (y := (⟨"com/example/frugal_sieve/frugalsieve/server/Outbox", "isEmpty", "()Z"⟩ : MethodName)) (z := (⟨"com/example/frugal_sieve/frugalsieve/server/Outbox", "isEmpty", "()Z"⟩ : MethodName)) hown (mvT hZ (hw _ (List.mem_of_getElem? (i := 43) rfl))) (mvT hZ (hw _ (List.mem_of_getElem? (i := 44) rfl))) (notFace_of_selects (args := #[]) (mvT hZ (hw _ (List.mem_of_getElem? (i := 46) rfl)))) (mvT hZ (hw _ (List.mem_of_getElem? (i := 46) rfl))) (mvT hZ (hw _ (List.mem_of_getElem? (i := 45) rfl))) (by decide) (backOf (W := 0) (rmE l Z a0 hw [] ob T129.heap n0 Zn hR.2.1 hR.2.2.1) hZ (hw _ (List.mem_of_getElem? (i := 47) rfl)) (hw _ (List.mem_of_getElem? (i := 2) rfl)) (by decide) (by decide)) q139a q139c (g := (mkF m 71 #[.val (.int i0), .val (.int i1), .val (.int i2), .val (.ref ob), .val (.int nk), .val (.ref lA), .val (.ref lB), .val (.ref lD), .unset] [(.ref ob)])) rfl (by rw [hml]; rfl) (Steps.refl _) (argsL := []) (rest := []) (lenOf own_f164 rfl) rfl (by show 2 * 0 + _ ≤ _; exact Nat.le_of_eq rfl) (hb hby at_71) (fun _ _ => ⟨rfl, rfl, (by dsimp only [Pt.cells, Pt.slots]; decide), (by dsimp only [Pt.cells, Pt.slots]; decide)⟩)
        dsimp only [Pt.U, Pt.locs, Pt.cells, Pt.slots] at X139 l139 y139 z139 st139 hQ139
        subst l139 y139 z139
        obtain ⟨rfl, N139q, e139⟩ := hQ139
        have N139 := Fr.app N129 N139q
        refine Go.step (fun _ k => st139.trans k) ?_
        show Go p e below _ T139 (mkF m 74 #[.val (.int i0), .val (.int i1), .val (.int i2), .val (.ref ob), .val (.int nk), .val (.ref lA), .val (.ref lB), .val (.ref lD), .unset] [(.int (1 : Int32))])
        refine Go.step (fun _ k => XS.ifNo X139.here hx rfl (hb hby at_74) rfl ((if0 _ _).trans (feq (by decide)).1) k) ?_
        show Go p e below _ T139 (mkF m 77 #[.val (.int i0), .val (.int i1), .val (.int i2), .val (.ref ob), .val (.int nk), .val (.ref lA), .val (.ref lB), .val (.ref lD), .unset] [])
        refine Go.step (fun _ k => XS.aloadN X139.here hx rfl (hb hby at_77) rfl rfl k) ?_
        show Go p e below _ T139 (mkF m 78 #[.val (.int i0), .val (.int i1), .val (.int i2), .val (.ref ob), .val (.int nk), .val (.ref lA), .val (.ref lB), .val (.ref lD), .unset] [(.ref ob)])
        obtain ⟨cq140, kq140, q140a, q140b, q140c⟩ := isOf hZ e139 E_ob
        obtain ⟨_, _, ⟨T140, L140, k140, n140⟩, -, X140, ⟨Lc140, hQ140, l140, y140, z140⟩, st140⟩ := X139.virtualBack hx (y := (⟨"com/example/frugal_sieve/frugalsieve/server/Outbox", "waitingBytes", "()J"⟩ : MethodName)) (z := (⟨"com/example/frugal_sieve/frugalsieve/server/Outbox", "waitingBytes", "()J"⟩ : MethodName)) hown (mvT hZ (hw _ (List.mem_of_getElem? (i := 48) rfl))) (mvT hZ (hw _ (List.mem_of_getElem? (i := 49) rfl))) (notFace_of_selects (args := #[]) (mvT hZ (hw _ (List.mem_of_getElem? (i := 51) rfl)))) (mvT hZ (hw _ (List.mem_of_getElem? (i := 51) rfl))) (mvT hZ (hw _ (List.mem_of_getElem? (i := 50) rfl))) (by decide) (backOf (W := 0) (rmB l Z a0 hw [] ob (0 : Int32) (0 : Int32) T129.heap n0 Zn hR.2.1 hR.2.2.1 hR.2.2.2.1) hZ (hw _ (List.mem_of_getElem? (i := 52) rfl)) (hw _ (List.mem_of_getElem? (i := 2) rfl)) (by decide) (by decide)) q140a q140c (g := (mkF m 78 #[.val (.int i0), .val (.int i1), .val (.int i2), .val (.ref ob), .val (.int nk), .val (.ref lA), .val (.ref lB), .val (.ref lD), .unset] [(.ref ob)])) rfl (by rw [hml]; rfl) (Steps.refl _) (argsL := []) (rest := []) (lenOf own_f165 rfl) rfl (by show 2 * 0 + _ ≤ _; exact Nat.le_of_eq rfl) (hb hby at_78) (fun _ _ => ⟨rfl, e139, (by dsimp only [Pt.cells, Pt.slots]; decide), (by dsimp only [Pt.cells, Pt.slots]; decide)⟩)
        dsimp only [Pt.U, Pt.locs, Pt.cells, Pt.slots] at X140 l140 y140 z140 st140 hQ140
        subst l140 y140 z140
        obtain ⟨rfl, N140q, e140⟩ := hQ140
        have N140 := Fr.app N139 N140q
        refine Go.step (fun _ k => st140.trans k) ?_
        show Go p e below _ T140 (mkF m 81 #[.val (.int i0), .val (.int i1), .val (.int i2), .val (.ref ob), .val (.int nk), .val (.ref lA), .val (.ref lB), .val (.ref lD), .unset] [(.long (((0 : Int32) - (0 : Int32)).toInt64 + ((96 : Int64) * ((0 : Int32).toInt64))))])
        refine Go.step (fun _ k => XS.lconst X140.here hx rfl (hb hby at_81) k) ?_
        show Go p e below _ T140 (mkF m 82 #[.val (.int i0), .val (.int i1), .val (.int i2), .val (.ref ob), .val (.int nk), .val (.ref lA), .val (.ref lB), .val (.ref lD), .unset] [(.long (0 : Int64)), (.long (((0 : Int32) - (0 : Int32)).toInt64 + ((96 : Int64) * ((0 : Int32).toInt64))))])
        refine Go.step (fun _ k => XS.lcmp X140.here hx rfl (hb hby at_82) rfl k) ?_
        show Go p e below _ T140 (mkF m 83 #[.val (.int i0), .val (.int i1), .val (.int i2), .val (.ref ob), .val (.int nk), .val (.ref lA), .val (.ref lB), .val (.ref lD), .unset] [(.int (lcmpW (((0 : Int32) - (0 : Int32)).toInt64 + ((96 : Int64) * ((0 : Int32).toInt64))) (0 : Int64)))])
        refine Go.step (fun _ k => XS.ifNo X140.here hx rfl (hb hby at_83) rfl ((if0 _ _).trans (teq (by decide)).2) k) ?_
        show Go p e below _ T140 (mkF m 86 #[.val (.int i0), .val (.int i1), .val (.int i2), .val (.ref ob), .val (.int nk), .val (.ref lA), .val (.ref lB), .val (.ref lD), .unset] [])
        refine Go.step (fun _ k => XS.iconst X140.here hx rfl (hb hby at_86) k) ?_
        show Go p e below _ T140 (mkF m 87 #[.val (.int i0), .val (.int i1), .val (.int i2), .val (.ref ob), .val (.int nk), .val (.ref lA), .val (.ref lB), .val (.ref lD), .unset] [(.int (1 : Int32))])
        refine Go.step (fun _ k => XS.goto X140.here hx rfl (pc0 := 87) (pc' := 91) rfl (hb hby at_87) (by decide) (by decide) k) ?_
        show Go p e below _ T140 (mkF m 91 #[.val (.int i0), .val (.int i1), .val (.int i2), .val (.ref ob), .val (.int nk), .val (.ref lA), .val (.ref lB), .val (.ref lD), .unset] [(.int (1 : Int32))])
        refine Go.step (fun _ k => XS.istore X140.here hx rfl (hb hby at_91) rfl (l' := #[.val (.int i0), .val (.int i1), .val (.int i2), .val (.ref ob), .val (.int nk), .val (.ref lA), .val (.ref lB), .val (.ref lD), .val (.int (1 : Int32))]) rfl k) ?_
        show Go p e below _ T140 (mkF m 93 #[.val (.int i0), .val (.int i1), .val (.int i2), .val (.ref ob), .val (.int nk), .val (.ref lA), .val (.ref lB), .val (.ref lD), .val (.int (1 : Int32))] [])
        refine Go.step (fun _ k => XS.aloadN X140.here hx rfl (hb hby at_93) rfl rfl k) ?_
        show Go p e below _ T140 (mkF m 94 #[.val (.int i0), .val (.int i1), .val (.int i2), .val (.ref ob), .val (.int nk), .val (.ref lA), .val (.ref lB), .val (.ref lD), .val (.int (1 : Int32))] [(.ref ob)])
        refine Go.step (fun _ k => XS.aload X140.here hx rfl (hb hby at_94) rfl rfl k) ?_
        show Go p e below _ T140 (mkF m 96 #[.val (.int i0), .val (.int i1), .val (.int i2), .val (.ref ob), .val (.int nk), .val (.ref lA), .val (.ref lB), .val (.ref lD), .val (.int (1 : Int32))] [(.ref lD), (.ref ob)])
        obtain ⟨cq142, kq142, q142a, q142b, q142c⟩ := isOf hZ e140 E_ob
        obtain ⟨_, _, ⟨T142, L142, k142, n142⟩, -, X142, ⟨Lc142, hQ142, l142, y142, z142⟩, st142⟩ := X140.virtualBack hx (y := (⟨"com/example/frugal_sieve/frugalsieve/server/Outbox", "write", "([B)V"⟩ : MethodName)) (z := (⟨"com/example/frugal_sieve/frugalsieve/server/Outbox", "write", "([B)V"⟩ : MethodName)) hown (mvT hZ (hw _ (List.mem_of_getElem? (i := 10) rfl))) (mvT hZ (hw _ (List.mem_of_getElem? (i := 11) rfl))) (notFace_of_selects (args := #[]) (mvT hZ (hw _ (List.mem_of_getElem? (i := 13) rfl)))) (mvT hZ (hw _ (List.mem_of_getElem? (i := 13) rfl))) (mvT hZ (hw _ (List.mem_of_getElem? (i := 12) rfl))) (by decide) (backOf (W := 0) (rmW2 l Z a0 hw [] ob lD (0 : Int32) (0 : Int32) [lA, lB, lD] b126q zb126q 2048 aE nD T129.heap n0 Zn hR (by decide) S0 B0 Od g_ob B_lD hnD (own_P3 B_lA.lt B_lB.lt B_lD.lt) (List.mem_of_getElem? (i := 2) rfl)) hZ (hw _ (List.mem_of_getElem? (i := 14) rfl)) (hw _ (List.mem_of_getElem? (i := 2) rfl)) (by decide) (by decide)) q142a q142c (g := (mkF m 96 #[.val (.int i0), .val (.int i1), .val (.int i2), .val (.ref ob), .val (.int nk), .val (.ref lA), .val (.ref lB), .val (.ref lD), .val (.int (1 : Int32))] [(.ref lD), (.ref ob)])) rfl (by rw [hml]; rfl) (Steps.refl _) (argsL := [(.ref lD)]) (rest := []) (lenOf own_f166 rfl) rfl (by show 2 * 0 + _ ≤ _; exact Nat.le_of_eq rfl) (hb hby at_96) (fun _ _ => ⟨rfl, e140, (by dsimp only [Pt.cells, Pt.slots]; decide), (by dsimp only [Pt.cells, Pt.slots]; decide)⟩)
        dsimp only [Pt.U, Pt.locs, Pt.cells, Pt.slots] at X142 l142 y142 z142 st142 hQ142
        subst l142 y142 z142
        obtain ⟨b141q, zb141q, rfl, N142q, K142, hR, hloc⟩ := hQ142
        have N142 := Fr.app N140 N142q
        refine Go.step (fun _ k => st142.trans k) ?_
        replace Od := Od.keep K142 (allS g_ob (allS g_b126q all0))
        replace E_ob := E_ob.keep K142
        replace B_lA := B_lA.keep K142 (ninS (Ne.symm ne_ob_lA) (ninS ne_lA_b126q nin0))
        replace B_lB := B_lB.keep K142 (ninS (Ne.symm ne_ob_lB) (ninS ne_lB_b126q nin0))
        replace B_lD := B_lD.keep K142 (ninS (Ne.symm ne_ob_lD) (ninS ne_lD_b126q nin0))
        replace Zn := Nat.le_trans Zn K142.1
        show Go p e below _ T142 (mkF m 99 #[.val (.int i0), .val (.int i1), .val (.int i2), .val (.ref ob), .val (.int nk), .val (.ref lA), .val (.ref lB), .val (.ref lD), .val (.int (1 : Int32))] [])
        have g_b141q := hR.2.2.2.2.2.2.1
        have np_b141q := hR.2.2.2.2.2.2.2.1
        have ne_lA_b141q : lA ≠ b141q := fun q => np_b141q (q ▸ (List.mem_of_getElem? (i := 0) rfl))
        have ne_lB_b141q : lB ≠ b141q := fun q => np_b141q (q ▸ (List.mem_of_getElem? (i := 1) rfl))
        have ne_lD_b141q : lD ≠ b141q := fun q => np_b141q (q ▸ (List.mem_of_getElem? (i := 2) rfl))
        refine Go.step (fun _ k => XS.iload X142.here hx rfl (hb hby at_99) rfl k) ?_
        show Go p e below _ T142 (mkF m 101 #[.val (.int i0), .val (.int i1), .val (.int i2), .val (.ref ob), .val (.int nk), .val (.ref lA), .val (.ref lB), .val (.ref lD), .val (.int (1 : Int32))] [(.int (1 : Int32))])
        refine Go.step (fun _ k => XS.ifNo X142.here hx rfl (hb hby at_101) rfl ((if0 _ _).trans (feq (by decide)).1) k) ?_
        show Go p e below _ T142 (mkF m 104 #[.val (.int i0), .val (.int i1), .val (.int i2), .val (.ref ob), .val (.int nk), .val (.ref lA), .val (.ref lB), .val (.ref lD), .val (.int (1 : Int32))] [])
        refine Go.step (fun _ k => XS.aloadN X142.here hx rfl (hb hby at_104) rfl rfl k) ?_
        show Go p e below _ T142 (mkF m 105 #[.val (.int i0), .val (.int i1), .val (.int i2), .val (.ref ob), .val (.int nk), .val (.ref lA), .val (.ref lB), .val (.ref lD), .val (.int (1 : Int32))] [(.ref ob)])
        obtain ⟨cq143, kq143, q143a, q143b, q143c⟩ := isOf hZ rfl E_ob
        obtain ⟨_, _, ⟨T143, L143, k143, n143⟩, -, X143, ⟨Lc143, hQ143, l143, y143, z143⟩, st143⟩ := X142.virtualBack hx (y := (⟨"com/example/frugal_sieve/frugalsieve/server/Outbox", "waitingBytes", "()J"⟩ : MethodName)) (z := (⟨"com/example/frugal_sieve/frugalsieve/server/Outbox", "waitingBytes", "()J"⟩ : MethodName)) hown (mvT hZ (hw _ (List.mem_of_getElem? (i := 48) rfl))) (mvT hZ (hw _ (List.mem_of_getElem? (i := 49) rfl))) (notFace_of_selects (args := #[]) (mvT hZ (hw _ (List.mem_of_getElem? (i := 51) rfl)))) (mvT hZ (hw _ (List.mem_of_getElem? (i := 51) rfl))) (mvT hZ (hw _ (List.mem_of_getElem? (i := 50) rfl))) (by decide) (backOf (W := 0) (rmB l Z a0 hw [] ob ((0 : Int32) + (nD + (2 : Int32))) ((0 : Int32) + (1 : Int32)) T142.heap n0 Zn hR.2.1 hR.2.2.1 hR.2.2.2.1) hZ (hw _ (List.mem_of_getElem? (i := 52) rfl)) (hw _ (List.mem_of_getElem? (i := 2) rfl)) (by decide) (by decide)) q143a q143c (g := (mkF m 105 #[.val (.int i0), .val (.int i1), .val (.int i2), .val (.ref ob), .val (.int nk), .val (.ref lA), .val (.ref lB), .val (.ref lD), .val (.int (1 : Int32))] [(.ref ob)])) rfl (by rw [hml]; rfl) (Steps.refl _) (argsL := []) (rest := []) (lenOf own_f165 rfl) rfl (by show 2 * 0 + _ ≤ _; exact Nat.le_of_eq rfl) (hb hby at_105) (fun _ _ => ⟨rfl, rfl, (by dsimp only [Pt.cells, Pt.slots]; decide), (by dsimp only [Pt.cells, Pt.slots]; decide)⟩)
        dsimp only [Pt.U, Pt.locs, Pt.cells, Pt.slots] at X143 l143 y143 z143 st143 hQ143
        subst l143 y143 z143
        obtain ⟨rfl, N143q, e143⟩ := hQ143
        have N143 := Fr.app N142 N143q
        refine Go.step (fun _ k => st143.trans k) ?_
        show Go p e below _ T143 (mkF m 108 #[.val (.int i0), .val (.int i1), .val (.int i2), .val (.ref ob), .val (.int nk), .val (.ref lA), .val (.ref lB), .val (.ref lD), .val (.int (1 : Int32))] [(.long ((((0 : Int32) + (nD + (2 : Int32))) - (0 : Int32)).toInt64 + ((96 : Int64) * (((0 : Int32) + (1 : Int32)).toInt64))))])
        refine Go.step (fun _ k => XS.aload X143.here hx rfl (hb hby at_108) rfl rfl k) ?_
        show Go p e below _ T143 (mkF m 110 #[.val (.int i0), .val (.int i1), .val (.int i2), .val (.ref ob), .val (.int nk), .val (.ref lA), .val (.ref lB), .val (.ref lD), .val (.int (1 : Int32))] [(.ref lD), (.long ((((0 : Int32) + (nD + (2 : Int32))) - (0 : Int32)).toInt64 + ((96 : Int64) * (((0 : Int32) + (1 : Int32)).toInt64))))])
        obtain ⟨_, _, ⟨cl144, Ar144, _, S144, Nn144, _, _⟩, _⟩ := id B_lD
        refine Go.step (X143.arraylength hx (by rw [e143]; exact Ar144.1) (State.isArrayOf_alike hZ.alike Ar144.2.1) (g := (mkF m 110 #[.val (.int i0), .val (.int i1), .val (.int i2), .val (.ref ob), .val (.int nk), .val (.ref lA), .val (.ref lB), .val (.ref lD), .val (.int (1 : Int32))] [(.ref lD), (.long ((((0 : Int32) + (nD + (2 : Int32))) - (0 : Int32)).toInt64 + ((96 : Int64) * (((0 : Int32) + (1 : Int32)).toInt64))))])) rfl rfl (hb hby at_110)) ?_
        rw [len_of S144 Nn144]
        show Go p e below _ T143 (mkF m 111 #[.val (.int i0), .val (.int i1), .val (.int i2), .val (.ref ob), .val (.int nk), .val (.ref lA), .val (.ref lB), .val (.ref lD), .val (.int (1 : Int32))] [(.int nD), (.long ((((0 : Int32) + (nD + (2 : Int32))) - (0 : Int32)).toInt64 + ((96 : Int64) * (((0 : Int32) + (1 : Int32)).toInt64))))])
        refine Go.step (fun _ k => XS.iconst X143.here hx rfl (hb hby at_111) k) ?_
        show Go p e below _ T143 (mkF m 112 #[.val (.int i0), .val (.int i1), .val (.int i2), .val (.ref ob), .val (.int nk), .val (.ref lA), .val (.ref lB), .val (.ref lD), .val (.int (1 : Int32))] [(.int (2 : Int32)), (.int nD), (.long ((((0 : Int32) + (nD + (2 : Int32))) - (0 : Int32)).toInt64 + ((96 : Int64) * (((0 : Int32) + (1 : Int32)).toInt64))))])
        refine Go.step (fun _ k => XS.iadd X143.here hx rfl (hb hby at_112) rfl k) ?_
        show Go p e below _ T143 (mkF m 113 #[.val (.int i0), .val (.int i1), .val (.int i2), .val (.ref ob), .val (.int nk), .val (.ref lA), .val (.ref lB), .val (.ref lD), .val (.int (1 : Int32))] [(.int (nD + (2 : Int32))), (.long ((((0 : Int32) + (nD + (2 : Int32))) - (0 : Int32)).toInt64 + ((96 : Int64) * (((0 : Int32) + (1 : Int32)).toInt64))))])
        refine Go.step (fun _ k => XS.bipush X143.here hx rfl (hb hby at_113) k) ?_
        show Go p e below _ T143 (mkF m 115 #[.val (.int i0), .val (.int i1), .val (.int i2), .val (.ref ob), .val (.int nk), .val (.ref lA), .val (.ref lB), .val (.ref lD), .val (.int (1 : Int32))] [(.int (96 : Int32)), (.int (nD + (2 : Int32))), (.long ((((0 : Int32) + (nD + (2 : Int32))) - (0 : Int32)).toInt64 + ((96 : Int64) * (((0 : Int32) + (1 : Int32)).toInt64))))])
        refine Go.step (fun _ k => XS.iadd X143.here hx rfl (hb hby at_115) rfl k) ?_
        show Go p e below _ T143 (mkF m 116 #[.val (.int i0), .val (.int i1), .val (.int i2), .val (.ref ob), .val (.int nk), .val (.ref lA), .val (.ref lB), .val (.ref lD), .val (.int (1 : Int32))] [(.int ((nD + (2 : Int32)) + (96 : Int32))), (.long ((((0 : Int32) + (nD + (2 : Int32))) - (0 : Int32)).toInt64 + ((96 : Int64) * (((0 : Int32) + (1 : Int32)).toInt64))))])
        refine Go.step (fun _ k => XS.i2l X143.here hx rfl (hb hby at_116) rfl k) ?_
        show Go p e below _ T143 (mkF m 117 #[.val (.int i0), .val (.int i1), .val (.int i2), .val (.ref ob), .val (.int nk), .val (.ref lA), .val (.ref lB), .val (.ref lD), .val (.int (1 : Int32))] [(.long (((nD + (2 : Int32)) + (96 : Int32)).toInt64)), (.long ((((0 : Int32) + (nD + (2 : Int32))) - (0 : Int32)).toInt64 + ((96 : Int64) * (((0 : Int32) + (1 : Int32)).toInt64))))])
        refine Go.step (fun _ k => XS.lcmp X143.here hx rfl (hb hby at_117) rfl k) ?_
        show Go p e below _ T143 (mkF m 118 #[.val (.int i0), .val (.int i1), .val (.int i2), .val (.ref ob), .val (.int nk), .val (.ref lA), .val (.ref lB), .val (.ref lD), .val (.int (1 : Int32))] [(.int (lcmpW ((((0 : Int32) + (nD + (2 : Int32))) - (0 : Int32)).toInt64 + ((96 : Int64) * (((0 : Int32) + (1 : Int32)).toInt64))) (((nD + (2 : Int32)) + (96 : Int32)).toInt64)))])
        refine Go.step (fun _ k => XS.ifNo X143.here hx rfl (hb hby at_118) rfl ((if0 _ _).trans (teq (own_wb hnD)).2) k) ?_
        show Go p e below _ T143 (mkF m 121 #[.val (.int i0), .val (.int i1), .val (.int i2), .val (.ref ob), .val (.int nk), .val (.ref lA), .val (.ref lB), .val (.ref lD), .val (.int (1 : Int32))] [])
        refine Go.step (fun _ k => XS.iconst X143.here hx rfl (hb hby at_121) k) ?_
        show Go p e below _ T143 (mkF m 122 #[.val (.int i0), .val (.int i1), .val (.int i2), .val (.ref ob), .val (.int nk), .val (.ref lA), .val (.ref lB), .val (.ref lD), .val (.int (1 : Int32))] [(.int (1 : Int32))])
        refine Go.step (fun _ k => XS.goto X143.here hx rfl (pc0 := 122) (pc' := 126) rfl (hb hby at_122) (by decide) (by decide) k) ?_
        show Go p e below _ T143 (mkF m 126 #[.val (.int i0), .val (.int i1), .val (.int i2), .val (.ref ob), .val (.int nk), .val (.ref lA), .val (.ref lB), .val (.ref lD), .val (.int (1 : Int32))] [(.int (1 : Int32))])
        refine Go.step (fun _ k => XS.istore X143.here hx rfl (hb hby at_126) rfl (l' := #[.val (.int i0), .val (.int i1), .val (.int i2), .val (.ref ob), .val (.int nk), .val (.ref lA), .val (.ref lB), .val (.ref lD), .val (.int (1 : Int32))]) rfl k) ?_
        show Go p e below _ T143 (mkF m 128 #[.val (.int i0), .val (.int i1), .val (.int i2), .val (.ref ob), .val (.int nk), .val (.ref lA), .val (.ref lB), .val (.ref lD), .val (.int (1 : Int32))] [])
        refine Go.step (fun _ k => XS.aloadN X143.here hx rfl (hb hby at_128) rfl rfl k) ?_
        show Go p e below _ T143 (mkF m 129 #[.val (.int i0), .val (.int i1), .val (.int i2), .val (.ref ob), .val (.int nk), .val (.ref lA), .val (.ref lB), .val (.ref lD), .val (.int (1 : Int32))] [(.ref ob)])
        obtain ⟨cq145, kq145, q145a, q145b, q145c⟩ := isOf hZ e143 E_ob
        obtain ⟨_, _, ⟨T145, L145, k145, n145⟩, -, X145, ⟨Lc145, hQ145, l145, y145, z145⟩, st145⟩ := X143.virtualBack hx (y := (⟨"com/example/frugal_sieve/frugalsieve/server/Outbox", "clear", "()V"⟩ : MethodName)) (z := (⟨"com/example/frugal_sieve/frugalsieve/server/Outbox", "clear", "()V"⟩ : MethodName)) hown (mvT hZ (hw _ (List.mem_of_getElem? (i := 36) rfl))) (mvT hZ (hw _ (List.mem_of_getElem? (i := 37) rfl))) (notFace_of_selects (args := #[]) (mvT hZ (hw _ (List.mem_of_getElem? (i := 39) rfl)))) (mvT hZ (hw _ (List.mem_of_getElem? (i := 39) rfl))) (mvT hZ (hw _ (List.mem_of_getElem? (i := 38) rfl))) (by decide) (backOf (W := 0) (rmC2 l Z a0 hw [] ob ((0 : Int32) + (nD + (2 : Int32))) ((0 : Int32) + (1 : Int32)) [lA, lB, lD] b141q zb141q (2048 + 4097) T142.heap n0 Zn hR g_ob) hZ (hw _ (List.mem_of_getElem? (i := 40) rfl)) (hw _ (List.mem_of_getElem? (i := 2) rfl)) (by decide) (by decide)) q145a q145c (g := (mkF m 129 #[.val (.int i0), .val (.int i1), .val (.int i2), .val (.ref ob), .val (.int nk), .val (.ref lA), .val (.ref lB), .val (.ref lD), .val (.int (1 : Int32))] [(.ref ob)])) rfl (by rw [hml]; rfl) (Steps.refl _) (argsL := []) (rest := []) (lenOf own_f163 rfl) rfl (by show 2 * 0 + _ ≤ _; exact Nat.le_of_eq rfl) (hb hby at_129) (fun _ _ => ⟨rfl, e143, (by dsimp only [Pt.cells, Pt.slots]; decide), (by dsimp only [Pt.cells, Pt.slots]; decide)⟩)
        dsimp only [Pt.U, Pt.locs, Pt.cells, Pt.slots] at X145 l145 y145 z145 st145 hQ145
        subst l145 y145 z145
        obtain ⟨rfl, N145q, K145, hD⟩ := hQ145
        have N145 := Fr.app N143 N145q
        refine Go.step (fun _ k => st145.trans k) ?_
        replace Od := Od.keep K145 (allS g_ob all0)
        replace E_ob := E_ob.keep K145
        replace B_lA := B_lA.keep K145 (ninS (Ne.symm ne_ob_lA) nin0)
        replace B_lB := B_lB.keep K145 (ninS (Ne.symm ne_ob_lB) nin0)
        replace B_lD := B_lD.keep K145 (ninS (Ne.symm ne_ob_lD) nin0)
        replace Zn := Nat.le_trans Zn K145.1
        show Go p e below _ T145 (mkF m 132 #[.val (.int i0), .val (.int i1), .val (.int i2), .val (.ref ob), .val (.int nk), .val (.ref lA), .val (.ref lB), .val (.ref lD), .val (.int (1 : Int32))] [])
        have hF : Fld Z T145.heap ob "com/example/frugal_sieve/frugalsieve/server/Outbox" "start" "I" (.int (0 : Int32)) ∧ Fld Z T145.heap ob "com/example/frugal_sieve/frugalsieve/server/Outbox" "end" "I" (.int (0 : Int32)) ∧ Fld Z T145.heap ob "com/example/frugal_sieve/frugalsieve/server/Outbox" "lines" "I" (.int (0 : Int32)) := hD.elim (fun q => ⟨q.2.1, q.2.2.1, q.2.2.2.1⟩) (fun q => ⟨q.2.1, q.2.2.1, q.2.2.2.1⟩)
        refine Go.step (fun _ k => XS.iload X145.here hx rfl (hb hby at_132) rfl k) ?_
        show Go p e below _ T145 (mkF m 134 #[.val (.int i0), .val (.int i1), .val (.int i2), .val (.ref ob), .val (.int nk), .val (.ref lA), .val (.ref lB), .val (.ref lD), .val (.int (1 : Int32))] [(.int (1 : Int32))])
        refine Go.step (fun _ k => XS.ifNo X145.here hx rfl (hb hby at_134) rfl ((if0 _ _).trans (feq (by decide)).1) k) ?_
        show Go p e below _ T145 (mkF m 137 #[.val (.int i0), .val (.int i1), .val (.int i2), .val (.ref ob), .val (.int nk), .val (.ref lA), .val (.ref lB), .val (.ref lD), .val (.int (1 : Int32))] [])
        refine Go.step (fun _ k => XS.aloadN X145.here hx rfl (hb hby at_137) rfl rfl k) ?_
        show Go p e below _ T145 (mkF m 138 #[.val (.int i0), .val (.int i1), .val (.int i2), .val (.ref ob), .val (.int nk), .val (.ref lA), .val (.ref lB), .val (.ref lD), .val (.int (1 : Int32))] [(.ref ob)])
        obtain ⟨cq146, kq146, q146a, q146b, q146c⟩ := isOf hZ rfl E_ob
        obtain ⟨_, _, ⟨T146, L146, k146, n146⟩, -, X146, ⟨Lc146, hQ146, l146, y146, z146⟩, st146⟩ := X145.virtualBack hx (y := (⟨"com/example/frugal_sieve/frugalsieve/server/Outbox", "isEmpty", "()Z"⟩ : MethodName)) (z := (⟨"com/example/frugal_sieve/frugalsieve/server/Outbox", "isEmpty", "()Z"⟩ : MethodName)) hown (mvT hZ (hw _ (List.mem_of_getElem? (i := 43) rfl))) (mvT hZ (hw _ (List.mem_of_getElem? (i := 44) rfl))) (notFace_of_selects (args := #[]) (mvT hZ (hw _ (List.mem_of_getElem? (i := 46) rfl)))) (mvT hZ (hw _ (List.mem_of_getElem? (i := 46) rfl))) (mvT hZ (hw _ (List.mem_of_getElem? (i := 45) rfl))) (by decide) (backOf (W := 0) (rmE l Z a0 hw [] ob T145.heap n0 Zn hF.1 hF.2.1) hZ (hw _ (List.mem_of_getElem? (i := 47) rfl)) (hw _ (List.mem_of_getElem? (i := 2) rfl)) (by decide) (by decide)) q146a q146c (g := (mkF m 138 #[.val (.int i0), .val (.int i1), .val (.int i2), .val (.ref ob), .val (.int nk), .val (.ref lA), .val (.ref lB), .val (.ref lD), .val (.int (1 : Int32))] [(.ref ob)])) rfl (by rw [hml]; rfl) (Steps.refl _) (argsL := []) (rest := []) (lenOf own_f164 rfl) rfl (by show 2 * 0 + _ ≤ _; exact Nat.le_of_eq rfl) (hb hby at_138) (fun _ _ => ⟨rfl, rfl, (by dsimp only [Pt.cells, Pt.slots]; decide), (by dsimp only [Pt.cells, Pt.slots]; decide)⟩)
        dsimp only [Pt.U, Pt.locs, Pt.cells, Pt.slots] at X146 l146 y146 z146 st146 hQ146
        subst l146 y146 z146
        obtain ⟨rfl, N146q, e146⟩ := hQ146
        have N146 := Fr.app N145 N146q
        refine Go.step (fun _ k => st146.trans k) ?_
        show Go p e below _ T146 (mkF m 141 #[.val (.int i0), .val (.int i1), .val (.int i2), .val (.ref ob), .val (.int nk), .val (.ref lA), .val (.ref lB), .val (.ref lD), .val (.int (1 : Int32))] [(.int (1 : Int32))])
        refine Go.step (fun _ k => XS.ifNo X146.here hx rfl (hb hby at_141) rfl ((if0 _ _).trans (feq (by decide)).1) k) ?_
        show Go p e below _ T146 (mkF m 144 #[.val (.int i0), .val (.int i1), .val (.int i2), .val (.ref ob), .val (.int nk), .val (.ref lA), .val (.ref lB), .val (.ref lD), .val (.int (1 : Int32))] [])
        refine Go.step (fun _ k => XS.aloadN X146.here hx rfl (hb hby at_144) rfl rfl k) ?_
        show Go p e below _ T146 (mkF m 145 #[.val (.int i0), .val (.int i1), .val (.int i2), .val (.ref ob), .val (.int nk), .val (.ref lA), .val (.ref lB), .val (.ref lD), .val (.int (1 : Int32))] [(.ref ob)])
        obtain ⟨cq147, kq147, q147a, q147b, q147c⟩ := isOf hZ e146 E_ob
        obtain ⟨_, _, ⟨T147, L147, k147, n147⟩, -, X147, ⟨Lc147, hQ147, l147, y147, z147⟩, st147⟩ := X146.virtualBack hx (y := (⟨"com/example/frugal_sieve/frugalsieve/server/Outbox", "waitingBytes", "()J"⟩ : MethodName)) (z := (⟨"com/example/frugal_sieve/frugalsieve/server/Outbox", "waitingBytes", "()J"⟩ : MethodName)) hown (mvT hZ (hw _ (List.mem_of_getElem? (i := 48) rfl))) (mvT hZ (hw _ (List.mem_of_getElem? (i := 49) rfl))) (notFace_of_selects (args := #[]) (mvT hZ (hw _ (List.mem_of_getElem? (i := 51) rfl)))) (mvT hZ (hw _ (List.mem_of_getElem? (i := 51) rfl))) (mvT hZ (hw _ (List.mem_of_getElem? (i := 50) rfl))) (by decide) (backOf (W := 0) (rmB l Z a0 hw [] ob (0 : Int32) (0 : Int32) T145.heap n0 Zn hF.1 hF.2.1 hF.2.2) hZ (hw _ (List.mem_of_getElem? (i := 52) rfl)) (hw _ (List.mem_of_getElem? (i := 2) rfl)) (by decide) (by decide)) q147a q147c (g := (mkF m 145 #[.val (.int i0), .val (.int i1), .val (.int i2), .val (.ref ob), .val (.int nk), .val (.ref lA), .val (.ref lB), .val (.ref lD), .val (.int (1 : Int32))] [(.ref ob)])) rfl (by rw [hml]; rfl) (Steps.refl _) (argsL := []) (rest := []) (lenOf own_f165 rfl) rfl (by show 2 * 0 + _ ≤ _; exact Nat.le_of_eq rfl) (hb hby at_145) (fun _ _ => ⟨rfl, e146, (by dsimp only [Pt.cells, Pt.slots]; decide), (by dsimp only [Pt.cells, Pt.slots]; decide)⟩)
        dsimp only [Pt.U, Pt.locs, Pt.cells, Pt.slots] at X147 l147 y147 z147 st147 hQ147
        subst l147 y147 z147
        obtain ⟨rfl, N147q, e147⟩ := hQ147
        have N147 := Fr.app N146 N147q
        refine Go.step (fun _ k => st147.trans k) ?_
        show Go p e below _ T147 (mkF m 148 #[.val (.int i0), .val (.int i1), .val (.int i2), .val (.ref ob), .val (.int nk), .val (.ref lA), .val (.ref lB), .val (.ref lD), .val (.int (1 : Int32))] [(.long (((0 : Int32) - (0 : Int32)).toInt64 + ((96 : Int64) * ((0 : Int32).toInt64))))])
        refine Go.step (fun _ k => XS.lconst X147.here hx rfl (hb hby at_148) k) ?_
        show Go p e below _ T147 (mkF m 149 #[.val (.int i0), .val (.int i1), .val (.int i2), .val (.ref ob), .val (.int nk), .val (.ref lA), .val (.ref lB), .val (.ref lD), .val (.int (1 : Int32))] [(.long (0 : Int64)), (.long (((0 : Int32) - (0 : Int32)).toInt64 + ((96 : Int64) * ((0 : Int32).toInt64))))])
        refine Go.step (fun _ k => XS.lcmp X147.here hx rfl (hb hby at_149) rfl k) ?_
        show Go p e below _ T147 (mkF m 150 #[.val (.int i0), .val (.int i1), .val (.int i2), .val (.ref ob), .val (.int nk), .val (.ref lA), .val (.ref lB), .val (.ref lD), .val (.int (1 : Int32))] [(.int (lcmpW (((0 : Int32) - (0 : Int32)).toInt64 + ((96 : Int64) * ((0 : Int32).toInt64))) (0 : Int64)))])
        refine Go.step (fun _ k => XS.ifNo X147.here hx rfl (hb hby at_150) rfl ((if0 _ _).trans (teq (by decide)).2) k) ?_
        show Go p e below _ T147 (mkF m 153 #[.val (.int i0), .val (.int i1), .val (.int i2), .val (.ref ob), .val (.int nk), .val (.ref lA), .val (.ref lB), .val (.ref lD), .val (.int (1 : Int32))] [])
        refine Go.step (fun _ k => XS.iconst X147.here hx rfl (hb hby at_153) k) ?_
        show Go p e below _ T147 (mkF m 154 #[.val (.int i0), .val (.int i1), .val (.int i2), .val (.ref ob), .val (.int nk), .val (.ref lA), .val (.ref lB), .val (.ref lD), .val (.int (1 : Int32))] [(.int (1 : Int32))])
        refine Go.step (fun _ k => XS.goto X147.here hx rfl (pc0 := 154) (pc' := 158) rfl (hb hby at_154) (by decide) (by decide) k) ?_
        show Go p e below _ T147 (mkF m 158 #[.val (.int i0), .val (.int i1), .val (.int i2), .val (.ref ob), .val (.int nk), .val (.ref lA), .val (.ref lB), .val (.ref lD), .val (.int (1 : Int32))] [(.int (1 : Int32))])
        refine Go.step (fun _ k => XS.istore X147.here hx rfl (hb hby at_158) rfl (l' := #[.val (.int i0), .val (.int i1), .val (.int i2), .val (.ref ob), .val (.int nk), .val (.ref lA), .val (.ref lB), .val (.ref lD), .val (.int (1 : Int32))]) rfl k) ?_
        show Go p e below _ T147 (mkF m 160 #[.val (.int i0), .val (.int i1), .val (.int i2), .val (.ref ob), .val (.int nk), .val (.ref lA), .val (.ref lB), .val (.ref lD), .val (.int (1 : Int32))] [])
        refine Go.step (fun _ k => XS.iload X147.here hx rfl (hb hby at_160) rfl k) ?_
        show Go p e below _ T147 (mkF m 162 #[.val (.int i0), .val (.int i1), .val (.int i2), .val (.ref ob), .val (.int nk), .val (.ref lA), .val (.ref lB), .val (.ref lD), .val (.int (1 : Int32))] [(.int (1 : Int32))])
        obtain ⟨fs, hr, hrun, hended, hW, hsame⟩ := X147.leave (v := some (.int (1 : Int32))) (fun h => by rw [Bd.returns] at h; cases h)
        refine Go.fin (retN X147 hx (t := .boolean) Bd.returns (by simp) (hb hby at_162) hr) hrun hended ?_
        refine ⟨_, _, rfl, ?_, ⟨_, rfl⟩, hW, hsame.mono (by decide) (by decide)⟩
        show Q0 Z i0 i1 i2 aE h0 n0 _ T147.heap _
        rw [e147]
        exact ⟨rfl, N147⟩
    · show Go p e below _ T127 (mkF m 57 #[.val (.int i0), .val (.int i1), .val (.int i2), .val (.ref ob), .val (.int nk), .val (.ref lA), .val (.ref lB), .val (.ref lD), .unset] [(.int (2 : Int32)), (.int nk)])
      refine Go.step (fun _ k => XS.icmpNo X127.here hx rfl (hb hby at_57) rfl (flt hc57_128).1 k) ?_
      show Go p e below _ T127 (mkF m 60 #[.val (.int i0), .val (.int i1), .val (.int i2), .val (.ref ob), .val (.int nk), .val (.ref lA), .val (.ref lB), .val (.ref lD), .unset] [])
      refine Go.step (fun _ k => XS.aloadN X127.here hx rfl (hb hby at_60) rfl rfl k) ?_
      show Go p e below _ T127 (mkF m 61 #[.val (.int i0), .val (.int i1), .val (.int i2), .val (.ref ob), .val (.int nk), .val (.ref lA), .val (.ref lB), .val (.ref lD), .unset] [(.ref ob)])
      refine Go.step (fun _ k => XS.aload X127.here hx rfl (hb hby at_61) rfl rfl k) ?_
      show Go p e below _ T127 (mkF m 63 #[.val (.int i0), .val (.int i1), .val (.int i2), .val (.ref ob), .val (.int nk), .val (.ref lA), .val (.ref lB), .val (.ref lD), .unset] [(.ref lB), (.ref ob)])
      obtain ⟨cq149, kq149, q149a, q149b, q149c⟩ := isOf hZ rfl E_ob
      obtain ⟨_, _, ⟨T149, L149, k149, n149⟩, -, X149, ⟨Lc149, hQ149, l149, y149, z149⟩, st149⟩ := X127.virtualBack hx (y := (⟨"com/example/frugal_sieve/frugalsieve/server/Outbox", "write", "([B)V"⟩ : MethodName)) (z := (⟨"com/example/frugal_sieve/frugalsieve/server/Outbox", "write", "([B)V"⟩ : MethodName)) hown (mvT hZ (hw _ (List.mem_of_getElem? (i := 10) rfl))) (mvT hZ (hw _ (List.mem_of_getElem? (i := 11) rfl))) (notFace_of_selects (args := #[]) (mvT hZ (hw _ (List.mem_of_getElem? (i := 13) rfl)))) (mvT hZ (hw _ (List.mem_of_getElem? (i := 13) rfl))) (mvT hZ (hw _ (List.mem_of_getElem? (i := 12) rfl))) (by decide) (backOf (W := 0) (rmW2 l Z a0 hw [] ob lB ((0 : Int32) + (nA + (2 : Int32))) ((0 : Int32) + (1 : Int32)) [lA, lB, lD] b126q zb126q 4097 aE nB T127.heap n0 Zn hR (by decide) S0 B0 Od g_ob B_lB hnB (own_P3 B_lA.lt B_lB.lt B_lD.lt) (List.mem_of_getElem? (i := 1) rfl)) hZ (hw _ (List.mem_of_getElem? (i := 14) rfl)) (hw _ (List.mem_of_getElem? (i := 2) rfl)) (by decide) (by decide)) q149a q149c (g := (mkF m 63 #[.val (.int i0), .val (.int i1), .val (.int i2), .val (.ref ob), .val (.int nk), .val (.ref lA), .val (.ref lB), .val (.ref lD), .unset] [(.ref lB), (.ref ob)])) rfl (by rw [hml]; rfl) (Steps.refl _) (argsL := [(.ref lB)]) (rest := []) (lenOf own_f166 rfl) rfl (by show 2 * 0 + _ ≤ _; exact Nat.le_of_eq rfl) (hb hby at_63) (fun _ _ => ⟨rfl, rfl, (by dsimp only [Pt.cells, Pt.slots]; decide), (by dsimp only [Pt.cells, Pt.slots]; decide)⟩)
      dsimp only [Pt.U, Pt.locs, Pt.cells, Pt.slots] at X149 l149 y149 z149 st149 hQ149
      subst l149 y149 z149
      obtain ⟨b148q, zb148q, rfl, N149q, K149, hR, hloc⟩ := hQ149
      have N149 := Fr.app N127 N149q
      refine Go.step (fun _ k => st149.trans k) ?_
      replace Od := Od.keep K149 (allS g_ob (allS g_b126q all0))
      replace E_ob := E_ob.keep K149
      replace B_lA := B_lA.keep K149 (ninS (Ne.symm ne_ob_lA) (ninS ne_lA_b126q nin0))
      replace B_lB := B_lB.keep K149 (ninS (Ne.symm ne_ob_lB) (ninS ne_lB_b126q nin0))
      replace B_lD := B_lD.keep K149 (ninS (Ne.symm ne_ob_lD) (ninS ne_lD_b126q nin0))
      replace Zn := Nat.le_trans Zn K149.1
      show Go p e below _ T149 (mkF m 66 #[.val (.int i0), .val (.int i1), .val (.int i2), .val (.ref ob), .val (.int nk), .val (.ref lA), .val (.ref lB), .val (.ref lD), .unset] [])
      have g_b148q := hR.2.2.2.2.2.2.1
      have np_b148q := hR.2.2.2.2.2.2.2.1
      have ne_lA_b148q : lA ≠ b148q := fun q => np_b148q (q ▸ (List.mem_of_getElem? (i := 0) rfl))
      have ne_lB_b148q : lB ≠ b148q := fun q => np_b148q (q ▸ (List.mem_of_getElem? (i := 1) rfl))
      have ne_lD_b148q : lD ≠ b148q := fun q => np_b148q (q ▸ (List.mem_of_getElem? (i := 2) rfl))
      refine Go.step (fun _ k => XS.aloadN X149.here hx rfl (hb hby at_66) rfl rfl k) ?_
      show Go p e below _ T149 (mkF m 67 #[.val (.int i0), .val (.int i1), .val (.int i2), .val (.ref ob), .val (.int nk), .val (.ref lA), .val (.ref lB), .val (.ref lD), .unset] [(.ref ob)])
      obtain ⟨cq150, kq150, q150a, q150b, q150c⟩ := isOf hZ rfl E_ob
      obtain ⟨_, _, ⟨T150, L150, k150, n150⟩, -, X150, ⟨Lc150, hQ150, l150, y150, z150⟩, st150⟩ := X149.virtualBack hx (y := (⟨"com/example/frugal_sieve/frugalsieve/server/Outbox", "clear", "()V"⟩ : MethodName)) (z := (⟨"com/example/frugal_sieve/frugalsieve/server/Outbox", "clear", "()V"⟩ : MethodName)) hown (mvT hZ (hw _ (List.mem_of_getElem? (i := 36) rfl))) (mvT hZ (hw _ (List.mem_of_getElem? (i := 37) rfl))) (notFace_of_selects (args := #[]) (mvT hZ (hw _ (List.mem_of_getElem? (i := 39) rfl)))) (mvT hZ (hw _ (List.mem_of_getElem? (i := 39) rfl))) (mvT hZ (hw _ (List.mem_of_getElem? (i := 38) rfl))) (by decide) (backOf (W := 0) (rmC2 l Z a0 hw [] ob (((0 : Int32) + (nA + (2 : Int32))) + (nB + (2 : Int32))) (((0 : Int32) + (1 : Int32)) + (1 : Int32)) [lA, lB, lD] b148q zb148q (4097 + 4097) T149.heap n0 Zn hR g_ob) hZ (hw _ (List.mem_of_getElem? (i := 40) rfl)) (hw _ (List.mem_of_getElem? (i := 2) rfl)) (by decide) (by decide)) q150a q150c (g := (mkF m 67 #[.val (.int i0), .val (.int i1), .val (.int i2), .val (.ref ob), .val (.int nk), .val (.ref lA), .val (.ref lB), .val (.ref lD), .unset] [(.ref ob)])) rfl (by rw [hml]; rfl) (Steps.refl _) (argsL := []) (rest := []) (lenOf own_f163 rfl) rfl (by show 2 * 0 + _ ≤ _; exact Nat.le_of_eq rfl) (hb hby at_67) (fun _ _ => ⟨rfl, rfl, (by dsimp only [Pt.cells, Pt.slots]; decide), (by dsimp only [Pt.cells, Pt.slots]; decide)⟩)
      dsimp only [Pt.U, Pt.locs, Pt.cells, Pt.slots] at X150 l150 y150 z150 st150 hQ150
      subst l150 y150 z150
      obtain ⟨rfl, N150q, K150, hD⟩ := hQ150
      have N150 := Fr.app N149 N150q
      refine Go.step (fun _ k => st150.trans k) ?_
      replace Od := Od.keep K150 (allS g_ob all0)
      replace E_ob := E_ob.keep K150
      replace B_lA := B_lA.keep K150 (ninS (Ne.symm ne_ob_lA) nin0)
      replace B_lB := B_lB.keep K150 (ninS (Ne.symm ne_ob_lB) nin0)
      replace B_lD := B_lD.keep K150 (ninS (Ne.symm ne_ob_lD) nin0)
      replace Zn := Nat.le_trans Zn K150.1
      show Go p e below _ T150 (mkF m 70 #[.val (.int i0), .val (.int i1), .val (.int i2), .val (.ref ob), .val (.int nk), .val (.ref lA), .val (.ref lB), .val (.ref lD), .unset] [])
      rcases hD with hR | hR
      · show Go p e below _ T150 (mkF m 70 #[.val (.int i0), .val (.int i1), .val (.int i2), .val (.ref ob), .val (.int nk), .val (.ref lA), .val (.ref lB), .val (.ref lD), .unset] [])
        refine Go.step (fun _ k => XS.aloadN X150.here hx rfl (hb hby at_70) rfl rfl k) ?_
        show Go p e below _ T150 (mkF m 71 #[.val (.int i0), .val (.int i1), .val (.int i2), .val (.ref ob), .val (.int nk), .val (.ref lA), .val (.ref lB), .val (.ref lD), .unset] [(.ref ob)])
        obtain ⟨cq151, kq151, q151a, q151b, q151c⟩ := isOf hZ rfl E_ob
        obtain ⟨_, _, ⟨T151, L151, k151, n151⟩, -, X151, ⟨Lc151, hQ151, l151, y151, z151⟩, st151⟩ := X150.virtualBack hx (y := (⟨"com/example/frugal_sieve/frugalsieve/server/Outbox", "isEmpty", "()Z"⟩ : MethodName)) (z := (⟨"com/example/frugal_sieve/frugalsieve/server/Outbox", "isEmpty", "()Z"⟩ : MethodName)) hown (mvT hZ (hw _ (List.mem_of_getElem? (i := 43) rfl))) (mvT hZ (hw _ (List.mem_of_getElem? (i := 44) rfl))) (notFace_of_selects (args := #[]) (mvT hZ (hw _ (List.mem_of_getElem? (i := 46) rfl)))) (mvT hZ (hw _ (List.mem_of_getElem? (i := 46) rfl))) (mvT hZ (hw _ (List.mem_of_getElem? (i := 45) rfl))) (by decide) (backOf (W := 0) (rmE l Z a0 hw [] ob T150.heap n0 Zn hR.2.1 hR.2.2.1) hZ (hw _ (List.mem_of_getElem? (i := 47) rfl)) (hw _ (List.mem_of_getElem? (i := 2) rfl)) (by decide) (by decide)) q151a q151c (g := (mkF m 71 #[.val (.int i0), .val (.int i1), .val (.int i2), .val (.ref ob), .val (.int nk), .val (.ref lA), .val (.ref lB), .val (.ref lD), .unset] [(.ref ob)])) rfl (by rw [hml]; rfl) (Steps.refl _) (argsL := []) (rest := []) (lenOf own_f164 rfl) rfl (by show 2 * 0 + _ ≤ _; exact Nat.le_of_eq rfl) (hb hby at_71) (fun _ _ => ⟨rfl, rfl, (by dsimp only [Pt.cells, Pt.slots]; decide), (by dsimp only [Pt.cells, Pt.slots]; decide)⟩)
        dsimp only [Pt.U, Pt.locs, Pt.cells, Pt.slots] at X151 l151 y151 z151 st151 hQ151
        subst l151 y151 z151
        obtain ⟨rfl, N151q, e151⟩ := hQ151
        have N151 := Fr.app N150 N151q
        refine Go.step (fun _ k => st151.trans k) ?_
        show Go p e below _ T151 (mkF m 74 #[.val (.int i0), .val (.int i1), .val (.int i2), .val (.ref ob), .val (.int nk), .val (.ref lA), .val (.ref lB), .val (.ref lD), .unset] [(.int (1 : Int32))])
        refine Go.step (fun _ k => XS.ifNo X151.here hx rfl (hb hby at_74) rfl ((if0 _ _).trans (feq (by decide)).1) k) ?_
        show Go p e below _ T151 (mkF m 77 #[.val (.int i0), .val (.int i1), .val (.int i2), .val (.ref ob), .val (.int nk), .val (.ref lA), .val (.ref lB), .val (.ref lD), .unset] [])
        refine Go.step (fun _ k => XS.aloadN X151.here hx rfl (hb hby at_77) rfl rfl k) ?_
        show Go p e below _ T151 (mkF m 78 #[.val (.int i0), .val (.int i1), .val (.int i2), .val (.ref ob), .val (.int nk), .val (.ref lA), .val (.ref lB), .val (.ref lD), .unset] [(.ref ob)])
        obtain ⟨cq152, kq152, q152a, q152b, q152c⟩ := isOf hZ e151 E_ob
        obtain ⟨_, _, ⟨T152, L152, k152, n152⟩, -, X152, ⟨Lc152, hQ152, l152, y152, z152⟩, st152⟩ := X151.virtualBack hx (y := (⟨"com/example/frugal_sieve/frugalsieve/server/Outbox", "waitingBytes", "()J"⟩ : MethodName)) (z := (⟨"com/example/frugal_sieve/frugalsieve/server/Outbox", "waitingBytes", "()J"⟩ : MethodName)) hown (mvT hZ (hw _ (List.mem_of_getElem? (i := 48) rfl))) (mvT hZ (hw _ (List.mem_of_getElem? (i := 49) rfl))) (notFace_of_selects (args := #[]) (mvT hZ (hw _ (List.mem_of_getElem? (i := 51) rfl)))) (mvT hZ (hw _ (List.mem_of_getElem? (i := 51) rfl))) (mvT hZ (hw _ (List.mem_of_getElem? (i := 50) rfl))) (by decide) (backOf (W := 0) (rmB l Z a0 hw [] ob (0 : Int32) (0 : Int32) T150.heap n0 Zn hR.2.1 hR.2.2.1 hR.2.2.2.1) hZ (hw _ (List.mem_of_getElem? (i := 52) rfl)) (hw _ (List.mem_of_getElem? (i := 2) rfl)) (by decide) (by decide)) q152a q152c (g := (mkF m 78 #[.val (.int i0), .val (.int i1), .val (.int i2), .val (.ref ob), .val (.int nk), .val (.ref lA), .val (.ref lB), .val (.ref lD), .unset] [(.ref ob)])) rfl (by rw [hml]; rfl) (Steps.refl _) (argsL := []) (rest := []) (lenOf own_f165 rfl) rfl (by show 2 * 0 + _ ≤ _; exact Nat.le_of_eq rfl) (hb hby at_78) (fun _ _ => ⟨rfl, e151, (by dsimp only [Pt.cells, Pt.slots]; decide), (by dsimp only [Pt.cells, Pt.slots]; decide)⟩)
        dsimp only [Pt.U, Pt.locs, Pt.cells, Pt.slots] at X152 l152 y152 z152 st152 hQ152
        subst l152 y152 z152
        obtain ⟨rfl, N152q, e152⟩ := hQ152
        have N152 := Fr.app N151 N152q
        refine Go.step (fun _ k => st152.trans k) ?_
        show Go p e below _ T152 (mkF m 81 #[.val (.int i0), .val (.int i1), .val (.int i2), .val (.ref ob), .val (.int nk), .val (.ref lA), .val (.ref lB), .val (.ref lD), .unset] [(.long (((0 : Int32) - (0 : Int32)).toInt64 + ((96 : Int64) * ((0 : Int32).toInt64))))])
        refine Go.step (fun _ k => XS.lconst X152.here hx rfl (hb hby at_81) k) ?_
        show Go p e below _ T152 (mkF m 82 #[.val (.int i0), .val (.int i1), .val (.int i2), .val (.ref ob), .val (.int nk), .val (.ref lA), .val (.ref lB), .val (.ref lD), .unset] [(.long (0 : Int64)), (.long (((0 : Int32) - (0 : Int32)).toInt64 + ((96 : Int64) * ((0 : Int32).toInt64))))])
        refine Go.step (fun _ k => XS.lcmp X152.here hx rfl (hb hby at_82) rfl k) ?_
        show Go p e below _ T152 (mkF m 83 #[.val (.int i0), .val (.int i1), .val (.int i2), .val (.ref ob), .val (.int nk), .val (.ref lA), .val (.ref lB), .val (.ref lD), .unset] [(.int (lcmpW (((0 : Int32) - (0 : Int32)).toInt64 + ((96 : Int64) * ((0 : Int32).toInt64))) (0 : Int64)))])
        refine Go.step (fun _ k => XS.ifNo X152.here hx rfl (hb hby at_83) rfl ((if0 _ _).trans (teq (by decide)).2) k) ?_
        show Go p e below _ T152 (mkF m 86 #[.val (.int i0), .val (.int i1), .val (.int i2), .val (.ref ob), .val (.int nk), .val (.ref lA), .val (.ref lB), .val (.ref lD), .unset] [])
        refine Go.step (fun _ k => XS.iconst X152.here hx rfl (hb hby at_86) k) ?_
        show Go p e below _ T152 (mkF m 87 #[.val (.int i0), .val (.int i1), .val (.int i2), .val (.ref ob), .val (.int nk), .val (.ref lA), .val (.ref lB), .val (.ref lD), .unset] [(.int (1 : Int32))])
        refine Go.step (fun _ k => XS.goto X152.here hx rfl (pc0 := 87) (pc' := 91) rfl (hb hby at_87) (by decide) (by decide) k) ?_
        show Go p e below _ T152 (mkF m 91 #[.val (.int i0), .val (.int i1), .val (.int i2), .val (.ref ob), .val (.int nk), .val (.ref lA), .val (.ref lB), .val (.ref lD), .unset] [(.int (1 : Int32))])
        refine Go.step (fun _ k => XS.istore X152.here hx rfl (hb hby at_91) rfl (l' := #[.val (.int i0), .val (.int i1), .val (.int i2), .val (.ref ob), .val (.int nk), .val (.ref lA), .val (.ref lB), .val (.ref lD), .val (.int (1 : Int32))]) rfl k) ?_
        show Go p e below _ T152 (mkF m 93 #[.val (.int i0), .val (.int i1), .val (.int i2), .val (.ref ob), .val (.int nk), .val (.ref lA), .val (.ref lB), .val (.ref lD), .val (.int (1 : Int32))] [])
        refine Go.step (fun _ k => XS.aloadN X152.here hx rfl (hb hby at_93) rfl rfl k) ?_
        show Go p e below _ T152 (mkF m 94 #[.val (.int i0), .val (.int i1), .val (.int i2), .val (.ref ob), .val (.int nk), .val (.ref lA), .val (.ref lB), .val (.ref lD), .val (.int (1 : Int32))] [(.ref ob)])
        refine Go.step (fun _ k => XS.aload X152.here hx rfl (hb hby at_94) rfl rfl k) ?_
        show Go p e below _ T152 (mkF m 96 #[.val (.int i0), .val (.int i1), .val (.int i2), .val (.ref ob), .val (.int nk), .val (.ref lA), .val (.ref lB), .val (.ref lD), .val (.int (1 : Int32))] [(.ref lD), (.ref ob)])
        obtain ⟨cq154, kq154, q154a, q154b, q154c⟩ := isOf hZ e152 E_ob
        obtain ⟨_, _, ⟨T154, L154, k154, n154⟩, -, X154, ⟨Lc154, hQ154, l154, y154, z154⟩, st154⟩ := X152.virtualBack hx (y := (⟨"com/example/frugal_sieve/frugalsieve/server/Outbox", "write", "([B)V"⟩ : MethodName)) (z := (⟨"com/example/frugal_sieve/frugalsieve/server/Outbox", "write", "([B)V"⟩ : MethodName)) hown (mvT hZ (hw _ (List.mem_of_getElem? (i := 10) rfl))) (mvT hZ (hw _ (List.mem_of_getElem? (i := 11) rfl))) (notFace_of_selects (args := #[]) (mvT hZ (hw _ (List.mem_of_getElem? (i := 13) rfl)))) (mvT hZ (hw _ (List.mem_of_getElem? (i := 13) rfl))) (mvT hZ (hw _ (List.mem_of_getElem? (i := 12) rfl))) (by decide) (backOf (W := 0) (rmW1 l Z a0 hw [] ob lD (0 : Int32) [lA, lB, lD] aE nD T150.heap n0 Zn hR S0 B0 Od g_ob B_lD hnD (own_P3 B_lA.lt B_lB.lt B_lD.lt) (List.mem_of_getElem? (i := 2) rfl)) hZ (hw _ (List.mem_of_getElem? (i := 14) rfl)) (hw _ (List.mem_of_getElem? (i := 2) rfl)) (by decide) (by decide)) q154a q154c (g := (mkF m 96 #[.val (.int i0), .val (.int i1), .val (.int i2), .val (.ref ob), .val (.int nk), .val (.ref lA), .val (.ref lB), .val (.ref lD), .val (.int (1 : Int32))] [(.ref lD), (.ref ob)])) rfl (by rw [hml]; rfl) (Steps.refl _) (argsL := [(.ref lD)]) (rest := []) (lenOf own_f166 rfl) rfl (by show 2 * 0 + _ ≤ _; exact Nat.le_of_eq rfl) (hb hby at_96) (fun _ _ => ⟨rfl, e152, (by dsimp only [Pt.cells, Pt.slots]; decide), (by dsimp only [Pt.cells, Pt.slots]; decide)⟩)
        dsimp only [Pt.U, Pt.locs, Pt.cells, Pt.slots] at X154 l154 y154 z154 st154 hQ154
        subst l154 y154 z154
        obtain ⟨b153q, zb153q, rfl, N154q, K154, hR, hloc⟩ := hQ154
        have N154 := Fr.app N152 N154q
        refine Go.step (fun _ k => st154.trans k) ?_
        replace Od := Od.keep K154 (allS g_ob all0)
        replace E_ob := E_ob.keep K154
        replace B_lA := B_lA.keep K154 (ninS (Ne.symm ne_ob_lA) nin0)
        replace B_lB := B_lB.keep K154 (ninS (Ne.symm ne_ob_lB) nin0)
        replace B_lD := B_lD.keep K154 (ninS (Ne.symm ne_ob_lD) nin0)
        replace Zn := Nat.le_trans Zn K154.1
        show Go p e below _ T154 (mkF m 99 #[.val (.int i0), .val (.int i1), .val (.int i2), .val (.ref ob), .val (.int nk), .val (.ref lA), .val (.ref lB), .val (.ref lD), .val (.int (1 : Int32))] [])
        have g_b153q := hR.2.2.2.2.2.2.1
        have np_b153q := hR.2.2.2.2.2.2.2.1
        have ne_lA_b153q : lA ≠ b153q := fun q => np_b153q (q ▸ (List.mem_of_getElem? (i := 0) rfl))
        have ne_lB_b153q : lB ≠ b153q := fun q => np_b153q (q ▸ (List.mem_of_getElem? (i := 1) rfl))
        have ne_lD_b153q : lD ≠ b153q := fun q => np_b153q (q ▸ (List.mem_of_getElem? (i := 2) rfl))
        refine Go.step (fun _ k => XS.iload X154.here hx rfl (hb hby at_99) rfl k) ?_
        show Go p e below _ T154 (mkF m 101 #[.val (.int i0), .val (.int i1), .val (.int i2), .val (.ref ob), .val (.int nk), .val (.ref lA), .val (.ref lB), .val (.ref lD), .val (.int (1 : Int32))] [(.int (1 : Int32))])
        refine Go.step (fun _ k => XS.ifNo X154.here hx rfl (hb hby at_101) rfl ((if0 _ _).trans (feq (by decide)).1) k) ?_
        show Go p e below _ T154 (mkF m 104 #[.val (.int i0), .val (.int i1), .val (.int i2), .val (.ref ob), .val (.int nk), .val (.ref lA), .val (.ref lB), .val (.ref lD), .val (.int (1 : Int32))] [])
        refine Go.step (fun _ k => XS.aloadN X154.here hx rfl (hb hby at_104) rfl rfl k) ?_
        show Go p e below _ T154 (mkF m 105 #[.val (.int i0), .val (.int i1), .val (.int i2), .val (.ref ob), .val (.int nk), .val (.ref lA), .val (.ref lB), .val (.ref lD), .val (.int (1 : Int32))] [(.ref ob)])
        obtain ⟨cq155, kq155, q155a, q155b, q155c⟩ := isOf hZ rfl E_ob
        obtain ⟨_, _, ⟨T155, L155, k155, n155⟩, -, X155, ⟨Lc155, hQ155, l155, y155, z155⟩, st155⟩ := X154.virtualBack hx (y := (⟨"com/example/frugal_sieve/frugalsieve/server/Outbox", "waitingBytes", "()J"⟩ : MethodName)) (z := (⟨"com/example/frugal_sieve/frugalsieve/server/Outbox", "waitingBytes", "()J"⟩ : MethodName)) hown (mvT hZ (hw _ (List.mem_of_getElem? (i := 48) rfl))) (mvT hZ (hw _ (List.mem_of_getElem? (i := 49) rfl))) (notFace_of_selects (args := #[]) (mvT hZ (hw _ (List.mem_of_getElem? (i := 51) rfl)))) (mvT hZ (hw _ (List.mem_of_getElem? (i := 51) rfl))) (mvT hZ (hw _ (List.mem_of_getElem? (i := 50) rfl))) (by decide) (backOf (W := 0) (rmB l Z a0 hw [] ob ((0 : Int32) + (nD + (2 : Int32))) ((0 : Int32) + (1 : Int32)) T154.heap n0 Zn hR.2.1 hR.2.2.1 hR.2.2.2.1) hZ (hw _ (List.mem_of_getElem? (i := 52) rfl)) (hw _ (List.mem_of_getElem? (i := 2) rfl)) (by decide) (by decide)) q155a q155c (g := (mkF m 105 #[.val (.int i0), .val (.int i1), .val (.int i2), .val (.ref ob), .val (.int nk), .val (.ref lA), .val (.ref lB), .val (.ref lD), .val (.int (1 : Int32))] [(.ref ob)])) rfl (by rw [hml]; rfl) (Steps.refl _) (argsL := []) (rest := []) (lenOf own_f165 rfl) rfl (by show 2 * 0 + _ ≤ _; exact Nat.le_of_eq rfl) (hb hby at_105) (fun _ _ => ⟨rfl, rfl, (by dsimp only [Pt.cells, Pt.slots]; decide), (by dsimp only [Pt.cells, Pt.slots]; decide)⟩)
        dsimp only [Pt.U, Pt.locs, Pt.cells, Pt.slots] at X155 l155 y155 z155 st155 hQ155
        subst l155 y155 z155
        obtain ⟨rfl, N155q, e155⟩ := hQ155
        have N155 := Fr.app N154 N155q
        refine Go.step (fun _ k => st155.trans k) ?_
        show Go p e below _ T155 (mkF m 108 #[.val (.int i0), .val (.int i1), .val (.int i2), .val (.ref ob), .val (.int nk), .val (.ref lA), .val (.ref lB), .val (.ref lD), .val (.int (1 : Int32))] [(.long ((((0 : Int32) + (nD + (2 : Int32))) - (0 : Int32)).toInt64 + ((96 : Int64) * (((0 : Int32) + (1 : Int32)).toInt64))))])
        refine Go.step (fun _ k => XS.aload X155.here hx rfl (hb hby at_108) rfl rfl k) ?_
        show Go p e below _ T155 (mkF m 110 #[.val (.int i0), .val (.int i1), .val (.int i2), .val (.ref ob), .val (.int nk), .val (.ref lA), .val (.ref lB), .val (.ref lD), .val (.int (1 : Int32))] [(.ref lD), (.long ((((0 : Int32) + (nD + (2 : Int32))) - (0 : Int32)).toInt64 + ((96 : Int64) * (((0 : Int32) + (1 : Int32)).toInt64))))])
        obtain ⟨_, _, ⟨cl156, Ar156, _, S156, Nn156, _, _⟩, _⟩ := id B_lD
        refine Go.step (X155.arraylength hx (by rw [e155]; exact Ar156.1) (State.isArrayOf_alike hZ.alike Ar156.2.1) (g := (mkF m 110 #[.val (.int i0), .val (.int i1), .val (.int i2), .val (.ref ob), .val (.int nk), .val (.ref lA), .val (.ref lB), .val (.ref lD), .val (.int (1 : Int32))] [(.ref lD), (.long ((((0 : Int32) + (nD + (2 : Int32))) - (0 : Int32)).toInt64 + ((96 : Int64) * (((0 : Int32) + (1 : Int32)).toInt64))))])) rfl rfl (hb hby at_110)) ?_
        rw [len_of S156 Nn156]
        show Go p e below _ T155 (mkF m 111 #[.val (.int i0), .val (.int i1), .val (.int i2), .val (.ref ob), .val (.int nk), .val (.ref lA), .val (.ref lB), .val (.ref lD), .val (.int (1 : Int32))] [(.int nD), (.long ((((0 : Int32) + (nD + (2 : Int32))) - (0 : Int32)).toInt64 + ((96 : Int64) * (((0 : Int32) + (1 : Int32)).toInt64))))])
        refine Go.step (fun _ k => XS.iconst X155.here hx rfl (hb hby at_111) k) ?_
        show Go p e below _ T155 (mkF m 112 #[.val (.int i0), .val (.int i1), .val (.int i2), .val (.ref ob), .val (.int nk), .val (.ref lA), .val (.ref lB), .val (.ref lD), .val (.int (1 : Int32))] [(.int (2 : Int32)), (.int nD), (.long ((((0 : Int32) + (nD + (2 : Int32))) - (0 : Int32)).toInt64 + ((96 : Int64) * (((0 : Int32) + (1 : Int32)).toInt64))))])
        refine Go.step (fun _ k => XS.iadd X155.here hx rfl (hb hby at_112) rfl k) ?_
        show Go p e below _ T155 (mkF m 113 #[.val (.int i0), .val (.int i1), .val (.int i2), .val (.ref ob), .val (.int nk), .val (.ref lA), .val (.ref lB), .val (.ref lD), .val (.int (1 : Int32))] [(.int (nD + (2 : Int32))), (.long ((((0 : Int32) + (nD + (2 : Int32))) - (0 : Int32)).toInt64 + ((96 : Int64) * (((0 : Int32) + (1 : Int32)).toInt64))))])
        refine Go.step (fun _ k => XS.bipush X155.here hx rfl (hb hby at_113) k) ?_
        show Go p e below _ T155 (mkF m 115 #[.val (.int i0), .val (.int i1), .val (.int i2), .val (.ref ob), .val (.int nk), .val (.ref lA), .val (.ref lB), .val (.ref lD), .val (.int (1 : Int32))] [(.int (96 : Int32)), (.int (nD + (2 : Int32))), (.long ((((0 : Int32) + (nD + (2 : Int32))) - (0 : Int32)).toInt64 + ((96 : Int64) * (((0 : Int32) + (1 : Int32)).toInt64))))])
        refine Go.step (fun _ k => XS.iadd X155.here hx rfl (hb hby at_115) rfl k) ?_
        show Go p e below _ T155 (mkF m 116 #[.val (.int i0), .val (.int i1), .val (.int i2), .val (.ref ob), .val (.int nk), .val (.ref lA), .val (.ref lB), .val (.ref lD), .val (.int (1 : Int32))] [(.int ((nD + (2 : Int32)) + (96 : Int32))), (.long ((((0 : Int32) + (nD + (2 : Int32))) - (0 : Int32)).toInt64 + ((96 : Int64) * (((0 : Int32) + (1 : Int32)).toInt64))))])
        refine Go.step (fun _ k => XS.i2l X155.here hx rfl (hb hby at_116) rfl k) ?_
        show Go p e below _ T155 (mkF m 117 #[.val (.int i0), .val (.int i1), .val (.int i2), .val (.ref ob), .val (.int nk), .val (.ref lA), .val (.ref lB), .val (.ref lD), .val (.int (1 : Int32))] [(.long (((nD + (2 : Int32)) + (96 : Int32)).toInt64)), (.long ((((0 : Int32) + (nD + (2 : Int32))) - (0 : Int32)).toInt64 + ((96 : Int64) * (((0 : Int32) + (1 : Int32)).toInt64))))])
        refine Go.step (fun _ k => XS.lcmp X155.here hx rfl (hb hby at_117) rfl k) ?_
        show Go p e below _ T155 (mkF m 118 #[.val (.int i0), .val (.int i1), .val (.int i2), .val (.ref ob), .val (.int nk), .val (.ref lA), .val (.ref lB), .val (.ref lD), .val (.int (1 : Int32))] [(.int (lcmpW ((((0 : Int32) + (nD + (2 : Int32))) - (0 : Int32)).toInt64 + ((96 : Int64) * (((0 : Int32) + (1 : Int32)).toInt64))) (((nD + (2 : Int32)) + (96 : Int32)).toInt64)))])
        refine Go.step (fun _ k => XS.ifNo X155.here hx rfl (hb hby at_118) rfl ((if0 _ _).trans (teq (own_wb hnD)).2) k) ?_
        show Go p e below _ T155 (mkF m 121 #[.val (.int i0), .val (.int i1), .val (.int i2), .val (.ref ob), .val (.int nk), .val (.ref lA), .val (.ref lB), .val (.ref lD), .val (.int (1 : Int32))] [])
        refine Go.step (fun _ k => XS.iconst X155.here hx rfl (hb hby at_121) k) ?_
        show Go p e below _ T155 (mkF m 122 #[.val (.int i0), .val (.int i1), .val (.int i2), .val (.ref ob), .val (.int nk), .val (.ref lA), .val (.ref lB), .val (.ref lD), .val (.int (1 : Int32))] [(.int (1 : Int32))])
        refine Go.step (fun _ k => XS.goto X155.here hx rfl (pc0 := 122) (pc' := 126) rfl (hb hby at_122) (by decide) (by decide) k) ?_
        show Go p e below _ T155 (mkF m 126 #[.val (.int i0), .val (.int i1), .val (.int i2), .val (.ref ob), .val (.int nk), .val (.ref lA), .val (.ref lB), .val (.ref lD), .val (.int (1 : Int32))] [(.int (1 : Int32))])
        refine Go.step (fun _ k => XS.istore X155.here hx rfl (hb hby at_126) rfl (l' := #[.val (.int i0), .val (.int i1), .val (.int i2), .val (.ref ob), .val (.int nk), .val (.ref lA), .val (.ref lB), .val (.ref lD), .val (.int (1 : Int32))]) rfl k) ?_
        show Go p e below _ T155 (mkF m 128 #[.val (.int i0), .val (.int i1), .val (.int i2), .val (.ref ob), .val (.int nk), .val (.ref lA), .val (.ref lB), .val (.ref lD), .val (.int (1 : Int32))] [])
        refine Go.step (fun _ k => XS.aloadN X155.here hx rfl (hb hby at_128) rfl rfl k) ?_
        show Go p e below _ T155 (mkF m 129 #[.val (.int i0), .val (.int i1), .val (.int i2), .val (.ref ob), .val (.int nk), .val (.ref lA), .val (.ref lB), .val (.ref lD), .val (.int (1 : Int32))] [(.ref ob)])
        obtain ⟨cq157, kq157, q157a, q157b, q157c⟩ := isOf hZ e155 E_ob
        obtain ⟨_, _, ⟨T157, L157, k157, n157⟩, -, X157, ⟨Lc157, hQ157, l157, y157, z157⟩, st157⟩ := X155.virtualBack hx (y := (⟨"com/example/frugal_sieve/frugalsieve/server/Outbox", "clear", "()V"⟩ : MethodName)) (z := (⟨"com/example/frugal_sieve/frugalsieve/server/Outbox", "clear", "()V"⟩ : MethodName)) hown (mvT hZ (hw _ (List.mem_of_getElem? (i := 36) rfl))) (mvT hZ (hw _ (List.mem_of_getElem? (i := 37) rfl))) (notFace_of_selects (args := #[]) (mvT hZ (hw _ (List.mem_of_getElem? (i := 39) rfl)))) (mvT hZ (hw _ (List.mem_of_getElem? (i := 39) rfl))) (mvT hZ (hw _ (List.mem_of_getElem? (i := 38) rfl))) (by decide) (backOf (W := 0) (rmC2 l Z a0 hw [] ob ((0 : Int32) + (nD + (2 : Int32))) ((0 : Int32) + (1 : Int32)) [lA, lB, lD] b153q zb153q 4097 T154.heap n0 Zn hR g_ob) hZ (hw _ (List.mem_of_getElem? (i := 40) rfl)) (hw _ (List.mem_of_getElem? (i := 2) rfl)) (by decide) (by decide)) q157a q157c (g := (mkF m 129 #[.val (.int i0), .val (.int i1), .val (.int i2), .val (.ref ob), .val (.int nk), .val (.ref lA), .val (.ref lB), .val (.ref lD), .val (.int (1 : Int32))] [(.ref ob)])) rfl (by rw [hml]; rfl) (Steps.refl _) (argsL := []) (rest := []) (lenOf own_f163 rfl) rfl (by show 2 * 0 + _ ≤ _; exact Nat.le_of_eq rfl) (hb hby at_129) (fun _ _ => ⟨rfl, e155, (by dsimp only [Pt.cells, Pt.slots]; decide), (by dsimp only [Pt.cells, Pt.slots]; decide)⟩)
        dsimp only [Pt.U, Pt.locs, Pt.cells, Pt.slots] at X157 l157 y157 z157 st157 hQ157
        subst l157 y157 z157
        obtain ⟨rfl, N157q, K157, hD⟩ := hQ157
        have N157 := Fr.app N155 N157q
        refine Go.step (fun _ k => st157.trans k) ?_
        replace Od := Od.keep K157 (allS g_ob all0)
        replace E_ob := E_ob.keep K157
        replace B_lA := B_lA.keep K157 (ninS (Ne.symm ne_ob_lA) nin0)
        replace B_lB := B_lB.keep K157 (ninS (Ne.symm ne_ob_lB) nin0)
        replace B_lD := B_lD.keep K157 (ninS (Ne.symm ne_ob_lD) nin0)
        replace Zn := Nat.le_trans Zn K157.1
        show Go p e below _ T157 (mkF m 132 #[.val (.int i0), .val (.int i1), .val (.int i2), .val (.ref ob), .val (.int nk), .val (.ref lA), .val (.ref lB), .val (.ref lD), .val (.int (1 : Int32))] [])
        have hF : Fld Z T157.heap ob "com/example/frugal_sieve/frugalsieve/server/Outbox" "start" "I" (.int (0 : Int32)) ∧ Fld Z T157.heap ob "com/example/frugal_sieve/frugalsieve/server/Outbox" "end" "I" (.int (0 : Int32)) ∧ Fld Z T157.heap ob "com/example/frugal_sieve/frugalsieve/server/Outbox" "lines" "I" (.int (0 : Int32)) := hD.elim (fun q => ⟨q.2.1, q.2.2.1, q.2.2.2.1⟩) (fun q => ⟨q.2.1, q.2.2.1, q.2.2.2.1⟩)
        refine Go.step (fun _ k => XS.iload X157.here hx rfl (hb hby at_132) rfl k) ?_
        show Go p e below _ T157 (mkF m 134 #[.val (.int i0), .val (.int i1), .val (.int i2), .val (.ref ob), .val (.int nk), .val (.ref lA), .val (.ref lB), .val (.ref lD), .val (.int (1 : Int32))] [(.int (1 : Int32))])
        refine Go.step (fun _ k => XS.ifNo X157.here hx rfl (hb hby at_134) rfl ((if0 _ _).trans (feq (by decide)).1) k) ?_
        show Go p e below _ T157 (mkF m 137 #[.val (.int i0), .val (.int i1), .val (.int i2), .val (.ref ob), .val (.int nk), .val (.ref lA), .val (.ref lB), .val (.ref lD), .val (.int (1 : Int32))] [])
        refine Go.step (fun _ k => XS.aloadN X157.here hx rfl (hb hby at_137) rfl rfl k) ?_
        show Go p e below _ T157 (mkF m 138 #[.val (.int i0), .val (.int i1), .val (.int i2), .val (.ref ob), .val (.int nk), .val (.ref lA), .val (.ref lB), .val (.ref lD), .val (.int (1 : Int32))] [(.ref ob)])
        obtain ⟨cq158, kq158, q158a, q158b, q158c⟩ := isOf hZ rfl E_ob
        obtain ⟨_, _, ⟨T158, L158, k158, n158⟩, -, X158, ⟨Lc158, hQ158, l158, y158, z158⟩, st158⟩ := X157.virtualBack hx (y := (⟨"com/example/frugal_sieve/frugalsieve/server/Outbox", "isEmpty", "()Z"⟩ : MethodName)) (z := (⟨"com/example/frugal_sieve/frugalsieve/server/Outbox", "isEmpty", "()Z"⟩ : MethodName)) hown (mvT hZ (hw _ (List.mem_of_getElem? (i := 43) rfl))) (mvT hZ (hw _ (List.mem_of_getElem? (i := 44) rfl))) (notFace_of_selects (args := #[]) (mvT hZ (hw _ (List.mem_of_getElem? (i := 46) rfl)))) (mvT hZ (hw _ (List.mem_of_getElem? (i := 46) rfl))) (mvT hZ (hw _ (List.mem_of_getElem? (i := 45) rfl))) (by decide) (backOf (W := 0) (rmE l Z a0 hw [] ob T157.heap n0 Zn hF.1 hF.2.1) hZ (hw _ (List.mem_of_getElem? (i := 47) rfl)) (hw _ (List.mem_of_getElem? (i := 2) rfl)) (by decide) (by decide)) q158a q158c (g := (mkF m 138 #[.val (.int i0), .val (.int i1), .val (.int i2), .val (.ref ob), .val (.int nk), .val (.ref lA), .val (.ref lB), .val (.ref lD), .val (.int (1 : Int32))] [(.ref ob)])) rfl (by rw [hml]; rfl) (Steps.refl _) (argsL := []) (rest := []) (lenOf own_f164 rfl) rfl (by show 2 * 0 + _ ≤ _; exact Nat.le_of_eq rfl) (hb hby at_138) (fun _ _ => ⟨rfl, rfl, (by dsimp only [Pt.cells, Pt.slots]; decide), (by dsimp only [Pt.cells, Pt.slots]; decide)⟩)
        dsimp only [Pt.U, Pt.locs, Pt.cells, Pt.slots] at X158 l158 y158 z158 st158 hQ158
        subst l158 y158 z158
        obtain ⟨rfl, N158q, e158⟩ := hQ158
        have N158 := Fr.app N157 N158q
        refine Go.step (fun _ k => st158.trans k) ?_
        show Go p e below _ T158 (mkF m 141 #[.val (.int i0), .val (.int i1), .val (.int i2), .val (.ref ob), .val (.int nk), .val (.ref lA), .val (.ref lB), .val (.ref lD), .val (.int (1 : Int32))] [(.int (1 : Int32))])
        refine Go.step (fun _ k => XS.ifNo X158.here hx rfl (hb hby at_141) rfl ((if0 _ _).trans (feq (by decide)).1) k) ?_
        show Go p e below _ T158 (mkF m 144 #[.val (.int i0), .val (.int i1), .val (.int i2), .val (.ref ob), .val (.int nk), .val (.ref lA), .val (.ref lB), .val (.ref lD), .val (.int (1 : Int32))] [])
        refine Go.step (fun _ k => XS.aloadN X158.here hx rfl (hb hby at_144) rfl rfl k) ?_
        show Go p e below _ T158 (mkF m 145 #[.val (.int i0), .val (.int i1), .val (.int i2), .val (.ref ob), .val (.int nk), .val (.ref lA), .val (.ref lB), .val (.ref lD), .val (.int (1 : Int32))] [(.ref ob)])
        obtain ⟨cq159, kq159, q159a, q159b, q159c⟩ := isOf hZ e158 E_ob
        obtain ⟨_, _, ⟨T159, L159, k159, n159⟩, -, X159, ⟨Lc159, hQ159, l159, y159, z159⟩, st159⟩ := X158.virtualBack hx (y := (⟨"com/example/frugal_sieve/frugalsieve/server/Outbox", "waitingBytes", "()J"⟩ : MethodName)) (z := (⟨"com/example/frugal_sieve/frugalsieve/server/Outbox", "waitingBytes", "()J"⟩ : MethodName)) hown (mvT hZ (hw _ (List.mem_of_getElem? (i := 48) rfl))) (mvT hZ (hw _ (List.mem_of_getElem? (i := 49) rfl))) (notFace_of_selects (args := #[]) (mvT hZ (hw _ (List.mem_of_getElem? (i := 51) rfl)))) (mvT hZ (hw _ (List.mem_of_getElem? (i := 51) rfl))) (mvT hZ (hw _ (List.mem_of_getElem? (i := 50) rfl))) (by decide) (backOf (W := 0) (rmB l Z a0 hw [] ob (0 : Int32) (0 : Int32) T157.heap n0 Zn hF.1 hF.2.1 hF.2.2) hZ (hw _ (List.mem_of_getElem? (i := 52) rfl)) (hw _ (List.mem_of_getElem? (i := 2) rfl)) (by decide) (by decide)) q159a q159c (g := (mkF m 145 #[.val (.int i0), .val (.int i1), .val (.int i2), .val (.ref ob), .val (.int nk), .val (.ref lA), .val (.ref lB), .val (.ref lD), .val (.int (1 : Int32))] [(.ref ob)])) rfl (by rw [hml]; rfl) (Steps.refl _) (argsL := []) (rest := []) (lenOf own_f165 rfl) rfl (by show 2 * 0 + _ ≤ _; exact Nat.le_of_eq rfl) (hb hby at_145) (fun _ _ => ⟨rfl, e158, (by dsimp only [Pt.cells, Pt.slots]; decide), (by dsimp only [Pt.cells, Pt.slots]; decide)⟩)
        dsimp only [Pt.U, Pt.locs, Pt.cells, Pt.slots] at X159 l159 y159 z159 st159 hQ159
        subst l159 y159 z159
        obtain ⟨rfl, N159q, e159⟩ := hQ159
        have N159 := Fr.app N158 N159q
        refine Go.step (fun _ k => st159.trans k) ?_
        show Go p e below _ T159 (mkF m 148 #[.val (.int i0), .val (.int i1), .val (.int i2), .val (.ref ob), .val (.int nk), .val (.ref lA), .val (.ref lB), .val (.ref lD), .val (.int (1 : Int32))] [(.long (((0 : Int32) - (0 : Int32)).toInt64 + ((96 : Int64) * ((0 : Int32).toInt64))))])
        refine Go.step (fun _ k => XS.lconst X159.here hx rfl (hb hby at_148) k) ?_
        show Go p e below _ T159 (mkF m 149 #[.val (.int i0), .val (.int i1), .val (.int i2), .val (.ref ob), .val (.int nk), .val (.ref lA), .val (.ref lB), .val (.ref lD), .val (.int (1 : Int32))] [(.long (0 : Int64)), (.long (((0 : Int32) - (0 : Int32)).toInt64 + ((96 : Int64) * ((0 : Int32).toInt64))))])
        refine Go.step (fun _ k => XS.lcmp X159.here hx rfl (hb hby at_149) rfl k) ?_
        show Go p e below _ T159 (mkF m 150 #[.val (.int i0), .val (.int i1), .val (.int i2), .val (.ref ob), .val (.int nk), .val (.ref lA), .val (.ref lB), .val (.ref lD), .val (.int (1 : Int32))] [(.int (lcmpW (((0 : Int32) - (0 : Int32)).toInt64 + ((96 : Int64) * ((0 : Int32).toInt64))) (0 : Int64)))])
        refine Go.step (fun _ k => XS.ifNo X159.here hx rfl (hb hby at_150) rfl ((if0 _ _).trans (teq (by decide)).2) k) ?_
        show Go p e below _ T159 (mkF m 153 #[.val (.int i0), .val (.int i1), .val (.int i2), .val (.ref ob), .val (.int nk), .val (.ref lA), .val (.ref lB), .val (.ref lD), .val (.int (1 : Int32))] [])
        refine Go.step (fun _ k => XS.iconst X159.here hx rfl (hb hby at_153) k) ?_
        show Go p e below _ T159 (mkF m 154 #[.val (.int i0), .val (.int i1), .val (.int i2), .val (.ref ob), .val (.int nk), .val (.ref lA), .val (.ref lB), .val (.ref lD), .val (.int (1 : Int32))] [(.int (1 : Int32))])
        refine Go.step (fun _ k => XS.goto X159.here hx rfl (pc0 := 154) (pc' := 158) rfl (hb hby at_154) (by decide) (by decide) k) ?_
        show Go p e below _ T159 (mkF m 158 #[.val (.int i0), .val (.int i1), .val (.int i2), .val (.ref ob), .val (.int nk), .val (.ref lA), .val (.ref lB), .val (.ref lD), .val (.int (1 : Int32))] [(.int (1 : Int32))])
        refine Go.step (fun _ k => XS.istore X159.here hx rfl (hb hby at_158) rfl (l' := #[.val (.int i0), .val (.int i1), .val (.int i2), .val (.ref ob), .val (.int nk), .val (.ref lA), .val (.ref lB), .val (.ref lD), .val (.int (1 : Int32))]) rfl k) ?_
        show Go p e below _ T159 (mkF m 160 #[.val (.int i0), .val (.int i1), .val (.int i2), .val (.ref ob), .val (.int nk), .val (.ref lA), .val (.ref lB), .val (.ref lD), .val (.int (1 : Int32))] [])
        refine Go.step (fun _ k => XS.iload X159.here hx rfl (hb hby at_160) rfl k) ?_
        show Go p e below _ T159 (mkF m 162 #[.val (.int i0), .val (.int i1), .val (.int i2), .val (.ref ob), .val (.int nk), .val (.ref lA), .val (.ref lB), .val (.ref lD), .val (.int (1 : Int32))] [(.int (1 : Int32))])
        obtain ⟨fs, hr, hrun, hended, hW, hsame⟩ := X159.leave (v := some (.int (1 : Int32))) (fun h => by rw [Bd.returns] at h; cases h)
        refine Go.fin (retN X159 hx (t := .boolean) Bd.returns (by simp) (hb hby at_162) hr) hrun hended ?_
        refine ⟨_, _, rfl, ?_, ⟨_, rfl⟩, hW, hsame.mono (by decide) (by decide)⟩
        show Q0 Z i0 i1 i2 aE h0 n0 _ T159.heap _
        rw [e159]
        exact ⟨rfl, N159⟩
      · show Go p e below _ T150 (mkF m 70 #[.val (.int i0), .val (.int i1), .val (.int i2), .val (.ref ob), .val (.int nk), .val (.ref lA), .val (.ref lB), .val (.ref lD), .unset] [])
        refine Go.step (fun _ k => XS.aloadN X150.here hx rfl (hb hby at_70) rfl rfl k) ?_
        show Go p e below _ T150 (mkF m 71 #[.val (.int i0), .val (.int i1), .val (.int i2), .val (.ref ob), .val (.int nk), .val (.ref lA), .val (.ref lB), .val (.ref lD), .unset] [(.ref ob)])
        obtain ⟨cq160, kq160, q160a, q160b, q160c⟩ := isOf hZ rfl E_ob
        obtain ⟨_, _, ⟨T160, L160, k160, n160⟩, -, X160, ⟨Lc160, hQ160, l160, y160, z160⟩, st160⟩ := X150.virtualBack hx (y := (⟨"com/example/frugal_sieve/frugalsieve/server/Outbox", "isEmpty", "()Z"⟩ : MethodName)) (z := (⟨"com/example/frugal_sieve/frugalsieve/server/Outbox", "isEmpty", "()Z"⟩ : MethodName)) hown (mvT hZ (hw _ (List.mem_of_getElem? (i := 43) rfl))) (mvT hZ (hw _ (List.mem_of_getElem? (i := 44) rfl))) (notFace_of_selects (args := #[]) (mvT hZ (hw _ (List.mem_of_getElem? (i := 46) rfl)))) (mvT hZ (hw _ (List.mem_of_getElem? (i := 46) rfl))) (mvT hZ (hw _ (List.mem_of_getElem? (i := 45) rfl))) (by decide) (backOf (W := 0) (rmE l Z a0 hw [] ob T150.heap n0 Zn hR.2.1 hR.2.2.1) hZ (hw _ (List.mem_of_getElem? (i := 47) rfl)) (hw _ (List.mem_of_getElem? (i := 2) rfl)) (by decide) (by decide)) q160a q160c (g := (mkF m 71 #[.val (.int i0), .val (.int i1), .val (.int i2), .val (.ref ob), .val (.int nk), .val (.ref lA), .val (.ref lB), .val (.ref lD), .unset] [(.ref ob)])) rfl (by rw [hml]; rfl) (Steps.refl _) (argsL := []) (rest := []) (lenOf own_f164 rfl) rfl (by show 2 * 0 + _ ≤ _; exact Nat.le_of_eq rfl) (hb hby at_71) (fun _ _ => ⟨rfl, rfl, (by dsimp only [Pt.cells, Pt.slots]; decide), (by dsimp only [Pt.cells, Pt.slots]; decide)⟩)
        dsimp only [Pt.U, Pt.locs, Pt.cells, Pt.slots] at X160 l160 y160 z160 st160 hQ160
        subst l160 y160 z160
        obtain ⟨rfl, N160q, e160⟩ := hQ160
        have N160 := Fr.app N150 N160q
        refine Go.step (fun _ k => st160.trans k) ?_
        show Go p e below _ T160 (mkF m 74 #[.val (.int i0), .val (.int i1), .val (.int i2), .val (.ref ob), .val (.int nk), .val (.ref lA), .val (.ref lB), .val (.ref lD), .unset] [(.int (1 : Int32))])
        refine Go.step (fun _ k => XS.ifNo X160.here hx rfl (hb hby at_74) rfl ((if0 _ _).trans (feq (by decide)).1) k) ?_
        show Go p e below _ T160 (mkF m 77 #[.val (.int i0), .val (.int i1), .val (.int i2), .val (.ref ob), .val (.int nk), .val (.ref lA), .val (.ref lB), .val (.ref lD), .unset] [])
        refine Go.step (fun _ k => XS.aloadN X160.here hx rfl (hb hby at_77) rfl rfl k) ?_
        show Go p e below _ T160 (mkF m 78 #[.val (.int i0), .val (.int i1), .val (.int i2), .val (.ref ob), .val (.int nk), .val (.ref lA), .val (.ref lB), .val (.ref lD), .unset] [(.ref ob)])
        obtain ⟨cq161, kq161, q161a, q161b, q161c⟩ := isOf hZ e160 E_ob
        obtain ⟨_, _, ⟨T161, L161, k161, n161⟩, -, X161, ⟨Lc161, hQ161, l161, y161, z161⟩, st161⟩ := X160.virtualBack hx (y := (⟨"com/example/frugal_sieve/frugalsieve/server/Outbox", "waitingBytes", "()J"⟩ : MethodName)) (z := (⟨"com/example/frugal_sieve/frugalsieve/server/Outbox", "waitingBytes", "()J"⟩ : MethodName)) hown (mvT hZ (hw _ (List.mem_of_getElem? (i := 48) rfl))) (mvT hZ (hw _ (List.mem_of_getElem? (i := 49) rfl))) (notFace_of_selects (args := #[]) (mvT hZ (hw _ (List.mem_of_getElem? (i := 51) rfl)))) (mvT hZ (hw _ (List.mem_of_getElem? (i := 51) rfl))) (mvT hZ (hw _ (List.mem_of_getElem? (i := 50) rfl))) (by decide) (backOf (W := 0) (rmB l Z a0 hw [] ob (0 : Int32) (0 : Int32) T150.heap n0 Zn hR.2.1 hR.2.2.1 hR.2.2.2.1) hZ (hw _ (List.mem_of_getElem? (i := 52) rfl)) (hw _ (List.mem_of_getElem? (i := 2) rfl)) (by decide) (by decide)) q161a q161c (g := (mkF m 78 #[.val (.int i0), .val (.int i1), .val (.int i2), .val (.ref ob), .val (.int nk), .val (.ref lA), .val (.ref lB), .val (.ref lD), .unset] [(.ref ob)])) rfl (by rw [hml]; rfl) (Steps.refl _) (argsL := []) (rest := []) (lenOf own_f165 rfl) rfl (by show 2 * 0 + _ ≤ _; exact Nat.le_of_eq rfl) (hb hby at_78) (fun _ _ => ⟨rfl, e160, (by dsimp only [Pt.cells, Pt.slots]; decide), (by dsimp only [Pt.cells, Pt.slots]; decide)⟩)
        dsimp only [Pt.U, Pt.locs, Pt.cells, Pt.slots] at X161 l161 y161 z161 st161 hQ161
        subst l161 y161 z161
        obtain ⟨rfl, N161q, e161⟩ := hQ161
        have N161 := Fr.app N160 N161q
        refine Go.step (fun _ k => st161.trans k) ?_
        show Go p e below _ T161 (mkF m 81 #[.val (.int i0), .val (.int i1), .val (.int i2), .val (.ref ob), .val (.int nk), .val (.ref lA), .val (.ref lB), .val (.ref lD), .unset] [(.long (((0 : Int32) - (0 : Int32)).toInt64 + ((96 : Int64) * ((0 : Int32).toInt64))))])
        refine Go.step (fun _ k => XS.lconst X161.here hx rfl (hb hby at_81) k) ?_
        show Go p e below _ T161 (mkF m 82 #[.val (.int i0), .val (.int i1), .val (.int i2), .val (.ref ob), .val (.int nk), .val (.ref lA), .val (.ref lB), .val (.ref lD), .unset] [(.long (0 : Int64)), (.long (((0 : Int32) - (0 : Int32)).toInt64 + ((96 : Int64) * ((0 : Int32).toInt64))))])
        refine Go.step (fun _ k => XS.lcmp X161.here hx rfl (hb hby at_82) rfl k) ?_
        show Go p e below _ T161 (mkF m 83 #[.val (.int i0), .val (.int i1), .val (.int i2), .val (.ref ob), .val (.int nk), .val (.ref lA), .val (.ref lB), .val (.ref lD), .unset] [(.int (lcmpW (((0 : Int32) - (0 : Int32)).toInt64 + ((96 : Int64) * ((0 : Int32).toInt64))) (0 : Int64)))])
        refine Go.step (fun _ k => XS.ifNo X161.here hx rfl (hb hby at_83) rfl ((if0 _ _).trans (teq (by decide)).2) k) ?_
        show Go p e below _ T161 (mkF m 86 #[.val (.int i0), .val (.int i1), .val (.int i2), .val (.ref ob), .val (.int nk), .val (.ref lA), .val (.ref lB), .val (.ref lD), .unset] [])
        refine Go.step (fun _ k => XS.iconst X161.here hx rfl (hb hby at_86) k) ?_
        show Go p e below _ T161 (mkF m 87 #[.val (.int i0), .val (.int i1), .val (.int i2), .val (.ref ob), .val (.int nk), .val (.ref lA), .val (.ref lB), .val (.ref lD), .unset] [(.int (1 : Int32))])
        refine Go.step (fun _ k => XS.goto X161.here hx rfl (pc0 := 87) (pc' := 91) rfl (hb hby at_87) (by decide) (by decide) k) ?_
        show Go p e below _ T161 (mkF m 91 #[.val (.int i0), .val (.int i1), .val (.int i2), .val (.ref ob), .val (.int nk), .val (.ref lA), .val (.ref lB), .val (.ref lD), .unset] [(.int (1 : Int32))])
        refine Go.step (fun _ k => XS.istore X161.here hx rfl (hb hby at_91) rfl (l' := #[.val (.int i0), .val (.int i1), .val (.int i2), .val (.ref ob), .val (.int nk), .val (.ref lA), .val (.ref lB), .val (.ref lD), .val (.int (1 : Int32))]) rfl k) ?_
        show Go p e below _ T161 (mkF m 93 #[.val (.int i0), .val (.int i1), .val (.int i2), .val (.ref ob), .val (.int nk), .val (.ref lA), .val (.ref lB), .val (.ref lD), .val (.int (1 : Int32))] [])
        refine Go.step (fun _ k => XS.aloadN X161.here hx rfl (hb hby at_93) rfl rfl k) ?_
        show Go p e below _ T161 (mkF m 94 #[.val (.int i0), .val (.int i1), .val (.int i2), .val (.ref ob), .val (.int nk), .val (.ref lA), .val (.ref lB), .val (.ref lD), .val (.int (1 : Int32))] [(.ref ob)])
        refine Go.step (fun _ k => XS.aload X161.here hx rfl (hb hby at_94) rfl rfl k) ?_
        show Go p e below _ T161 (mkF m 96 #[.val (.int i0), .val (.int i1), .val (.int i2), .val (.ref ob), .val (.int nk), .val (.ref lA), .val (.ref lB), .val (.ref lD), .val (.int (1 : Int32))] [(.ref lD), (.ref ob)])
        obtain ⟨cq163, kq163, q163a, q163b, q163c⟩ := isOf hZ e161 E_ob
        obtain ⟨_, _, ⟨T163, L163, k163, n163⟩, -, X163, ⟨Lc163, hQ163, l163, y163, z163⟩, st163⟩ := X161.virtualBack hx (y := (⟨"com/example/frugal_sieve/frugalsieve/server/Outbox", "write", "([B)V"⟩ : MethodName)) (z := (⟨"com/example/frugal_sieve/frugalsieve/server/Outbox", "write", "([B)V"⟩ : MethodName)) hown (mvT hZ (hw _ (List.mem_of_getElem? (i := 10) rfl))) (mvT hZ (hw _ (List.mem_of_getElem? (i := 11) rfl))) (notFace_of_selects (args := #[]) (mvT hZ (hw _ (List.mem_of_getElem? (i := 13) rfl)))) (mvT hZ (hw _ (List.mem_of_getElem? (i := 13) rfl))) (mvT hZ (hw _ (List.mem_of_getElem? (i := 12) rfl))) (by decide) (backOf (W := 0) (rmW2 l Z a0 hw [] ob lD (0 : Int32) (0 : Int32) [lA, lB, lD] b148q zb148q 2048 aE nD T150.heap n0 Zn hR (by decide) S0 B0 Od g_ob B_lD hnD (own_P3 B_lA.lt B_lB.lt B_lD.lt) (List.mem_of_getElem? (i := 2) rfl)) hZ (hw _ (List.mem_of_getElem? (i := 14) rfl)) (hw _ (List.mem_of_getElem? (i := 2) rfl)) (by decide) (by decide)) q163a q163c (g := (mkF m 96 #[.val (.int i0), .val (.int i1), .val (.int i2), .val (.ref ob), .val (.int nk), .val (.ref lA), .val (.ref lB), .val (.ref lD), .val (.int (1 : Int32))] [(.ref lD), (.ref ob)])) rfl (by rw [hml]; rfl) (Steps.refl _) (argsL := [(.ref lD)]) (rest := []) (lenOf own_f166 rfl) rfl (by show 2 * 0 + _ ≤ _; exact Nat.le_of_eq rfl) (hb hby at_96) (fun _ _ => ⟨rfl, e161, (by dsimp only [Pt.cells, Pt.slots]; decide), (by dsimp only [Pt.cells, Pt.slots]; decide)⟩)
        dsimp only [Pt.U, Pt.locs, Pt.cells, Pt.slots] at X163 l163 y163 z163 st163 hQ163
        subst l163 y163 z163
        obtain ⟨b162q, zb162q, rfl, N163q, K163, hR, hloc⟩ := hQ163
        have N163 := Fr.app N161 N163q
        refine Go.step (fun _ k => st163.trans k) ?_
        replace Od := Od.keep K163 (allS g_ob (allS g_b148q all0))
        replace E_ob := E_ob.keep K163
        replace B_lA := B_lA.keep K163 (ninS (Ne.symm ne_ob_lA) (ninS ne_lA_b148q nin0))
        replace B_lB := B_lB.keep K163 (ninS (Ne.symm ne_ob_lB) (ninS ne_lB_b148q nin0))
        replace B_lD := B_lD.keep K163 (ninS (Ne.symm ne_ob_lD) (ninS ne_lD_b148q nin0))
        replace Zn := Nat.le_trans Zn K163.1
        show Go p e below _ T163 (mkF m 99 #[.val (.int i0), .val (.int i1), .val (.int i2), .val (.ref ob), .val (.int nk), .val (.ref lA), .val (.ref lB), .val (.ref lD), .val (.int (1 : Int32))] [])
        have g_b162q := hR.2.2.2.2.2.2.1
        have np_b162q := hR.2.2.2.2.2.2.2.1
        have ne_lA_b162q : lA ≠ b162q := fun q => np_b162q (q ▸ (List.mem_of_getElem? (i := 0) rfl))
        have ne_lB_b162q : lB ≠ b162q := fun q => np_b162q (q ▸ (List.mem_of_getElem? (i := 1) rfl))
        have ne_lD_b162q : lD ≠ b162q := fun q => np_b162q (q ▸ (List.mem_of_getElem? (i := 2) rfl))
        refine Go.step (fun _ k => XS.iload X163.here hx rfl (hb hby at_99) rfl k) ?_
        show Go p e below _ T163 (mkF m 101 #[.val (.int i0), .val (.int i1), .val (.int i2), .val (.ref ob), .val (.int nk), .val (.ref lA), .val (.ref lB), .val (.ref lD), .val (.int (1 : Int32))] [(.int (1 : Int32))])
        refine Go.step (fun _ k => XS.ifNo X163.here hx rfl (hb hby at_101) rfl ((if0 _ _).trans (feq (by decide)).1) k) ?_
        show Go p e below _ T163 (mkF m 104 #[.val (.int i0), .val (.int i1), .val (.int i2), .val (.ref ob), .val (.int nk), .val (.ref lA), .val (.ref lB), .val (.ref lD), .val (.int (1 : Int32))] [])
        refine Go.step (fun _ k => XS.aloadN X163.here hx rfl (hb hby at_104) rfl rfl k) ?_
        show Go p e below _ T163 (mkF m 105 #[.val (.int i0), .val (.int i1), .val (.int i2), .val (.ref ob), .val (.int nk), .val (.ref lA), .val (.ref lB), .val (.ref lD), .val (.int (1 : Int32))] [(.ref ob)])
        obtain ⟨cq164, kq164, q164a, q164b, q164c⟩ := isOf hZ rfl E_ob
        obtain ⟨_, _, ⟨T164, L164, k164, n164⟩, -, X164, ⟨Lc164, hQ164, l164, y164, z164⟩, st164⟩ := X163.virtualBack hx (y := (⟨"com/example/frugal_sieve/frugalsieve/server/Outbox", "waitingBytes", "()J"⟩ : MethodName)) (z := (⟨"com/example/frugal_sieve/frugalsieve/server/Outbox", "waitingBytes", "()J"⟩ : MethodName)) hown (mvT hZ (hw _ (List.mem_of_getElem? (i := 48) rfl))) (mvT hZ (hw _ (List.mem_of_getElem? (i := 49) rfl))) (notFace_of_selects (args := #[]) (mvT hZ (hw _ (List.mem_of_getElem? (i := 51) rfl)))) (mvT hZ (hw _ (List.mem_of_getElem? (i := 51) rfl))) (mvT hZ (hw _ (List.mem_of_getElem? (i := 50) rfl))) (by decide) (backOf (W := 0) (rmB l Z a0 hw [] ob ((0 : Int32) + (nD + (2 : Int32))) ((0 : Int32) + (1 : Int32)) T163.heap n0 Zn hR.2.1 hR.2.2.1 hR.2.2.2.1) hZ (hw _ (List.mem_of_getElem? (i := 52) rfl)) (hw _ (List.mem_of_getElem? (i := 2) rfl)) (by decide) (by decide)) q164a q164c (g := (mkF m 105 #[.val (.int i0), .val (.int i1), .val (.int i2), .val (.ref ob), .val (.int nk), .val (.ref lA), .val (.ref lB), .val (.ref lD), .val (.int (1 : Int32))] [(.ref ob)])) rfl (by rw [hml]; rfl) (Steps.refl _) (argsL := []) (rest := []) (lenOf own_f165 rfl) rfl (by show 2 * 0 + _ ≤ _; exact Nat.le_of_eq rfl) (hb hby at_105) (fun _ _ => ⟨rfl, rfl, (by dsimp only [Pt.cells, Pt.slots]; decide), (by dsimp only [Pt.cells, Pt.slots]; decide)⟩)
        dsimp only [Pt.U, Pt.locs, Pt.cells, Pt.slots] at X164 l164 y164 z164 st164 hQ164
        subst l164 y164 z164
        obtain ⟨rfl, N164q, e164⟩ := hQ164
        have N164 := Fr.app N163 N164q
        refine Go.step (fun _ k => st164.trans k) ?_
        show Go p e below _ T164 (mkF m 108 #[.val (.int i0), .val (.int i1), .val (.int i2), .val (.ref ob), .val (.int nk), .val (.ref lA), .val (.ref lB), .val (.ref lD), .val (.int (1 : Int32))] [(.long ((((0 : Int32) + (nD + (2 : Int32))) - (0 : Int32)).toInt64 + ((96 : Int64) * (((0 : Int32) + (1 : Int32)).toInt64))))])
        refine Go.step (fun _ k => XS.aload X164.here hx rfl (hb hby at_108) rfl rfl k) ?_
        show Go p e below _ T164 (mkF m 110 #[.val (.int i0), .val (.int i1), .val (.int i2), .val (.ref ob), .val (.int nk), .val (.ref lA), .val (.ref lB), .val (.ref lD), .val (.int (1 : Int32))] [(.ref lD), (.long ((((0 : Int32) + (nD + (2 : Int32))) - (0 : Int32)).toInt64 + ((96 : Int64) * (((0 : Int32) + (1 : Int32)).toInt64))))])
        obtain ⟨_, _, ⟨cl165, Ar165, _, S165, Nn165, _, _⟩, _⟩ := id B_lD
        refine Go.step (X164.arraylength hx (by rw [e164]; exact Ar165.1) (State.isArrayOf_alike hZ.alike Ar165.2.1) (g := (mkF m 110 #[.val (.int i0), .val (.int i1), .val (.int i2), .val (.ref ob), .val (.int nk), .val (.ref lA), .val (.ref lB), .val (.ref lD), .val (.int (1 : Int32))] [(.ref lD), (.long ((((0 : Int32) + (nD + (2 : Int32))) - (0 : Int32)).toInt64 + ((96 : Int64) * (((0 : Int32) + (1 : Int32)).toInt64))))])) rfl rfl (hb hby at_110)) ?_
        rw [len_of S165 Nn165]
        show Go p e below _ T164 (mkF m 111 #[.val (.int i0), .val (.int i1), .val (.int i2), .val (.ref ob), .val (.int nk), .val (.ref lA), .val (.ref lB), .val (.ref lD), .val (.int (1 : Int32))] [(.int nD), (.long ((((0 : Int32) + (nD + (2 : Int32))) - (0 : Int32)).toInt64 + ((96 : Int64) * (((0 : Int32) + (1 : Int32)).toInt64))))])
        refine Go.step (fun _ k => XS.iconst X164.here hx rfl (hb hby at_111) k) ?_
        show Go p e below _ T164 (mkF m 112 #[.val (.int i0), .val (.int i1), .val (.int i2), .val (.ref ob), .val (.int nk), .val (.ref lA), .val (.ref lB), .val (.ref lD), .val (.int (1 : Int32))] [(.int (2 : Int32)), (.int nD), (.long ((((0 : Int32) + (nD + (2 : Int32))) - (0 : Int32)).toInt64 + ((96 : Int64) * (((0 : Int32) + (1 : Int32)).toInt64))))])
        refine Go.step (fun _ k => XS.iadd X164.here hx rfl (hb hby at_112) rfl k) ?_
        show Go p e below _ T164 (mkF m 113 #[.val (.int i0), .val (.int i1), .val (.int i2), .val (.ref ob), .val (.int nk), .val (.ref lA), .val (.ref lB), .val (.ref lD), .val (.int (1 : Int32))] [(.int (nD + (2 : Int32))), (.long ((((0 : Int32) + (nD + (2 : Int32))) - (0 : Int32)).toInt64 + ((96 : Int64) * (((0 : Int32) + (1 : Int32)).toInt64))))])
        refine Go.step (fun _ k => XS.bipush X164.here hx rfl (hb hby at_113) k) ?_
        show Go p e below _ T164 (mkF m 115 #[.val (.int i0), .val (.int i1), .val (.int i2), .val (.ref ob), .val (.int nk), .val (.ref lA), .val (.ref lB), .val (.ref lD), .val (.int (1 : Int32))] [(.int (96 : Int32)), (.int (nD + (2 : Int32))), (.long ((((0 : Int32) + (nD + (2 : Int32))) - (0 : Int32)).toInt64 + ((96 : Int64) * (((0 : Int32) + (1 : Int32)).toInt64))))])
        refine Go.step (fun _ k => XS.iadd X164.here hx rfl (hb hby at_115) rfl k) ?_
        show Go p e below _ T164 (mkF m 116 #[.val (.int i0), .val (.int i1), .val (.int i2), .val (.ref ob), .val (.int nk), .val (.ref lA), .val (.ref lB), .val (.ref lD), .val (.int (1 : Int32))] [(.int ((nD + (2 : Int32)) + (96 : Int32))), (.long ((((0 : Int32) + (nD + (2 : Int32))) - (0 : Int32)).toInt64 + ((96 : Int64) * (((0 : Int32) + (1 : Int32)).toInt64))))])
        refine Go.step (fun _ k => XS.i2l X164.here hx rfl (hb hby at_116) rfl k) ?_
        show Go p e below _ T164 (mkF m 117 #[.val (.int i0), .val (.int i1), .val (.int i2), .val (.ref ob), .val (.int nk), .val (.ref lA), .val (.ref lB), .val (.ref lD), .val (.int (1 : Int32))] [(.long (((nD + (2 : Int32)) + (96 : Int32)).toInt64)), (.long ((((0 : Int32) + (nD + (2 : Int32))) - (0 : Int32)).toInt64 + ((96 : Int64) * (((0 : Int32) + (1 : Int32)).toInt64))))])
        refine Go.step (fun _ k => XS.lcmp X164.here hx rfl (hb hby at_117) rfl k) ?_
        show Go p e below _ T164 (mkF m 118 #[.val (.int i0), .val (.int i1), .val (.int i2), .val (.ref ob), .val (.int nk), .val (.ref lA), .val (.ref lB), .val (.ref lD), .val (.int (1 : Int32))] [(.int (lcmpW ((((0 : Int32) + (nD + (2 : Int32))) - (0 : Int32)).toInt64 + ((96 : Int64) * (((0 : Int32) + (1 : Int32)).toInt64))) (((nD + (2 : Int32)) + (96 : Int32)).toInt64)))])
        refine Go.step (fun _ k => XS.ifNo X164.here hx rfl (hb hby at_118) rfl ((if0 _ _).trans (teq (own_wb hnD)).2) k) ?_
        show Go p e below _ T164 (mkF m 121 #[.val (.int i0), .val (.int i1), .val (.int i2), .val (.ref ob), .val (.int nk), .val (.ref lA), .val (.ref lB), .val (.ref lD), .val (.int (1 : Int32))] [])
        refine Go.step (fun _ k => XS.iconst X164.here hx rfl (hb hby at_121) k) ?_
        show Go p e below _ T164 (mkF m 122 #[.val (.int i0), .val (.int i1), .val (.int i2), .val (.ref ob), .val (.int nk), .val (.ref lA), .val (.ref lB), .val (.ref lD), .val (.int (1 : Int32))] [(.int (1 : Int32))])
        refine Go.step (fun _ k => XS.goto X164.here hx rfl (pc0 := 122) (pc' := 126) rfl (hb hby at_122) (by decide) (by decide) k) ?_
        show Go p e below _ T164 (mkF m 126 #[.val (.int i0), .val (.int i1), .val (.int i2), .val (.ref ob), .val (.int nk), .val (.ref lA), .val (.ref lB), .val (.ref lD), .val (.int (1 : Int32))] [(.int (1 : Int32))])
        refine Go.step (fun _ k => XS.istore X164.here hx rfl (hb hby at_126) rfl (l' := #[.val (.int i0), .val (.int i1), .val (.int i2), .val (.ref ob), .val (.int nk), .val (.ref lA), .val (.ref lB), .val (.ref lD), .val (.int (1 : Int32))]) rfl k) ?_
        show Go p e below _ T164 (mkF m 128 #[.val (.int i0), .val (.int i1), .val (.int i2), .val (.ref ob), .val (.int nk), .val (.ref lA), .val (.ref lB), .val (.ref lD), .val (.int (1 : Int32))] [])
        refine Go.step (fun _ k => XS.aloadN X164.here hx rfl (hb hby at_128) rfl rfl k) ?_
        show Go p e below _ T164 (mkF m 129 #[.val (.int i0), .val (.int i1), .val (.int i2), .val (.ref ob), .val (.int nk), .val (.ref lA), .val (.ref lB), .val (.ref lD), .val (.int (1 : Int32))] [(.ref ob)])
        obtain ⟨cq166, kq166, q166a, q166b, q166c⟩ := isOf hZ e164 E_ob
        obtain ⟨_, _, ⟨T166, L166, k166, n166⟩, -, X166, ⟨Lc166, hQ166, l166, y166, z166⟩, st166⟩ := X164.virtualBack hx (y := (⟨"com/example/frugal_sieve/frugalsieve/server/Outbox", "clear", "()V"⟩ : MethodName)) (z := (⟨"com/example/frugal_sieve/frugalsieve/server/Outbox", "clear", "()V"⟩ : MethodName)) hown (mvT hZ (hw _ (List.mem_of_getElem? (i := 36) rfl))) (mvT hZ (hw _ (List.mem_of_getElem? (i := 37) rfl))) (notFace_of_selects (args := #[]) (mvT hZ (hw _ (List.mem_of_getElem? (i := 39) rfl)))) (mvT hZ (hw _ (List.mem_of_getElem? (i := 39) rfl))) (mvT hZ (hw _ (List.mem_of_getElem? (i := 38) rfl))) (by decide) (backOf (W := 0) (rmC2 l Z a0 hw [] ob ((0 : Int32) + (nD + (2 : Int32))) ((0 : Int32) + (1 : Int32)) [lA, lB, lD] b162q zb162q (2048 + 4097) T163.heap n0 Zn hR g_ob) hZ (hw _ (List.mem_of_getElem? (i := 40) rfl)) (hw _ (List.mem_of_getElem? (i := 2) rfl)) (by decide) (by decide)) q166a q166c (g := (mkF m 129 #[.val (.int i0), .val (.int i1), .val (.int i2), .val (.ref ob), .val (.int nk), .val (.ref lA), .val (.ref lB), .val (.ref lD), .val (.int (1 : Int32))] [(.ref ob)])) rfl (by rw [hml]; rfl) (Steps.refl _) (argsL := []) (rest := []) (lenOf own_f163 rfl) rfl (by show 2 * 0 + _ ≤ _; exact Nat.le_of_eq rfl) (hb hby at_129) (fun _ _ => ⟨rfl, e164, (by dsimp only [Pt.cells, Pt.slots]; decide), (by dsimp only [Pt.cells, Pt.slots]; decide)⟩)
        dsimp only [Pt.U, Pt.locs, Pt.cells, Pt.slots] at X166 l166 y166 z166 st166 hQ166
        subst l166 y166 z166
        obtain ⟨rfl, N166q, K166, hD⟩ := hQ166
        have N166 := Fr.app N164 N166q
        refine Go.step (fun _ k => st166.trans k) ?_
        replace Od := Od.keep K166 (allS g_ob all0)
        replace E_ob := E_ob.keep K166
        replace B_lA := B_lA.keep K166 (ninS (Ne.symm ne_ob_lA) nin0)
        replace B_lB := B_lB.keep K166 (ninS (Ne.symm ne_ob_lB) nin0)
        replace B_lD := B_lD.keep K166 (ninS (Ne.symm ne_ob_lD) nin0)
        replace Zn := Nat.le_trans Zn K166.1
        show Go p e below _ T166 (mkF m 132 #[.val (.int i0), .val (.int i1), .val (.int i2), .val (.ref ob), .val (.int nk), .val (.ref lA), .val (.ref lB), .val (.ref lD), .val (.int (1 : Int32))] [])
        have hF : Fld Z T166.heap ob "com/example/frugal_sieve/frugalsieve/server/Outbox" "start" "I" (.int (0 : Int32)) ∧ Fld Z T166.heap ob "com/example/frugal_sieve/frugalsieve/server/Outbox" "end" "I" (.int (0 : Int32)) ∧ Fld Z T166.heap ob "com/example/frugal_sieve/frugalsieve/server/Outbox" "lines" "I" (.int (0 : Int32)) := hD.elim (fun q => ⟨q.2.1, q.2.2.1, q.2.2.2.1⟩) (fun q => ⟨q.2.1, q.2.2.1, q.2.2.2.1⟩)
        refine Go.step (fun _ k => XS.iload X166.here hx rfl (hb hby at_132) rfl k) ?_
        show Go p e below _ T166 (mkF m 134 #[.val (.int i0), .val (.int i1), .val (.int i2), .val (.ref ob), .val (.int nk), .val (.ref lA), .val (.ref lB), .val (.ref lD), .val (.int (1 : Int32))] [(.int (1 : Int32))])
        refine Go.step (fun _ k => XS.ifNo X166.here hx rfl (hb hby at_134) rfl ((if0 _ _).trans (feq (by decide)).1) k) ?_
        show Go p e below _ T166 (mkF m 137 #[.val (.int i0), .val (.int i1), .val (.int i2), .val (.ref ob), .val (.int nk), .val (.ref lA), .val (.ref lB), .val (.ref lD), .val (.int (1 : Int32))] [])
        refine Go.step (fun _ k => XS.aloadN X166.here hx rfl (hb hby at_137) rfl rfl k) ?_
        show Go p e below _ T166 (mkF m 138 #[.val (.int i0), .val (.int i1), .val (.int i2), .val (.ref ob), .val (.int nk), .val (.ref lA), .val (.ref lB), .val (.ref lD), .val (.int (1 : Int32))] [(.ref ob)])
        obtain ⟨cq167, kq167, q167a, q167b, q167c⟩ := isOf hZ rfl E_ob
        obtain ⟨_, _, ⟨T167, L167, k167, n167⟩, -, X167, ⟨Lc167, hQ167, l167, y167, z167⟩, st167⟩ := X166.virtualBack hx (y := (⟨"com/example/frugal_sieve/frugalsieve/server/Outbox", "isEmpty", "()Z"⟩ : MethodName)) (z := (⟨"com/example/frugal_sieve/frugalsieve/server/Outbox", "isEmpty", "()Z"⟩ : MethodName)) hown (mvT hZ (hw _ (List.mem_of_getElem? (i := 43) rfl))) (mvT hZ (hw _ (List.mem_of_getElem? (i := 44) rfl))) (notFace_of_selects (args := #[]) (mvT hZ (hw _ (List.mem_of_getElem? (i := 46) rfl)))) (mvT hZ (hw _ (List.mem_of_getElem? (i := 46) rfl))) (mvT hZ (hw _ (List.mem_of_getElem? (i := 45) rfl))) (by decide) (backOf (W := 0) (rmE l Z a0 hw [] ob T166.heap n0 Zn hF.1 hF.2.1) hZ (hw _ (List.mem_of_getElem? (i := 47) rfl)) (hw _ (List.mem_of_getElem? (i := 2) rfl)) (by decide) (by decide)) q167a q167c (g := (mkF m 138 #[.val (.int i0), .val (.int i1), .val (.int i2), .val (.ref ob), .val (.int nk), .val (.ref lA), .val (.ref lB), .val (.ref lD), .val (.int (1 : Int32))] [(.ref ob)])) rfl (by rw [hml]; rfl) (Steps.refl _) (argsL := []) (rest := []) (lenOf own_f164 rfl) rfl (by show 2 * 0 + _ ≤ _; exact Nat.le_of_eq rfl) (hb hby at_138) (fun _ _ => ⟨rfl, rfl, (by dsimp only [Pt.cells, Pt.slots]; decide), (by dsimp only [Pt.cells, Pt.slots]; decide)⟩)
        dsimp only [Pt.U, Pt.locs, Pt.cells, Pt.slots] at X167 l167 y167 z167 st167 hQ167
        subst l167 y167 z167
        obtain ⟨rfl, N167q, e167⟩ := hQ167
        have N167 := Fr.app N166 N167q
        refine Go.step (fun _ k => st167.trans k) ?_
        show Go p e below _ T167 (mkF m 141 #[.val (.int i0), .val (.int i1), .val (.int i2), .val (.ref ob), .val (.int nk), .val (.ref lA), .val (.ref lB), .val (.ref lD), .val (.int (1 : Int32))] [(.int (1 : Int32))])
        refine Go.step (fun _ k => XS.ifNo X167.here hx rfl (hb hby at_141) rfl ((if0 _ _).trans (feq (by decide)).1) k) ?_
        show Go p e below _ T167 (mkF m 144 #[.val (.int i0), .val (.int i1), .val (.int i2), .val (.ref ob), .val (.int nk), .val (.ref lA), .val (.ref lB), .val (.ref lD), .val (.int (1 : Int32))] [])
        refine Go.step (fun _ k => XS.aloadN X167.here hx rfl (hb hby at_144) rfl rfl k) ?_
        show Go p e below _ T167 (mkF m 145 #[.val (.int i0), .val (.int i1), .val (.int i2), .val (.ref ob), .val (.int nk), .val (.ref lA), .val (.ref lB), .val (.ref lD), .val (.int (1 : Int32))] [(.ref ob)])
        obtain ⟨cq168, kq168, q168a, q168b, q168c⟩ := isOf hZ e167 E_ob
        obtain ⟨_, _, ⟨T168, L168, k168, n168⟩, -, X168, ⟨Lc168, hQ168, l168, y168, z168⟩, st168⟩ := X167.virtualBack hx (y := (⟨"com/example/frugal_sieve/frugalsieve/server/Outbox", "waitingBytes", "()J"⟩ : MethodName)) (z := (⟨"com/example/frugal_sieve/frugalsieve/server/Outbox", "waitingBytes", "()J"⟩ : MethodName)) hown (mvT hZ (hw _ (List.mem_of_getElem? (i := 48) rfl))) (mvT hZ (hw _ (List.mem_of_getElem? (i := 49) rfl))) (notFace_of_selects (args := #[]) (mvT hZ (hw _ (List.mem_of_getElem? (i := 51) rfl)))) (mvT hZ (hw _ (List.mem_of_getElem? (i := 51) rfl))) (mvT hZ (hw _ (List.mem_of_getElem? (i := 50) rfl))) (by decide) (backOf (W := 0) (rmB l Z a0 hw [] ob (0 : Int32) (0 : Int32) T166.heap n0 Zn hF.1 hF.2.1 hF.2.2) hZ (hw _ (List.mem_of_getElem? (i := 52) rfl)) (hw _ (List.mem_of_getElem? (i := 2) rfl)) (by decide) (by decide)) q168a q168c (g := (mkF m 145 #[.val (.int i0), .val (.int i1), .val (.int i2), .val (.ref ob), .val (.int nk), .val (.ref lA), .val (.ref lB), .val (.ref lD), .val (.int (1 : Int32))] [(.ref ob)])) rfl (by rw [hml]; rfl) (Steps.refl _) (argsL := []) (rest := []) (lenOf own_f165 rfl) rfl (by show 2 * 0 + _ ≤ _; exact Nat.le_of_eq rfl) (hb hby at_145) (fun _ _ => ⟨rfl, e167, (by dsimp only [Pt.cells, Pt.slots]; decide), (by dsimp only [Pt.cells, Pt.slots]; decide)⟩)
        dsimp only [Pt.U, Pt.locs, Pt.cells, Pt.slots] at X168 l168 y168 z168 st168 hQ168
        subst l168 y168 z168
        obtain ⟨rfl, N168q, e168⟩ := hQ168
        have N168 := Fr.app N167 N168q
        refine Go.step (fun _ k => st168.trans k) ?_
        show Go p e below _ T168 (mkF m 148 #[.val (.int i0), .val (.int i1), .val (.int i2), .val (.ref ob), .val (.int nk), .val (.ref lA), .val (.ref lB), .val (.ref lD), .val (.int (1 : Int32))] [(.long (((0 : Int32) - (0 : Int32)).toInt64 + ((96 : Int64) * ((0 : Int32).toInt64))))])
        refine Go.step (fun _ k => XS.lconst X168.here hx rfl (hb hby at_148) k) ?_
        show Go p e below _ T168 (mkF m 149 #[.val (.int i0), .val (.int i1), .val (.int i2), .val (.ref ob), .val (.int nk), .val (.ref lA), .val (.ref lB), .val (.ref lD), .val (.int (1 : Int32))] [(.long (0 : Int64)), (.long (((0 : Int32) - (0 : Int32)).toInt64 + ((96 : Int64) * ((0 : Int32).toInt64))))])
        refine Go.step (fun _ k => XS.lcmp X168.here hx rfl (hb hby at_149) rfl k) ?_
        show Go p e below _ T168 (mkF m 150 #[.val (.int i0), .val (.int i1), .val (.int i2), .val (.ref ob), .val (.int nk), .val (.ref lA), .val (.ref lB), .val (.ref lD), .val (.int (1 : Int32))] [(.int (lcmpW (((0 : Int32) - (0 : Int32)).toInt64 + ((96 : Int64) * ((0 : Int32).toInt64))) (0 : Int64)))])
        refine Go.step (fun _ k => XS.ifNo X168.here hx rfl (hb hby at_150) rfl ((if0 _ _).trans (teq (by decide)).2) k) ?_
        show Go p e below _ T168 (mkF m 153 #[.val (.int i0), .val (.int i1), .val (.int i2), .val (.ref ob), .val (.int nk), .val (.ref lA), .val (.ref lB), .val (.ref lD), .val (.int (1 : Int32))] [])
        refine Go.step (fun _ k => XS.iconst X168.here hx rfl (hb hby at_153) k) ?_
        show Go p e below _ T168 (mkF m 154 #[.val (.int i0), .val (.int i1), .val (.int i2), .val (.ref ob), .val (.int nk), .val (.ref lA), .val (.ref lB), .val (.ref lD), .val (.int (1 : Int32))] [(.int (1 : Int32))])
        refine Go.step (fun _ k => XS.goto X168.here hx rfl (pc0 := 154) (pc' := 158) rfl (hb hby at_154) (by decide) (by decide) k) ?_
        show Go p e below _ T168 (mkF m 158 #[.val (.int i0), .val (.int i1), .val (.int i2), .val (.ref ob), .val (.int nk), .val (.ref lA), .val (.ref lB), .val (.ref lD), .val (.int (1 : Int32))] [(.int (1 : Int32))])
        refine Go.step (fun _ k => XS.istore X168.here hx rfl (hb hby at_158) rfl (l' := #[.val (.int i0), .val (.int i1), .val (.int i2), .val (.ref ob), .val (.int nk), .val (.ref lA), .val (.ref lB), .val (.ref lD), .val (.int (1 : Int32))]) rfl k) ?_
        show Go p e below _ T168 (mkF m 160 #[.val (.int i0), .val (.int i1), .val (.int i2), .val (.ref ob), .val (.int nk), .val (.ref lA), .val (.ref lB), .val (.ref lD), .val (.int (1 : Int32))] [])
        refine Go.step (fun _ k => XS.iload X168.here hx rfl (hb hby at_160) rfl k) ?_
        show Go p e below _ T168 (mkF m 162 #[.val (.int i0), .val (.int i1), .val (.int i2), .val (.ref ob), .val (.int nk), .val (.ref lA), .val (.ref lB), .val (.ref lD), .val (.int (1 : Int32))] [(.int (1 : Int32))])
        obtain ⟨fs, hr, hrun, hended, hW, hsame⟩ := X168.leave (v := some (.int (1 : Int32))) (fun h => by rw [Bd.returns] at h; cases h)
        refine Go.fin (retN X168 hx (t := .boolean) Bd.returns (by simp) (hb hby at_162) hr) hrun hended ?_
        refine ⟨_, _, rfl, ?_, ⟨_, rfl⟩, hW, hsame.mono (by decide) (by decide)⟩
        show Q0 Z i0 i1 i2 aE h0 n0 _ T168.heap _
        rw [e168]
        exact ⟨rfl, N168⟩
set_option maxRecDepth 65536 in
set_option maxHeartbeats 40000000 in
theorem comes_1 {Post : Tables → Env → Array Value → State → Outcome → State → Prop} (hpost : ∀ tb e args s v u, (limb_1_1.after args s (.returned v) u = true ∧ limb_1_2.after args s (.returned v) u = true ∧ True) → FrameEnd s (.returned v) u (Jvm.fieldLocs frame_1_writes args s ++ Jvm.arrayLocs frame_1_arrays args s ++ Jvm.staticLocs frame_1_statics s) 24 57472 → Post tb e args s (.returned v) u) :
    ArmFor flags0 classFile x code maxLocals ret World_1 tables_1 room_1 Calls_1 rest_1 Pre_1 Post := by
  intro l hfl _ _ p e ha hc hk s m args below hf hA hF happ hP
  obtain ⟨hcalls, hrest, hpre⟩ := hP
  obtain ⟨-, -, -, hnamed, -, -, -, hat⟩ := (Spec.applies_iff hf).mp happ
  obtain ⟨hg, hn⟩ := and_e (Cond.before_iff.mp (show (Jvm.Cond.and given_1 narrow_1).before args s = true from hpre))
  obtain ⟨hg1, hg2⟩ := and_e hg
  obtain ⟨hg3, hg4⟩ := and_e hg2
  obtain ⟨hg5, hg6⟩ := and_e hg4
  obtain ⟨w0, w1, w2, rfl⟩ : ∃ w0 w1 w2 : Value, args = #[w0, w1, w2] := by
    have hs : args.size = 3 := by simpa [Cond.value, given_1] using hg1
    obtain ⟨L⟩ := args
    match L, hs with
    | [w0, w1, w2], _ => exact ⟨w0, w1, w2, rfl⟩
  have hw := fun d (hd : d ∈ tables_1) => atoms_spec (ws := Jvm.Cond.code x code maxLocals ret :: tables_1) hat d (List.mem_cons_of_mem _ hd)
  have hfit : Fit s := fun {y c} hc i hi => by
    obtain ⟨ha, rfl⟩ := Array.getElem?_eq_some_iff.mp hc
    have q := List.all_eq_true.mp ((Array.all_eq_true_iff_forall_mem.mp hF) _ (Array.getElem_mem ha)) i (List.mem_range.mpr hi)
    simpa [Array.getElem?_eq_getElem hi] using q
  obtain ⟨i0, ei0⟩ := is_v hg3
  obtain rfl : w0 = (.int i0) := Option.some.inj ei0
  obtain ⟨i1, ei1⟩ := is_v hg5
  obtain rfl : w1 = (.int i1) := Option.some.inj ei1
  obtain ⟨i2, ei2⟩ := is_v hg6
  obtain rfl : w2 = (.int i2) := Option.some.inj ei2
  obtain ⟨n1, n23⟩ := and_e (show (narrow_1).value _ s none s [] = some true from hn)
  obtain ⟨n2, n33⟩ := and_e n23
  obtain ⟨n3, n43⟩ := and_e n33
  obtain ⟨n4, n5⟩ := and_e n43
  obtain ⟨aZ, evZ⟩ := arr_v n1
  obtain ⟨cZ, AZ⟩ := Arr.start evZ n1
  obtain ⟨lZ, mZ⟩ := own_lenS evZ AZ n3
  have z5 := own_elS evZ AZ n4
  have z6 := own_elS evZ AZ n5
  have SZ := Sta.start evZ (Or.inr ⟨(hw _ (List.mem_of_getElem? (i := 16) rfl)), (hw _ (List.mem_of_getElem? (i := 17) rfl))⟩)
  have VZ : Arv s s.heap aZ cZ.cls .byte (2 : Int32) [(.int (13 : Int32)), (.int (10 : Int32))] (.int (0 : Int32)) := Arv.start hfit AZ lZ mZ (by decide) rfl ⟨z5, z6, trivial⟩
  obtain ⟨n, o, h1, h2, h3, _, L, rfl, ⟨rfl, N⟩, hq⟩ := rm0 l s _ hw tables_1 i0 i1 i2 aZ s.heap s.heap.size (Nat.le_refl _) SZ ⟨_, _, VZ, by decide⟩ (Old.start s) p e ha hc hk s m _ below hf ((Spec.applies_iff_loose hf).mp happ).1 ⟨rfl, State.Warmed39.refl s, rfl⟩ trivial
  refine ⟨n, _, h1, h2, h3, hpost _ _ _ _ _ _ ⟨Cond.after_iff.mpr rfl, Cond.after_iff.mpr (eq_i res_at (Term.int_eval (1)) rfl), trivial⟩ ⟨hq.1, hq.2.1, (hq.2.2.sift fun y hy => Or.inr (N y hy)).mono (by decide) (by decide)⟩⟩
theorem main_1_1 : Claimed_1_1 := comes_1 fun _ _ _ _ _ _ h hF => ⟨h.1, hF⟩
theorem main_1_2 : Claimed_1_2 := comes_1 fun _ _ _ _ _ _ h hF => ⟨h.2.1, hF⟩
end Jvm.Pilot.@@N@@
namespace Jvm.Pilot.@@N@@
open Jvm Jvm.ClassFile Sem Op Lib Jvm.Free Jvm.Stand Jvm.Pilot.@@N@@.Jvm.D
/-! MADE BY PROGRAM (witnessworld.py) out of the Statement's table words and the real class files: 12 classes; the members and pool entries that the words name. The judged class is class 1, her method 1. -/
namespace start1
open Jvm.ClassFile
def u (s : String) : CpInfo := .utf8 (stringToUtf16 s)
/-- a pool by its gaps: so many unusable entries, then the entry; so many at the end -/
def gap : Nat → List CpInfo → List CpInfo
  | 0, r => r
  | n + 1, r => .unusable :: gap n r
def poolList (es : List (Nat × CpInfo)) (last : Nat) : List CpInfo := es.foldr (fun e r => gap e.1 (e.2 :: r)) (gap last [])
def pool (es : List (Nat × CpInfo)) (last : Nat) : Array CpInfo := ⟨poolList es last⟩
def fileOf (pool : Array CpInfo) (this : Nat) (attrs : Array Attribute := #[]) (ms : Array MethodInfo := #[]) (fl : Nat := 33) (sup : Nat := 0) (ifs : Array Nat := #[]) (fds : Array FieldInfo := #[]) : ClassFile where
  minorVersion := 0
  majorVersion := 65
  constantPool := pool
  accessFlags := fl
  thisClass := this
  superClass := sup
  interfaces := ifs
  fields := fds
  methods := ms
  attributes := attrs
def plain (name : String) (sup : Option ClassId) : Class where
  name := name
  kind := .ordinary
  loader := none
  accessFlags := 33
  super := sup
  interfaces := #[]
  cf := none
  fields := #[]
  methods := #[]
  instanceTypes := #[]
  staticTypes := #[]
  resolved := #[]
  callSites := []
  init := .initialized
  statics := none
  mirror := none

def pool0 : Array CpInfo := pool [(5, u "<init>"), (0, u "()V"), (1, .class_ 10), (1, u "java/lang/Object")] 113

def k0c0 : Code := { maxStack := 0, maxLocals := 1, code := object_method_1_code, exceptionTable := #[], attributes := #[] }
def k0m0 : Method := { name := "<init>", desc := "()V", sig := { parameters := [], returnType := none }, accessFlags := 1, code := some k0c0 }
/-- java/lang/Object -/
def k0 : Class := { plain "java/lang/Object" none with
  accessFlags := 33
  interfaces := #[]
  cf := some (fileOf pool0 8 #[] #[{ accessFlags := 1, nameIndex := 5, descriptorIndex := 6, attributes := #[] }] 33 0 #[] #[])
  fields := #[]
  methods := #[k0m0]
  instanceTypes := #[]
  staticTypes := #[]
  resolved := Array.replicate 124 none
  statics := none }

def pool1 : Array CpInfo := pool [(2, .class_ 4), (0, .nameAndType 5 6), (0, u "java/lang/Object"), (0, u "<init>"), (0, u "()V"), (0, .class_ 8), (0, u "com/example/frugal_sieve/frugalsieve/server/Outbox"), (0, .methodref 7 3), (0, .methodref 7 11), (0, .nameAndType 12 13), (0, u "write"), (0, u "([B)V"), (0, .methodref 7 15), (0, .nameAndType 16 6), (0, u "clear"), (0, .methodref 7 18), (0, .nameAndType 19 20), (0, u "isEmpty"), (0, u "()Z"), (0, .methodref 7 22), (0, .nameAndType 23 24), (0, u "waitingBytes"), (0, u "()J"), (0, .class_ 26), (0, u "com/example/frugal_sieve/frugalsieve/server/OutboxClearPinLaw"), (2, u "law"), (0, u "(III)Z")] 5

def k1m0 : Method := { name := "<init>", desc := "()V", sig := { parameters := [], returnType := none }, accessFlags := 1, code := none }
def k1c1 : Code := { maxStack := 4, maxLocals := 9, code := code, exceptionTable := #[], attributes := #[] }
def k1m1 : Method := { name := "law", desc := "(III)Z", sig := { parameters := [.int, .int, .int], returnType := some .boolean }, accessFlags := 9, code := some k1c1 }
/-- com/example/frugal_sieve/frugalsieve/server/OutboxClearPinLaw -/
def k1 : Class := { plain "com/example/frugal_sieve/frugalsieve/server/OutboxClearPinLaw" (some 0) with
  accessFlags := 49
  interfaces := #[]
  cf := some (fileOf pool1 25 #[] #[{ accessFlags := 1, nameIndex := 5, descriptorIndex := 6, attributes := #[] }, { accessFlags := 9, nameIndex := 29, descriptorIndex := 30, attributes := #[] }] 49 2 #[] #[])
  fields := #[]
  methods := #[k1m0, k1m1]
  instanceTypes := #[]
  staticTypes := #[]
  resolved := Array.replicate 36 none
  statics := none }

def pool2 : Array CpInfo := pool [(1, .methodref 2 3), (0, .class_ 4), (0, .nameAndType 5 6), (0, u "java/lang/Object"), (0, u "<init>"), (0, u "()V"), (0, .fieldref 8 9), (0, .class_ 10), (0, .nameAndType 11 12), (0, u "com/example/frugal_sieve/frugalsieve/server/Lines"), (0, u "LINE_END"), (0, u "[B"), (0, .methodref 14 15), (0, .class_ 16), (0, .nameAndType 17 18), (0, u "com/example/frugal_sieve/frugalsieve/server/Outbox"), (0, u "makeRoom"), (0, u "(I)V"), (0, .fieldref 14 20), (0, .nameAndType 21 12), (0, u "bytes"), (0, .fieldref 14 23), (0, .nameAndType 24 25), (0, u "end"), (0, u "I"), (0, .methodref 27 28), (0, .class_ 29), (0, .nameAndType 30 31), (0, u "java/lang/System"), (0, u "arraycopy"), (0, u "(Ljava/lang/Object;ILjava/lang/Object;II)V"), (0, .fieldref 14 33), (0, .nameAndType 34 25), (0, u "lines"), (0, .methodref 36 37), (0, .class_ 38), (0, .nameAndType 39 40), (0, u "java/lang/Math"), (0, u "max"), (0, u "(II)I"), (0, .fieldref 14 42), (0, .nameAndType 43 25), (0, u "start"), (0, .long 96), (19, u "clear"), (0, u "LINE_PLACE_BYTES"), (2, u "FIRST_BYTES"), (1, u "MAX_KEPT_BYTES"), (3, u "write"), (0, u "([B)V"), (2, u "isEmpty"), (0, u "()Z"), (0, u "waitingBytes"), (0, u "()J")] 6

def k2c0 : Code := { maxStack := 1, maxLocals := 1, code := prog_56_method_1_code, exceptionTable := #[], attributes := #[] }
def k2m0 : Method := { name := "<init>", desc := "()V", sig := { parameters := [], returnType := none }, accessFlags := 0, code := some k2c0 }
def k2c1 : Code := { maxStack := 5, maxLocals := 3, code := prog_56_method_2_code, exceptionTable := #[], attributes := #[] }
def k2m1 : Method := { name := "write", desc := "([B)V", sig := { parameters := [(.array .byte)], returnType := none }, accessFlags := 0, code := some k2c1 }
def k2c2 : Code := { maxStack := 5, maxLocals := 4, code := prog_56_method_3_code, exceptionTable := #[], attributes := #[] }
def k2m2 : Method := { name := "makeRoom", desc := "(I)V", sig := { parameters := [.int], returnType := none }, accessFlags := 2, code := some k2c2 }
def k2c3 : Code := { maxStack := 2, maxLocals := 1, code := prog_56_method_4_code, exceptionTable := #[], attributes := #[] }
def k2m3 : Method := { name := "isEmpty", desc := "()Z", sig := { parameters := [], returnType := some .boolean }, accessFlags := 0, code := some k2c3 }
def k2c4 : Code := { maxStack := 6, maxLocals := 1, code := prog_56_method_5_code, exceptionTable := #[], attributes := #[] }
def k2m4 : Method := { name := "waitingBytes", desc := "()J", sig := { parameters := [], returnType := some .long }, accessFlags := 0, code := some k2c4 }
def k2c5 : Code := { maxStack := 2, maxLocals := 1, code := prog_56_method_8_code, exceptionTable := #[], attributes := #[] }
def k2m5 : Method := { name := "clear", desc := "()V", sig := { parameters := [], returnType := none }, accessFlags := 0, code := some k2c5 }
/-- com/example/frugal_sieve/frugalsieve/server/Outbox -/
def k2 : Class := { plain "com/example/frugal_sieve/frugalsieve/server/Outbox" (some 0) with
  accessFlags := 48
  interfaces := #[]
  cf := some (fileOf pool2 14 #[] #[{ accessFlags := 0, nameIndex := 5, descriptorIndex := 6, attributes := #[] }, { accessFlags := 0, nameIndex := 74, descriptorIndex := 75, attributes := #[] }, { accessFlags := 2, nameIndex := 17, descriptorIndex := 18, attributes := #[] }, { accessFlags := 0, nameIndex := 78, descriptorIndex := 79, attributes := #[] }, { accessFlags := 0, nameIndex := 80, descriptorIndex := 81, attributes := #[] }, { accessFlags := 0, nameIndex := 64, descriptorIndex := 6, attributes := #[] }] 48 2 #[] #[{ accessFlags := 26, nameIndex := 65, descriptorIndex := 25, attributes := #[] }, { accessFlags := 26, nameIndex := 68, descriptorIndex := 25, attributes := #[] }, { accessFlags := 26, nameIndex := 70, descriptorIndex := 25, attributes := #[] }, { accessFlags := 2, nameIndex := 21, descriptorIndex := 12, attributes := #[] }, { accessFlags := 2, nameIndex := 43, descriptorIndex := 25, attributes := #[] }, { accessFlags := 2, nameIndex := 24, descriptorIndex := 25, attributes := #[] }, { accessFlags := 2, nameIndex := 34, descriptorIndex := 25, attributes := #[] }])
  fields := #[{ name := "LINE_PLACE_BYTES", type := .int, accessFlags := 26, slot := 0, constantValue := 0 }, { name := "FIRST_BYTES", type := .int, accessFlags := 26, slot := 1, constantValue := 0 }, { name := "MAX_KEPT_BYTES", type := .int, accessFlags := 26, slot := 2, constantValue := 0 }, { name := "bytes", type := (.array .byte), accessFlags := 2, slot := 0, constantValue := 0 }, { name := "start", type := .int, accessFlags := 2, slot := 1, constantValue := 0 }, { name := "end", type := .int, accessFlags := 2, slot := 2, constantValue := 0 }, { name := "lines", type := .int, accessFlags := 2, slot := 3, constantValue := 0 }]
  methods := #[k2m0, k2m1, k2m2, k2m3, k2m4, k2m5]
  instanceTypes := #[(.array .byte), .int, .int, .int]
  staticTypes := #[.int, .int, .int]
  resolved := Array.replicate 88 none
  statics := none }

def pool3 : Array CpInfo := pool [(2, .class_ 4), (1, u "java/lang/Object"), (0, u "<init>"), (0, u "()V"), (13, .class_ 22), (1, u "com/example/frugal_sieve/frugalsieve/server/Lines"), (0, u "LINE_END"), (0, u "[B")] 7

def k3m0 : Method := { name := "<init>", desc := "()V", sig := { parameters := [], returnType := none }, accessFlags := 2, code := none }
/-- com/example/frugal_sieve/frugalsieve/server/Lines -/
def k3 : Class := { plain "com/example/frugal_sieve/frugalsieve/server/Lines" (some 0) with
  accessFlags := 48
  interfaces := #[]
  cf := some (fileOf pool3 20 #[] #[{ accessFlags := 2, nameIndex := 5, descriptorIndex := 6, attributes := #[] }] 48 2 #[] #[{ accessFlags := 24, nameIndex := 23, descriptorIndex := 24, attributes := #[] }])
  fields := #[{ name := "LINE_END", type := (.array .byte), accessFlags := 24, slot := 0, constantValue := 0 }]
  methods := #[k3m0]
  instanceTypes := #[]
  staticTypes := #[(.array .byte)]
  resolved := Array.replicate 32 none
  statics := some 0 }

def pool4 : Array CpInfo := pool [(1, .class_ 2), (0, u "java/lang/Math"), (1, .class_ 6), (1, u "java/lang/Object"), (0, u "<init>"), (0, u "()V"), (89, .class_ 100), (1, u "java/lang/Math$RandomNumberGeneratorHolder"), (71, u "negativeZeroFloatBits"), (0, u "J"), (2, u "negativeZeroDoubleBits"), (21, u "max"), (46, u "$assertionsDisabled"), (0, u "Z"), (88, u "(II)I"), (2, u "twoToTheDoubleScaleDown"), (0, u "D"), (4, u "twoToTheDoubleScaleUp"), (9, u "E"), (3, u "PI"), (2, u "TAU"), (2, u "DEGREES_TO_RADIANS"), (0, u "RADIANS_TO_DEGREES")] 94

def k4m0 : Method := { name := "<init>", desc := "()V", sig := { parameters := [], returnType := none }, accessFlags := 2, code := none }
def k4c1 : Code := { maxStack := 2, maxLocals := 2, code := jdk_29_method_65_code, exceptionTable := #[], attributes := #[] }
def k4m1 : Method := { name := "max", desc := "(II)I", sig := { parameters := [.int, .int], returnType := some .int }, accessFlags := 9, code := some k4c1 }
/-- java/lang/Math -/
def k4 : Class := { plain "java/lang/Math" (some 0) with
  accessFlags := 49
  interfaces := #[]
  cf := some (fileOf pool4 1 #[.nestMembers #[98]] #[{ accessFlags := 2, nameIndex := 7, descriptorIndex := 8, attributes := #[] }, { accessFlags := 9, nameIndex := 198, descriptorIndex := 335, attributes := #[] }] 49 4 #[] #[{ accessFlags := 25, nameIndex := 354, descriptorIndex := 339, attributes := #[] }, { accessFlags := 25, nameIndex := 358, descriptorIndex := 339, attributes := #[] }, { accessFlags := 25, nameIndex := 361, descriptorIndex := 339, attributes := #[] }, { accessFlags := 26, nameIndex := 364, descriptorIndex := 339, attributes := #[] }, { accessFlags := 26, nameIndex := 365, descriptorIndex := 339, attributes := #[] }, { accessFlags := 26, nameIndex := 172, descriptorIndex := 173, attributes := #[] }, { accessFlags := 26, nameIndex := 176, descriptorIndex := 173, attributes := #[] }, { accessFlags := 8, nameIndex := 344, descriptorIndex := 339, attributes := #[] }, { accessFlags := 8, nameIndex := 338, descriptorIndex := 339, attributes := #[] }, { accessFlags := 4120, nameIndex := 245, descriptorIndex := 246, attributes := #[] }])
  fields := #[{ name := "E", type := .double, accessFlags := 25, slot := 0, constantValue := 0 }, { name := "PI", type := .double, accessFlags := 25, slot := 1, constantValue := 0 }, { name := "TAU", type := .double, accessFlags := 25, slot := 2, constantValue := 0 }, { name := "DEGREES_TO_RADIANS", type := .double, accessFlags := 26, slot := 3, constantValue := 0 }, { name := "RADIANS_TO_DEGREES", type := .double, accessFlags := 26, slot := 4, constantValue := 0 }, { name := "negativeZeroFloatBits", type := .long, accessFlags := 26, slot := 5, constantValue := 0 }, { name := "negativeZeroDoubleBits", type := .long, accessFlags := 26, slot := 6, constantValue := 0 }, { name := "twoToTheDoubleScaleUp", type := .double, accessFlags := 8, slot := 7, constantValue := 0 }, { name := "twoToTheDoubleScaleDown", type := .double, accessFlags := 8, slot := 8, constantValue := 0 }, { name := "$assertionsDisabled", type := .boolean, accessFlags := 4120, slot := 9, constantValue := 0 }]
  methods := #[k4m0, k4m1]
  instanceTypes := #[]
  staticTypes := #[.double, .double, .double, .double, .double, .long, .long, .double, .double, .boolean]
  resolved := Array.replicate 460 none
  statics := none }

def pool5 : Array CpInfo := pool [(2, .class_ 4), (1, u "java/lang/Object"), (0, u "<init>"), (0, u "()V"), (1, .class_ 10), (1, u "java/lang/System"), (0, u "allowSecurityManager"), (0, u "I"), (16, u "cons"), (0, u "Ljava/io/Console;"), (77, .class_ 110), (1, u "java/lang/System$CallersHolder"), (43, u "initialErrStream"), (0, u "Ljava/io/PrintStream;"), (19, u "security"), (0, u "Ljava/lang/SecurityManager;"), (31, .class_ 209), (0, u "java/lang/System$1"), (7, u "props"), (0, u "Ljava/util/Properties;"), (2, u "lineSeparator"), (0, u "Ljava/lang/String;"), (96, .class_ 321), (1, u "java/lang/System$LoggerFinder"), (5, .class_ 328), (0, u "java/lang/System$Logger"), (67, u "err"), (2, u "out"), (91, u "notSupportedJnuEncoding"), (15, u "in"), (17, u "initialIn"), (0, u "Ljava/io/InputStream;"), (35, u "bootLayer"), (0, u "Ljava/lang/ModuleLayer;"), (99, .class_ 664), (0, u "java/lang/System$2"), (9, u "NEVER"), (2, u "MAYBE"), (49, u "arraycopy"), (0, u "(Ljava/lang/Object;ILjava/lang/Object;II)V"), (72, .class_ 802), (0, u "java/lang/System$Logger$Level")] 31

def k5m0 : Method := { name := "<init>", desc := "()V", sig := { parameters := [], returnType := none }, accessFlags := 2, code := none }
def k5m1 : Method := { name := "arraycopy", desc := "(Ljava/lang/Object;ILjava/lang/Object;II)V", sig := { parameters := [(.object "java/lang/Object"), .int, (.object "java/lang/Object"), .int, .int], returnType := none }, accessFlags := 265, code := none }
/-- java/lang/System -/
def k5 : Class := { plain "java/lang/System" (some 0) with
  accessFlags := 49
  interfaces := #[]
  cf := some (fileOf pool5 8 #[.nestMembers #[319, 327, 801, 108, 663, 208]] #[{ accessFlags := 2, nameIndex := 5, descriptorIndex := 6, attributes := #[] }, { accessFlags := 265, nameIndex := 727, descriptorIndex := 728, attributes := #[] }] 49 2 #[] #[{ accessFlags := 25, nameIndex := 507, descriptorIndex := 526, attributes := #[] }, { accessFlags := 25, nameIndex := 399, descriptorIndex := 155, attributes := #[] }, { accessFlags := 25, nameIndex := 396, descriptorIndex := 155, attributes := #[] }, { accessFlags := 10, nameIndex := 525, descriptorIndex := 526, attributes := #[] }, { accessFlags := 26, nameIndex := 674, descriptorIndex := 12, attributes := #[] }, { accessFlags := 26, nameIndex := 677, descriptorIndex := 12, attributes := #[] }, { accessFlags := 10, nameIndex := 11, descriptorIndex := 12, attributes := #[] }, { accessFlags := 74, nameIndex := 175, descriptorIndex := 176, attributes := #[] }, { accessFlags := 10, nameIndex := 491, descriptorIndex := 222, attributes := #[] }, { accessFlags := 74, nameIndex := 29, descriptorIndex := 30, attributes := #[] }, { accessFlags := 74, nameIndex := 154, descriptorIndex := 155, attributes := #[] }, { accessFlags := 10, nameIndex := 217, descriptorIndex := 218, attributes := #[] }, { accessFlags := 10, nameIndex := 221, descriptorIndex := 222, attributes := #[] }, { accessFlags := 8, nameIndex := 562, descriptorIndex := 563, attributes := #[] }])
  fields := #[{ name := "in", type := (.object "java/io/InputStream"), accessFlags := 25, slot := 0, constantValue := 0 }, { name := "out", type := (.object "java/io/PrintStream"), accessFlags := 25, slot := 1, constantValue := 0 }, { name := "err", type := (.object "java/io/PrintStream"), accessFlags := 25, slot := 2, constantValue := 0 }, { name := "initialIn", type := (.object "java/io/InputStream"), accessFlags := 10, slot := 3, constantValue := 0 }, { name := "NEVER", type := .int, accessFlags := 26, slot := 4, constantValue := 0 }, { name := "MAYBE", type := .int, accessFlags := 26, slot := 5, constantValue := 0 }, { name := "allowSecurityManager", type := .int, accessFlags := 10, slot := 6, constantValue := 0 }, { name := "security", type := (.object "java/lang/SecurityManager"), accessFlags := 74, slot := 7, constantValue := 0 }, { name := "notSupportedJnuEncoding", type := (.object "java/lang/String"), accessFlags := 10, slot := 8, constantValue := 0 }, { name := "cons", type := (.object "java/io/Console"), accessFlags := 74, slot := 9, constantValue := 0 }, { name := "initialErrStream", type := (.object "java/io/PrintStream"), accessFlags := 74, slot := 10, constantValue := 0 }, { name := "props", type := (.object "java/util/Properties"), accessFlags := 10, slot := 11, constantValue := 0 }, { name := "lineSeparator", type := (.object "java/lang/String"), accessFlags := 10, slot := 12, constantValue := 0 }, { name := "bootLayer", type := (.object "java/lang/ModuleLayer"), accessFlags := 8, slot := 13, constantValue := 0 }]
  methods := #[k5m0, k5m1]
  instanceTypes := #[]
  staticTypes := #[(.object "java/io/InputStream"), (.object "java/io/PrintStream"), (.object "java/io/PrintStream"), (.object "java/io/InputStream"), .int, .int, .int, (.object "java/lang/SecurityManager"), (.object "java/lang/String"), (.object "java/io/Console"), (.object "java/io/PrintStream"), (.object "java/util/Properties"), (.object "java/lang/String"), (.object "java/lang/ModuleLayer")]
  resolved := Array.replicate 834 none
  statics := none }

def pool6 : Array CpInfo := pool [(1, u "java/lang/Cloneable"), (0, .class_ 1), (0, u "java/lang/Object"), (0, .class_ 3)] 3

/-- java/lang/Cloneable -/
def k6 : Class := { plain "java/lang/Cloneable" (some 0) with
  accessFlags := 1537
  interfaces := #[]
  cf := some (fileOf pool6 2 #[] #[] 1537 4 #[] #[])
  fields := #[]
  methods := #[]
  instanceTypes := #[]
  staticTypes := #[]
  resolved := Array.replicate 8 none
  statics := none }

def pool7 : Array CpInfo := pool [(1, u "java/io/Serializable"), (0, .class_ 1), (0, u "java/lang/Object"), (0, .class_ 3)] 3

/-- java/io/Serializable -/
def k7 : Class := { plain "java/io/Serializable" (some 0) with
  accessFlags := 1537
  interfaces := #[]
  cf := some (fileOf pool7 2 #[] #[] 1537 4 #[] #[])
  fields := #[]
  methods := #[]
  instanceTypes := #[]
  staticTypes := #[]
  resolved := Array.replicate 8 none
  statics := none }

/-- the primitive byte -/
def k8 : Class := { plain "byte" none with kind := .primitive 'B', accessFlags := 0x411 }
/-- [B -/
def k9 : Class := { plain "[B" (some 0) with kind := .array 8 .byte, interfaces := #[6, 7], accessFlags := 1041 }

/-- the primitive int -/
def k10 : Class := { plain "int" none with kind := .primitive 'I', accessFlags := 0x411 }
/-- [I -/
def k11 : Class := { plain "[I" (some 0) with kind := .array 10 .int, interfaces := #[6, 7], accessFlags := 1041 }

def heap : Heap := #[{ cls := 3, slots := #[.ref 1], vm := .statics 3 },
  { cls := 9, slots := #[.int 13, .int 10], vm := .none }]
def classes : Array Class := #[k0, k1, k2, k3, k4, k5, k6, k7, k8, k9, k10, k11]
def interned : List (Array UInt16 × Addr) := []
def slotsUsed : Nat := 3
def theMethod : MethodId := ⟨1, 1⟩
def args0 : Array Value := #[.int 5, .int 7, .int 14]
def aboutOver (below : List Frame) : State where
  vm := { classes := classes, interned := interned.toArray }
  heap := heap
  slotsUsed := slotsUsed
  threads := #[{ frames := .invoking theMethod args0 :: below }]
def below0 : List Frame := [.native { method := ⟨0, 0⟩, args := #[] }]
def about1 : State := aboutOver below0
def p0 : Program := .bare "" "" ""
def e0 : Env := launch0.env 0 0 0
theorem w_frames : about1.frames = Frame.invoking theMethod args0 :: below0 := rfl
set_option maxRecDepth 65536 in
theorem w_args : argsFit about1.vm theMethod args0 = true := by decide +kernel
set_option maxRecDepth 65536 in
theorem w_heap : heapFits about1 = true := by decide +kernel
set_option maxRecDepth 65536 in
theorem w_runnable : about1.curStatus? = some .runnable := by decide +kernel
set_option maxRecDepth 65536 in
theorem w_alone : about1.alone = true := by decide +kernel
set_option maxRecDepth 65536 in
theorem w_named : about1.methodNamed? x = some theMethod := by decide +kernel
set_option maxRecDepth 65536 in
theorem w_hears : about1.hears theMethod below0 = true := by decide +kernel
set_option maxRecDepth 65536 in
theorem w_ripe : about1.ripe theMethod args0 below0 = true := by decide +kernel
theorem w_running : about1.status = .running := rfl
set_option maxRecDepth 65536 in
theorem w_room : about1.hasRoom e0.platform room_1 = true :=
  launch0.hasRoom_least _ room_1 (by decide +kernel) (by decide +kernel) (by decide +kernel) (by decide +kernel) (by decide +kernel) (by decide +kernel)
theorem allAtoms_all (ts : List Jvm.Cond) (a : Array Jvm.Value) (st : Jvm.State) : (allAtoms ts).before a st = ts.all (fun c => c.before a st) := by
  induction ts with
  | nil => rfl
  | cons c t ih =>
    show (Jvm.Cond.and c (allAtoms t)).before a st = _
    rw [Jvm.Cond.before_and, ih, List.all_cons]
def words1 : List Jvm.Cond := Jvm.Cond.code x code maxLocals ret :: tables_1
/-- a 'code' word, met by the world's own term for the bytes: nothing is compared byte by byte -/
theorem code_word {y : MethodName} {bytes : ByteArray} {mx : Nat} {rt : Option FieldType} {a : Array Value} {s : State} {m : MethodId} {meth : Method} {c : Code} (h1 : s.methodNamed? y = some m) (h2 : s.vm.method? m = some meth) (h3 : meth.code = some c) (h4 : c.code = bytes)
    (h5 : (c.maxLocals == mx && c.exceptionTable.isEmpty && decide (c.maxStack ≤ mostOperands) && decide (meth.sig.returnType = rt) && !meth.locks && decide (parseMethodDescriptor y.desc = some meth.sig)) = true) : (Jvm.Cond.code y bytes mx rt).before a s = true := by
  simp only [Bool.and_eq_true, beq_iff_eq, Bool.not_eq_true', decide_eq_true_eq] at h5
  obtain ⟨⟨⟨⟨⟨g1, g2⟩, g3⟩, g4⟩, g5⟩, g6⟩ := h5
  simp [Cond.before, Cond.holds, Cond.value, h1, h2, h3, h4, g1, g2, g3, g4, g5, g6]
def isCode : Jvm.Cond → Bool
  | .code _ _ _ _ => true
  | _ => false
theorem all_split {L : List Jvm.Cond} {P : Jvm.Cond → Bool} (h1 : L.all (fun c => isCode c || P c) = true) (h2 : ∀ c ∈ L.filter isCode, P c = true) : L.all P = true := by
  refine List.all_eq_true.mpr fun c hc => ?_
  have h := List.all_eq_true.mp h1 c hc
  rcases Bool.eq_false_or_eq_true (isCode c) with hi | hi
  · exact h2 c (List.mem_filter.mpr ⟨hc, hi⟩)
  · simpa [hi] using h
set_option maxRecDepth 65536 in
theorem w_c0 : (Jvm.Cond.code x code maxLocals ret).before args0 about1 = true := code_word (m := ⟨1, 1⟩) (meth := k1m1) (c := k1c1) (by decide +kernel) rfl rfl rfl (by decide +kernel)
set_option maxRecDepth 65536 in
theorem w_c1 : (Jvm.Cond.code ({ cls := "com/example/frugal_sieve/frugalsieve/server/Outbox", name := "<init>", desc := "()V" } : Jvm.MethodName) prog_56_method_1_code (1 : Nat) (Option.none : Option Jvm.ClassFile.FieldType)).before args0 about1 = true := code_word (m := ⟨2, 0⟩) (meth := k2m0) (c := k2c0) (by decide +kernel) rfl rfl rfl (by decide +kernel)
set_option maxRecDepth 65536 in
theorem w_c2 : (Jvm.Cond.code ({ cls := "java/lang/Object", name := "<init>", desc := "()V" } : Jvm.MethodName) object_method_1_code (1 : Nat) (Option.none : Option Jvm.ClassFile.FieldType)).before args0 about1 = true := code_word (m := ⟨0, 0⟩) (meth := k0m0) (c := k0c0) (by decide +kernel) rfl rfl rfl (by decide +kernel)
set_option maxRecDepth 65536 in
theorem w_c3 : (Jvm.Cond.code ({ cls := "com/example/frugal_sieve/frugalsieve/server/Outbox", name := "write", desc := "([B)V" } : Jvm.MethodName) prog_56_method_2_code (3 : Nat) (Option.none : Option Jvm.ClassFile.FieldType)).before args0 about1 = true := code_word (m := ⟨2, 1⟩) (meth := k2m1) (c := k2c1) (by decide +kernel) rfl rfl rfl (by decide +kernel)
set_option maxRecDepth 65536 in
theorem w_c4 : (Jvm.Cond.code ({ cls := "com/example/frugal_sieve/frugalsieve/server/Outbox", name := "makeRoom", desc := "(I)V" } : Jvm.MethodName) prog_56_method_3_code (4 : Nat) (Option.none : Option Jvm.ClassFile.FieldType)).before args0 about1 = true := code_word (m := ⟨2, 2⟩) (meth := k2m2) (c := k2c2) (by decide +kernel) rfl rfl rfl (by decide +kernel)
set_option maxRecDepth 65536 in
theorem w_c5 : (Jvm.Cond.code ({ cls := "java/lang/Math", name := "max", desc := "(II)I" } : Jvm.MethodName) jdk_29_method_65_code (2 : Nat) (Option.some Jvm.ClassFile.FieldType.int)).before args0 about1 = true := code_word (m := ⟨4, 1⟩) (meth := k4m1) (c := k4c1) (by decide +kernel) rfl rfl rfl (by decide +kernel)
set_option maxRecDepth 65536 in
theorem w_c6 : (Jvm.Cond.code ({ cls := "com/example/frugal_sieve/frugalsieve/server/Outbox", name := "clear", desc := "()V" } : Jvm.MethodName) prog_56_method_8_code (1 : Nat) (Option.none : Option Jvm.ClassFile.FieldType)).before args0 about1 = true := code_word (m := ⟨2, 5⟩) (meth := k2m5) (c := k2c5) (by decide +kernel) rfl rfl rfl (by decide +kernel)
set_option maxRecDepth 65536 in
theorem w_c7 : (Jvm.Cond.code ({ cls := "com/example/frugal_sieve/frugalsieve/server/Outbox", name := "isEmpty", desc := "()Z" } : Jvm.MethodName) prog_56_method_4_code (1 : Nat) (Option.some Jvm.ClassFile.FieldType.boolean)).before args0 about1 = true := code_word (m := ⟨2, 3⟩) (meth := k2m3) (c := k2c3) (by decide +kernel) rfl rfl rfl (by decide +kernel)
set_option maxRecDepth 65536 in
theorem w_c8 : (Jvm.Cond.code ({ cls := "com/example/frugal_sieve/frugalsieve/server/Outbox", name := "waitingBytes", desc := "()J" } : Jvm.MethodName) prog_56_method_5_code (1 : Nat) (Option.some Jvm.ClassFile.FieldType.long)).before args0 about1 = true := code_word (m := ⟨2, 4⟩) (meth := k2m4) (c := k2c4) (by decide +kernel) rfl rfl rfl (by decide +kernel)
def codes1 : List Jvm.Cond := [Jvm.Cond.code x code maxLocals ret, Jvm.Cond.code ({ cls := "com/example/frugal_sieve/frugalsieve/server/Outbox", name := "<init>", desc := "()V" } : Jvm.MethodName) prog_56_method_1_code (1 : Nat) (Option.none : Option Jvm.ClassFile.FieldType), Jvm.Cond.code ({ cls := "java/lang/Object", name := "<init>", desc := "()V" } : Jvm.MethodName) object_method_1_code (1 : Nat) (Option.none : Option Jvm.ClassFile.FieldType), Jvm.Cond.code ({ cls := "com/example/frugal_sieve/frugalsieve/server/Outbox", name := "write", desc := "([B)V" } : Jvm.MethodName) prog_56_method_2_code (3 : Nat) (Option.none : Option Jvm.ClassFile.FieldType), Jvm.Cond.code ({ cls := "com/example/frugal_sieve/frugalsieve/server/Outbox", name := "makeRoom", desc := "(I)V" } : Jvm.MethodName) prog_56_method_3_code (4 : Nat) (Option.none : Option Jvm.ClassFile.FieldType), Jvm.Cond.code ({ cls := "java/lang/Math", name := "max", desc := "(II)I" } : Jvm.MethodName) jdk_29_method_65_code (2 : Nat) (Option.some Jvm.ClassFile.FieldType.int), Jvm.Cond.code ({ cls := "com/example/frugal_sieve/frugalsieve/server/Outbox", name := "clear", desc := "()V" } : Jvm.MethodName) prog_56_method_8_code (1 : Nat) (Option.none : Option Jvm.ClassFile.FieldType), Jvm.Cond.code ({ cls := "com/example/frugal_sieve/frugalsieve/server/Outbox", name := "isEmpty", desc := "()Z" } : Jvm.MethodName) prog_56_method_4_code (1 : Nat) (Option.some Jvm.ClassFile.FieldType.boolean), Jvm.Cond.code ({ cls := "com/example/frugal_sieve/frugalsieve/server/Outbox", name := "waitingBytes", desc := "()J" } : Jvm.MethodName) prog_56_method_5_code (1 : Nat) (Option.some Jvm.ClassFile.FieldType.long)]
set_option maxRecDepth 65536 in
theorem codes_eq : words1.filter isCode = codes1 := rfl
theorem w_codes : ∀ c ∈ words1.filter isCode, c.before args0 about1 = true := by
  rw [codes_eq]
  intro c hc
  simp only [codes1, List.mem_cons, List.not_mem_nil, or_false] at hc
  rcases hc with rfl | rfl | rfl | rfl | rfl | rfl | rfl | rfl | rfl
  · exact w_c0
  · exact w_c1
  · exact w_c2
  · exact w_c3
  · exact w_c4
  · exact w_c5
  · exact w_c6
  · exact w_c7
  · exact w_c8
set_option maxRecDepth 65536 in
theorem w_t1 : (words1.take 24).all (fun c => isCode c || c.before args0 about1) = true := by decide +kernel
set_option maxRecDepth 65536 in
theorem w_t2 : ((words1.drop 24).take 24).all (fun c => isCode c || c.before args0 about1) = true := by decide +kernel
set_option maxRecDepth 65536 in
theorem w_t3 : ((words1.drop 24).drop 24).all (fun c => isCode c || c.before args0 about1) = true := by decide +kernel
theorem w_tables : (allAtoms (Jvm.Cond.code x code maxLocals ret :: tables_1)).before args0 about1 = true := by
  rw [allAtoms_all]
  show words1.all (fun c => c.before args0 about1) = true
  refine all_split ?_ w_codes
  rw [← List.take_append_drop 24 words1, List.all_append, w_t1, ← List.take_append_drop 24 (words1.drop 24), List.all_append, w_t2, w_t3]
  rfl
set_option maxRecDepth 65536 in
theorem w_case : (Jvm.Cond.and given_1 narrow_1).before args0 about1 = true := by decide +kernel
theorem w_applies : (headSpec (Jvm.Cond.code x code maxLocals ret :: tables_1) room_1).applies x e0.platform about1 = true :=
  (Spec.applies_iff w_frames).mpr ⟨w_running, w_runnable, w_alone, w_named, w_hears, w_ripe, w_room, w_tables⟩
theorem atStart : AtStart classFile x code maxLocals ret World_1 tables_1 room_1 Calls_1 rest_1 Pre_1 launch0 p0 e0 about1 theMethod args0 below0 :=
  ⟨lists_1, trivial, launch0.admits_env _ _ _, launch0.least_env, fairChoices_fair.cas, fairChoices_fair.clock, w_frames, w_args, w_heap, w_applies, trivial, trivial, w_case⟩
end start1
theorem witness_1 : WitnessClaimed_1 := ⟨start1.p0, start1.e0, start1.about1, start1.theMethod, start1.args0, start1.below0, start1.atStart⟩
end Jvm.Pilot.@@N@@
