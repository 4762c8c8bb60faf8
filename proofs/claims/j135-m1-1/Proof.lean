import JvmDerived
import JvmDerived.Pilot.@@N@@Statement
import JvmDerived.Pilot.@@N@@Code
set_option linter.unusedVariables false
set_option linter.unusedSimpArgs false
@@BLOCK:NumsL.lean.txt@@
namespace Jvm.RoadKit
open Sem ClassFile Op Lib Jvm.Stand Jvm.Free Jvm.LawKit
/-- from the frame f over T the run ends as R says -/
def Go (p : Program) (e : Env) (below : List Frame) (R : State → Outcome → Prop) (T : State) (f : JFrame) : Prop := ∃ s₂ o, Steps p.tables e below (T.setTop f) s₂ ∧ s₂.status = .running ∧ Ended s₂ below o ∧ R s₂ o
section New
variable {p : Program} {l : Launch} {e : Env} {R : Room} {s : State} {m : MethodId} {args : Array Value} {below : List Frame} {meth : Method} {c : Code} {T T' : State} {locs : List Loc} {cells slots : Nat} {K : State → Outcome → Prop} {f f' : JFrame}
theorem Go.start (q : f = f') (k : Go p e below K T f') : ∃ s₂ o, Steps p.tables e below (T.setTop f) s₂ ∧ s₂.status = .running ∧ Ended s₂ below o ∧ K s₂ o := q ▸ k
theorem Go.step (h : ∀ t, Steps p.tables e below (T'.setTop f') t → Steps p.tables e below (T.setTop f) t) (k : Go p e below K T' f') : Go p e below K T f := by
  obtain ⟨s₂, o, h1, h2⟩ := k
  exact ⟨s₂, o, h _ h1, h2⟩
theorem Go.fin {S2 : State} {o : Outcome} (hs : Steps p.tables e below (T.setTop f) S2) (h1 : S2.status = .running) (h2 : Ended S2 below o) (h3 : K S2 o) : Go p e below K T f := ⟨_, _, hs, h1, h2, h3⟩
theorem retI (X : Stand p l e R s m args below meth c T locs cells slots) (hx : p.tables.exec = Jvm.exec) {pc : Nat} {Ls : Array Slot} {z : Int32} {rest : List Value} (hret : meth.sig.returnType = some .int) (hd : decode c.code pc = .ok (.ireturn, 1)) {fs : List Frame}
    (hl : ∀ (f : JFrame) (acts : List Action), f.method = m → f.locked = none → f.entered = [] → (doReturn e (T.setTop f) acts (some (.int z))).1 = T.setFrames fs) : Steps p.tables e below (T.setTop (mkF m pc Ls (.int z :: rest))) (T.setFrames fs) := by
  have hm' : T.vm.method? m = some meth := X.method'
  have hn : narrow .int (.int z) = .int z := rfl
  show Steps p.tables e below (T.setTop { method := m, pc := pc, locals := Ls, stack := _ :: rest, locked := none }) _
  jvm_step X.here [X.here.top, hx, hd, hm', hret, hn]
  first | (intro acts; rw [hl _ acts rfl rfl rfl]) | rw [hl _ _ rfl rfl rfl]
  exact Steps.refl _
theorem own_retA (X : Stand p l e R s m args below meth c T locs cells slots) (hx : p.tables.exec = Jvm.exec) {pc : Nat} {Ls : Array Slot} {z : Value} {t : FieldType} {rest : List Value} (hz : z.isRef = true) (hret : meth.sig.returnType = some t) (ht : t.isReference = true) (hd : decode c.code pc = .ok (.areturn, 1)) {fs : List Frame}
    (hl : ∀ (f : JFrame) (acts : List Action), f.method = m → f.locked = none → f.entered = [] → (doReturn e (T.setTop f) acts (some z)).1 = T.setFrames fs) : Steps p.tables e below (T.setTop (mkF m pc Ls (z :: rest))) (T.setFrames fs) := by
  have hm' : T.vm.method? m = some meth := X.method'
  show Steps p.tables e below (T.setTop { method := m, pc := pc, locals := Ls, stack := _ :: rest, locked := none }) _
  jvm_step X.here [X.here.top, hx, hd, hm', hret, hz, ht]
  first | (intro acts; rw [hl _ acts rfl rfl rfl]) | rw [hl _ _ rfl rfl rfl]
  exact Steps.refl _
theorem own_lenS {Z : State} {t : Term} {a : Addr} {c : Cell} {ty : FieldType} {n : Int32} (ev : t.eval args Z none [] Z = some (.ref a)) (A : Arr Z Z.heap a c ty) (h : (Cond.eq (.length t) (.int n)).value args Z none Z [] = some true) : c.slots.size < 2 ^ 31 ∧ c.slots.size.toInt32 = n := by
  have hA : Z.arrayAt? a = some c := Arr.fin (Vm.Alike.refl _) A
  by_cases hl : c.slots.size < 2 ^ 31
  · have e1 : (Term.length t).eval args Z none [] Z = some (.int c.slots.size.toInt32) := len_f ev hA hl
    refine ⟨hl, ?_⟩
    simpa [Cond.value, e1, Term.int_eval] using h
  · have e1 : (Term.length t).eval args Z none [] Z = none := by simp [Term.eval, ev, hA]; omega
    simp [Cond.value, e1] at h
theorem own_elS {Z : State} {t : Term} {a : Addr} {c : Cell} {ty : FieldType} {j n : Int32} (ev : t.eval args Z none [] Z = some (.ref a)) (A : Arr Z Z.heap a c ty) (h : (Cond.eq (.elem t (.int j)) (.int n)).value args Z none Z [] = some true) : c.slots[j.toNatClampNeg]? = some (.int n) := by
  obtain ⟨x, y, hx, hy, hk, -⟩ := cmp_v (Or.inl h)
  have q := (elem_in hx ev (Term.int_eval j) A.1).2
  rw [q]
  cases x <;> simp [Cond.value, hx, Term.int_eval] at h ⊢
  exact h
end New
end Jvm.RoadKit
namespace Jvm.Pilot.@@N@@
open Jvm Jvm.ClassFile Sem Op Lib Jvm.Free Jvm.Stand Jvm.LawKit Jvm.RoadKit Bundle Jvm.Pilot.@@N@@.Jvm.D
def own_eq (f t g u : Int32) : Int32 := if g = f then (if u = t then 1 else 0) else 0
theorem own_eqY {f t g u : Int32} (h1 : f = g) (h2 : t = u) : own_eq f t g u = 1 := by subst h1 h2; simp [own_eq]
theorem own_eqN1 {f t g u : Int32} (h1 : ¬ f = g) : own_eq f t g u = 0 := by unfold own_eq; rw [if_neg (fun q => h1 q.symm)]
theorem own_eqN2 {f t g u : Int32} (h1 : ¬ t = u) : own_eq f t g u = 0 := by unfold own_eq; split; rw [if_neg (fun q => h1 q.symm)]; rfl
theorem own_eqS (f t : Int32) : ¬ own_eq f t f t = 0 := by rw [own_eqY rfl rfl]; decide
def own_below (x : Int32) (j : Int64) : Int32 := ((((x.toInt64) &&& (2147483647 : Int64)) - ((((x.toInt64) &&& (2147483647 : Int64)) / j) * j)).toInt32)
theorem own_bz {x b : Int32} {j : Int64} (h1 : 0 < j.toInt) (h2 : j.toInt ≤ 2147483648) (e : b = own_below x j) : 0 ≤ b.toInt ∧ b.toInt < j.toInt := by
  have hm := Jvm.Kit.i64_mask x.toInt64 2147483647 (k := 31) (by decide) (by decide)
  have h0 : 0 ≤ ((x.toInt64) &&& (2147483647 : Int64)).toInt := by rw [hm]; omega
  have hr := Jvm.Kit.i64_rem_nonneg (y := j) h0
  have q1 := Int.emod_nonneg ((x.toInt64) &&& (2147483647 : Int64)).toInt (show j.toInt ≠ 0 by omega)
  have q2 := Int.emod_lt_of_pos ((x.toInt64) &&& (2147483647 : Int64)).toInt h1
  rw [e]; unfold own_below
  rw [Jvm.Kit.i32_of_i64 (by rw [hr]; omega) (by rw [hr]; omega), hr]
  exact ⟨q1, q2⟩
theorem own_msk (x : Int32) : 0 ≤ (x &&& (2147483647 : Int32)).toInt ∧ (x &&& (2147483647 : Int32)).toInt ≤ 2147483647 := by rw [Jvm.Kit.i32_mask x 2147483647 (k := 31) (by decide) (by decide)]; omega
theorem own_j1 {f : Int32} (h : 0 ≤ f.toInt) : ((2147483648 : Int64) - (f.toInt64)).toInt = 2147483648 - f.toInt := by
  have := f.toInt_lt
  have t : (2147483648 : Int64).toInt = 2147483648 := by decide
  rw [Jvm.Kit.i64_sub (by rw [t, Int32.toInt_toInt64]; omega) (by rw [t, Int32.toInt_toInt64]; omega), t, Int32.toInt_toInt64]
theorem own_j2 {f : Int32} (h : 0 ≤ f.toInt) : ((f.toInt64) + (1 : Int64)).toInt = f.toInt + 1 := by
  have := f.toInt_lt
  have t : (1 : Int64).toInt = 1 := by decide
  rw [Jvm.Kit.i64_add (by rw [t, Int32.toInt_toInt64]; omega) (by rw [t, Int32.toInt_toInt64]; omega), t, Int32.toInt_toInt64]
theorem own_jn {j : Int64} (h : 0 < j.toInt) : j ≠ 0 := fun q => by rw [q] at h; exact absurd h (by decide)
/-- from and to as the law makes them -/
def own_ok (f t : Int32) : Prop := ¬ f < 0 ∧ ¬ t < f
theorem own_lt0 {f : Int32} (h : 0 ≤ f.toInt) : ¬ f < 0 := by rw [Int32.lt_iff_toInt_lt, show (0 : Int32).toInt = 0 by decide]; omega
theorem own_ft {f b t x : Int32} (hf : 0 ≤ f.toInt) (e : b = own_below x ((2147483648 : Int64) - (f.toInt64))) (et : t = f + b) : own_ok f t ∧ 0 ≤ t.toInt := by
  have hl := f.toInt_lt
  have q := own_bz (by rw [own_j1 hf]; omega) (by rw [own_j1 hf]; omega) e
  rw [own_j1 hf] at q
  have s : t.toInt = f.toInt + b.toInt := by rw [et]; exact Jvm.Kit.i32_add (by omega) (by omega)
  exact ⟨⟨own_lt0 hf, by rw [Int32.lt_iff_toInt_lt]; omega⟩, by omega⟩
theorem own_ft3 {f t x : Int32} (ht : 0 ≤ t.toInt) (e : f = own_below x ((t.toInt64) + (1 : Int64))) : own_ok f t := by
  have hl := t.toInt_lt
  have q := own_bz (by rw [own_j2 ht]; omega) (by rw [own_j2 ht]; omega) e
  rw [own_j2 ht] at q
  exact ⟨own_lt0 q.1, by rw [Int32.lt_iff_toInt_lt]; omega⟩
theorem own_chr (x : Int32) : ¬ (255 : Int32) < (((x &&& (255 : Int32)).toUInt32.toUInt16.toUInt32).toInt32) := by
  have hb : (((((x &&& (255 : Int32)).toUInt32.toUInt16.toUInt32).toInt32).toBitVec)) = ((x.toBitVec &&& 255#32).setWidth 16).setWidth 32 := rfl
  have hn : (((((x &&& (255 : Int32)).toUInt32.toUInt16.toUInt32).toInt32).toBitVec)).toNat ≤ 255 := by
    rw [hb, BitVec.toNat_setWidth, BitVec.toNat_setWidth, BitVec.toNat_and]
    have := Nat.and_le_right (n := x.toBitVec.toNat) (m := (255#32).toNat)
    have e : (255#32).toNat = 255 := rfl
    omega
  rw [Int32.lt_iff_toInt_lt]
  generalize (((x &&& (255 : Int32)).toUInt32.toUInt16.toUInt32).toInt32) = y at *
  have e : y.toInt = (y.toBitVec.toNat : Int) := BitVec.toInt_eq_toNat_of_lt (by omega)
  rw [e, show (255 : Int32).toInt = 255 by decide]; omega
def own_bv (j : Int32) : Value := .int (j - (128 : Int32))
theorem own_ix {Z : State} {args : Array Value} {j : Int32} (nn : ¬ j < 0) : (Term.sub (.index 0) (.int (128 : Int32))).eval args Z none [j.toNatClampNeg] Z = some (own_bv j) := by
  have hi : (Term.index 0).eval args Z none [j.toNatClampNeg] Z = some (.int j) := idx_at nn
  rw [Term.eval, hi]; rfl
def own_no (Z : State) (C K : String) : Prop := ∃ c t, Z.vm.findClass C = some c ∧ Z.vm.findClass K = some t ∧ Z.vm.assignable c t = false
theorem own_nsroot {Z : State} {a0 : Array Value} {O K : String} {n : Nat} (w : (Cond.noSuperclass O).before a0 Z = true) (wk : (Cond.instantiable K n).before a0 Z = true) (hn : O ≠ K) : NS Z O K := by
  obtain ⟨c, k, h1, h2, h3, -, -⟩ := Cond.noSuperclass_spec w
  obtain ⟨t, kt, g1, -⟩ := Cond.instantiable_spec wk
  have ne := ids_ne h1 g1 hn
  refine ⟨c, t, h1, g1, fun fuel => ?_⟩
  cases fuel with
  | zero => rfl
  | succ f => simp [Vm.isSubclassAux, ne, h2, h3]
theorem own_nsno {Z : State} {a0 : Array Value} {C S K : String} {i : Nat} (w : (Cond.superclass C S).before a0 Z = true) (wk : (Cond.instantiable K i).before a0 Z = true) (n : NS Z C K) (hn : C ≠ K) : own_no Z C K := by
  obtain ⟨c, t, h0, g0, n3⟩ := n
  obtain ⟨p, k, kp, h1, h2, h3, h4, h5, -, h7⟩ := Cond.superclass_spec h0 w
  obtain ⟨q, k', g1, g2, g5, g7, -⟩ := Cond.instantiable_spec wk
  cases g0.symm.trans g1
  have ne := ids_ne h0 g0 hn
  have g8 : k'.isInterface = false := by simp at g7; exact g7.1
  refine ⟨c, t, h0, g0, ?_⟩
  show Z.vm.assignableAux (255 + 1) c t = false
  simp [Vm.assignableAux, ne, h2, g2, h5, g5, g8, Vm.isSubclass, n3]

theorem own_f0 : decode method_2_code 0 = .ok (.iload_n 0, 1) := by decide +kernel
theorem own_f1 : decode method_2_code 1 = .ok (.i2l, 1) := by decide +kernel
theorem own_f2 : decode method_2_code 2 = .ok (.ldc2_w 7, 3) := by decide +kernel
theorem own_f3 : decode method_2_code 5 = .ok (.land, 1) := by decide +kernel
theorem own_f4 : decode method_2_code 6 = .ok (.lload_n 1, 1) := by decide +kernel
theorem own_f5 : decode method_2_code 7 = .ok (.lrem, 1) := by decide +kernel
theorem own_f6 : decode method_2_code 8 = .ok (.l2i, 1) := by decide +kernel
theorem own_f7 : decode method_2_code 9 = .ok (.ireturn, 1) := by decide +kernel
theorem own_f8 : plainName "com/example/vigilant_crawler/vigilantcrawler/model/WordSpanEqualsPinLaw" = true := by first | (simp [plainName, overriddenIn]; done) | decide +kernel
theorem own_ef_L (m : MethodId) (p1 : Int32) (j1 : Int64) : entryFrame m #[(.int p1), (.long j1)] 3 = mkF m 0 #[.val (.int p1), .val (.long j1), .second] [] := by first | (simp [entryFrame, mkF, argsToLocals, Value.category]; done) | rfl
def QL (Z : State) (p1 : Int32) (j1 : Int64) (h0 : Heap) (n0 : Nat) (v : Option Value) (h : Heap) (L : List Loc) : Prop := v = some (.int (own_below p1 j1)) ∧ Fr n0 L ∧ h = h0
set_option maxRecDepth 65536 in
set_option maxHeartbeats 40000000 in
theorem rmL (l : Launch) (Z : State) (a0 : Array Value) (hw : ∀ d ∈ tables_1, d.before a0 Z = true) (ws : List Jvm.Cond) (p1 : Int32) (j1 : Int64) (h0 : Heap) (n0 : Nat) (Z0 : n0 ≤ h0.size) (hj : j1 ≠ 0) :
    MetFree l (⟨"com/example/vigilant_crawler/vigilantcrawler/model/WordSpanEqualsPinLaw", "below", "(IJ)I"⟩ : MethodName) (head1 (Jvm.Cond.code (⟨"com/example/vigilant_crawler/vigilantcrawler/model/WordSpanEqualsPinLaw", "below", "(IJ)I"⟩ : MethodName) method_2_code 3 (some .int) :: ws) ({ frames := 0, cells := 0, slots := 0, locals := 0 } : Room)) (fun a U => a = #[(.int p1), (.long j1)] ∧ Z.Warmed39 U.vm ∧ U.heap = h0) (fun _ _ _ _ _ => True) (fun _ U o U' => ∃ v L, o = .returned v ∧ QL Z p1 j1 h0 n0 v U'.heap L ∧ FrameEnd U o U' L ({ frames := 0, cells := 0, slots := 0, locals := 0 } : Room).cells ({ frames := 0, cells := 0, slots := 0, locals := 0 } : Room).slots) := by
  refine MetFree.of_bodySF (plainFor_of_name own_f8) hisR ?_
  intro p e s m args below meth c s₁ Bd hml0 hP hK
  obtain ⟨rfl, hZ, hh⟩ := hP
  have hx := Bd.exec
  have hby := Bd.bytes
  have hml : c.maxLocals = 3 := hml0
  have hown : s.vm.findClass "com/example/vigilant_crawler/vigilantcrawler/model/WordSpanEqualsPinLaw" = some m.cls := findClass_of_methodNamed Bd.named
  have hnm := (name_of_methodNamed Bd.named Bd.method).1
  have X0 : Stand p l e ({ frames := 0, cells := 0, slots := 0, locals := 0 } : Room) s m #[(.int p1), (.long j1)] below meth c s₁ [] 0 0 := Stand.of_body Bd
  have e0 : s₁.heap = h0 := by rw [← hh, Bd.state]; rfl
  have N0 := Fr.nil n0
  refine Go.start (own_ef_L m p1 j1) ?_
  show Go p e below _ s₁ (mkF m 0 #[.val (.int p1), .val (.long j1), .second] [])
  refine Go.step (fun _ k => XS.iloadN X0.here hx rfl (hb hby own_f0) rfl k) ?_
  show Go p e below _ s₁ (mkF m 1 #[.val (.int p1), .val (.long j1), .second] [(.int p1)])
  refine Go.step (fun _ k => XS.i2l X0.here hx rfl (hb hby own_f1) rfl k) ?_
  show Go p e below _ s₁ (mkF m 2 #[.val (.int p1), .val (.long j1), .second] [(.long (p1.toInt64))])
  refine Go.step (X0.ldc2Long hx hown (mvT hZ (hw _ (List.mem_of_getElem? (i := 6) rfl))) (g := (mkF m 2 #[.val (.int p1), .val (.long j1), .second] [(.long (p1.toInt64))])) rfl (hb hby own_f2)) ?_
  show Go p e below _ s₁ (mkF m 5 #[.val (.int p1), .val (.long j1), .second] [(.long (2147483647 : Int64)), (.long (p1.toInt64))])
  refine Go.step (fun _ k => XS.land X0.here hx rfl (hb hby own_f3) rfl k) ?_
  show Go p e below _ s₁ (mkF m 6 #[.val (.int p1), .val (.long j1), .second] [(.long ((p1.toInt64) &&& (2147483647 : Int64)))])
  refine Go.step (fun _ k => XS.lloadN X0.here hx rfl (hb hby own_f4) rfl k) ?_
  show Go p e below _ s₁ (mkF m 7 #[.val (.int p1), .val (.long j1), .second] [(.long j1), (.long ((p1.toInt64) &&& (2147483647 : Int64)))])
  refine Go.step (fun _ k => XS.lrem X0.here hx rfl (hb hby own_f5) rfl hj k) ?_
  show Go p e below _ s₁ (mkF m 8 #[.val (.int p1), .val (.long j1), .second] [(.long (((p1.toInt64) &&& (2147483647 : Int64)) - (((p1.toInt64) &&& (2147483647 : Int64)) / j1) * j1))])
  refine Go.step (fun _ k => XS.l2i X0.here hx rfl (hb hby own_f6) rfl k) ?_
  show Go p e below _ s₁ (mkF m 9 #[.val (.int p1), .val (.long j1), .second] [(.int ((((p1.toInt64) &&& (2147483647 : Int64)) - (((p1.toInt64) &&& (2147483647 : Int64)) / j1) * j1).toInt32))])
  obtain ⟨fs, hr, hrun, hended, hW, hsame⟩ := X0.leave (v := some (.int ((((p1.toInt64) &&& (2147483647 : Int64)) - (((p1.toInt64) &&& (2147483647 : Int64)) / j1) * j1).toInt32))) (fun h => by rw [Bd.returns] at h; cases h)
  refine Go.fin (retI X0 hx Bd.returns (hb hby own_f7) hr) hrun hended ?_
  refine ⟨_, _, rfl, ?_, ⟨_, rfl⟩, hW, hsame.mono (by decide) (by decide)⟩
  show QL Z p1 j1 h0 n0 _ s₁.heap _
  rw [e0]
  exact ⟨rfl, N0, rfl⟩
theorem own_f9 : decode prog_26_method_1_code 0 = .ok (.aload_n 0, 1) := by decide +kernel
theorem own_f10 : decode prog_26_method_1_code 1 = .ok (.invokespecial 1, 3) := by decide +kernel
theorem own_f11 : decode prog_26_method_1_code 4 = .ok (.iload_n 1, 1) := by decide +kernel
theorem own_f12 : decode prog_26_method_1_code 5 = .ok (.ifCond .lt 8, 3) := by decide +kernel
theorem own_f13 : decode prog_26_method_1_code 8 = .ok (.iload_n 2, 1) := by decide +kernel
theorem own_f14 : decode prog_26_method_1_code 9 = .ok (.iload_n 1, 1) := by decide +kernel
theorem own_f15 : decode prog_26_method_1_code 10 = .ok (.if_icmp .ge 18, 3) := by decide +kernel
theorem own_f16 : decode prog_26_method_1_code 28 = .ok (.aload_n 0, 1) := by decide +kernel
theorem own_f17 : decode prog_26_method_1_code 29 = .ok (.iload_n 1, 1) := by decide +kernel
theorem own_f18 : decode prog_26_method_1_code 30 = .ok (.putfield 16, 3) := by decide +kernel
theorem own_f19 : decode prog_26_method_1_code 33 = .ok (.aload_n 0, 1) := by decide +kernel
theorem own_f20 : decode prog_26_method_1_code 34 = .ok (.iload_n 2, 1) := by decide +kernel
theorem own_f21 : decode prog_26_method_1_code 35 = .ok (.putfield 22, 3) := by decide +kernel
theorem own_f22 : decode prog_26_method_1_code 38 = .ok (.return_, 1) := by decide +kernel
theorem own_f23 : plainName "com/example/vigilant_crawler/vigilantcrawler/model/WordSpan" = true := by first | (simp [plainName, overriddenIn]; done) | decide +kernel
theorem own_ef_I (m : MethodId) (a1 : Addr) (p1 : Int32) (p2 : Int32) : entryFrame m #[(.ref a1), (.int p1), (.int p2)] 3 = mkF m 0 #[.val (.ref a1), .val (.int p1), .val (.int p2)] [] := by first | (simp [entryFrame, mkF, argsToLocals, Value.category]; done) | rfl
def QI (Z : State) (a1 : Addr) (p1 : Int32) (p2 : Int32) (h0 : Heap) (n0 : Nat) (v : Option Value) (h : Heap) (L : List Loc) : Prop := v = none ∧ Fr n0 L ∧ Keep h0 h [a1] ∧ Fld Z h a1 "com/example/vigilant_crawler/vigilantcrawler/model/WordSpan" "from" "I" (.int p1) ∧ Fld Z h a1 "com/example/vigilant_crawler/vigilantcrawler/model/WordSpan" "to" "I" (.int p2)
set_option maxRecDepth 65536 in
set_option maxHeartbeats 40000000 in
theorem rmI (l : Launch) (Z : State) (a0 : Array Value) (hw : ∀ d ∈ tables_1, d.before a0 Z = true) (ws : List Jvm.Cond) (a1 : Addr) (p1 : Int32) (p2 : Int32) (h0 : Heap) (n0 : Nat) (Z0 : n0 ≤ h0.size) (E_a1 : Exa Z h0 a1 "com/example/vigilant_crawler/vigilantcrawler/model/WordSpan") (F_from_a1 : Fld Z h0 a1 "com/example/vigilant_crawler/vigilantcrawler/model/WordSpan" "from" "I" (.int (0 : Int32))) (F_to_a1 : Fld Z h0 a1 "com/example/vigilant_crawler/vigilantcrawler/model/WordSpan" "to" "I" (.int (0 : Int32))) (g_a1 : n0 ≤ a1) (hp1 : ¬ p1 < (0 : Int32)) (hp2 : ¬ p2 < p1) :
    MetFree l (⟨"com/example/vigilant_crawler/vigilantcrawler/model/WordSpan", "<init>", "(II)V"⟩ : MethodName) (head1 (Jvm.Cond.code (⟨"com/example/vigilant_crawler/vigilantcrawler/model/WordSpan", "<init>", "(II)V"⟩ : MethodName) prog_26_method_1_code 3 none :: ws) ({ frames := 1, cells := 0, slots := 0, locals := 12 } : Room)) (fun a U => a = #[(.ref a1), (.int p1), (.int p2)] ∧ Z.Warmed39 U.vm ∧ U.heap = h0) (fun _ _ _ _ _ => True) (fun _ U o U' => ∃ v L, o = .returned v ∧ QI Z a1 p1 p2 h0 n0 v U'.heap L ∧ FrameEnd U o U' L ({ frames := 1, cells := 0, slots := 0, locals := 12 } : Room).cells ({ frames := 1, cells := 0, slots := 0, locals := 12 } : Room).slots) := by
  refine MetFree.of_bodySF (plainFor_of_name own_f23) hisR ?_
  intro p e s m args below meth c s₁ Bd hml0 hP hK
  obtain ⟨rfl, hZ, hh⟩ := hP
  have hx := Bd.exec
  have hby := Bd.bytes
  have hml : c.maxLocals = 3 := hml0
  have hown : s.vm.findClass "com/example/vigilant_crawler/vigilantcrawler/model/WordSpan" = some m.cls := findClass_of_methodNamed Bd.named
  have hnm := (name_of_methodNamed Bd.named Bd.method).1
  have X0 : Stand p l e ({ frames := 1, cells := 0, slots := 0, locals := 12 } : Room) s m #[(.ref a1), (.int p1), (.int p2)] below meth c s₁ [] 0 0 := Stand.of_body Bd
  have e0 : s₁.heap = h0 := by rw [← hh, Bd.state]; rfl
  have N0 := Fr.nil n0
  refine Go.start (own_ef_I m a1 p1 p2) ?_
  show Go p e below _ s₁ (mkF m 0 #[.val (.ref a1), .val (.int p1), .val (.int p2)] [])
  have Zn := Z0
  have K0 : Keep h0 h0 [a1] := Keep.refl h0 _
  refine Go.step (fun _ k => XS.aloadN X0.here hx rfl (hb hby own_f9) rfl rfl k) ?_
  show Go p e below _ s₁ (mkF m 1 #[.val (.ref a1), .val (.int p1), .val (.int p2)] [(.ref a1)])
  obtain ⟨T1, X1, e1, st1⟩ := initO X0 hx hZ hown (hw _ (List.mem_of_getElem? (i := 13) rfl)) (hw _ (List.mem_of_getElem? (i := 14) rfl)) (hw _ (List.mem_of_getElem? (i := 15) rfl)) e0 (g := (mkF m 1 #[.val (.ref a1), .val (.int p1), .val (.int p2)] [(.ref a1)])) rfl (by rw [hml]; rfl) rfl (hb hby own_f10) (by decide) (W := 0) (by show 2 * 0 + _ ≤ _; exact Nat.le_of_eq rfl) (by decide)
  refine Go.step st1 ?_
  show Go p e below _ T1 (mkF m 4 #[.val (.ref a1), .val (.int p1), .val (.int p2)] [])
  refine Go.step (fun _ k => XS.iloadN X1.here hx rfl (hb hby own_f11) rfl k) ?_
  show Go p e below _ T1 (mkF m 5 #[.val (.ref a1), .val (.int p1), .val (.int p2)] [(.int p1)])
  refine Go.step (fun _ k => XS.ifNo X1.here hx rfl (hb hby own_f12) rfl ((if0 _ _).trans (flt hp1).1) k) ?_
  show Go p e below _ T1 (mkF m 8 #[.val (.ref a1), .val (.int p1), .val (.int p2)] [])
  refine Go.step (fun _ k => XS.iloadN X1.here hx rfl (hb hby own_f13) rfl k) ?_
  show Go p e below _ T1 (mkF m 9 #[.val (.ref a1), .val (.int p1), .val (.int p2)] [(.int p2)])
  refine Go.step (fun _ k => XS.iloadN X1.here hx rfl (hb hby own_f14) rfl k) ?_
  show Go p e below _ T1 (mkF m 10 #[.val (.ref a1), .val (.int p1), .val (.int p2)] [(.int p1), (.int p2)])
  refine Go.step (fun _ k => XS.icmpYes X1.here hx rfl (pc0 := 10) (pc' := 28) rfl (hb hby own_f15) rfl (flt hp2).2.1 (by decide) (by decide) k) ?_
  show Go p e below _ T1 (mkF m 28 #[.val (.ref a1), .val (.int p1), .val (.int p2)] [])
  refine Go.step (fun _ k => XS.aloadN X1.here hx rfl (hb hby own_f16) rfl rfl k) ?_
  show Go p e below _ T1 (mkF m 29 #[.val (.ref a1), .val (.int p1), .val (.int p2)] [(.ref a1)])
  refine Go.step (fun _ k => XS.iloadN X1.here hx rfl (hb hby own_f17) rfl k) ?_
  show Go p e below _ T1 (mkF m 30 #[.val (.ref a1), .val (.int p1), .val (.int p2)] [(.int p1), (.ref a1)])
  obtain ⟨T2, h2, X2, e2, W2, st2⟩ := putF X1 hx hZ hown (host := "") (Or.inl (hw _ (List.mem_of_getElem? (i := 16) rfl))) Via.refl e1 F_from_a1 E_a1 (Or.inr ⟨(hw _ (List.mem_of_getElem? (i := 17) rfl)), rfl, hnm⟩) (hw _ (List.mem_of_getElem? (i := 8) rfl)) (ty := .int) (by decide) rfl rfl (g := (mkF m 30 #[.val (.ref a1), .val (.int p1), .val (.int p2)] [(.int p1), (.ref a1)])) rfl rfl (hb hby own_f18)
  have Fw2 := F_from_a1.same W2
  replace E_a1 := E_a1.wr W2
  replace F_to_a1 := F_to_a1.other W2 (Or.inr (slot_ne (Or.inr (hw _ (List.mem_of_getElem? (i := 19) rfl))) (Or.inr (hw _ (List.mem_of_getElem? (i := 17) rfl))) (by decide) (t := .int) (t' := .int) (by decide) (by decide)))
  replace F_from_a1 := Fw2
  replace K0 := K0.wr W2 (Or.inl (List.mem_of_getElem? (i := 0) rfl))
  replace Zn := Nat.le_trans Zn (Nat.le_of_eq W2.size.symm)
  have N2 := Fr.snoc X2 N0 g_a1
  refine Go.step st2 ?_
  show Go p e below _ T2 (mkF m 33 #[.val (.ref a1), .val (.int p1), .val (.int p2)] [])
  refine Go.step (fun _ k => XS.aloadN X2.here hx rfl (hb hby own_f19) rfl rfl k) ?_
  show Go p e below _ T2 (mkF m 34 #[.val (.ref a1), .val (.int p1), .val (.int p2)] [(.ref a1)])
  refine Go.step (fun _ k => XS.iloadN X2.here hx rfl (hb hby own_f20) rfl k) ?_
  show Go p e below _ T2 (mkF m 35 #[.val (.ref a1), .val (.int p1), .val (.int p2)] [(.int p2), (.ref a1)])
  obtain ⟨T3, h3, X3, e3, W3, st3⟩ := putF X2 hx hZ hown (host := "") (Or.inl (hw _ (List.mem_of_getElem? (i := 18) rfl))) Via.refl e2 F_to_a1 E_a1 (Or.inr ⟨(hw _ (List.mem_of_getElem? (i := 19) rfl)), rfl, hnm⟩) (hw _ (List.mem_of_getElem? (i := 8) rfl)) (ty := .int) (by decide) rfl rfl (g := (mkF m 35 #[.val (.ref a1), .val (.int p1), .val (.int p2)] [(.int p2), (.ref a1)])) rfl rfl (hb hby own_f21)
  have Fw3 := F_to_a1.same W3
  replace E_a1 := E_a1.wr W3
  replace F_from_a1 := F_from_a1.other W3 (Or.inr (slot_ne (Or.inr (hw _ (List.mem_of_getElem? (i := 17) rfl))) (Or.inr (hw _ (List.mem_of_getElem? (i := 19) rfl))) (by decide) (t := .int) (t' := .int) (by decide) (by decide)))
  replace F_to_a1 := Fw3
  replace K0 := K0.wr W3 (Or.inl (List.mem_of_getElem? (i := 0) rfl))
  replace Zn := Nat.le_trans Zn (Nat.le_of_eq W3.size.symm)
  have N3 := Fr.snoc X3 N2 g_a1
  refine Go.step st3 ?_
  show Go p e below _ T3 (mkF m 38 #[.val (.ref a1), .val (.int p1), .val (.int p2)] [])
  obtain ⟨fs, hr, hrun, hended, hW, hsame⟩ := X3.leave (v := none) (fun _ => rfl)
  refine Go.fin (X3.returnOut hx Bd.returns (hb hby own_f22) hr) hrun hended ?_
  refine ⟨_, _, rfl, ?_, ⟨_, rfl⟩, hW, hsame.mono (by decide) (by decide)⟩
  show QI Z a1 p1 p2 h0 n0 _ T3.heap _
  rw [e3]
  exact ⟨rfl, N3, K0, F_from_a1, F_to_a1⟩
theorem own_f24 : decode prog_26_method_5_code 0 = .ok (.aload_n 1, 1) := by decide +kernel
theorem own_f25 : decode prog_26_method_5_code 1 = .ok (.instanceof 17, 3) := by decide +kernel
theorem own_f26 : decode prog_26_method_5_code 4 = .ok (.ifCond .eq 35, 3) := by decide +kernel
theorem own_f27 : decode prog_26_method_5_code 7 = .ok (.aload_n 1, 1) := by decide +kernel
theorem own_f28 : decode prog_26_method_5_code 8 = .ok (.checkcast 17, 3) := by decide +kernel
theorem own_f29 : decode prog_26_method_5_code 11 = .ok (.getfield 16, 3) := by decide +kernel
theorem own_f30 : decode prog_26_method_5_code 14 = .ok (.aload_n 0, 1) := by decide +kernel
theorem own_f31 : decode prog_26_method_5_code 15 = .ok (.getfield 16, 3) := by decide +kernel
theorem own_f32 : decode prog_26_method_5_code 18 = .ok (.if_icmp .ne 21, 3) := by decide +kernel
theorem own_f33 : decode prog_26_method_5_code 21 = .ok (.aload_n 1, 1) := by decide +kernel
theorem own_f34 : decode prog_26_method_5_code 22 = .ok (.checkcast 17, 3) := by decide +kernel
theorem own_f35 : decode prog_26_method_5_code 25 = .ok (.getfield 22, 3) := by decide +kernel
theorem own_f36 : decode prog_26_method_5_code 28 = .ok (.aload_n 0, 1) := by decide +kernel
theorem own_f37 : decode prog_26_method_5_code 29 = .ok (.getfield 22, 3) := by decide +kernel
theorem own_f38 : decode prog_26_method_5_code 32 = .ok (.if_icmp .ne 7, 3) := by decide +kernel
theorem own_f39 : decode prog_26_method_5_code 35 = .ok (.iconst 1, 1) := by decide +kernel
theorem own_f40 : decode prog_26_method_5_code 36 = .ok (.goto 4, 3) := by decide +kernel
theorem own_f41 : decode prog_26_method_5_code 40 = .ok (.ireturn, 1) := by decide +kernel
theorem own_f42 : decode prog_26_method_5_code 39 = .ok (.iconst 0, 1) := by decide +kernel
theorem own_ef_E (m : MethodId) (a1 : Addr) (a2 : Addr) : entryFrame m #[(.ref a1), (.ref a2)] 2 = mkF m 0 #[.val (.ref a1), .val (.ref a2)] [] := by first | (simp [entryFrame, mkF, argsToLocals, Value.category]; done) | rfl
def QE (Z : State) (a1 : Addr) (a2 : Addr) (p1 : Int32) (p2 : Int32) (p3 : Int32) (p4 : Int32) (h0 : Heap) (n0 : Nat) (v : Option Value) (h : Heap) (L : List Loc) : Prop := v = some (.int (own_eq p1 p2 p3 p4)) ∧ Fr n0 L ∧ h = h0
set_option maxRecDepth 65536 in
set_option maxHeartbeats 40000000 in
theorem rmE (l : Launch) (Z : State) (a0 : Array Value) (hw : ∀ d ∈ tables_1, d.before a0 Z = true) (ws : List Jvm.Cond) (a1 : Addr) (a2 : Addr) (p1 : Int32) (p2 : Int32) (p3 : Int32) (p4 : Int32) (h0 : Heap) (n0 : Nat) (Z0 : n0 ≤ h0.size) (F_from_a1 : Fld Z h0 a1 "com/example/vigilant_crawler/vigilantcrawler/model/WordSpan" "from" "I" (.int p1)) (F_to_a1 : Fld Z h0 a1 "com/example/vigilant_crawler/vigilantcrawler/model/WordSpan" "to" "I" (.int p2)) (E_a2 : Exa Z h0 a2 "com/example/vigilant_crawler/vigilantcrawler/model/WordSpan") (F_from_a2 : Fld Z h0 a2 "com/example/vigilant_crawler/vigilantcrawler/model/WordSpan" "from" "I" (.int p3)) (F_to_a2 : Fld Z h0 a2 "com/example/vigilant_crawler/vigilantcrawler/model/WordSpan" "to" "I" (.int p4)) :
    MetFree l (⟨"com/example/vigilant_crawler/vigilantcrawler/model/WordSpan", "equals", "(Ljava/lang/Object;)Z"⟩ : MethodName) (head1 (Jvm.Cond.code (⟨"com/example/vigilant_crawler/vigilantcrawler/model/WordSpan", "equals", "(Ljava/lang/Object;)Z"⟩ : MethodName) prog_26_method_5_code 2 (some .boolean) :: ws) ({ frames := 0, cells := 0, slots := 0, locals := 0 } : Room)) (fun a U => a = #[(.ref a1), (.ref a2)] ∧ Z.Warmed39 U.vm ∧ U.heap = h0) (fun _ _ _ _ _ => True) (fun _ U o U' => ∃ v L, o = .returned v ∧ QE Z a1 a2 p1 p2 p3 p4 h0 n0 v U'.heap L ∧ FrameEnd U o U' L ({ frames := 0, cells := 0, slots := 0, locals := 0 } : Room).cells ({ frames := 0, cells := 0, slots := 0, locals := 0 } : Room).slots) := by
  refine MetFree.of_bodySF (plainFor_of_name own_f23) hisR ?_
  intro p e s m args below meth c s₁ Bd hml0 hP hK
  obtain ⟨rfl, hZ, hh⟩ := hP
  have hx := Bd.exec
  have hby := Bd.bytes
  have hml : c.maxLocals = 2 := hml0
  have hown : s.vm.findClass "com/example/vigilant_crawler/vigilantcrawler/model/WordSpan" = some m.cls := findClass_of_methodNamed Bd.named
  have hnm := (name_of_methodNamed Bd.named Bd.method).1
  have X0 : Stand p l e ({ frames := 0, cells := 0, slots := 0, locals := 0 } : Room) s m #[(.ref a1), (.ref a2)] below meth c s₁ [] 0 0 := Stand.of_body Bd
  have e0 : s₁.heap = h0 := by rw [← hh, Bd.state]; rfl
  have N0 := Fr.nil n0
  refine Go.start (own_ef_E m a1 a2) ?_
  show Go p e below _ s₁ (mkF m 0 #[.val (.ref a1), .val (.ref a2)] [])
  refine Go.step (fun _ k => XS.aloadN X0.here hx rfl (hb hby own_f24) rfl rfl k) ?_
  show Go p e below _ s₁ (mkF m 1 #[.val (.ref a1), .val (.ref a2)] [(.ref a2)])
  obtain ⟨T4, X4, e4, st4⟩ := instY X0 hx hZ hown (hw _ (List.mem_of_getElem? (i := 25) rfl)) e0 (Ins.self E_a2) (g := (mkF m 1 #[.val (.ref a1), .val (.ref a2)] [(.ref a2)])) rfl rfl (hb hby own_f25)
  refine Go.step st4 ?_
  show Go p e below _ T4 (mkF m 4 #[.val (.ref a1), .val (.ref a2)] [(.int (1 : Int32))])
  refine Go.step (fun _ k => XS.ifNo X4.here hx rfl (hb hby own_f26) rfl ((if0 _ _).trans (feq (by decide)).1) k) ?_
  show Go p e below _ T4 (mkF m 7 #[.val (.ref a1), .val (.ref a2)] [])
  refine Go.step (fun _ k => XS.aloadN X4.here hx rfl (hb hby own_f27) rfl rfl k) ?_
  show Go p e below _ T4 (mkF m 8 #[.val (.ref a1), .val (.ref a2)] [(.ref a2)])
  obtain ⟨T5, X5, e5, st5⟩ := castY X4 hx hZ hown (hw _ (List.mem_of_getElem? (i := 25) rfl)) e4 (Ins.self E_a2) (g := (mkF m 8 #[.val (.ref a1), .val (.ref a2)] [(.ref a2)])) rfl rfl (hb hby own_f28)
  refine Go.step st5 ?_
  show Go p e below _ T5 (mkF m 11 #[.val (.ref a1), .val (.ref a2)] [(.ref a2)])
  obtain ⟨T6, X6, e6, st6⟩ := getF X5 hx hZ hown (host := "") (Or.inl (hw _ (List.mem_of_getElem? (i := 16) rfl))) Via.refl e5 F_from_a2 (g := (mkF m 11 #[.val (.ref a1), .val (.ref a2)] [(.ref a2)])) rfl rfl (hb hby own_f29)
  refine Go.step st6 ?_
  show Go p e below _ T6 (mkF m 14 #[.val (.ref a1), .val (.ref a2)] [(.int p3)])
  refine Go.step (fun _ k => XS.aloadN X6.here hx rfl (hb hby own_f30) rfl rfl k) ?_
  show Go p e below _ T6 (mkF m 15 #[.val (.ref a1), .val (.ref a2)] [(.ref a1), (.int p3)])
  obtain ⟨T7, X7, e7, st7⟩ := getF X6 hx hZ hown (host := "") (Or.inl (hw _ (List.mem_of_getElem? (i := 16) rfl))) Via.refl e6 F_from_a1 (g := (mkF m 15 #[.val (.ref a1), .val (.ref a2)] [(.ref a1), (.int p3)])) rfl rfl (hb hby own_f31)
  refine Go.step st7 ?_
  show Go p e below _ T7 (mkF m 18 #[.val (.ref a1), .val (.ref a2)] [(.int p1), (.int p3)])
  by_cases hc18_8 : p3 = p1
  · show Go p e below _ T7 (mkF m 18 #[.val (.ref a1), .val (.ref a2)] [(.int p1), (.int p3)])
    refine Go.step (fun _ k => XS.icmpNo X7.here hx rfl (hb hby own_f32) rfl (teq hc18_8).2 k) ?_
    show Go p e below _ T7 (mkF m 21 #[.val (.ref a1), .val (.ref a2)] [])
    refine Go.step (fun _ k => XS.aloadN X7.here hx rfl (hb hby own_f33) rfl rfl k) ?_
    show Go p e below _ T7 (mkF m 22 #[.val (.ref a1), .val (.ref a2)] [(.ref a2)])
    obtain ⟨T9, X9, e9, st9⟩ := castY X7 hx hZ hown (hw _ (List.mem_of_getElem? (i := 25) rfl)) e7 (Ins.self E_a2) (g := (mkF m 22 #[.val (.ref a1), .val (.ref a2)] [(.ref a2)])) rfl rfl (hb hby own_f34)
    refine Go.step st9 ?_
    show Go p e below _ T9 (mkF m 25 #[.val (.ref a1), .val (.ref a2)] [(.ref a2)])
    obtain ⟨T10, X10, e10, st10⟩ := getF X9 hx hZ hown (host := "") (Or.inl (hw _ (List.mem_of_getElem? (i := 18) rfl))) Via.refl e9 F_to_a2 (g := (mkF m 25 #[.val (.ref a1), .val (.ref a2)] [(.ref a2)])) rfl rfl (hb hby own_f35)
    refine Go.step st10 ?_
    show Go p e below _ T10 (mkF m 28 #[.val (.ref a1), .val (.ref a2)] [(.int p4)])
    refine Go.step (fun _ k => XS.aloadN X10.here hx rfl (hb hby own_f36) rfl rfl k) ?_
    show Go p e below _ T10 (mkF m 29 #[.val (.ref a1), .val (.ref a2)] [(.ref a1), (.int p4)])
    obtain ⟨T11, X11, e11, st11⟩ := getF X10 hx hZ hown (host := "") (Or.inl (hw _ (List.mem_of_getElem? (i := 18) rfl))) Via.refl e10 F_to_a1 (g := (mkF m 29 #[.val (.ref a1), .val (.ref a2)] [(.ref a1), (.int p4)])) rfl rfl (hb hby own_f37)
    refine Go.step st11 ?_
    show Go p e below _ T11 (mkF m 32 #[.val (.ref a1), .val (.ref a2)] [(.int p2), (.int p4)])
    by_cases hc32_12 : p4 = p2
    · show Go p e below _ T11 (mkF m 32 #[.val (.ref a1), .val (.ref a2)] [(.int p2), (.int p4)])
      refine Go.step (fun _ k => XS.icmpNo X11.here hx rfl (hb hby own_f38) rfl (teq hc32_12).2 k) ?_
      show Go p e below _ T11 (mkF m 35 #[.val (.ref a1), .val (.ref a2)] [])
      refine Go.step (fun _ k => XS.iconst X11.here hx rfl (hb hby own_f39) k) ?_
      show Go p e below _ T11 (mkF m 36 #[.val (.ref a1), .val (.ref a2)] [(.int (1 : Int32))])
      refine Go.step (fun _ k => XS.goto X11.here hx rfl (pc0 := 36) (pc' := 40) rfl (hb hby own_f40) (by decide) (by decide) k) ?_
      show Go p e below _ T11 (mkF m 40 #[.val (.ref a1), .val (.ref a2)] [(.int (1 : Int32))])
      have er : (own_eq p1 p2 p3 p4) = (1 : Int32) := by simp [own_eq, hc18_8, hc32_12]
      obtain ⟨fs, hr, hrun, hended, hW, hsame⟩ := X11.leave (v := some (.int (1 : Int32))) (fun h => by rw [Bd.returns] at h; cases h)
      refine Go.fin (retN X11 hx (t := .boolean) Bd.returns (by simp) (hb hby own_f41) hr) hrun hended ?_
      refine ⟨_, _, rfl, ?_, ⟨_, rfl⟩, hW, hsame.mono (by decide) (by decide)⟩
      show QE Z a1 a2 p1 p2 p3 p4 h0 n0 _ T11.heap _
      rw [e11]
      exact ⟨by rw [er], N0, rfl⟩
    · show Go p e below _ T11 (mkF m 32 #[.val (.ref a1), .val (.ref a2)] [(.int p2), (.int p4)])
      refine Go.step (fun _ k => XS.icmpYes X11.here hx rfl (pc0 := 32) (pc' := 39) rfl (hb hby own_f38) rfl (feq hc32_12).2 (by decide) (by decide) k) ?_
      show Go p e below _ T11 (mkF m 39 #[.val (.ref a1), .val (.ref a2)] [])
      refine Go.step (fun _ k => XS.iconst X11.here hx rfl (hb hby own_f42) k) ?_
      show Go p e below _ T11 (mkF m 40 #[.val (.ref a1), .val (.ref a2)] [(.int (0 : Int32))])
      have er : (own_eq p1 p2 p3 p4) = (0 : Int32) := by simp [own_eq, hc18_8, hc32_12]
      obtain ⟨fs, hr, hrun, hended, hW, hsame⟩ := X11.leave (v := some (.int (0 : Int32))) (fun h => by rw [Bd.returns] at h; cases h)
      refine Go.fin (retN X11 hx (t := .boolean) Bd.returns (by simp) (hb hby own_f41) hr) hrun hended ?_
      refine ⟨_, _, rfl, ?_, ⟨_, rfl⟩, hW, hsame.mono (by decide) (by decide)⟩
      show QE Z a1 a2 p1 p2 p3 p4 h0 n0 _ T11.heap _
      rw [e11]
      exact ⟨by rw [er], N0, rfl⟩
  · show Go p e below _ T7 (mkF m 18 #[.val (.ref a1), .val (.ref a2)] [(.int p1), (.int p3)])
    refine Go.step (fun _ k => XS.icmpYes X7.here hx rfl (pc0 := 18) (pc' := 39) rfl (hb hby own_f32) rfl (feq hc18_8).2 (by decide) (by decide) k) ?_
    show Go p e below _ T7 (mkF m 39 #[.val (.ref a1), .val (.ref a2)] [])
    refine Go.step (fun _ k => XS.iconst X7.here hx rfl (hb hby own_f42) k) ?_
    show Go p e below _ T7 (mkF m 40 #[.val (.ref a1), .val (.ref a2)] [(.int (0 : Int32))])
    have er : (own_eq p1 p2 p3 p4) = (0 : Int32) := by simp [own_eq, hc18_8]
    obtain ⟨fs, hr, hrun, hended, hW, hsame⟩ := X7.leave (v := some (.int (0 : Int32))) (fun h => by rw [Bd.returns] at h; cases h)
    refine Go.fin (retN X7 hx (t := .boolean) Bd.returns (by simp) (hb hby own_f41) hr) hrun hended ?_
    refine ⟨_, _, rfl, ?_, ⟨_, rfl⟩, hW, hsame.mono (by decide) (by decide)⟩
    show QE Z a1 a2 p1 p2 p3 p4 h0 n0 _ T7.heap _
    rw [e7]
    exact ⟨by rw [er], N0, rfl⟩
theorem own_ef_En (m : MethodId) (a1 : Addr) : entryFrame m #[(.ref a1), .null] 2 = mkF m 0 #[.val (.ref a1), .val .null] [] := by first | (simp [entryFrame, mkF, argsToLocals, Value.category]; done) | rfl
def QEn (Z : State) (a1 : Addr) (h0 : Heap) (n0 : Nat) (v : Option Value) (h : Heap) (L : List Loc) : Prop := v = some (.int (0 : Int32)) ∧ Fr n0 L ∧ h = h0
set_option maxRecDepth 65536 in
set_option maxHeartbeats 40000000 in
theorem rmEn (l : Launch) (Z : State) (a0 : Array Value) (hw : ∀ d ∈ tables_1, d.before a0 Z = true) (ws : List Jvm.Cond) (a1 : Addr) (h0 : Heap) (n0 : Nat) (Z0 : n0 ≤ h0.size)  :
    MetFree l (⟨"com/example/vigilant_crawler/vigilantcrawler/model/WordSpan", "equals", "(Ljava/lang/Object;)Z"⟩ : MethodName) (head1 (Jvm.Cond.code (⟨"com/example/vigilant_crawler/vigilantcrawler/model/WordSpan", "equals", "(Ljava/lang/Object;)Z"⟩ : MethodName) prog_26_method_5_code 2 (some .boolean) :: ws) ({ frames := 0, cells := 0, slots := 0, locals := 0 } : Room)) (fun a U => a = #[(.ref a1), .null] ∧ Z.Warmed39 U.vm ∧ U.heap = h0) (fun _ _ _ _ _ => True) (fun _ U o U' => ∃ v L, o = .returned v ∧ QEn Z a1 h0 n0 v U'.heap L ∧ FrameEnd U o U' L ({ frames := 0, cells := 0, slots := 0, locals := 0 } : Room).cells ({ frames := 0, cells := 0, slots := 0, locals := 0 } : Room).slots) := by
  refine MetFree.of_bodySF (plainFor_of_name own_f23) hisR ?_
  intro p e s m args below meth c s₁ Bd hml0 hP hK
  obtain ⟨rfl, hZ, hh⟩ := hP
  have hx := Bd.exec
  have hby := Bd.bytes
  have hml : c.maxLocals = 2 := hml0
  have hown : s.vm.findClass "com/example/vigilant_crawler/vigilantcrawler/model/WordSpan" = some m.cls := findClass_of_methodNamed Bd.named
  have hnm := (name_of_methodNamed Bd.named Bd.method).1
  have X0 : Stand p l e ({ frames := 0, cells := 0, slots := 0, locals := 0 } : Room) s m #[(.ref a1), .null] below meth c s₁ [] 0 0 := Stand.of_body Bd
  have e0 : s₁.heap = h0 := by rw [← hh, Bd.state]; rfl
  have N0 := Fr.nil n0
  refine Go.start (own_ef_En m a1) ?_
  show Go p e below _ s₁ (mkF m 0 #[.val (.ref a1), .val .null] [])
  refine Go.step (fun _ k => XS.aloadN X0.here hx rfl (hb hby own_f24) rfl rfl k) ?_
  show Go p e below _ s₁ (mkF m 1 #[.val (.ref a1), .val .null] [.null])
  refine Go.step (X0.instanceofNull hx (g := (mkF m 1 #[.val (.ref a1), .val .null] [.null])) rfl rfl (hb hby own_f25)) ?_
  show Go p e below _ s₁ (mkF m 4 #[.val (.ref a1), .val .null] [(.int (0 : Int32))])
  refine Go.step (fun _ k => XS.ifYes X0.here hx rfl (pc0 := 4) (pc' := 39) rfl (hb hby own_f26) rfl ((if0 _ _).trans (teq rfl).1) (by decide) (by decide) k) ?_
  show Go p e below _ s₁ (mkF m 39 #[.val (.ref a1), .val .null] [])
  refine Go.step (fun _ k => XS.iconst X0.here hx rfl (hb hby own_f42) k) ?_
  show Go p e below _ s₁ (mkF m 40 #[.val (.ref a1), .val .null] [(.int (0 : Int32))])
  obtain ⟨fs, hr, hrun, hended, hW, hsame⟩ := X0.leave (v := some (.int (0 : Int32))) (fun h => by rw [Bd.returns] at h; cases h)
  refine Go.fin (retN X0 hx (t := .boolean) Bd.returns (by simp) (hb hby own_f41) hr) hrun hended ?_
  refine ⟨_, _, rfl, ?_, ⟨_, rfl⟩, hW, hsame.mono (by decide) (by decide)⟩
  show QEn Z a1 h0 n0 _ s₁.heap _
  rw [e0]
  exact ⟨rfl, N0, rfl⟩
theorem own_ef_Ef (m : MethodId) (a1 : Addr) (a2 : Addr) : entryFrame m #[(.ref a1), (.ref a2)] 2 = mkF m 0 #[.val (.ref a1), .val (.ref a2)] [] := by first | (simp [entryFrame, mkF, argsToLocals, Value.category]; done) | rfl
def QEf (Z : State) (a1 : Addr) (a2 : Addr) (CN : String) (h0 : Heap) (n0 : Nat) (v : Option Value) (h : Heap) (L : List Loc) : Prop := v = some (.int (0 : Int32)) ∧ Fr n0 L ∧ h = h0
set_option maxRecDepth 65536 in
set_option maxHeartbeats 40000000 in
theorem rmEf (l : Launch) (Z : State) (a0 : Array Value) (hw : ∀ d ∈ tables_1, d.before a0 Z = true) (ws : List Jvm.Cond) (a1 : Addr) (a2 : Addr) (CN : String) (h0 : Heap) (n0 : Nat) (Z0 : n0 ≤ h0.size) (E_a2 : Exa Z h0 a2 CN) (hno : own_no Z CN "com/example/vigilant_crawler/vigilantcrawler/model/WordSpan") :
    MetFree l (⟨"com/example/vigilant_crawler/vigilantcrawler/model/WordSpan", "equals", "(Ljava/lang/Object;)Z"⟩ : MethodName) (head1 (Jvm.Cond.code (⟨"com/example/vigilant_crawler/vigilantcrawler/model/WordSpan", "equals", "(Ljava/lang/Object;)Z"⟩ : MethodName) prog_26_method_5_code 2 (some .boolean) :: ws) ({ frames := 0, cells := 0, slots := 0, locals := 0 } : Room)) (fun a U => a = #[(.ref a1), (.ref a2)] ∧ Z.Warmed39 U.vm ∧ U.heap = h0) (fun _ _ _ _ _ => True) (fun _ U o U' => ∃ v L, o = .returned v ∧ QEf Z a1 a2 CN h0 n0 v U'.heap L ∧ FrameEnd U o U' L ({ frames := 0, cells := 0, slots := 0, locals := 0 } : Room).cells ({ frames := 0, cells := 0, slots := 0, locals := 0 } : Room).slots) := by
  refine MetFree.of_bodySF (plainFor_of_name own_f23) hisR ?_
  intro p e s m args below meth c s₁ Bd hml0 hP hK
  obtain ⟨rfl, hZ, hh⟩ := hP
  have hx := Bd.exec
  have hby := Bd.bytes
  have hml : c.maxLocals = 2 := hml0
  have hown : s.vm.findClass "com/example/vigilant_crawler/vigilantcrawler/model/WordSpan" = some m.cls := findClass_of_methodNamed Bd.named
  have hnm := (name_of_methodNamed Bd.named Bd.method).1
  have X0 : Stand p l e ({ frames := 0, cells := 0, slots := 0, locals := 0 } : Room) s m #[(.ref a1), (.ref a2)] below meth c s₁ [] 0 0 := Stand.of_body Bd
  have e0 : s₁.heap = h0 := by rw [← hh, Bd.state]; rfl
  have N0 := Fr.nil n0
  refine Go.start (own_ef_Ef m a1 a2) ?_
  show Go p e below _ s₁ (mkF m 0 #[.val (.ref a1), .val (.ref a2)] [])
  refine Go.step (fun _ k => XS.aloadN X0.here hx rfl (hb hby own_f24) rfl rfl k) ?_
  show Go p e below _ s₁ (mkF m 1 #[.val (.ref a1), .val (.ref a2)] [(.ref a2)])
  obtain ⟨T14, X14, e14, st14⟩ := instNo X0 hx hZ hown (hw _ (List.mem_of_getElem? (i := 25) rfl)) e0 E_a2 hno (g := (mkF m 1 #[.val (.ref a1), .val (.ref a2)] [(.ref a2)])) rfl rfl (hb hby own_f25)
  refine Go.step st14 ?_
  show Go p e below _ T14 (mkF m 4 #[.val (.ref a1), .val (.ref a2)] [(.int (0 : Int32))])
  refine Go.step (fun _ k => XS.ifYes X14.here hx rfl (pc0 := 4) (pc' := 39) rfl (hb hby own_f26) rfl ((if0 _ _).trans (teq rfl).1) (by decide) (by decide) k) ?_
  show Go p e below _ T14 (mkF m 39 #[.val (.ref a1), .val (.ref a2)] [])
  refine Go.step (fun _ k => XS.iconst X14.here hx rfl (hb hby own_f42) k) ?_
  show Go p e below _ T14 (mkF m 40 #[.val (.ref a1), .val (.ref a2)] [(.int (0 : Int32))])
  obtain ⟨fs, hr, hrun, hended, hW, hsame⟩ := X14.leave (v := some (.int (0 : Int32))) (fun h => by rw [Bd.returns] at h; cases h)
  refine Go.fin (retN X14 hx (t := .boolean) Bd.returns (by simp) (hb hby own_f41) hr) hrun hended ?_
  refine ⟨_, _, rfl, ?_, ⟨_, rfl⟩, hW, hsame.mono (by decide) (by decide)⟩
  show QEf Z a1 a2 CN h0 n0 _ T14.heap _
  rw [e14]
  exact ⟨rfl, N0, rfl⟩
theorem own_f43 : decode jdk_43_method_3_code 0 = .ok (.iload_n 0, 1) := by decide +kernel
theorem own_f44 : decode jdk_43_method_3_code 1 = .ok (.sipush 255, 3) := by decide +kernel
theorem own_f45 : decode jdk_43_method_3_code 4 = .ok (.if_icmp .gt 7, 3) := by decide +kernel
theorem own_f46 : decode jdk_43_method_3_code 7 = .ok (.iconst 1, 1) := by decide +kernel
theorem own_f47 : decode jdk_43_method_3_code 8 = .ok (.goto 4, 3) := by decide +kernel
theorem own_f48 : decode jdk_43_method_3_code 12 = .ok (.ireturn, 1) := by decide +kernel
theorem own_f49 : plainName "java/lang/StringLatin1" = true := by first | (simp [plainName, overriddenIn]; done) | decide +kernel
theorem own_ef_CE (m : MethodId) (p1 : Int32) : entryFrame m #[(.int p1)] 1 = mkF m 0 #[.val (.int p1)] [] := by first | (simp [entryFrame, mkF, argsToLocals, Value.category]; done) | rfl
def QCE (Z : State) (p1 : Int32) (h0 : Heap) (n0 : Nat) (v : Option Value) (h : Heap) (L : List Loc) : Prop := v = some (.int (1 : Int32)) ∧ Fr n0 L ∧ h = h0
set_option maxRecDepth 65536 in
set_option maxHeartbeats 40000000 in
theorem rmCE (l : Launch) (Z : State) (a0 : Array Value) (hw : ∀ d ∈ tables_1, d.before a0 Z = true) (ws : List Jvm.Cond) (p1 : Int32) (h0 : Heap) (n0 : Nat) (Z0 : n0 ≤ h0.size) (hp : ¬ (255 : Int32) < p1) :
    MetFree l (⟨"java/lang/StringLatin1", "canEncode", "(C)Z"⟩ : MethodName) (head1 (Jvm.Cond.code (⟨"java/lang/StringLatin1", "canEncode", "(C)Z"⟩ : MethodName) jdk_43_method_3_code 1 (some .boolean) :: ws) ({ frames := 0, cells := 0, slots := 0, locals := 0 } : Room)) (fun a U => a = #[(.int p1)] ∧ Z.Warmed39 U.vm ∧ U.heap = h0) (fun _ _ _ _ _ => True) (fun _ U o U' => ∃ v L, o = .returned v ∧ QCE Z p1 h0 n0 v U'.heap L ∧ FrameEnd U o U' L ({ frames := 0, cells := 0, slots := 0, locals := 0 } : Room).cells ({ frames := 0, cells := 0, slots := 0, locals := 0 } : Room).slots) := by
  refine MetFree.of_bodySF (plainFor_of_name own_f49) hisR ?_
  intro p e s m args below meth c s₁ Bd hml0 hP hK
  obtain ⟨rfl, hZ, hh⟩ := hP
  have hx := Bd.exec
  have hby := Bd.bytes
  have hml : c.maxLocals = 1 := hml0
  have hown : s.vm.findClass "java/lang/StringLatin1" = some m.cls := findClass_of_methodNamed Bd.named
  have hnm := (name_of_methodNamed Bd.named Bd.method).1
  have X0 : Stand p l e ({ frames := 0, cells := 0, slots := 0, locals := 0 } : Room) s m #[(.int p1)] below meth c s₁ [] 0 0 := Stand.of_body Bd
  have e0 : s₁.heap = h0 := by rw [← hh, Bd.state]; rfl
  have N0 := Fr.nil n0
  refine Go.start (own_ef_CE m p1) ?_
  show Go p e below _ s₁ (mkF m 0 #[.val (.int p1)] [])
  refine Go.step (fun _ k => XS.iloadN X0.here hx rfl (hb hby own_f43) rfl k) ?_
  show Go p e below _ s₁ (mkF m 1 #[.val (.int p1)] [(.int p1)])
  refine Go.step (fun _ k => XS.sipush X0.here hx rfl (hb hby own_f44) k) ?_
  show Go p e below _ s₁ (mkF m 4 #[.val (.int p1)] [(.int (255 : Int32)), (.int p1)])
  refine Go.step (fun _ k => XS.icmpNo X0.here hx rfl (hb hby own_f45) rfl (flt hp).2.2.1 k) ?_
  show Go p e below _ s₁ (mkF m 7 #[.val (.int p1)] [])
  refine Go.step (fun _ k => XS.iconst X0.here hx rfl (hb hby own_f46) k) ?_
  show Go p e below _ s₁ (mkF m 8 #[.val (.int p1)] [(.int (1 : Int32))])
  refine Go.step (fun _ k => XS.goto X0.here hx rfl (pc0 := 8) (pc' := 12) rfl (hb hby own_f47) (by decide) (by decide) k) ?_
  show Go p e below _ s₁ (mkF m 12 #[.val (.int p1)] [(.int (1 : Int32))])
  obtain ⟨fs, hr, hrun, hended, hW, hsame⟩ := X0.leave (v := some (.int (1 : Int32))) (fun h => by rw [Bd.returns] at h; cases h)
  refine Go.fin (retN X0 hx (t := .boolean) Bd.returns (by simp) (hb hby own_f48) hr) hrun hended ?_
  refine ⟨_, _, rfl, ?_, ⟨_, rfl⟩, hW, hsame.mono (by decide) (by decide)⟩
  show QCE Z p1 h0 n0 _ s₁.heap _
  rw [e0]
  exact ⟨rfl, N0, rfl⟩
theorem own_f50 : decode jdk_43_method_46_code 0 = .ok (.iconst 1, 1) := by decide +kernel
theorem own_f51 : decode jdk_43_method_46_code 1 = .ok (.newarray .byte, 2) := by decide +kernel
theorem own_f52 : decode jdk_43_method_46_code 3 = .ok (.dup, 1) := by decide +kernel
theorem own_f53 : decode jdk_43_method_46_code 4 = .ok (.iconst 0, 1) := by decide +kernel
theorem own_f54 : decode jdk_43_method_46_code 5 = .ok (.iload_n 0, 1) := by decide +kernel
theorem own_f55 : decode jdk_43_method_46_code 6 = .ok (.i2b, 1) := by decide +kernel
theorem own_f56 : decode jdk_43_method_46_code 7 = .ok (.bastore, 1) := by decide +kernel
theorem own_f57 : decode jdk_43_method_46_code 8 = .ok (.areturn, 1) := by decide +kernel
theorem own_ef_TB (m : MethodId) (p1 : Int32) : entryFrame m #[(.int p1)] 1 = mkF m 0 #[.val (.int p1)] [] := by first | (simp [entryFrame, mkF, argsToLocals, Value.category]; done) | rfl
def QTB (Z : State) (p1 : Int32) (h0 : Heap) (n0 : Nat) (v : Option Value) (h : Heap) (L : List Loc) : Prop := ∃ bT : Addr, v = some (.ref bT) ∧ Fr n0 L ∧ Keep h0 h []
set_option maxRecDepth 65536 in
set_option maxHeartbeats 40000000 in
theorem rmTB (l : Launch) (Z : State) (a0 : Array Value) (hw : ∀ d ∈ tables_1, d.before a0 Z = true) (ws : List Jvm.Cond) (p1 : Int32) (h0 : Heap) (n0 : Nat) (Z0 : n0 ≤ h0.size)  :
    MetFree l (⟨"java/lang/StringLatin1", "toBytes", "(C)[B"⟩ : MethodName) (head1 (Jvm.Cond.code (⟨"java/lang/StringLatin1", "toBytes", "(C)[B"⟩ : MethodName) jdk_43_method_46_code 1 (some (.array .byte)) :: ws) ({ frames := 0, cells := 1, slots := 1, locals := 0 } : Room)) (fun a U => a = #[(.int p1)] ∧ Z.Warmed39 U.vm ∧ U.heap = h0) (fun _ _ _ _ _ => True) (fun _ U o U' => ∃ v L, o = .returned v ∧ QTB Z p1 h0 n0 v U'.heap L ∧ FrameEnd U o U' L ({ frames := 0, cells := 1, slots := 1, locals := 0 } : Room).cells ({ frames := 0, cells := 1, slots := 1, locals := 0 } : Room).slots) := by
  refine MetFree.of_bodySF (plainFor_of_name own_f49) hisR ?_
  intro p e s m args below meth c s₁ Bd hml0 hP hK
  obtain ⟨rfl, hZ, hh⟩ := hP
  have hx := Bd.exec
  have hby := Bd.bytes
  have hml : c.maxLocals = 1 := hml0
  have hown : s.vm.findClass "java/lang/StringLatin1" = some m.cls := findClass_of_methodNamed Bd.named
  have hnm := (name_of_methodNamed Bd.named Bd.method).1
  have X0 : Stand p l e ({ frames := 0, cells := 1, slots := 1, locals := 0 } : Room) s m #[(.int p1)] below meth c s₁ [] 0 0 := Stand.of_body Bd
  have e0 : s₁.heap = h0 := by rw [← hh, Bd.state]; rfl
  have N0 := Fr.nil n0
  refine Go.start (own_ef_TB m p1) ?_
  show Go p e below _ s₁ (mkF m 0 #[.val (.int p1)] [])
  have Zn := Z0
  have K0 : Keep h0 h0 [] := Keep.refl h0 _
  refine Go.step (fun _ k => XS.iconst X0.here hx rfl (hb hby own_f50) k) ?_
  show Go p e below _ s₁ (mkF m 1 #[.val (.int p1)] [(.int (1 : Int32))])
  obtain ⟨T15, h15, k15, X15, e15, E15, A15, st15⟩ := newP X0 hx hZ (hw _ (List.mem_of_getElem? (i := 41) rfl)) e0 (g := (mkF m 1 #[.val (.int p1)] [(.int (1 : Int32))])) rfl (hb hby own_f51) rfl (by decide) (cap := 1) (by decide) (by decide) (by decide) (by decide)
  obtain ⟨bT, g15⟩ : ∃ z, z = h0.size := ⟨_, rfl⟩
  rw [← g15] at A15 st15
  have g_bT : n0 ≤ bT := Nat.le_trans Zn (Nat.le_of_eq g15.symm)
  have sz_bT : h0.size ≤ bT := Nat.le_trans K0.1 (Nat.le_of_eq g15.symm)
  replace Zn := Nat.le_trans Zn E15.1
  replace K0 := K0.ext E15
  have V_bT : Arv Z h15 bT k15 .byte (1 : Int32) [(.int (0 : Int32))] (.int (0 : Int32)) := (Arv.new A15 (by decide)).pad (pad_rep [] (.int (0 : Int32)) 1)
  refine Go.step st15 ?_
  show Go p e below _ T15 (mkF m 3 #[.val (.int p1)] [(.ref bT)])
  refine Go.step (fun _ k => XS.dup X15.here hx rfl (hb hby own_f52) rfl rfl k) ?_
  show Go p e below _ T15 (mkF m 4 #[.val (.int p1)] [(.ref bT), (.ref bT)])
  refine Go.step (fun _ k => XS.iconst X15.here hx rfl (hb hby own_f53) k) ?_
  show Go p e below _ T15 (mkF m 5 #[.val (.int p1)] [(.int (0 : Int32)), (.ref bT), (.ref bT)])
  refine Go.step (fun _ k => XS.iloadN X15.here hx rfl (hb hby own_f54) rfl k) ?_
  show Go p e below _ T15 (mkF m 6 #[.val (.int p1)] [(.int p1), (.int (0 : Int32)), (.ref bT), (.ref bT)])
  refine Go.step (fun _ k => XS.i2b X15.here hx rfl (hb hby own_f55) rfl k) ?_
  show Go p e below _ T15 (mkF m 7 #[.val (.int p1)] [(.int (p1.toInt8.toInt32)), (.int (0 : Int32)), (.ref bT), (.ref bT)])
  obtain ⟨cl16, Ar16, q16, S16, Nn16, H16, G16⟩ := V_bT
  have hin16 : ¬ ((0 : Int32) < 0 ∨ cl16.slots.size ≤ ((0 : Int32)).toNatClampNeg) := inb_of S16 ⟨by decide, by decide⟩
  obtain ⟨T16, h16, X16, e16, W16, st16⟩ := stB X15 hx hZ e15 Ar16 (j := (0 : Int32)) hin16 (g := (mkF m 7 #[.val (.int p1)] [(.int (p1.toInt8.toInt32)), (.int (0 : Int32)), (.ref bT), (.ref bT)])) rfl rfl (hb hby own_f56)
  replace K0 := K0.wr W16 (Or.inr sz_bT)
  replace Zn := Nat.le_trans Zn (Nat.le_of_eq W16.size.symm)
  have N16 := Fr.snoc X16 N0 g_bT
  refine Go.step st16 ?_
  show Go p e below _ T16 (mkF m 8 #[.val (.int p1)] [(.ref bT)])
  obtain ⟨fs, hr, hrun, hended, hW, hsame⟩ := X16.leave (v := some (.ref bT)) (fun h => by rw [Bd.returns] at h; cases h)
  refine Go.fin (own_retA X16 hx rfl Bd.returns rfl (hb hby own_f57) hr) hrun hended ?_
  refine ⟨_, _, rfl, ?_, ⟨_, rfl⟩, hW, hsame.mono (by decide) (by decide)⟩
  show QTB Z p1 h0 n0 _ T16.heap _
  rw [e16]
  exact ⟨_, rfl, N16, K0⟩
theorem own_f58 : decode jdk_42_method_151_code 0 = .ok (.aload_n 0, 1) := by decide +kernel
theorem own_f59 : decode jdk_42_method_151_code 1 = .ok (.invokespecial 1, 3) := by decide +kernel
theorem own_f60 : decode jdk_42_method_151_code 4 = .ok (.aload_n 0, 1) := by decide +kernel
theorem own_f61 : decode jdk_42_method_151_code 5 = .ok (.aload_n 1, 1) := by decide +kernel
theorem own_f62 : decode jdk_42_method_151_code 6 = .ok (.putfield 9, 3) := by decide +kernel
theorem own_f63 : decode jdk_42_method_151_code 9 = .ok (.aload_n 0, 1) := by decide +kernel
theorem own_f64 : decode jdk_42_method_151_code 10 = .ok (.iload_n 2, 1) := by decide +kernel
theorem own_f65 : decode jdk_42_method_151_code 11 = .ok (.putfield 15, 3) := by decide +kernel
theorem own_f66 : decode jdk_42_method_151_code 14 = .ok (.return_, 1) := by decide +kernel
theorem own_f67 : plainName "java/lang/String" = true := by first | (simp [plainName, overriddenIn]; done) | decide +kernel
theorem own_ef_SI (m : MethodId) (a1 : Addr) (a2 : Addr) (p3 : Int32) : entryFrame m #[(.ref a1), (.ref a2), (.int p3)] 3 = mkF m 0 #[.val (.ref a1), .val (.ref a2), .val (.int p3)] [] := by first | (simp [entryFrame, mkF, argsToLocals, Value.category]; done) | rfl
def QSI (Z : State) (a1 : Addr) (a2 : Addr) (p3 : Int32) (h0 : Heap) (n0 : Nat) (v : Option Value) (h : Heap) (L : List Loc) : Prop := v = none ∧ Fr n0 L ∧ Keep h0 h [a1]
set_option maxRecDepth 65536 in
set_option maxHeartbeats 40000000 in
theorem rmSI (l : Launch) (Z : State) (a0 : Array Value) (hw : ∀ d ∈ tables_1, d.before a0 Z = true) (ws : List Jvm.Cond) (a1 : Addr) (a2 : Addr) (p3 : Int32) (h0 : Heap) (n0 : Nat) (Z0 : n0 ≤ h0.size) (E_a1 : Exa Z h0 a1 "java/lang/String") (F_value_a1 : Fld Z h0 a1 "java/lang/String" "value" "[B" .null) (F_coder_a1 : Fld Z h0 a1 "java/lang/String" "coder" "B" (.int (0 : Int32))) (g_a1 : n0 ≤ a1) :
    MetFree l (⟨"java/lang/String", "<init>", "([BB)V"⟩ : MethodName) (head1 (Jvm.Cond.code (⟨"java/lang/String", "<init>", "([BB)V"⟩ : MethodName) jdk_42_method_151_code 3 none :: ws) ({ frames := 1, cells := 0, slots := 0, locals := 12 } : Room)) (fun a U => a = #[(.ref a1), (.ref a2), (.int p3)] ∧ Z.Warmed39 U.vm ∧ U.heap = h0) (fun _ _ _ _ _ => True) (fun _ U o U' => ∃ v L, o = .returned v ∧ QSI Z a1 a2 p3 h0 n0 v U'.heap L ∧ FrameEnd U o U' L ({ frames := 1, cells := 0, slots := 0, locals := 12 } : Room).cells ({ frames := 1, cells := 0, slots := 0, locals := 12 } : Room).slots) := by
  refine MetFree.of_bodySF (plainFor_of_name own_f67) hisR ?_
  intro p e s m args below meth c s₁ Bd hml0 hP hK
  obtain ⟨rfl, hZ, hh⟩ := hP
  have hx := Bd.exec
  have hby := Bd.bytes
  have hml : c.maxLocals = 3 := hml0
  have hown : s.vm.findClass "java/lang/String" = some m.cls := findClass_of_methodNamed Bd.named
  have hnm := (name_of_methodNamed Bd.named Bd.method).1
  have X0 : Stand p l e ({ frames := 1, cells := 0, slots := 0, locals := 12 } : Room) s m #[(.ref a1), (.ref a2), (.int p3)] below meth c s₁ [] 0 0 := Stand.of_body Bd
  have e0 : s₁.heap = h0 := by rw [← hh, Bd.state]; rfl
  have N0 := Fr.nil n0
  refine Go.start (own_ef_SI m a1 a2 p3) ?_
  show Go p e below _ s₁ (mkF m 0 #[.val (.ref a1), .val (.ref a2), .val (.int p3)] [])
  have Zn := Z0
  have K0 : Keep h0 h0 [a1] := Keep.refl h0 _
  refine Go.step (fun _ k => XS.aloadN X0.here hx rfl (hb hby own_f58) rfl rfl k) ?_
  show Go p e below _ s₁ (mkF m 1 #[.val (.ref a1), .val (.ref a2), .val (.int p3)] [(.ref a1)])
  obtain ⟨T17, X17, e17, st17⟩ := initO X0 hx hZ hown (hw _ (List.mem_of_getElem? (i := 46) rfl)) (hw _ (List.mem_of_getElem? (i := 14) rfl)) (hw _ (List.mem_of_getElem? (i := 15) rfl)) e0 (g := (mkF m 1 #[.val (.ref a1), .val (.ref a2), .val (.int p3)] [(.ref a1)])) rfl (by rw [hml]; rfl) rfl (hb hby own_f59) (by decide) (W := 0) (by show 2 * 0 + _ ≤ _; exact Nat.le_of_eq rfl) (by decide)
  refine Go.step st17 ?_
  show Go p e below _ T17 (mkF m 4 #[.val (.ref a1), .val (.ref a2), .val (.int p3)] [])
  refine Go.step (fun _ k => XS.aloadN X17.here hx rfl (hb hby own_f60) rfl rfl k) ?_
  show Go p e below _ T17 (mkF m 5 #[.val (.ref a1), .val (.ref a2), .val (.int p3)] [(.ref a1)])
  refine Go.step (fun _ k => XS.aloadN X17.here hx rfl (hb hby own_f61) rfl rfl k) ?_
  show Go p e below _ T17 (mkF m 6 #[.val (.ref a1), .val (.ref a2), .val (.int p3)] [(.ref a2), (.ref a1)])
  obtain ⟨T18, h18, X18, e18, W18, st18⟩ := putF X17 hx hZ hown (host := "") (Or.inl (hw _ (List.mem_of_getElem? (i := 47) rfl))) Via.refl e17 F_value_a1 E_a1 (Or.inr ⟨(hw _ (List.mem_of_getElem? (i := 48) rfl)), rfl, hnm⟩) (hw _ (List.mem_of_getElem? (i := 37) rfl)) (ty := (.array .byte)) (by decide) rfl rfl (g := (mkF m 6 #[.val (.ref a1), .val (.ref a2), .val (.int p3)] [(.ref a2), (.ref a1)])) rfl rfl (hb hby own_f62)
  have Fw18 := F_value_a1.same W18
  replace E_a1 := E_a1.wr W18
  replace F_coder_a1 := F_coder_a1.other W18 (Or.inr (slot_ne (Or.inr (hw _ (List.mem_of_getElem? (i := 50) rfl))) (Or.inr (hw _ (List.mem_of_getElem? (i := 48) rfl))) (by decide) (t := .byte) (t' := (.array .byte)) (by decide) (by decide)))
  replace F_value_a1 := Fw18
  replace K0 := K0.wr W18 (Or.inl (List.mem_of_getElem? (i := 0) rfl))
  replace Zn := Nat.le_trans Zn (Nat.le_of_eq W18.size.symm)
  have N18 := Fr.snoc X18 N0 g_a1
  refine Go.step st18 ?_
  show Go p e below _ T18 (mkF m 9 #[.val (.ref a1), .val (.ref a2), .val (.int p3)] [])
  refine Go.step (fun _ k => XS.aloadN X18.here hx rfl (hb hby own_f63) rfl rfl k) ?_
  show Go p e below _ T18 (mkF m 10 #[.val (.ref a1), .val (.ref a2), .val (.int p3)] [(.ref a1)])
  refine Go.step (fun _ k => XS.iloadN X18.here hx rfl (hb hby own_f64) rfl k) ?_
  show Go p e below _ T18 (mkF m 11 #[.val (.ref a1), .val (.ref a2), .val (.int p3)] [(.int p3), (.ref a1)])
  obtain ⟨T19, h19, X19, e19, W19, st19⟩ := putFN X18 hx hZ hown (hw _ (List.mem_of_getElem? (i := 49) rfl)) Via.refl e18 F_coder_a1 E_a1 (Or.inr ⟨(hw _ (List.mem_of_getElem? (i := 50) rfl)), rfl, hnm⟩) (hw _ (List.mem_of_getElem? (i := 37) rfl)) (ty := .byte) (v' := (.int (p3.toInt8.toInt32))) (by decide) rfl (Jvm.Stand.fits_byte_narrow _) (g := (mkF m 11 #[.val (.ref a1), .val (.ref a2), .val (.int p3)] [(.int p3), (.ref a1)])) rfl rfl (hb hby own_f65)
  have Fw19 := F_coder_a1.same W19
  replace E_a1 := E_a1.wr W19
  replace F_value_a1 := F_value_a1.other W19 (Or.inr (slot_ne (Or.inr (hw _ (List.mem_of_getElem? (i := 48) rfl))) (Or.inr (hw _ (List.mem_of_getElem? (i := 50) rfl))) (by decide) (t := (.array .byte)) (t' := .byte) (by decide) (by decide)))
  replace F_coder_a1 := Fw19
  replace K0 := K0.wr W19 (Or.inl (List.mem_of_getElem? (i := 0) rfl))
  replace Zn := Nat.le_trans Zn (Nat.le_of_eq W19.size.symm)
  have N19 := Fr.snoc X19 N18 g_a1
  refine Go.step st19 ?_
  show Go p e below _ T19 (mkF m 14 #[.val (.ref a1), .val (.ref a2), .val (.int p3)] [])
  obtain ⟨fs, hr, hrun, hended, hW, hsame⟩ := X19.leave (v := none) (fun _ => rfl)
  refine Go.fin (X19.returnOut hx Bd.returns (hb hby own_f66) hr) hrun hended ?_
  refine ⟨_, _, rfl, ?_, ⟨_, rfl⟩, hW, hsame.mono (by decide) (by decide)⟩
  show QSI Z a1 a2 p3 h0 n0 _ T19.heap _
  rw [e19]
  exact ⟨rfl, N19, K0⟩
theorem own_f68 : decode jdk_42_method_139_code 0 = .ok (.getstatic 38, 3) := by decide +kernel
theorem own_f69 : decode jdk_42_method_139_code 3 = .ok (.ifCond .eq 23, 3) := by decide +kernel
theorem own_f70 : decode jdk_42_method_139_code 6 = .ok (.iload_n 0, 1) := by decide +kernel
theorem own_f71 : parseMethodDescriptor "(C)Z" = some ⟨[.char], some .boolean⟩ := by decide +kernel
theorem own_f72 : decode jdk_42_method_139_code 7 = .ok (.invokestatic 1015, 3) := by decide +kernel
theorem own_f73 : decode jdk_42_method_139_code 10 = .ok (.ifCond .eq 16, 3) := by decide +kernel
theorem own_f74 : decode jdk_42_method_139_code 13 = .ok (.new 10, 3) := by decide +kernel
theorem own_f75 : decode jdk_42_method_139_code 16 = .ok (.dup, 1) := by decide +kernel
theorem own_f76 : decode jdk_42_method_139_code 17 = .ok (.iload_n 0, 1) := by decide +kernel
theorem own_f77 : parseMethodDescriptor "(C)[B" = some ⟨[.char], some (.array .byte)⟩ := by decide +kernel
theorem own_f78 : decode jdk_42_method_139_code 18 = .ok (.invokestatic 1018, 3) := by decide +kernel
theorem own_f79 : decode jdk_42_method_139_code 21 = .ok (.iconst 0, 1) := by decide +kernel
theorem own_f80 : parseMethodDescriptor "([BB)V" = some ⟨[(.array .byte), .byte], none⟩ := by decide +kernel
theorem own_f81 : decode jdk_42_method_139_code 22 = .ok (.invokespecial 209, 3) := by decide +kernel
theorem own_f82 : decode jdk_42_method_139_code 25 = .ok (.areturn, 1) := by decide +kernel
theorem own_ef_SV (m : MethodId) (p1 : Int32) : entryFrame m #[(.int p1)] 1 = mkF m 0 #[.val (.int p1)] [] := by first | (simp [entryFrame, mkF, argsToLocals, Value.category]; done) | rfl
def QSV (Z : State) (p1 : Int32) (kc : Int32) (h0 : Heap) (n0 : Nat) (v : Option Value) (h : Heap) (L : List Loc) : Prop := ∃ sb : Addr, v = some (.ref sb) ∧ Fr n0 L ∧ Keep h0 h [] ∧ Exa Z h sb "java/lang/String"
set_option maxRecDepth 65536 in
set_option maxHeartbeats 40000000 in
theorem rmSV (l : Launch) (Z : State) (a0 : Array Value) (hw : ∀ d ∈ tables_1, d.before a0 Z = true) (ws : List Jvm.Cond) (p1 : Int32) (kc : Int32) (h0 : Heap) (n0 : Nat) (Z0 : n0 ≤ h0.size) (S_COMPACT_STRINGS : Sta Z h0 "java/lang/String" "COMPACT_STRINGS" "Z" (.int kc)) (hkc : ¬ kc = (0 : Int32)) (hp : ¬ (255 : Int32) < p1) :
    MetFree l (⟨"java/lang/String", "valueOf", "(C)Ljava/lang/String;"⟩ : MethodName) (head1 (Jvm.Cond.code (⟨"java/lang/String", "valueOf", "(C)Ljava/lang/String;"⟩ : MethodName) jdk_42_method_139_code 1 (some (.object "java/lang/String")) :: ws) ({ frames := 2, cells := 2, slots := 5, locals := 60 } : Room)) (fun a U => a = #[(.int p1)] ∧ Z.Warmed39 U.vm ∧ U.heap = h0) (fun _ _ _ _ _ => True) (fun _ U o U' => ∃ v L, o = .returned v ∧ QSV Z p1 kc h0 n0 v U'.heap L ∧ FrameEnd U o U' L ({ frames := 2, cells := 2, slots := 5, locals := 60 } : Room).cells ({ frames := 2, cells := 2, slots := 5, locals := 60 } : Room).slots) := by
  refine MetFree.of_bodySF (plainFor_of_name own_f67) hisR ?_
  intro p e s m args below meth c s₁ Bd hml0 hP hK
  obtain ⟨rfl, hZ, hh⟩ := hP
  have hx := Bd.exec
  have hby := Bd.bytes
  have hml : c.maxLocals = 1 := hml0
  have hown : s.vm.findClass "java/lang/String" = some m.cls := findClass_of_methodNamed Bd.named
  have hnm := (name_of_methodNamed Bd.named Bd.method).1
  have X0 : Stand p l e ({ frames := 2, cells := 2, slots := 5, locals := 60 } : Room) s m #[(.int p1)] below meth c s₁ [] 0 0 := Stand.of_body Bd
  have e0 : s₁.heap = h0 := by rw [← hh, Bd.state]; rfl
  have N0 := Fr.nil n0
  refine Go.start (own_ef_SV m p1) ?_
  show Go p e below _ s₁ (mkF m 0 #[.val (.int p1)] [])
  have Zn := Z0
  have K0 : Keep h0 h0 [] := Keep.refl h0 _
  obtain ⟨T20, X20, e20, st20⟩ := getS2 X0 hx hZ hown (host := "") (Or.inl (hw _ (List.mem_of_getElem? (i := 31) rfl))) Via.refl e0 S_COMPACT_STRINGS (g := (mkF m 0 #[.val (.int p1)] [])) rfl (hb hby own_f68)
  refine Go.step st20 ?_
  show Go p e below _ T20 (mkF m 3 #[.val (.int p1)] [(.int kc)])
  refine Go.step (fun _ k => XS.ifNo X20.here hx rfl (hb hby own_f69) rfl ((if0 _ _).trans (feq hkc).1) k) ?_
  show Go p e below _ T20 (mkF m 6 #[.val (.int p1)] [])
  refine Go.step (fun _ k => XS.iloadN X20.here hx rfl (hb hby own_f70) rfl k) ?_
  show Go p e below _ T20 (mkF m 7 #[.val (.int p1)] [(.int p1)])
  obtain ⟨_, _, ⟨T21, L21, k21, n21⟩, -, X21, ⟨Lc21, hQ21, l21, y21, z21⟩, st21⟩ := Jvm.LawKit.callS X20 hx (y := (⟨"java/lang/StringLatin1", "canEncode", "(C)Z"⟩ : MethodName)) hown (mvT hZ (hw _ (List.mem_of_getElem? (i := 32) rfl))) (mvT hZ (hw _ (List.mem_of_getElem? (i := 33) rfl))) (mvT hZ (hw _ (List.mem_of_getElem? (i := 34) rfl))) (mvT hZ (hw _ (List.mem_of_getElem? (i := 35) rfl))) (by decide) (backOf (W := 0) (rmCE l Z a0 hw [] p1 h0 n0 Zn hp) hZ (hw _ (List.mem_of_getElem? (i := 35) rfl)) (hw _ (List.mem_of_getElem? (i := 34) rfl)) (by decide) (by decide)) (g := (mkF m 7 #[.val (.int p1)] [(.int p1)])) rfl (by rw [hml]; rfl) (argsL := [(.int p1)]) (rest := []) (lenOf own_f71 rfl) rfl (by show 2 * 0 + _ ≤ _; exact Nat.le_of_eq rfl) (hb hby own_f72) (fun _ _ => ⟨rfl, e20, (by dsimp only [Pt.cells, Pt.slots]; decide), (by dsimp only [Pt.cells, Pt.slots]; decide)⟩)
  dsimp only [Pt.U, Pt.locs, Pt.cells, Pt.slots] at X21 l21 y21 z21 st21 hQ21
  subst l21 y21 z21
  obtain ⟨rfl, N21q, e21⟩ := hQ21
  have N21 := Fr.app N0 N21q
  refine Go.step (st21) ?_
  show Go p e below _ T21 (mkF m 10 #[.val (.int p1)] [(.int (1 : Int32))])
  refine Go.step (fun _ k => XS.ifNo X21.here hx rfl (hb hby own_f73) rfl ((if0 _ _).trans (feq (by decide)).1) k) ?_
  show Go p e below _ T21 (mkF m 13 #[.val (.int p1)] [])
  obtain ⟨T22, h22, X22, e22, E22, A22, D22, U22, st22⟩ := newO X21 hx hZ hown (hw _ (List.mem_of_getElem? (i := 36) rfl)) (hw _ (List.mem_of_getElem? (i := 37) rfl)) (hw _ (List.mem_of_getElem? (i := 29) rfl)) e21 (g := (mkF m 13 #[.val (.int p1)] [])) rfl (hb hby own_f74) (by decide) (by decide)
  obtain ⟨sb, g22⟩ : ∃ z, z = h0.size := ⟨_, rfl⟩
  rw [← g22] at A22 D22 U22 st22
  have g_sb : n0 ≤ sb := Nat.le_trans Zn (Nat.le_of_eq g22.symm)
  have sz_sb : h0.size ≤ sb := Nat.le_trans K0.1 (Nat.le_of_eq g22.symm)
  replace Zn := Nat.le_trans Zn E22.1
  replace K0 := K0.ext E22
  have E_sb := A22
  have F_value_sb : Fld Z h22 sb "java/lang/String" "value" "[B" .null := D22 (Or.inr (hw _ (List.mem_of_getElem? (i := 48) rfl))) (ty := (.array .byte)) (by decide)
  have F_coder_sb : Fld Z h22 sb "java/lang/String" "coder" "B" (.int (0 : Int32)) := D22 (Or.inr (hw _ (List.mem_of_getElem? (i := 50) rfl))) (ty := .byte) (by decide)
  refine Go.step st22 ?_
  show Go p e below _ T22 (mkF m 16 #[.val (.int p1)] [(.ref sb)])
  refine Go.step (fun _ k => XS.dup X22.here hx rfl (hb hby own_f75) rfl rfl k) ?_
  show Go p e below _ T22 (mkF m 17 #[.val (.int p1)] [(.ref sb), (.ref sb)])
  refine Go.step (fun _ k => XS.iloadN X22.here hx rfl (hb hby own_f76) rfl k) ?_
  show Go p e below _ T22 (mkF m 18 #[.val (.int p1)] [(.int p1), (.ref sb), (.ref sb)])
  obtain ⟨_, _, ⟨T23, L23, k23, n23⟩, -, X23, ⟨Lc23, hQ23, l23, y23, z23⟩, st23⟩ := Jvm.LawKit.callS X22 hx (y := (⟨"java/lang/StringLatin1", "toBytes", "(C)[B"⟩ : MethodName)) hown (mvT hZ (hw _ (List.mem_of_getElem? (i := 38) rfl))) (mvT hZ (hw _ (List.mem_of_getElem? (i := 39) rfl))) (mvT hZ (hw _ (List.mem_of_getElem? (i := 34) rfl))) (mvT hZ (hw _ (List.mem_of_getElem? (i := 40) rfl))) (by decide) (backOf (W := 2) (rmTB l Z a0 hw [] p1 h22 n0 Zn) hZ (hw _ (List.mem_of_getElem? (i := 40) rfl)) (hw _ (List.mem_of_getElem? (i := 34) rfl)) (by decide) (by decide)) (g := (mkF m 18 #[.val (.int p1)] [(.int p1), (.ref sb), (.ref sb)])) rfl (by rw [hml]; rfl) (argsL := [(.int p1)]) (rest := [(.ref sb), (.ref sb)]) (lenOf own_f77 rfl) rfl (by show 2 * 0 + _ ≤ _; exact Nat.le_of_eq rfl) (hb hby own_f78) (fun _ _ => ⟨rfl, e22, (by dsimp only [Pt.cells, Pt.slots]; decide), (by dsimp only [Pt.cells, Pt.slots]; decide)⟩)
  dsimp only [Pt.U, Pt.locs, Pt.cells, Pt.slots] at X23 l23 y23 z23 st23 hQ23
  subst l23 y23 z23
  obtain ⟨bT, rfl, N23q, K23⟩ := hQ23
  have N23 := Fr.app N21 N23q
  refine Go.step (st23) ?_
  replace E_sb := E_sb.keep K23
  replace F_value_sb := F_value_sb.keep K23 nin0
  replace F_coder_sb := F_coder_sb.keep K23 nin0
  replace K0 := K0.trans K23 (all0)
  replace Zn := Nat.le_trans Zn K23.1
  show Go p e below _ T23 (mkF m 21 #[.val (.int p1)] [(.ref bT), (.ref sb), (.ref sb)])
  refine Go.step (fun _ k => XS.iconst X23.here hx rfl (hb hby own_f79) k) ?_
  show Go p e below _ T23 (mkF m 22 #[.val (.int p1)] [(.int (0 : Int32)), (.ref bT), (.ref sb), (.ref sb)])
  obtain ⟨_, _, ⟨T24, L24, k24, n24⟩, -, X24, ⟨Lc24, hQ24, l24, y24, z24⟩, st24⟩ := X23.specialBack hx (y := (⟨"java/lang/String", "<init>", "([BB)V"⟩ : MethodName)) rfl hown (mvT hZ (hw _ (List.mem_of_getElem? (i := 42) rfl))) (mvT hZ (hw _ (List.mem_of_getElem? (i := 43) rfl))) (mvT hZ (hw _ (List.mem_of_getElem? (i := 45) rfl))) (by decide) (backOf (W := 1) (rmSI l Z a0 hw [] sb bT (0 : Int32) T23.heap n0 Zn E_sb F_value_sb F_coder_sb g_sb) hZ (hw _ (List.mem_of_getElem? (i := 45) rfl)) (hw _ (List.mem_of_getElem? (i := 29) rfl)) (by decide) (by decide)) (g := (mkF m 22 #[.val (.int p1)] [(.int (0 : Int32)), (.ref bT), (.ref sb), (.ref sb)])) rfl (by rw [hml]; rfl) (Steps.refl _) (a := sb) (argsL := [(.ref bT), (.int (0 : Int32))]) (rest := [(.ref sb)]) (lenOf own_f80 rfl) rfl (by show 2 * 0 + _ ≤ _; exact Nat.le_of_eq rfl) (hb hby own_f81) (fun _ _ => ⟨rfl, rfl, (by dsimp only [Pt.cells, Pt.slots]; decide), (by dsimp only [Pt.cells, Pt.slots]; decide)⟩)
  dsimp only [Pt.U, Pt.locs, Pt.cells, Pt.slots] at X24 l24 y24 z24 st24 hQ24
  subst l24 y24 z24
  obtain ⟨rfl, N24q, K24⟩ := hQ24
  have N24 := Fr.app N23 N24q
  refine Go.step (fun _ k => st24.trans k) ?_
  replace E_sb := E_sb.keep K24
  replace K0 := K0.trans K24 (allS (Or.inr sz_sb) (all0))
  replace Zn := Nat.le_trans Zn K24.1
  show Go p e below _ T24 (mkF m 25 #[.val (.int p1)] [(.ref sb)])
  obtain ⟨fs, hr, hrun, hended, hW, hsame⟩ := X24.leave (v := some (.ref sb)) (fun h => by rw [Bd.returns] at h; cases h)
  refine Go.fin (own_retA X24 hx rfl Bd.returns rfl (hb hby own_f82) hr) hrun hended ?_
  refine ⟨_, _, rfl, ?_, ⟨_, rfl⟩, hW, hsame.mono (by decide) (by decide)⟩
  show QSV Z p1 kc h0 n0 _ T24.heap _
  exact ⟨sb, rfl, N24, K0, E_sb⟩
theorem own_f83 : decode jdk_18_method_1_code 0 = .ok (.aload_n 0, 1) := by decide +kernel
theorem own_f84 : decode jdk_18_method_1_code 1 = .ok (.invokespecial 1, 3) := by decide +kernel
theorem own_f85 : decode jdk_18_method_1_code 4 = .ok (.return_, 1) := by decide +kernel
theorem own_f86 : plainName "java/lang/Number" = true := by first | (simp [plainName, overriddenIn]; done) | decide +kernel
theorem own_ef_Nu (m : MethodId) (a1 : Addr) : entryFrame m #[(.ref a1)] 1 = mkF m 0 #[.val (.ref a1)] [] := by first | (simp [entryFrame, mkF, argsToLocals, Value.category]; done) | rfl
def QNu (Z : State) (a1 : Addr) (h0 : Heap) (n0 : Nat) (v : Option Value) (h : Heap) (L : List Loc) : Prop := v = none ∧ Fr n0 L ∧ h = h0
set_option maxRecDepth 65536 in
set_option maxHeartbeats 40000000 in
theorem rmNu (l : Launch) (Z : State) (a0 : Array Value) (hw : ∀ d ∈ tables_1, d.before a0 Z = true) (ws : List Jvm.Cond) (a1 : Addr) (h0 : Heap) (n0 : Nat) (Z0 : n0 ≤ h0.size)  :
    MetFree l (⟨"java/lang/Number", "<init>", "()V"⟩ : MethodName) (head1 (Jvm.Cond.code (⟨"java/lang/Number", "<init>", "()V"⟩ : MethodName) jdk_18_method_1_code 1 none :: ws) ({ frames := 1, cells := 0, slots := 0, locals := 12 } : Room)) (fun a U => a = #[(.ref a1)] ∧ Z.Warmed39 U.vm ∧ U.heap = h0) (fun _ _ _ _ _ => True) (fun _ U o U' => ∃ v L, o = .returned v ∧ QNu Z a1 h0 n0 v U'.heap L ∧ FrameEnd U o U' L ({ frames := 1, cells := 0, slots := 0, locals := 12 } : Room).cells ({ frames := 1, cells := 0, slots := 0, locals := 12 } : Room).slots) := by
  refine MetFree.of_bodySF (plainFor_of_name own_f86) hisR ?_
  intro p e s m args below meth c s₁ Bd hml0 hP hK
  obtain ⟨rfl, hZ, hh⟩ := hP
  have hx := Bd.exec
  have hby := Bd.bytes
  have hml : c.maxLocals = 1 := hml0
  have hown : s.vm.findClass "java/lang/Number" = some m.cls := findClass_of_methodNamed Bd.named
  have hnm := (name_of_methodNamed Bd.named Bd.method).1
  have X0 : Stand p l e ({ frames := 1, cells := 0, slots := 0, locals := 12 } : Room) s m #[(.ref a1)] below meth c s₁ [] 0 0 := Stand.of_body Bd
  have e0 : s₁.heap = h0 := by rw [← hh, Bd.state]; rfl
  have N0 := Fr.nil n0
  refine Go.start (own_ef_Nu m a1) ?_
  show Go p e below _ s₁ (mkF m 0 #[.val (.ref a1)] [])
  refine Go.step (fun _ k => XS.aloadN X0.here hx rfl (hb hby own_f83) rfl rfl k) ?_
  show Go p e below _ s₁ (mkF m 1 #[.val (.ref a1)] [(.ref a1)])
  obtain ⟨T25, X25, e25, st25⟩ := initO X0 hx hZ hown (hw _ (List.mem_of_getElem? (i := 74) rfl)) (hw _ (List.mem_of_getElem? (i := 14) rfl)) (hw _ (List.mem_of_getElem? (i := 15) rfl)) e0 (g := (mkF m 1 #[.val (.ref a1)] [(.ref a1)])) rfl (by rw [hml]; rfl) rfl (hb hby own_f84) (by decide) (W := 0) (by show 2 * 0 + _ ≤ _; exact Nat.le_of_eq rfl) (by decide)
  refine Go.step st25 ?_
  show Go p e below _ T25 (mkF m 4 #[.val (.ref a1)] [])
  obtain ⟨fs, hr, hrun, hended, hW, hsame⟩ := X25.leave (v := none) (fun _ => rfl)
  refine Go.fin (X25.returnOut hx Bd.returns (hb hby own_f85) hr) hrun hended ?_
  refine ⟨_, _, rfl, ?_, ⟨_, rfl⟩, hW, hsame.mono (by decide) (by decide)⟩
  show QNu Z a1 h0 n0 _ T25.heap _
  rw [e25]
  exact ⟨rfl, N0, rfl⟩
theorem own_f87 : decode jdk_33_method_23_code 0 = .ok (.aload_n 0, 1) := by decide +kernel
theorem own_f88 : parseMethodDescriptor "()V" = some ⟨[], none⟩ := by decide +kernel
theorem own_f89 : decode jdk_33_method_23_code 1 = .ok (.invokespecial 202, 3) := by decide +kernel
theorem own_f90 : decode jdk_33_method_23_code 4 = .ok (.aload_n 0, 1) := by decide +kernel
theorem own_f91 : decode jdk_33_method_23_code 5 = .ok (.iload_n 1, 1) := by decide +kernel
theorem own_f92 : decode jdk_33_method_23_code 6 = .ok (.putfield 205, 3) := by decide +kernel
theorem own_f93 : decode jdk_33_method_23_code 9 = .ok (.return_, 1) := by decide +kernel
theorem own_f94 : plainName "java/lang/Integer" = true := by first | (simp [plainName, overriddenIn]; done) | decide +kernel
theorem own_ef_II (m : MethodId) (a1 : Addr) (p1 : Int32) : entryFrame m #[(.ref a1), (.int p1)] 2 = mkF m 0 #[.val (.ref a1), .val (.int p1)] [] := by first | (simp [entryFrame, mkF, argsToLocals, Value.category]; done) | rfl
def QII (Z : State) (a1 : Addr) (p1 : Int32) (h0 : Heap) (n0 : Nat) (v : Option Value) (h : Heap) (L : List Loc) : Prop := v = none ∧ Fr n0 L ∧ Keep h0 h [a1]
set_option maxRecDepth 65536 in
set_option maxHeartbeats 40000000 in
theorem rmII (l : Launch) (Z : State) (a0 : Array Value) (hw : ∀ d ∈ tables_1, d.before a0 Z = true) (ws : List Jvm.Cond) (a1 : Addr) (p1 : Int32) (h0 : Heap) (n0 : Nat) (Z0 : n0 ≤ h0.size) (E_a1 : Exa Z h0 a1 "java/lang/Integer") (F_value_a1 : Fld Z h0 a1 "java/lang/Integer" "value" "I" (.int (0 : Int32))) (g_a1 : n0 ≤ a1) :
    MetFree l (⟨"java/lang/Integer", "<init>", "(I)V"⟩ : MethodName) (head1 (Jvm.Cond.code (⟨"java/lang/Integer", "<init>", "(I)V"⟩ : MethodName) jdk_33_method_23_code 2 none :: ws) ({ frames := 2, cells := 0, slots := 0, locals := 30 } : Room)) (fun a U => a = #[(.ref a1), (.int p1)] ∧ Z.Warmed39 U.vm ∧ U.heap = h0) (fun _ _ _ _ _ => True) (fun _ U o U' => ∃ v L, o = .returned v ∧ QII Z a1 p1 h0 n0 v U'.heap L ∧ FrameEnd U o U' L ({ frames := 2, cells := 0, slots := 0, locals := 30 } : Room).cells ({ frames := 2, cells := 0, slots := 0, locals := 30 } : Room).slots) := by
  refine MetFree.of_bodySF (plainFor_of_name own_f94) hisR ?_
  intro p e s m args below meth c s₁ Bd hml0 hP hK
  obtain ⟨rfl, hZ, hh⟩ := hP
  have hx := Bd.exec
  have hby := Bd.bytes
  have hml : c.maxLocals = 2 := hml0
  have hown : s.vm.findClass "java/lang/Integer" = some m.cls := findClass_of_methodNamed Bd.named
  have hnm := (name_of_methodNamed Bd.named Bd.method).1
  have X0 : Stand p l e ({ frames := 2, cells := 0, slots := 0, locals := 30 } : Room) s m #[(.ref a1), (.int p1)] below meth c s₁ [] 0 0 := Stand.of_body Bd
  have e0 : s₁.heap = h0 := by rw [← hh, Bd.state]; rfl
  have N0 := Fr.nil n0
  refine Go.start (own_ef_II m a1 p1) ?_
  show Go p e below _ s₁ (mkF m 0 #[.val (.ref a1), .val (.int p1)] [])
  have Zn := Z0
  have K0 : Keep h0 h0 [a1] := Keep.refl h0 _
  refine Go.step (fun _ k => XS.aloadN X0.here hx rfl (hb hby own_f87) rfl rfl k) ?_
  show Go p e below _ s₁ (mkF m 1 #[.val (.ref a1), .val (.int p1)] [(.ref a1)])
  obtain ⟨_, _, ⟨T26, L26, k26, n26⟩, -, X26, ⟨Lc26, hQ26, l26, y26, z26⟩, st26⟩ := X0.specialBack hx (y := (⟨"java/lang/Number", "<init>", "()V"⟩ : MethodName)) rfl hown (mvT hZ (hw _ (List.mem_of_getElem? (i := 68) rfl))) (mvT hZ (hw _ (List.mem_of_getElem? (i := 69) rfl))) (mvT hZ (hw _ (List.mem_of_getElem? (i := 73) rfl))) (by decide) (backOf (W := 0) (rmNu l Z a0 hw [] a1 h0 n0 Zn) hZ (hw _ (List.mem_of_getElem? (i := 73) rfl)) (hw _ (List.mem_of_getElem? (i := 72) rfl)) (by decide) (by decide)) (g := (mkF m 1 #[.val (.ref a1), .val (.int p1)] [(.ref a1)])) rfl (by rw [hml]; rfl) (Steps.refl _) (a := a1) (argsL := []) (rest := []) (lenOf own_f88 rfl) rfl (by show 2 * 0 + _ ≤ _; exact Nat.le_of_eq rfl) (hb hby own_f89) (fun _ _ => ⟨rfl, e0, (by dsimp only [Pt.cells, Pt.slots]; decide), (by dsimp only [Pt.cells, Pt.slots]; decide)⟩)
  dsimp only [Pt.U, Pt.locs, Pt.cells, Pt.slots] at X26 l26 y26 z26 st26 hQ26
  subst l26 y26 z26
  obtain ⟨rfl, N26q, e26⟩ := hQ26
  have N26 := Fr.app N0 N26q
  refine Go.step (fun _ k => st26.trans k) ?_
  show Go p e below _ T26 (mkF m 4 #[.val (.ref a1), .val (.int p1)] [])
  refine Go.step (fun _ k => XS.aloadN X26.here hx rfl (hb hby own_f90) rfl rfl k) ?_
  show Go p e below _ T26 (mkF m 5 #[.val (.ref a1), .val (.int p1)] [(.ref a1)])
  refine Go.step (fun _ k => XS.iloadN X26.here hx rfl (hb hby own_f91) rfl k) ?_
  show Go p e below _ T26 (mkF m 6 #[.val (.ref a1), .val (.int p1)] [(.int p1), (.ref a1)])
  obtain ⟨T27, h27, X27, e27, W27, st27⟩ := putF X26 hx hZ hown (host := "") (Or.inl (hw _ (List.mem_of_getElem? (i := 75) rfl))) Via.refl e26 F_value_a1 E_a1 (Or.inr ⟨(hw _ (List.mem_of_getElem? (i := 76) rfl)), rfl, hnm⟩) (hw _ (List.mem_of_getElem? (i := 63) rfl)) (ty := .int) (by decide) rfl rfl (g := (mkF m 6 #[.val (.ref a1), .val (.int p1)] [(.int p1), (.ref a1)])) rfl rfl (hb hby own_f92)
  have Fw27 := F_value_a1.same W27
  replace E_a1 := E_a1.wr W27
  replace F_value_a1 := Fw27
  replace K0 := K0.wr W27 (Or.inl (List.mem_of_getElem? (i := 0) rfl))
  replace Zn := Nat.le_trans Zn (Nat.le_of_eq W27.size.symm)
  have N27 := Fr.snoc X27 N26 g_a1
  refine Go.step st27 ?_
  show Go p e below _ T27 (mkF m 9 #[.val (.ref a1), .val (.int p1)] [])
  obtain ⟨fs, hr, hrun, hended, hW, hsame⟩ := X27.leave (v := none) (fun _ => rfl)
  refine Go.fin (X27.returnOut hx Bd.returns (hb hby own_f93) hr) hrun hended ?_
  refine ⟨_, _, rfl, ?_, ⟨_, rfl⟩, hW, hsame.mono (by decide) (by decide)⟩
  show QII Z a1 p1 h0 n0 _ T27.heap _
  rw [e27]
  exact ⟨rfl, N27, K0⟩
theorem own_f95 : decode jdk_33_method_22_code 0 = .ok (.iload_n 0, 1) := by decide +kernel
theorem own_f96 : decode jdk_33_method_22_code 1 = .ok (.bipush (-128), 2) := by decide +kernel
theorem own_f97 : decode jdk_33_method_22_code 3 = .ok (.if_icmp .lt 20, 3) := by decide +kernel
theorem own_f98 : decode jdk_33_method_22_code 6 = .ok (.iload_n 0, 1) := by decide +kernel
theorem own_f99 : decode jdk_33_method_22_code 7 = .ok (.getstatic 191, 3) := by decide +kernel
theorem own_f100 : decode jdk_33_method_22_code 10 = .ok (.if_icmp .gt 13, 3) := by decide +kernel
theorem own_f101 : decode jdk_33_method_22_code 23 = .ok (.new 1, 3) := by decide +kernel
theorem own_f102 : decode jdk_33_method_22_code 26 = .ok (.dup, 1) := by decide +kernel
theorem own_f103 : decode jdk_33_method_22_code 27 = .ok (.iload_n 0, 1) := by decide +kernel
theorem own_f104 : parseMethodDescriptor "(I)V" = some ⟨[.int], none⟩ := by decide +kernel
theorem own_f105 : decode jdk_33_method_22_code 28 = .ok (.invokespecial 199, 3) := by decide +kernel
theorem own_f106 : decode jdk_33_method_22_code 31 = .ok (.areturn, 1) := by decide +kernel
theorem own_f107 : decode jdk_33_method_22_code 13 = .ok (.getstatic 195, 3) := by decide +kernel
theorem own_f108 : decode jdk_33_method_22_code 16 = .ok (.iload_n 0, 1) := by decide +kernel
theorem own_f109 : decode jdk_33_method_22_code 17 = .ok (.sipush 128, 3) := by decide +kernel
theorem own_f110 : decode jdk_33_method_22_code 20 = .ok (.iadd, 1) := by decide +kernel
theorem own_f111 : decode jdk_33_method_22_code 21 = .ok (.aaload, 1) := by decide +kernel
theorem own_f112 : decode jdk_33_method_22_code 22 = .ok (.areturn, 1) := by decide +kernel
theorem own_ef_IV (m : MethodId) (p1 : Int32) : entryFrame m #[(.int p1)] 1 = mkF m 0 #[.val (.int p1)] [] := by first | (simp [entryFrame, mkF, argsToLocals, Value.category]; done) | rfl
def QIV (Z : State) (p1 : Int32) (aK : Addr) (cK : Cell) (h0 : Heap) (n0 : Nat) (v : Option Value) (h : Heap) (L : List Loc) : Prop := ∃ ib : Addr, v = some (.ref ib) ∧ Fr n0 L ∧ Keep h0 h [] ∧ Exa Z h ib "java/lang/Integer"
set_option maxRecDepth 65536 in
set_option maxHeartbeats 40000000 in
theorem rmIV (l : Launch) (Z : State) (a0 : Array Value) (hw : ∀ d ∈ tables_1, d.before a0 Z = true) (ws : List Jvm.Cond) (p1 : Int32) (aK : Addr) (cK : Cell) (h0 : Heap) (n0 : Nat) (Z0 : n0 ≤ h0.size) (S_high : Sta Z h0 "java/lang/Integer$IntegerCache" "high" "I" (.int (127 : Int32))) (S_cache : Sta Z h0 "java/lang/Integer$IntegerCache" "cache" "[Ljava/lang/Integer;" (.ref aK)) (BX : Bxs Z aK cK "java/lang/Integer" "I" (256 : Int32) own_bv) (Ex : Ext Z.heap h0) (hp : 0 ≤ p1.toInt) :
    MetFree l (⟨"java/lang/Integer", "valueOf", "(I)Ljava/lang/Integer;"⟩ : MethodName) (head1 (Jvm.Cond.code (⟨"java/lang/Integer", "valueOf", "(I)Ljava/lang/Integer;"⟩ : MethodName) jdk_33_method_22_code 1 (some (.object "java/lang/Integer")) :: ws) ({ frames := 3, cells := 1, slots := 1, locals := 60 } : Room)) (fun a U => a = #[(.int p1)] ∧ Z.Warmed39 U.vm ∧ U.heap = h0) (fun _ _ _ _ _ => True) (fun _ U o U' => ∃ v L, o = .returned v ∧ QIV Z p1 aK cK h0 n0 v U'.heap L ∧ FrameEnd U o U' L ({ frames := 3, cells := 1, slots := 1, locals := 60 } : Room).cells ({ frames := 3, cells := 1, slots := 1, locals := 60 } : Room).slots) := by
  refine MetFree.of_bodySF (plainFor_of_name own_f94) hisR ?_
  intro p e s m args below meth c s₁ Bd hml0 hP hK
  obtain ⟨rfl, hZ, hh⟩ := hP
  have hx := Bd.exec
  have hby := Bd.bytes
  have hml : c.maxLocals = 1 := hml0
  have hown : s.vm.findClass "java/lang/Integer" = some m.cls := findClass_of_methodNamed Bd.named
  have hnm := (name_of_methodNamed Bd.named Bd.method).1
  have X0 : Stand p l e ({ frames := 3, cells := 1, slots := 1, locals := 60 } : Room) s m #[(.int p1)] below meth c s₁ [] 0 0 := Stand.of_body Bd
  have e0 : s₁.heap = h0 := by rw [← hh, Bd.state]; rfl
  have N0 := Fr.nil n0
  refine Go.start (own_ef_IV m p1) ?_
  show Go p e below _ s₁ (mkF m 0 #[.val (.int p1)] [])
  have Zn := Z0
  have K0 : Keep h0 h0 [] := Keep.refl h0 _
  have hm8 : ¬ p1 < (-128 : Int32) := by rw [Int32.lt_iff_toInt_lt, show (-128 : Int32).toInt = -128 by decide]; omega
  refine Go.step (fun _ k => XS.iloadN X0.here hx rfl (hb hby own_f95) rfl k) ?_
  show Go p e below _ s₁ (mkF m 1 #[.val (.int p1)] [(.int p1)])
  refine Go.step (fun _ k => XS.bipush X0.here hx rfl (hb hby own_f96) k) ?_
  show Go p e below _ s₁ (mkF m 3 #[.val (.int p1)] [(.int (-128 : Int32)), (.int p1)])
  refine Go.step (fun _ k => XS.icmpNo X0.here hx rfl (hb hby own_f97) rfl (flt hm8).1 k) ?_
  show Go p e below _ s₁ (mkF m 6 #[.val (.int p1)] [])
  refine Go.step (fun _ k => XS.iloadN X0.here hx rfl (hb hby own_f98) rfl k) ?_
  show Go p e below _ s₁ (mkF m 7 #[.val (.int p1)] [(.int p1)])
  obtain ⟨T28, X28, e28, st28⟩ := getS2 X0 hx hZ hown (host := "") (Or.inl (hw _ (List.mem_of_getElem? (i := 57) rfl))) Via.refl e0 S_high (g := (mkF m 7 #[.val (.int p1)] [(.int p1)])) rfl (hb hby own_f99)
  refine Go.step st28 ?_
  show Go p e below _ T28 (mkF m 10 #[.val (.int p1)] [(.int (127 : Int32)), (.int p1)])
  by_cases hc10_29 : (127 : Int32) < p1
  · show Go p e below _ T28 (mkF m 10 #[.val (.int p1)] [(.int (127 : Int32)), (.int p1)])
    refine Go.step (fun _ k => XS.icmpYes X28.here hx rfl (pc0 := 10) (pc' := 23) rfl (hb hby own_f100) rfl (tlt hc10_29).2.2.1 (by decide) (by decide) k) ?_
    show Go p e below _ T28 (mkF m 23 #[.val (.int p1)] [])
    obtain ⟨T30, h30, X30, e30, E30, A30, D30, U30, st30⟩ := newO X28 hx hZ hown (hw _ (List.mem_of_getElem? (i := 62) rfl)) (hw _ (List.mem_of_getElem? (i := 63) rfl)) (hw _ (List.mem_of_getElem? (i := 55) rfl)) e28 (g := (mkF m 23 #[.val (.int p1)] [])) rfl (hb hby own_f101) (by decide) (by decide)
    obtain ⟨ib, g30⟩ : ∃ z, z = h0.size := ⟨_, rfl⟩
    rw [← g30] at A30 D30 U30 st30
    have g_ib : n0 ≤ ib := Nat.le_trans Zn (Nat.le_of_eq g30.symm)
    have sz_ib : h0.size ≤ ib := Nat.le_trans K0.1 (Nat.le_of_eq g30.symm)
    replace Zn := Nat.le_trans Zn E30.1
    replace K0 := K0.ext E30
    have E_ib := A30
    have F_value_ib : Fld Z h30 ib "java/lang/Integer" "value" "I" (.int (0 : Int32)) := D30 (Or.inr (hw _ (List.mem_of_getElem? (i := 76) rfl))) (ty := .int) (by decide)
    refine Go.step st30 ?_
    show Go p e below _ T30 (mkF m 26 #[.val (.int p1)] [(.ref ib)])
    refine Go.step (fun _ k => XS.dup X30.here hx rfl (hb hby own_f102) rfl rfl k) ?_
    show Go p e below _ T30 (mkF m 27 #[.val (.int p1)] [(.ref ib), (.ref ib)])
    refine Go.step (fun _ k => XS.iloadN X30.here hx rfl (hb hby own_f103) rfl k) ?_
    show Go p e below _ T30 (mkF m 28 #[.val (.int p1)] [(.int p1), (.ref ib), (.ref ib)])
    obtain ⟨_, _, ⟨T31, L31, k31, n31⟩, -, X31, ⟨Lc31, hQ31, l31, y31, z31⟩, st31⟩ := X30.specialBack hx (y := (⟨"java/lang/Integer", "<init>", "(I)V"⟩ : MethodName)) rfl hown (mvT hZ (hw _ (List.mem_of_getElem? (i := 64) rfl))) (mvT hZ (hw _ (List.mem_of_getElem? (i := 65) rfl))) (mvT hZ (hw _ (List.mem_of_getElem? (i := 67) rfl))) (by decide) (backOf (W := 1) (rmII l Z a0 hw [] ib p1 h30 n0 Zn E_ib F_value_ib g_ib) hZ (hw _ (List.mem_of_getElem? (i := 67) rfl)) (hw _ (List.mem_of_getElem? (i := 55) rfl)) (by decide) (by decide)) (g := (mkF m 28 #[.val (.int p1)] [(.int p1), (.ref ib), (.ref ib)])) rfl (by rw [hml]; rfl) (Steps.refl _) (a := ib) (argsL := [(.int p1)]) (rest := [(.ref ib)]) (lenOf own_f104 rfl) rfl (by show 2 * 0 + _ ≤ _; exact Nat.le_of_eq rfl) (hb hby own_f105) (fun _ _ => ⟨rfl, e30, (by dsimp only [Pt.cells, Pt.slots]; decide), (by dsimp only [Pt.cells, Pt.slots]; decide)⟩)
    dsimp only [Pt.U, Pt.locs, Pt.cells, Pt.slots] at X31 l31 y31 z31 st31 hQ31
    subst l31 y31 z31
    obtain ⟨rfl, N31q, K31⟩ := hQ31
    have N31 := Fr.app N0 N31q
    refine Go.step (fun _ k => st31.trans k) ?_
    replace E_ib := E_ib.keep K31
    replace K0 := K0.trans K31 (allS (Or.inr sz_ib) (all0))
    replace Zn := Nat.le_trans Zn K31.1
    show Go p e below _ T31 (mkF m 31 #[.val (.int p1)] [(.ref ib)])
    obtain ⟨fs, hr, hrun, hended, hW, hsame⟩ := X31.leave (v := some (.ref ib)) (fun h => by rw [Bd.returns] at h; cases h)
    refine Go.fin (own_retA X31 hx rfl Bd.returns rfl (hb hby own_f106) hr) hrun hended ?_
    refine ⟨_, _, rfl, ?_, ⟨_, rfl⟩, hW, hsame.mono (by decide) (by decide)⟩
    show QIV Z p1 aK cK h0 n0 _ T31.heap _
    exact ⟨ib, rfl, N31, K0, E_ib⟩
  · show Go p e below _ T28 (mkF m 10 #[.val (.int p1)] [(.int (127 : Int32)), (.int p1)])
    refine Go.step (fun _ k => XS.icmpNo X28.here hx rfl (hb hby own_f100) rfl (flt hc10_29).2.2.1 k) ?_
    show Go p e below _ T28 (mkF m 13 #[.val (.int p1)] [])
    obtain ⟨T32, X32, e32, st32⟩ := getS2 X28 hx hZ hown (host := "") (Or.inl (hw _ (List.mem_of_getElem? (i := 59) rfl))) Via.refl e28 S_cache (g := (mkF m 13 #[.val (.int p1)] [])) rfl (hb hby own_f107)
    refine Go.step st32 ?_
    show Go p e below _ T32 (mkF m 16 #[.val (.int p1)] [(.ref aK)])
    refine Go.step (fun _ k => XS.iloadN X32.here hx rfl (hb hby own_f108) rfl k) ?_
    show Go p e below _ T32 (mkF m 17 #[.val (.int p1)] [(.int p1), (.ref aK)])
    refine Go.step (fun _ k => XS.sipush X32.here hx rfl (hb hby own_f109) k) ?_
    show Go p e below _ T32 (mkF m 20 #[.val (.int p1)] [(.int (128 : Int32)), (.int p1), (.ref aK)])
    refine Go.step (fun _ k => XS.iadd X32.here hx rfl (hb hby own_f110) rfl k) ?_
    show Go p e below _ T32 (mkF m 21 #[.val (.int p1)] [(.int (p1 + (128 : Int32))), (.ref aK)])
    have q7 : ¬ (127 : Int32).toInt < p1.toInt := fun q => hc10_29 (Int32.lt_iff_toInt_lt.mpr q)
    rw [show (127 : Int32).toInt = 127 by decide] at q7
    have hj : (p1 + (128 : Int32)).toInt = p1.toInt + 128 := by rw [Jvm.Kit.i32_add (by rw [show (128 : Int32).toInt = 128 by decide]; omega) (by rw [show (128 : Int32).toInt = 128 by decide]; omega), show (128 : Int32).toInt = 128 by decide]
    have hin : ¬ ((p1 + (128 : Int32)) < 0 ∨ cK.slots.size ≤ (p1 + (128 : Int32)).toNatClampNeg) := by
      rw [BX.2.1, show (256 : Int32).toNatClampNeg = 256 by decide]
      intro q
      rcases q with q | q
      · rw [Int32.lt_iff_toInt_lt, hj, show (0 : Int32).toInt = 0 by decide] at q; omega
      · unfold Int32.toNatClampNeg at q; omega
    obtain ⟨bq, hat, Eq, -⟩ := BX.2.2.2 _ hin
    refine Go.step (X32.aaload hx (j := (p1 + (128 : Int32))) (v := .ref bq) (by rw [e32]; exact (BX.1.ext Ex).1) (State.isArrayOf_alike hZ.alike BX.1.2.1) rfl BX.1.2.2 hin hat (g := (mkF m 21 #[.val (.int p1)] [(.int (p1 + (128 : Int32))), (.ref aK)])) rfl rfl (hb hby own_f111)) ?_
    show Go p e below _ T32 (mkF m 22 #[.val (.int p1)] [(.ref bq)])
    obtain ⟨fs, hr, hrun, hended, hW, hsame⟩ := X32.leave (v := some (.ref bq)) (fun h => by rw [Bd.returns] at h; cases h)
    refine Go.fin (own_retA X32 hx rfl Bd.returns rfl (hb hby own_f112) hr) hrun hended ?_
    refine ⟨_, _, rfl, ?_, ⟨_, rfl⟩, hW, hsame.mono (by decide) (by decide)⟩
    show QIV Z p1 aK cK h0 n0 _ T32.heap _
    rw [e32]
    exact ⟨bq, rfl, N0, K0, Eq.ext Ex⟩
theorem own_f113 : parseMethodDescriptor "(IJ)I" = some ⟨[.int, .long], some .int⟩ := by decide +kernel
theorem own_f114 : parseMethodDescriptor "(II)V" = some ⟨[.int, .int], none⟩ := by decide +kernel
theorem own_f115 : parseMethodDescriptor "(Ljava/lang/Object;)Z" = some ⟨[(.object "java/lang/Object")], some .boolean⟩ := by decide +kernel
theorem own_f116 : parseMethodDescriptor "(I)Ljava/lang/Integer;" = some ⟨[.int], some (.object "java/lang/Integer")⟩ := by decide +kernel
theorem own_f117 : parseMethodDescriptor "(C)Ljava/lang/String;" = some ⟨[.char], some (.object "java/lang/String")⟩ := by decide +kernel
theorem own_ef_0 (m : MethodId) (i0 : Int32) (i1 : Int32) (i2 : Int32) (i3 : Int32) (i4 : Int32) : entryFrame m #[(.int i0), (.int i1), (.int i2), (.int i3), (.int i4)] maxLocals = mkF m 0 #[.val (.int i0), .val (.int i1), .val (.int i2), .val (.int i3), .val (.int i4), .unset, .unset, .unset, .unset, .unset, .unset, .unset, .unset] [] := by first | (simp [entryFrame, mkF, argsToLocals, Value.category, maxLocals]; done) | rfl
def Q0 (Z : State) (i0 : Int32) (i1 : Int32) (i2 : Int32) (i3 : Int32) (i4 : Int32) (kc : Int32) (aK : Addr) (cK : Cell) (h0 : Heap) (n0 : Nat) (v : Option Value) (h : Heap) (L : List Loc) : Prop := v = some (.int 1) ∧ Fr n0 L
set_option maxRecDepth 65536 in
set_option maxHeartbeats 40000000 in
theorem rm0 (l : Launch) (Z : State) (a0 : Array Value) (hw : ∀ d ∈ tables_1, d.before a0 Z = true) (ws : List Jvm.Cond) (i0 : Int32) (i1 : Int32) (i2 : Int32) (i3 : Int32) (i4 : Int32) (kc : Int32) (aK : Addr) (cK : Cell) (h0 : Heap) (n0 : Nat) (Z0 : n0 ≤ h0.size) (SC : Sta Z Z.heap "java/lang/String" "COMPACT_STRINGS" "Z" (.int kc)) (hkc : ¬ kc = (0 : Int32)) (SH : Sta Z Z.heap "java/lang/Integer$IntegerCache" "high" "I" (.int (127 : Int32))) (SK : Sta Z Z.heap "java/lang/Integer$IntegerCache" "cache" "[Ljava/lang/Integer;" (.ref aK)) (BX : Bxs Z aK cK "java/lang/Integer" "I" (256 : Int32) own_bv) (Od : Old Z n0 h0) :
    MetFree l x (head1 (Jvm.Cond.code x code maxLocals ret :: ws) room_1) (fun a U => a = #[(.int i0), (.int i1), (.int i2), (.int i3), (.int i4)] ∧ Z.Warmed39 U.vm ∧ U.heap = h0) (fun _ _ _ _ _ => True) (fun _ U o U' => ∃ v L, o = .returned v ∧ Q0 Z i0 i1 i2 i3 i4 kc aK cK h0 n0 v U'.heap L ∧ FrameEnd U o U' L 16 128) := by
  refine MetFree.of_bodySF (plainFor_of_name own_f8) hisR ?_
  intro p e s m args below meth c s₁ Bd hml0 hP hK
  obtain ⟨rfl, hZ, hh⟩ := hP
  have hx := Bd.exec
  have hby := Bd.bytes
  have hml : c.maxLocals = 13 := hml0
  have hown : s.vm.findClass "com/example/vigilant_crawler/vigilantcrawler/model/WordSpanEqualsPinLaw" = some m.cls := findClass_of_methodNamed Bd.named
  have hnm := (name_of_methodNamed Bd.named Bd.method).1
  have X0 : Stand p l e room_1 s m #[(.int i0), (.int i1), (.int i2), (.int i3), (.int i4)] below meth c s₁ [] 0 0 := Stand.of_body Bd
  have e0 : s₁.heap = h0 := by rw [← hh, Bd.state]; rfl
  have N0 := Fr.nil n0
  refine Go.start (own_ef_0 m i0 i1 i2 i3 i4) ?_
  show Go p e below _ s₁ (mkF m 0 #[.val (.int i0), .val (.int i1), .val (.int i2), .val (.int i3), .val (.int i4), .unset, .unset, .unset, .unset, .unset, .unset, .unset, .unset] [])
  have Zn := Z0
  have K0 : Keep h0 h0 [] := Keep.refl h0 _
  have noS : own_no Z "java/lang/String" "com/example/vigilant_crawler/vigilantcrawler/model/WordSpan" := own_nsno (hw _ (List.mem_of_getElem? (i := 51) rfl)) (hw _ (List.mem_of_getElem? (i := 8) rfl)) (NS.step (hw _ (List.mem_of_getElem? (i := 51) rfl)) (own_nsroot (hw _ (List.mem_of_getElem? (i := 52) rfl)) (hw _ (List.mem_of_getElem? (i := 8) rfl)) (by decide)) (by decide)) (by decide)
  have noI : own_no Z "java/lang/Integer" "com/example/vigilant_crawler/vigilantcrawler/model/WordSpan" := own_nsno (hw _ (List.mem_of_getElem? (i := 60) rfl)) (hw _ (List.mem_of_getElem? (i := 8) rfl)) (NS.step (hw _ (List.mem_of_getElem? (i := 60) rfl)) (NS.step (hw _ (List.mem_of_getElem? (i := 61) rfl)) (own_nsroot (hw _ (List.mem_of_getElem? (i := 52) rfl)) (hw _ (List.mem_of_getElem? (i := 8) rfl)) (by decide)) (by decide)) (by decide)) (by decide)
  refine Go.step (fun _ k => XS.iloadN X0.here hx rfl (hb hby at_0) rfl k) ?_
  show Go p e below _ s₁ (mkF m 1 #[.val (.int i0), .val (.int i1), .val (.int i2), .val (.int i3), .val (.int i4), .unset, .unset, .unset, .unset, .unset, .unset, .unset, .unset] [(.int i0)])
  refine Go.step (X0.ldcInt hx hown (mvT hZ (hw _ (List.mem_of_getElem? (i := 0) rfl))) (g := (mkF m 1 #[.val (.int i0), .val (.int i1), .val (.int i2), .val (.int i3), .val (.int i4), .unset, .unset, .unset, .unset, .unset, .unset, .unset, .unset] [(.int i0)])) rfl (hb hby at_1)) ?_
  show Go p e below _ s₁ (mkF m 3 #[.val (.int i0), .val (.int i1), .val (.int i2), .val (.int i3), .val (.int i4), .unset, .unset, .unset, .unset, .unset, .unset, .unset, .unset] [(.int (2147483647 : Int32)), (.int i0)])
  refine Go.step (fun _ k => XS.iand X0.here hx rfl (hb hby at_3) rfl k) ?_
  show Go p e below _ s₁ (mkF m 4 #[.val (.int i0), .val (.int i1), .val (.int i2), .val (.int i3), .val (.int i4), .unset, .unset, .unset, .unset, .unset, .unset, .unset, .unset] [(.int (i0 &&& (2147483647 : Int32)))])
  obtain ⟨fA, e_fA⟩ : ∃ zq : Int32, zq = (i0 &&& (2147483647 : Int32)) := ⟨_, rfl⟩
  rw [← e_fA]
  show Go p e below _ s₁ (mkF m 4 #[.val (.int i0), .val (.int i1), .val (.int i2), .val (.int i3), .val (.int i4), .unset, .unset, .unset, .unset, .unset, .unset, .unset, .unset] [(.int fA)])
  have hfA : 0 ≤ fA.toInt := by rw [e_fA]; exact (own_msk i0).1
  refine Go.step (fun _ k => XS.istore X0.here hx rfl (hb hby at_4) rfl (l' := #[.val (.int i0), .val (.int i1), .val (.int i2), .val (.int i3), .val (.int i4), .val (.int fA), .unset, .unset, .unset, .unset, .unset, .unset, .unset]) rfl k) ?_
  show Go p e below _ s₁ (mkF m 6 #[.val (.int i0), .val (.int i1), .val (.int i2), .val (.int i3), .val (.int i4), .val (.int fA), .unset, .unset, .unset, .unset, .unset, .unset, .unset] [])
  refine Go.step (fun _ k => XS.iload X0.here hx rfl (hb hby at_6) rfl k) ?_
  show Go p e below _ s₁ (mkF m 8 #[.val (.int i0), .val (.int i1), .val (.int i2), .val (.int i3), .val (.int i4), .val (.int fA), .unset, .unset, .unset, .unset, .unset, .unset, .unset] [(.int fA)])
  refine Go.step (fun _ k => XS.iloadN X0.here hx rfl (hb hby at_8) rfl k) ?_
  show Go p e below _ s₁ (mkF m 9 #[.val (.int i0), .val (.int i1), .val (.int i2), .val (.int i3), .val (.int i4), .val (.int fA), .unset, .unset, .unset, .unset, .unset, .unset, .unset] [(.int i1), (.int fA)])
  refine Go.step (X0.ldc2Long hx hown (mvT hZ (hw _ (List.mem_of_getElem? (i := 1) rfl))) (g := (mkF m 9 #[.val (.int i0), .val (.int i1), .val (.int i2), .val (.int i3), .val (.int i4), .val (.int fA), .unset, .unset, .unset, .unset, .unset, .unset, .unset] [(.int i1), (.int fA)])) rfl (hb hby at_9)) ?_
  show Go p e below _ s₁ (mkF m 12 #[.val (.int i0), .val (.int i1), .val (.int i2), .val (.int i3), .val (.int i4), .val (.int fA), .unset, .unset, .unset, .unset, .unset, .unset, .unset] [(.long (2147483648 : Int64)), (.int i1), (.int fA)])
  refine Go.step (fun _ k => XS.iload X0.here hx rfl (hb hby at_12) rfl k) ?_
  show Go p e below _ s₁ (mkF m 14 #[.val (.int i0), .val (.int i1), .val (.int i2), .val (.int i3), .val (.int i4), .val (.int fA), .unset, .unset, .unset, .unset, .unset, .unset, .unset] [(.int fA), (.long (2147483648 : Int64)), (.int i1), (.int fA)])
  refine Go.step (fun _ k => XS.i2l X0.here hx rfl (hb hby at_14) rfl k) ?_
  show Go p e below _ s₁ (mkF m 15 #[.val (.int i0), .val (.int i1), .val (.int i2), .val (.int i3), .val (.int i4), .val (.int fA), .unset, .unset, .unset, .unset, .unset, .unset, .unset] [(.long (fA.toInt64)), (.long (2147483648 : Int64)), (.int i1), (.int fA)])
  refine Go.step (fun _ k => XS.lsub X0.here hx rfl (hb hby at_15) rfl k) ?_
  show Go p e below _ s₁ (mkF m 16 #[.val (.int i0), .val (.int i1), .val (.int i2), .val (.int i3), .val (.int i4), .val (.int fA), .unset, .unset, .unset, .unset, .unset, .unset, .unset] [(.long ((2147483648 : Int64) - (fA.toInt64))), (.int i1), (.int fA)])
  obtain ⟨_, _, ⟨T33, L33, k33, n33⟩, -, X33, ⟨Lc33, hQ33, l33, y33, z33⟩, st33⟩ := Jvm.LawKit.callS X0 hx (y := (⟨"com/example/vigilant_crawler/vigilantcrawler/model/WordSpanEqualsPinLaw", "below", "(IJ)I"⟩ : MethodName)) hown (mvT hZ (hw _ (List.mem_of_getElem? (i := 2) rfl))) (mvT hZ (hw _ (List.mem_of_getElem? (i := 3) rfl))) (mvT hZ (hw _ (List.mem_of_getElem? (i := 4) rfl))) (mvT hZ (hw _ (List.mem_of_getElem? (i := 5) rfl))) (by decide) (backOf (W := 1) (rmL l Z a0 hw [] i1 ((2147483648 : Int64) - (fA.toInt64)) h0 n0 Zn (own_jn (by rw [own_j1 hfA]; have := fA.toInt_lt; omega))) hZ (hw _ (List.mem_of_getElem? (i := 5) rfl)) (hw _ (List.mem_of_getElem? (i := 4) rfl)) (by decide) (by decide)) (g := (mkF m 16 #[.val (.int i0), .val (.int i1), .val (.int i2), .val (.int i3), .val (.int i4), .val (.int fA), .unset, .unset, .unset, .unset, .unset, .unset, .unset] [(.long ((2147483648 : Int64) - (fA.toInt64))), (.int i1), (.int fA)])) rfl (by rw [hml]; rfl) (argsL := [(.int i1), (.long ((2147483648 : Int64) - (fA.toInt64)))]) (rest := [(.int fA)]) (lenOf own_f113 rfl) rfl (by show 2 * 0 + _ ≤ _; exact Nat.le_of_eq rfl) (hb hby at_16) (fun _ _ => ⟨rfl, e0, (by dsimp only [Pt.cells, Pt.slots]; decide), (by dsimp only [Pt.cells, Pt.slots]; decide)⟩)
  dsimp only [Pt.U, Pt.locs, Pt.cells, Pt.slots] at X33 l33 y33 z33 st33 hQ33
  subst l33 y33 z33
  obtain ⟨rfl, N33q, e33⟩ := hQ33
  have N33 := Fr.app N0 N33q
  refine Go.step (st33) ?_
  show Go p e below _ T33 (mkF m 19 #[.val (.int i0), .val (.int i1), .val (.int i2), .val (.int i3), .val (.int i4), .val (.int fA), .unset, .unset, .unset, .unset, .unset, .unset, .unset] [(.int (own_below i1 ((2147483648 : Int64) - (fA.toInt64)))), (.int fA)])
  obtain ⟨bA, e_bA⟩ : ∃ zq : Int32, zq = (own_below i1 ((2147483648 : Int64) - (fA.toInt64))) := ⟨_, rfl⟩
  rw [← e_bA]
  show Go p e below _ T33 (mkF m 19 #[.val (.int i0), .val (.int i1), .val (.int i2), .val (.int i3), .val (.int i4), .val (.int fA), .unset, .unset, .unset, .unset, .unset, .unset, .unset] [(.int bA), (.int fA)])
  refine Go.step (fun _ k => XS.iadd X33.here hx rfl (hb hby at_19) rfl k) ?_
  show Go p e below _ T33 (mkF m 20 #[.val (.int i0), .val (.int i1), .val (.int i2), .val (.int i3), .val (.int i4), .val (.int fA), .unset, .unset, .unset, .unset, .unset, .unset, .unset] [(.int (fA + bA))])
  obtain ⟨tA, e_tA⟩ : ∃ zq : Int32, zq = (fA + bA) := ⟨_, rfl⟩
  rw [← e_tA]
  show Go p e below _ T33 (mkF m 20 #[.val (.int i0), .val (.int i1), .val (.int i2), .val (.int i3), .val (.int i4), .val (.int fA), .unset, .unset, .unset, .unset, .unset, .unset, .unset] [(.int tA)])
  obtain ⟨okA, htA⟩ := own_ft hfA e_bA e_tA
  refine Go.step (fun _ k => XS.istore X33.here hx rfl (hb hby at_20) rfl (l' := #[.val (.int i0), .val (.int i1), .val (.int i2), .val (.int i3), .val (.int i4), .val (.int fA), .val (.int tA), .unset, .unset, .unset, .unset, .unset, .unset]) rfl k) ?_
  show Go p e below _ T33 (mkF m 22 #[.val (.int i0), .val (.int i1), .val (.int i2), .val (.int i3), .val (.int i4), .val (.int fA), .val (.int tA), .unset, .unset, .unset, .unset, .unset, .unset] [])
  refine Go.step (fun _ k => XS.iload X33.here hx rfl (hb hby at_22) rfl k) ?_
  show Go p e below _ T33 (mkF m 24 #[.val (.int i0), .val (.int i1), .val (.int i2), .val (.int i3), .val (.int i4), .val (.int fA), .val (.int tA), .unset, .unset, .unset, .unset, .unset, .unset] [(.int i4)])
  refine Go.step (fun _ k => XS.bipush X33.here hx rfl (hb hby at_24) k) ?_
  show Go p e below _ T33 (mkF m 26 #[.val (.int i0), .val (.int i1), .val (.int i2), .val (.int i3), .val (.int i4), .val (.int fA), .val (.int tA), .unset, .unset, .unset, .unset, .unset, .unset] [(.int (7 : Int32)), (.int i4)])
  refine Go.step (fun _ k => XS.iand X33.here hx rfl (hb hby at_26) rfl k) ?_
  show Go p e below _ T33 (mkF m 27 #[.val (.int i0), .val (.int i1), .val (.int i2), .val (.int i3), .val (.int i4), .val (.int fA), .val (.int tA), .unset, .unset, .unset, .unset, .unset, .unset] [(.int (i4 &&& (7 : Int32)))])
  obtain ⟨md, e_md⟩ : ∃ zq : Int32, zq = (i4 &&& (7 : Int32)) := ⟨_, rfl⟩
  rw [← e_md]
  show Go p e below _ T33 (mkF m 27 #[.val (.int i0), .val (.int i1), .val (.int i2), .val (.int i3), .val (.int i4), .val (.int fA), .val (.int tA), .unset, .unset, .unset, .unset, .unset, .unset] [(.int md)])
  refine Go.step (fun _ k => XS.istore X33.here hx rfl (hb hby at_27) rfl (l' := #[.val (.int i0), .val (.int i1), .val (.int i2), .val (.int i3), .val (.int i4), .val (.int fA), .val (.int tA), .val (.int md), .unset, .unset, .unset, .unset, .unset]) rfl k) ?_
  show Go p e below _ T33 (mkF m 29 #[.val (.int i0), .val (.int i1), .val (.int i2), .val (.int i3), .val (.int i4), .val (.int fA), .val (.int tA), .val (.int md), .unset, .unset, .unset, .unset, .unset] [])
  obtain ⟨T34, h34, X34, e34, E34, A34, D34, U34, st34⟩ := newO X33 hx hZ hown (hw _ (List.mem_of_getElem? (i := 7) rfl)) (hw _ (List.mem_of_getElem? (i := 8) rfl)) (hw _ (List.mem_of_getElem? (i := 9) rfl)) e33 (g := (mkF m 29 #[.val (.int i0), .val (.int i1), .val (.int i2), .val (.int i3), .val (.int i4), .val (.int fA), .val (.int tA), .val (.int md), .unset, .unset, .unset, .unset, .unset] [])) rfl (hb hby at_29) (by decide) (by decide)
  obtain ⟨oA, g34⟩ : ∃ z, z = h0.size := ⟨_, rfl⟩
  rw [← g34] at A34 D34 U34 st34
  have g_oA : n0 ≤ oA := Nat.le_trans Zn (Nat.le_of_eq g34.symm)
  have sz_oA : h0.size ≤ oA := Nat.le_trans K0.1 (Nat.le_of_eq g34.symm)
  replace Od := Od.ext E34
  replace Zn := Nat.le_trans Zn E34.1
  replace K0 := K0.ext E34
  have E_oA := A34
  have F_from_oA : Fld Z h34 oA "com/example/vigilant_crawler/vigilantcrawler/model/WordSpan" "from" "I" (.int (0 : Int32)) := D34 (Or.inr (hw _ (List.mem_of_getElem? (i := 17) rfl))) (ty := .int) (by decide)
  have F_to_oA : Fld Z h34 oA "com/example/vigilant_crawler/vigilantcrawler/model/WordSpan" "to" "I" (.int (0 : Int32)) := D34 (Or.inr (hw _ (List.mem_of_getElem? (i := 19) rfl))) (ty := .int) (by decide)
  refine Go.step st34 ?_
  show Go p e below _ T34 (mkF m 32 #[.val (.int i0), .val (.int i1), .val (.int i2), .val (.int i3), .val (.int i4), .val (.int fA), .val (.int tA), .val (.int md), .unset, .unset, .unset, .unset, .unset] [(.ref oA)])
  refine Go.step (fun _ k => XS.dup X34.here hx rfl (hb hby at_32) rfl rfl k) ?_
  show Go p e below _ T34 (mkF m 33 #[.val (.int i0), .val (.int i1), .val (.int i2), .val (.int i3), .val (.int i4), .val (.int fA), .val (.int tA), .val (.int md), .unset, .unset, .unset, .unset, .unset] [(.ref oA), (.ref oA)])
  refine Go.step (fun _ k => XS.iload X34.here hx rfl (hb hby at_33) rfl k) ?_
  show Go p e below _ T34 (mkF m 35 #[.val (.int i0), .val (.int i1), .val (.int i2), .val (.int i3), .val (.int i4), .val (.int fA), .val (.int tA), .val (.int md), .unset, .unset, .unset, .unset, .unset] [(.int fA), (.ref oA), (.ref oA)])
  refine Go.step (fun _ k => XS.iload X34.here hx rfl (hb hby at_35) rfl k) ?_
  show Go p e below _ T34 (mkF m 37 #[.val (.int i0), .val (.int i1), .val (.int i2), .val (.int i3), .val (.int i4), .val (.int fA), .val (.int tA), .val (.int md), .unset, .unset, .unset, .unset, .unset] [(.int tA), (.int fA), (.ref oA), (.ref oA)])
  obtain ⟨_, _, ⟨T35, L35, k35, n35⟩, -, X35, ⟨Lc35, hQ35, l35, y35, z35⟩, st35⟩ := X34.specialBack hx (y := (⟨"com/example/vigilant_crawler/vigilantcrawler/model/WordSpan", "<init>", "(II)V"⟩ : MethodName)) rfl hown (mvT hZ (hw _ (List.mem_of_getElem? (i := 10) rfl))) (mvT hZ (hw _ (List.mem_of_getElem? (i := 11) rfl))) (mvT hZ (hw _ (List.mem_of_getElem? (i := 12) rfl))) (by decide) (backOf (W := 1) (rmI l Z a0 hw [] oA fA tA h34 n0 Zn E_oA F_from_oA F_to_oA g_oA okA.1 okA.2) hZ (hw _ (List.mem_of_getElem? (i := 12) rfl)) (hw _ (List.mem_of_getElem? (i := 9) rfl)) (by decide) (by decide)) (g := (mkF m 37 #[.val (.int i0), .val (.int i1), .val (.int i2), .val (.int i3), .val (.int i4), .val (.int fA), .val (.int tA), .val (.int md), .unset, .unset, .unset, .unset, .unset] [(.int tA), (.int fA), (.ref oA), (.ref oA)])) rfl (by rw [hml]; rfl) (Steps.refl _) (a := oA) (argsL := [(.int fA), (.int tA)]) (rest := [(.ref oA)]) (lenOf own_f114 rfl) rfl (by show 2 * 0 + _ ≤ _; exact Nat.le_of_eq rfl) (hb hby at_37) (fun _ _ => ⟨rfl, e34, (by dsimp only [Pt.cells, Pt.slots]; decide), (by dsimp only [Pt.cells, Pt.slots]; decide)⟩)
  dsimp only [Pt.U, Pt.locs, Pt.cells, Pt.slots] at X35 l35 y35 z35 st35 hQ35
  subst l35 y35 z35
  obtain ⟨rfl, N35q, K35, F_from_oA, F_to_oA⟩ := hQ35
  have N35 := Fr.app N33 N35q
  refine Go.step (fun _ k => st35.trans k) ?_
  replace Od := Od.keep K35 (allS g_oA all0)
  replace E_oA := E_oA.keep K35
  replace K0 := K0.trans K35 (allS (Or.inr sz_oA) (all0))
  replace Zn := Nat.le_trans Zn K35.1
  show Go p e below _ T35 (mkF m 40 #[.val (.int i0), .val (.int i1), .val (.int i2), .val (.int i3), .val (.int i4), .val (.int fA), .val (.int tA), .val (.int md), .unset, .unset, .unset, .unset, .unset] [(.ref oA)])
  refine Go.step (fun _ k => XS.astore X35.here hx rfl (hb hby at_40) rfl rfl (l' := #[.val (.int i0), .val (.int i1), .val (.int i2), .val (.int i3), .val (.int i4), .val (.int fA), .val (.int tA), .val (.int md), .val (.ref oA), .unset, .unset, .unset, .unset]) rfl k) ?_
  show Go p e below _ T35 (mkF m 42 #[.val (.int i0), .val (.int i1), .val (.int i2), .val (.int i3), .val (.int i4), .val (.int fA), .val (.int tA), .val (.int md), .val (.ref oA), .unset, .unset, .unset, .unset] [])
  refine Go.step (fun _ k => XS.iload X35.here hx rfl (hb hby at_42) rfl k) ?_
  show Go p e below _ T35 (mkF m 44 #[.val (.int i0), .val (.int i1), .val (.int i2), .val (.int i3), .val (.int i4), .val (.int fA), .val (.int tA), .val (.int md), .val (.ref oA), .unset, .unset, .unset, .unset] [(.int md)])
  refine Go.step (fun _ k => XS.iconst X35.here hx rfl (hb hby at_44) k) ?_
  show Go p e below _ T35 (mkF m 45 #[.val (.int i0), .val (.int i1), .val (.int i2), .val (.int i3), .val (.int i4), .val (.int fA), .val (.int tA), .val (.int md), .val (.ref oA), .unset, .unset, .unset, .unset] [(.int (5 : Int32)), (.int md)])
  by_cases hc45_36 : md < (5 : Int32)
  · show Go p e below _ T35 (mkF m 45 #[.val (.int i0), .val (.int i1), .val (.int i2), .val (.int i3), .val (.int i4), .val (.int fA), .val (.int tA), .val (.int md), .val (.ref oA), .unset, .unset, .unset, .unset] [(.int (5 : Int32)), (.int md)])
    refine Go.step (fun _ k => XS.icmpYes X35.here hx rfl (pc0 := 45) (pc' := 114) rfl (hb hby at_45) rfl (tlt hc45_36).1 (by decide) (by decide) k) ?_
    show Go p e below _ T35 (mkF m 114 #[.val (.int i0), .val (.int i1), .val (.int i2), .val (.int i3), .val (.int i4), .val (.int fA), .val (.int tA), .val (.int md), .val (.ref oA), .unset, .unset, .unset, .unset] [])
    refine Go.step (fun _ k => XS.iload X35.here hx rfl (hb hby at_114) rfl k) ?_
    show Go p e below _ T35 (mkF m 116 #[.val (.int i0), .val (.int i1), .val (.int i2), .val (.int i3), .val (.int i4), .val (.int fA), .val (.int tA), .val (.int md), .val (.ref oA), .unset, .unset, .unset, .unset] [(.int md)])
    refine Go.step (fun _ k => XS.iconst X35.here hx rfl (hb hby at_116) k) ?_
    show Go p e below _ T35 (mkF m 117 #[.val (.int i0), .val (.int i1), .val (.int i2), .val (.int i3), .val (.int i4), .val (.int fA), .val (.int tA), .val (.int md), .val (.ref oA), .unset, .unset, .unset, .unset] [(.int (1 : Int32)), (.int md)])
    by_cases hc117_37 : md = (1 : Int32)
    · show Go p e below _ T35 (mkF m 117 #[.val (.int i0), .val (.int i1), .val (.int i2), .val (.int i3), .val (.int i4), .val (.int fA), .val (.int tA), .val (.int md), .val (.ref oA), .unset, .unset, .unset, .unset] [(.int (1 : Int32)), (.int md)])
      refine Go.step (fun _ k => XS.icmpNo X35.here hx rfl (hb hby at_117) rfl (teq hc117_37).2 k) ?_
      show Go p e below _ T35 (mkF m 120 #[.val (.int i0), .val (.int i1), .val (.int i2), .val (.int i3), .val (.int i4), .val (.int fA), .val (.int tA), .val (.int md), .val (.ref oA), .unset, .unset, .unset, .unset] [])
      refine Go.step (fun _ k => XS.iload X35.here hx rfl (hb hby at_120) rfl k) ?_
      show Go p e below _ T35 (mkF m 122 #[.val (.int i0), .val (.int i1), .val (.int i2), .val (.int i3), .val (.int i4), .val (.int fA), .val (.int tA), .val (.int md), .val (.ref oA), .unset, .unset, .unset, .unset] [(.int fA)])
      refine Go.step (fun _ k => XS.istore X35.here hx rfl (hb hby at_122) rfl (l' := #[.val (.int i0), .val (.int i1), .val (.int i2), .val (.int i3), .val (.int i4), .val (.int fA), .val (.int tA), .val (.int md), .val (.ref oA), .val (.int fA), .unset, .unset, .unset]) rfl k) ?_
      show Go p e below _ T35 (mkF m 124 #[.val (.int i0), .val (.int i1), .val (.int i2), .val (.int i3), .val (.int i4), .val (.int fA), .val (.int tA), .val (.int md), .val (.ref oA), .val (.int fA), .unset, .unset, .unset] [])
      refine Go.step (fun _ k => XS.iload X35.here hx rfl (hb hby at_124) rfl k) ?_
      show Go p e below _ T35 (mkF m 126 #[.val (.int i0), .val (.int i1), .val (.int i2), .val (.int i3), .val (.int i4), .val (.int fA), .val (.int tA), .val (.int md), .val (.ref oA), .val (.int fA), .unset, .unset, .unset] [(.int tA)])
      refine Go.step (fun _ k => XS.istore X35.here hx rfl (hb hby at_126) rfl (l' := #[.val (.int i0), .val (.int i1), .val (.int i2), .val (.int i3), .val (.int i4), .val (.int fA), .val (.int tA), .val (.int md), .val (.ref oA), .val (.int fA), .val (.int tA), .unset, .unset]) rfl k) ?_
      show Go p e below _ T35 (mkF m 128 #[.val (.int i0), .val (.int i1), .val (.int i2), .val (.int i3), .val (.int i4), .val (.int fA), .val (.int tA), .val (.int md), .val (.ref oA), .val (.int fA), .val (.int tA), .unset, .unset] [])
      refine Go.step (fun _ k => XS.goto X35.here hx rfl (pc0 := 128) (pc' := 206) rfl (hb hby at_128) (by decide) (by decide) k) ?_
      show Go p e below _ T35 (mkF m 206 #[.val (.int i0), .val (.int i1), .val (.int i2), .val (.int i3), .val (.int i4), .val (.int fA), .val (.int tA), .val (.int md), .val (.ref oA), .val (.int fA), .val (.int tA), .unset, .unset] [])
      obtain ⟨T38, h38, X38, e38, E38, A38, D38, U38, st38⟩ := newO X35 hx hZ hown (hw _ (List.mem_of_getElem? (i := 7) rfl)) (hw _ (List.mem_of_getElem? (i := 8) rfl)) (hw _ (List.mem_of_getElem? (i := 9) rfl)) rfl (g := (mkF m 206 #[.val (.int i0), .val (.int i1), .val (.int i2), .val (.int i3), .val (.int i4), .val (.int fA), .val (.int tA), .val (.int md), .val (.ref oA), .val (.int fA), .val (.int tA), .unset, .unset] [])) rfl (hb hby at_206) (by decide) (by decide)
      obtain ⟨oB, g38⟩ : ∃ z, z = T35.heap.size := ⟨_, rfl⟩
      rw [← g38] at A38 D38 U38 st38
      have ne_oA_oB : oA ≠ oB := Nat.ne_of_lt (Nat.lt_of_lt_of_le E_oA.lt (Nat.le_of_eq g38.symm))
      have g_oB : n0 ≤ oB := Nat.le_trans Zn (Nat.le_of_eq g38.symm)
      have sz_oB : h0.size ≤ oB := Nat.le_trans K0.1 (Nat.le_of_eq g38.symm)
      replace Od := Od.ext E38
      replace E_oA := E_oA.ext E38
      replace F_from_oA := F_from_oA.ext E38
      replace F_to_oA := F_to_oA.ext E38
      replace Zn := Nat.le_trans Zn E38.1
      replace K0 := K0.ext E38
      have E_oB := A38
      have F_from_oB : Fld Z h38 oB "com/example/vigilant_crawler/vigilantcrawler/model/WordSpan" "from" "I" (.int (0 : Int32)) := D38 (Or.inr (hw _ (List.mem_of_getElem? (i := 17) rfl))) (ty := .int) (by decide)
      have F_to_oB : Fld Z h38 oB "com/example/vigilant_crawler/vigilantcrawler/model/WordSpan" "to" "I" (.int (0 : Int32)) := D38 (Or.inr (hw _ (List.mem_of_getElem? (i := 19) rfl))) (ty := .int) (by decide)
      refine Go.step st38 ?_
      show Go p e below _ T38 (mkF m 209 #[.val (.int i0), .val (.int i1), .val (.int i2), .val (.int i3), .val (.int i4), .val (.int fA), .val (.int tA), .val (.int md), .val (.ref oA), .val (.int fA), .val (.int tA), .unset, .unset] [(.ref oB)])
      refine Go.step (fun _ k => XS.dup X38.here hx rfl (hb hby at_209) rfl rfl k) ?_
      show Go p e below _ T38 (mkF m 210 #[.val (.int i0), .val (.int i1), .val (.int i2), .val (.int i3), .val (.int i4), .val (.int fA), .val (.int tA), .val (.int md), .val (.ref oA), .val (.int fA), .val (.int tA), .unset, .unset] [(.ref oB), (.ref oB)])
      refine Go.step (fun _ k => XS.iload X38.here hx rfl (hb hby at_210) rfl k) ?_
      show Go p e below _ T38 (mkF m 212 #[.val (.int i0), .val (.int i1), .val (.int i2), .val (.int i3), .val (.int i4), .val (.int fA), .val (.int tA), .val (.int md), .val (.ref oA), .val (.int fA), .val (.int tA), .unset, .unset] [(.int fA), (.ref oB), (.ref oB)])
      refine Go.step (fun _ k => XS.iload X38.here hx rfl (hb hby at_212) rfl k) ?_
      show Go p e below _ T38 (mkF m 214 #[.val (.int i0), .val (.int i1), .val (.int i2), .val (.int i3), .val (.int i4), .val (.int fA), .val (.int tA), .val (.int md), .val (.ref oA), .val (.int fA), .val (.int tA), .unset, .unset] [(.int tA), (.int fA), (.ref oB), (.ref oB)])
      obtain ⟨_, _, ⟨T39, L39, k39, n39⟩, -, X39, ⟨Lc39, hQ39, l39, y39, z39⟩, st39⟩ := X38.specialBack hx (y := (⟨"com/example/vigilant_crawler/vigilantcrawler/model/WordSpan", "<init>", "(II)V"⟩ : MethodName)) rfl hown (mvT hZ (hw _ (List.mem_of_getElem? (i := 10) rfl))) (mvT hZ (hw _ (List.mem_of_getElem? (i := 11) rfl))) (mvT hZ (hw _ (List.mem_of_getElem? (i := 12) rfl))) (by decide) (backOf (W := 1) (rmI l Z a0 hw [] oB fA tA h38 n0 Zn E_oB F_from_oB F_to_oB g_oB okA.1 okA.2) hZ (hw _ (List.mem_of_getElem? (i := 12) rfl)) (hw _ (List.mem_of_getElem? (i := 9) rfl)) (by decide) (by decide)) (g := (mkF m 214 #[.val (.int i0), .val (.int i1), .val (.int i2), .val (.int i3), .val (.int i4), .val (.int fA), .val (.int tA), .val (.int md), .val (.ref oA), .val (.int fA), .val (.int tA), .unset, .unset] [(.int tA), (.int fA), (.ref oB), (.ref oB)])) rfl (by rw [hml]; rfl) (Steps.refl _) (a := oB) (argsL := [(.int fA), (.int tA)]) (rest := [(.ref oB)]) (lenOf own_f114 rfl) rfl (by show 2 * 0 + _ ≤ _; exact Nat.le_of_eq rfl) (hb hby at_214) (fun _ _ => ⟨rfl, e38, (by dsimp only [Pt.cells, Pt.slots]; decide), (by dsimp only [Pt.cells, Pt.slots]; decide)⟩)
      dsimp only [Pt.U, Pt.locs, Pt.cells, Pt.slots] at X39 l39 y39 z39 st39 hQ39
      subst l39 y39 z39
      obtain ⟨rfl, N39q, K39, F_from_oB, F_to_oB⟩ := hQ39
      have N39 := Fr.app N35 N39q
      refine Go.step (fun _ k => st39.trans k) ?_
      replace Od := Od.keep K39 (allS g_oB all0)
      replace E_oA := E_oA.keep K39
      replace F_from_oA := F_from_oA.keep K39 (ninS ne_oA_oB nin0)
      replace F_to_oA := F_to_oA.keep K39 (ninS ne_oA_oB nin0)
      replace E_oB := E_oB.keep K39
      replace K0 := K0.trans K39 (allS (Or.inr sz_oB) (all0))
      replace Zn := Nat.le_trans Zn K39.1
      show Go p e below _ T39 (mkF m 217 #[.val (.int i0), .val (.int i1), .val (.int i2), .val (.int i3), .val (.int i4), .val (.int fA), .val (.int tA), .val (.int md), .val (.ref oA), .val (.int fA), .val (.int tA), .unset, .unset] [(.ref oB)])
      refine Go.step (fun _ k => XS.astore X39.here hx rfl (hb hby at_217) rfl rfl (l' := #[.val (.int i0), .val (.int i1), .val (.int i2), .val (.int i3), .val (.int i4), .val (.int fA), .val (.int tA), .val (.int md), .val (.ref oA), .val (.int fA), .val (.int tA), .val (.ref oB), .unset]) rfl k) ?_
      show Go p e below _ T39 (mkF m 219 #[.val (.int i0), .val (.int i1), .val (.int i2), .val (.int i3), .val (.int i4), .val (.int fA), .val (.int tA), .val (.int md), .val (.ref oA), .val (.int fA), .val (.int tA), .val (.ref oB), .unset] [])
      refine Go.step (fun _ k => XS.iload X39.here hx rfl (hb hby at_219) rfl k) ?_
      show Go p e below _ T39 (mkF m 221 #[.val (.int i0), .val (.int i1), .val (.int i2), .val (.int i3), .val (.int i4), .val (.int fA), .val (.int tA), .val (.int md), .val (.ref oA), .val (.int fA), .val (.int tA), .val (.ref oB), .unset] [(.int fA)])
      refine Go.step (fun _ k => XS.iload X39.here hx rfl (hb hby at_221) rfl k) ?_
      show Go p e below _ T39 (mkF m 223 #[.val (.int i0), .val (.int i1), .val (.int i2), .val (.int i3), .val (.int i4), .val (.int fA), .val (.int tA), .val (.int md), .val (.ref oA), .val (.int fA), .val (.int tA), .val (.ref oB), .unset] [(.int fA), (.int fA)])
      by_cases hc223_40 : fA = fA
      · show Go p e below _ T39 (mkF m 223 #[.val (.int i0), .val (.int i1), .val (.int i2), .val (.int i3), .val (.int i4), .val (.int fA), .val (.int tA), .val (.int md), .val (.ref oA), .val (.int fA), .val (.int tA), .val (.ref oB), .unset] [(.int fA), (.int fA)])
        refine Go.step (fun _ k => XS.icmpNo X39.here hx rfl (hb hby at_223) rfl (teq hc223_40).2 k) ?_
        show Go p e below _ T39 (mkF m 226 #[.val (.int i0), .val (.int i1), .val (.int i2), .val (.int i3), .val (.int i4), .val (.int fA), .val (.int tA), .val (.int md), .val (.ref oA), .val (.int fA), .val (.int tA), .val (.ref oB), .unset] [])
        refine Go.step (fun _ k => XS.iload X39.here hx rfl (hb hby at_226) rfl k) ?_
        show Go p e below _ T39 (mkF m 228 #[.val (.int i0), .val (.int i1), .val (.int i2), .val (.int i3), .val (.int i4), .val (.int fA), .val (.int tA), .val (.int md), .val (.ref oA), .val (.int fA), .val (.int tA), .val (.ref oB), .unset] [(.int tA)])
        refine Go.step (fun _ k => XS.iload X39.here hx rfl (hb hby at_228) rfl k) ?_
        show Go p e below _ T39 (mkF m 230 #[.val (.int i0), .val (.int i1), .val (.int i2), .val (.int i3), .val (.int i4), .val (.int fA), .val (.int tA), .val (.int md), .val (.ref oA), .val (.int fA), .val (.int tA), .val (.ref oB), .unset] [(.int tA), (.int tA)])
        by_cases hc230_41 : tA = tA
        · show Go p e below _ T39 (mkF m 230 #[.val (.int i0), .val (.int i1), .val (.int i2), .val (.int i3), .val (.int i4), .val (.int fA), .val (.int tA), .val (.int md), .val (.ref oA), .val (.int fA), .val (.int tA), .val (.ref oB), .unset] [(.int tA), (.int tA)])
          refine Go.step (fun _ k => XS.icmpNo X39.here hx rfl (hb hby at_230) rfl (teq hc230_41).2 k) ?_
          show Go p e below _ T39 (mkF m 233 #[.val (.int i0), .val (.int i1), .val (.int i2), .val (.int i3), .val (.int i4), .val (.int fA), .val (.int tA), .val (.int md), .val (.ref oA), .val (.int fA), .val (.int tA), .val (.ref oB), .unset] [])
          refine Go.step (fun _ k => XS.iconst X39.here hx rfl (hb hby at_233) k) ?_
          show Go p e below _ T39 (mkF m 234 #[.val (.int i0), .val (.int i1), .val (.int i2), .val (.int i3), .val (.int i4), .val (.int fA), .val (.int tA), .val (.int md), .val (.ref oA), .val (.int fA), .val (.int tA), .val (.ref oB), .unset] [(.int (1 : Int32))])
          refine Go.step (fun _ k => XS.goto X39.here hx rfl (pc0 := 234) (pc' := 238) rfl (hb hby at_234) (by decide) (by decide) k) ?_
          show Go p e below _ T39 (mkF m 238 #[.val (.int i0), .val (.int i1), .val (.int i2), .val (.int i3), .val (.int i4), .val (.int fA), .val (.int tA), .val (.int md), .val (.ref oA), .val (.int fA), .val (.int tA), .val (.ref oB), .unset] [(.int (1 : Int32))])
          refine Go.step (fun _ k => XS.istore X39.here hx rfl (hb hby at_238) rfl (l' := #[.val (.int i0), .val (.int i1), .val (.int i2), .val (.int i3), .val (.int i4), .val (.int fA), .val (.int tA), .val (.int md), .val (.ref oA), .val (.int fA), .val (.int tA), .val (.ref oB), .val (.int (1 : Int32))]) rfl k) ?_
          show Go p e below _ T39 (mkF m 240 #[.val (.int i0), .val (.int i1), .val (.int i2), .val (.int i3), .val (.int i4), .val (.int fA), .val (.int tA), .val (.int md), .val (.ref oA), .val (.int fA), .val (.int tA), .val (.ref oB), .val (.int (1 : Int32))] [])
          refine Go.step (fun _ k => XS.aload X39.here hx rfl (hb hby at_240) rfl rfl k) ?_
          show Go p e below _ T39 (mkF m 242 #[.val (.int i0), .val (.int i1), .val (.int i2), .val (.int i3), .val (.int i4), .val (.int fA), .val (.int tA), .val (.int md), .val (.ref oA), .val (.int fA), .val (.int tA), .val (.ref oB), .val (.int (1 : Int32))] [(.ref oA)])
          refine Go.step (fun _ k => XS.aload X39.here hx rfl (hb hby at_242) rfl rfl k) ?_
          show Go p e below _ T39 (mkF m 244 #[.val (.int i0), .val (.int i1), .val (.int i2), .val (.int i3), .val (.int i4), .val (.int fA), .val (.int tA), .val (.int md), .val (.ref oA), .val (.int fA), .val (.int tA), .val (.ref oB), .val (.int (1 : Int32))] [(.ref oB), (.ref oA)])
          obtain ⟨cq42, kq42, q42a, q42b, q42c⟩ := isOf hZ rfl E_oA
          obtain ⟨_, _, ⟨T42, L42, k42, n42⟩, -, X42, ⟨Lc42, hQ42, l42, y42, z42⟩, st42⟩ := X39.virtualBack hx (y := (⟨"com/example/vigilant_crawler/vigilantcrawler/model/WordSpan", "equals", "(Ljava/lang/Object;)Z"⟩ : MethodName)) (z := (⟨"com/example/vigilant_crawler/vigilantcrawler/model/WordSpan", "equals", "(Ljava/lang/Object;)Z"⟩ : MethodName)) hown (mvT hZ (hw _ (List.mem_of_getElem? (i := 20) rfl))) (mvT hZ (hw _ (List.mem_of_getElem? (i := 21) rfl))) (notFace_of_selects (args := #[]) (mvT hZ (hw _ (List.mem_of_getElem? (i := 23) rfl)))) (mvT hZ (hw _ (List.mem_of_getElem? (i := 23) rfl))) (mvT hZ (hw _ (List.mem_of_getElem? (i := 22) rfl))) (by decide) (backOf (W := 0) (rmE l Z a0 hw [] oA oB fA tA fA tA T39.heap n0 Zn F_from_oA F_to_oA E_oB F_from_oB F_to_oB) hZ (hw _ (List.mem_of_getElem? (i := 24) rfl)) (hw _ (List.mem_of_getElem? (i := 9) rfl)) (by decide) (by decide)) q42a q42c (g := (mkF m 244 #[.val (.int i0), .val (.int i1), .val (.int i2), .val (.int i3), .val (.int i4), .val (.int fA), .val (.int tA), .val (.int md), .val (.ref oA), .val (.int fA), .val (.int tA), .val (.ref oB), .val (.int (1 : Int32))] [(.ref oB), (.ref oA)])) rfl (by rw [hml]; rfl) (Steps.refl _) (argsL := [(.ref oB)]) (rest := []) (lenOf own_f115 rfl) rfl (by show 2 * 0 + _ ≤ _; exact Nat.le_of_eq rfl) (hb hby at_244) (fun _ _ => ⟨rfl, rfl, (by dsimp only [Pt.cells, Pt.slots]; decide), (by dsimp only [Pt.cells, Pt.slots]; decide)⟩)
          dsimp only [Pt.U, Pt.locs, Pt.cells, Pt.slots] at X42 l42 y42 z42 st42 hQ42
          subst l42 y42 z42
          obtain ⟨rfl, N42q, e42⟩ := hQ42
          have N42 := Fr.app N39 N42q
          refine Go.step (fun _ k => st42.trans k) ?_
          show Go p e below _ T42 (mkF m 247 #[.val (.int i0), .val (.int i1), .val (.int i2), .val (.int i3), .val (.int i4), .val (.int fA), .val (.int tA), .val (.int md), .val (.ref oA), .val (.int fA), .val (.int tA), .val (.ref oB), .val (.int (1 : Int32))] [(.int (own_eq fA tA fA tA))])
          refine Go.step (fun _ k => XS.iload X42.here hx rfl (hb hby at_247) rfl k) ?_
          show Go p e below _ T42 (mkF m 249 #[.val (.int i0), .val (.int i1), .val (.int i2), .val (.int i3), .val (.int i4), .val (.int fA), .val (.int tA), .val (.int md), .val (.ref oA), .val (.int fA), .val (.int tA), .val (.ref oB), .val (.int (1 : Int32))] [(.int (1 : Int32)), (.int (own_eq fA tA fA tA))])
          refine Go.step (fun _ k => XS.icmpNo X42.here hx rfl (hb hby at_249) rfl (teq (own_eqY hc223_40 hc230_41)).2 k) ?_
          show Go p e below _ T42 (mkF m 252 #[.val (.int i0), .val (.int i1), .val (.int i2), .val (.int i3), .val (.int i4), .val (.int fA), .val (.int tA), .val (.int md), .val (.ref oA), .val (.int fA), .val (.int tA), .val (.ref oB), .val (.int (1 : Int32))] [])
          refine Go.step (fun _ k => XS.aload X42.here hx rfl (hb hby at_252) rfl rfl k) ?_
          show Go p e below _ T42 (mkF m 254 #[.val (.int i0), .val (.int i1), .val (.int i2), .val (.int i3), .val (.int i4), .val (.int fA), .val (.int tA), .val (.int md), .val (.ref oA), .val (.int fA), .val (.int tA), .val (.ref oB), .val (.int (1 : Int32))] [(.ref oB)])
          refine Go.step (fun _ k => XS.aload X42.here hx rfl (hb hby at_254) rfl rfl k) ?_
          show Go p e below _ T42 (mkF m 256 #[.val (.int i0), .val (.int i1), .val (.int i2), .val (.int i3), .val (.int i4), .val (.int fA), .val (.int tA), .val (.int md), .val (.ref oA), .val (.int fA), .val (.int tA), .val (.ref oB), .val (.int (1 : Int32))] [(.ref oA), (.ref oB)])
          obtain ⟨cq43, kq43, q43a, q43b, q43c⟩ := isOf hZ e42 E_oB
          obtain ⟨_, _, ⟨T43, L43, k43, n43⟩, -, X43, ⟨Lc43, hQ43, l43, y43, z43⟩, st43⟩ := X42.virtualBack hx (y := (⟨"com/example/vigilant_crawler/vigilantcrawler/model/WordSpan", "equals", "(Ljava/lang/Object;)Z"⟩ : MethodName)) (z := (⟨"com/example/vigilant_crawler/vigilantcrawler/model/WordSpan", "equals", "(Ljava/lang/Object;)Z"⟩ : MethodName)) hown (mvT hZ (hw _ (List.mem_of_getElem? (i := 20) rfl))) (mvT hZ (hw _ (List.mem_of_getElem? (i := 21) rfl))) (notFace_of_selects (args := #[]) (mvT hZ (hw _ (List.mem_of_getElem? (i := 23) rfl)))) (mvT hZ (hw _ (List.mem_of_getElem? (i := 23) rfl))) (mvT hZ (hw _ (List.mem_of_getElem? (i := 22) rfl))) (by decide) (backOf (W := 0) (rmE l Z a0 hw [] oB oA fA tA fA tA T39.heap n0 Zn F_from_oB F_to_oB E_oA F_from_oA F_to_oA) hZ (hw _ (List.mem_of_getElem? (i := 24) rfl)) (hw _ (List.mem_of_getElem? (i := 9) rfl)) (by decide) (by decide)) q43a q43c (g := (mkF m 256 #[.val (.int i0), .val (.int i1), .val (.int i2), .val (.int i3), .val (.int i4), .val (.int fA), .val (.int tA), .val (.int md), .val (.ref oA), .val (.int fA), .val (.int tA), .val (.ref oB), .val (.int (1 : Int32))] [(.ref oA), (.ref oB)])) rfl (by rw [hml]; rfl) (Steps.refl _) (argsL := [(.ref oA)]) (rest := []) (lenOf own_f115 rfl) rfl (by show 2 * 0 + _ ≤ _; exact Nat.le_of_eq rfl) (hb hby at_256) (fun _ _ => ⟨rfl, e42, (by dsimp only [Pt.cells, Pt.slots]; decide), (by dsimp only [Pt.cells, Pt.slots]; decide)⟩)
          dsimp only [Pt.U, Pt.locs, Pt.cells, Pt.slots] at X43 l43 y43 z43 st43 hQ43
          subst l43 y43 z43
          obtain ⟨rfl, N43q, e43⟩ := hQ43
          have N43 := Fr.app N42 N43q
          refine Go.step (fun _ k => st43.trans k) ?_
          show Go p e below _ T43 (mkF m 259 #[.val (.int i0), .val (.int i1), .val (.int i2), .val (.int i3), .val (.int i4), .val (.int fA), .val (.int tA), .val (.int md), .val (.ref oA), .val (.int fA), .val (.int tA), .val (.ref oB), .val (.int (1 : Int32))] [(.int (own_eq fA tA fA tA))])
          refine Go.step (fun _ k => XS.iload X43.here hx rfl (hb hby at_259) rfl k) ?_
          show Go p e below _ T43 (mkF m 261 #[.val (.int i0), .val (.int i1), .val (.int i2), .val (.int i3), .val (.int i4), .val (.int fA), .val (.int tA), .val (.int md), .val (.ref oA), .val (.int fA), .val (.int tA), .val (.ref oB), .val (.int (1 : Int32))] [(.int (1 : Int32)), (.int (own_eq fA tA fA tA))])
          refine Go.step (fun _ k => XS.icmpNo X43.here hx rfl (hb hby at_261) rfl (teq (own_eqY hc223_40.symm hc230_41.symm)).2 k) ?_
          show Go p e below _ T43 (mkF m 264 #[.val (.int i0), .val (.int i1), .val (.int i2), .val (.int i3), .val (.int i4), .val (.int fA), .val (.int tA), .val (.int md), .val (.ref oA), .val (.int fA), .val (.int tA), .val (.ref oB), .val (.int (1 : Int32))] [])
          refine Go.step (fun _ k => XS.aload X43.here hx rfl (hb hby at_264) rfl rfl k) ?_
          show Go p e below _ T43 (mkF m 266 #[.val (.int i0), .val (.int i1), .val (.int i2), .val (.int i3), .val (.int i4), .val (.int fA), .val (.int tA), .val (.int md), .val (.ref oA), .val (.int fA), .val (.int tA), .val (.ref oB), .val (.int (1 : Int32))] [(.ref oA)])
          refine Go.step (fun _ k => XS.aload X43.here hx rfl (hb hby at_266) rfl rfl k) ?_
          show Go p e below _ T43 (mkF m 268 #[.val (.int i0), .val (.int i1), .val (.int i2), .val (.int i3), .val (.int i4), .val (.int fA), .val (.int tA), .val (.int md), .val (.ref oA), .val (.int fA), .val (.int tA), .val (.ref oB), .val (.int (1 : Int32))] [(.ref oA), (.ref oA)])
          obtain ⟨cq44, kq44, q44a, q44b, q44c⟩ := isOf hZ e43 E_oA
          obtain ⟨_, _, ⟨T44, L44, k44, n44⟩, -, X44, ⟨Lc44, hQ44, l44, y44, z44⟩, st44⟩ := X43.virtualBack hx (y := (⟨"com/example/vigilant_crawler/vigilantcrawler/model/WordSpan", "equals", "(Ljava/lang/Object;)Z"⟩ : MethodName)) (z := (⟨"com/example/vigilant_crawler/vigilantcrawler/model/WordSpan", "equals", "(Ljava/lang/Object;)Z"⟩ : MethodName)) hown (mvT hZ (hw _ (List.mem_of_getElem? (i := 20) rfl))) (mvT hZ (hw _ (List.mem_of_getElem? (i := 21) rfl))) (notFace_of_selects (args := #[]) (mvT hZ (hw _ (List.mem_of_getElem? (i := 23) rfl)))) (mvT hZ (hw _ (List.mem_of_getElem? (i := 23) rfl))) (mvT hZ (hw _ (List.mem_of_getElem? (i := 22) rfl))) (by decide) (backOf (W := 0) (rmE l Z a0 hw [] oA oA fA tA fA tA T39.heap n0 Zn F_from_oA F_to_oA E_oA F_from_oA F_to_oA) hZ (hw _ (List.mem_of_getElem? (i := 24) rfl)) (hw _ (List.mem_of_getElem? (i := 9) rfl)) (by decide) (by decide)) q44a q44c (g := (mkF m 268 #[.val (.int i0), .val (.int i1), .val (.int i2), .val (.int i3), .val (.int i4), .val (.int fA), .val (.int tA), .val (.int md), .val (.ref oA), .val (.int fA), .val (.int tA), .val (.ref oB), .val (.int (1 : Int32))] [(.ref oA), (.ref oA)])) rfl (by rw [hml]; rfl) (Steps.refl _) (argsL := [(.ref oA)]) (rest := []) (lenOf own_f115 rfl) rfl (by show 2 * 0 + _ ≤ _; exact Nat.le_of_eq rfl) (hb hby at_268) (fun _ _ => ⟨rfl, e43, (by dsimp only [Pt.cells, Pt.slots]; decide), (by dsimp only [Pt.cells, Pt.slots]; decide)⟩)
          dsimp only [Pt.U, Pt.locs, Pt.cells, Pt.slots] at X44 l44 y44 z44 st44 hQ44
          subst l44 y44 z44
          obtain ⟨rfl, N44q, e44⟩ := hQ44
          have N44 := Fr.app N43 N44q
          refine Go.step (fun _ k => st44.trans k) ?_
          show Go p e below _ T44 (mkF m 271 #[.val (.int i0), .val (.int i1), .val (.int i2), .val (.int i3), .val (.int i4), .val (.int fA), .val (.int tA), .val (.int md), .val (.ref oA), .val (.int fA), .val (.int tA), .val (.ref oB), .val (.int (1 : Int32))] [(.int (own_eq fA tA fA tA))])
          refine Go.step (fun _ k => XS.ifNo X44.here hx rfl (hb hby at_271) rfl ((if0 _ _).trans (feq (own_eqS _ _)).1) k) ?_
          show Go p e below _ T44 (mkF m 274 #[.val (.int i0), .val (.int i1), .val (.int i2), .val (.int i3), .val (.int i4), .val (.int fA), .val (.int tA), .val (.int md), .val (.ref oA), .val (.int fA), .val (.int tA), .val (.ref oB), .val (.int (1 : Int32))] [])
          refine Go.step (fun _ k => XS.iconst X44.here hx rfl (hb hby at_274) k) ?_
          show Go p e below _ T44 (mkF m 275 #[.val (.int i0), .val (.int i1), .val (.int i2), .val (.int i3), .val (.int i4), .val (.int fA), .val (.int tA), .val (.int md), .val (.ref oA), .val (.int fA), .val (.int tA), .val (.ref oB), .val (.int (1 : Int32))] [(.int (1 : Int32))])
          refine Go.step (fun _ k => XS.goto X44.here hx rfl (pc0 := 275) (pc' := 279) rfl (hb hby at_275) (by decide) (by decide) k) ?_
          show Go p e below _ T44 (mkF m 279 #[.val (.int i0), .val (.int i1), .val (.int i2), .val (.int i3), .val (.int i4), .val (.int fA), .val (.int tA), .val (.int md), .val (.ref oA), .val (.int fA), .val (.int tA), .val (.ref oB), .val (.int (1 : Int32))] [(.int (1 : Int32))])
          obtain ⟨fs, hr, hrun, hended, hW, hsame⟩ := X44.leave (v := some (.int (1 : Int32))) (fun h => by rw [Bd.returns] at h; cases h)
          refine Go.fin (retN X44 hx (t := .boolean) Bd.returns (by simp) (hb hby at_279) hr) hrun hended ?_
          refine ⟨_, _, rfl, ?_, ⟨_, rfl⟩, hW, hsame.mono (by decide) (by decide)⟩
          show Q0 Z i0 i1 i2 i3 i4 kc aK cK h0 n0 _ T44.heap _
          rw [e44]
          exact ⟨rfl, N44⟩
        · show Go p e below _ T39 (mkF m 230 #[.val (.int i0), .val (.int i1), .val (.int i2), .val (.int i3), .val (.int i4), .val (.int fA), .val (.int tA), .val (.int md), .val (.ref oA), .val (.int fA), .val (.int tA), .val (.ref oB), .unset] [(.int tA), (.int tA)])
          refine Go.step (fun _ k => XS.icmpYes X39.here hx rfl (pc0 := 230) (pc' := 237) rfl (hb hby at_230) rfl (feq hc230_41).2 (by decide) (by decide) k) ?_
          show Go p e below _ T39 (mkF m 237 #[.val (.int i0), .val (.int i1), .val (.int i2), .val (.int i3), .val (.int i4), .val (.int fA), .val (.int tA), .val (.int md), .val (.ref oA), .val (.int fA), .val (.int tA), .val (.ref oB), .unset] [])
          refine Go.step (fun _ k => XS.iconst X39.here hx rfl (hb hby at_237) k) ?_
          show Go p e below _ T39 (mkF m 238 #[.val (.int i0), .val (.int i1), .val (.int i2), .val (.int i3), .val (.int i4), .val (.int fA), .val (.int tA), .val (.int md), .val (.ref oA), .val (.int fA), .val (.int tA), .val (.ref oB), .unset] [(.int (0 : Int32))])
          refine Go.step (fun _ k => XS.istore X39.here hx rfl (hb hby at_238) rfl (l' := #[.val (.int i0), .val (.int i1), .val (.int i2), .val (.int i3), .val (.int i4), .val (.int fA), .val (.int tA), .val (.int md), .val (.ref oA), .val (.int fA), .val (.int tA), .val (.ref oB), .val (.int (0 : Int32))]) rfl k) ?_
          show Go p e below _ T39 (mkF m 240 #[.val (.int i0), .val (.int i1), .val (.int i2), .val (.int i3), .val (.int i4), .val (.int fA), .val (.int tA), .val (.int md), .val (.ref oA), .val (.int fA), .val (.int tA), .val (.ref oB), .val (.int (0 : Int32))] [])
          refine Go.step (fun _ k => XS.aload X39.here hx rfl (hb hby at_240) rfl rfl k) ?_
          show Go p e below _ T39 (mkF m 242 #[.val (.int i0), .val (.int i1), .val (.int i2), .val (.int i3), .val (.int i4), .val (.int fA), .val (.int tA), .val (.int md), .val (.ref oA), .val (.int fA), .val (.int tA), .val (.ref oB), .val (.int (0 : Int32))] [(.ref oA)])
          refine Go.step (fun _ k => XS.aload X39.here hx rfl (hb hby at_242) rfl rfl k) ?_
          show Go p e below _ T39 (mkF m 244 #[.val (.int i0), .val (.int i1), .val (.int i2), .val (.int i3), .val (.int i4), .val (.int fA), .val (.int tA), .val (.int md), .val (.ref oA), .val (.int fA), .val (.int tA), .val (.ref oB), .val (.int (0 : Int32))] [(.ref oB), (.ref oA)])
          obtain ⟨cq45, kq45, q45a, q45b, q45c⟩ := isOf hZ rfl E_oA
          obtain ⟨_, _, ⟨T45, L45, k45, n45⟩, -, X45, ⟨Lc45, hQ45, l45, y45, z45⟩, st45⟩ := X39.virtualBack hx (y := (⟨"com/example/vigilant_crawler/vigilantcrawler/model/WordSpan", "equals", "(Ljava/lang/Object;)Z"⟩ : MethodName)) (z := (⟨"com/example/vigilant_crawler/vigilantcrawler/model/WordSpan", "equals", "(Ljava/lang/Object;)Z"⟩ : MethodName)) hown (mvT hZ (hw _ (List.mem_of_getElem? (i := 20) rfl))) (mvT hZ (hw _ (List.mem_of_getElem? (i := 21) rfl))) (notFace_of_selects (args := #[]) (mvT hZ (hw _ (List.mem_of_getElem? (i := 23) rfl)))) (mvT hZ (hw _ (List.mem_of_getElem? (i := 23) rfl))) (mvT hZ (hw _ (List.mem_of_getElem? (i := 22) rfl))) (by decide) (backOf (W := 0) (rmE l Z a0 hw [] oA oB fA tA fA tA T39.heap n0 Zn F_from_oA F_to_oA E_oB F_from_oB F_to_oB) hZ (hw _ (List.mem_of_getElem? (i := 24) rfl)) (hw _ (List.mem_of_getElem? (i := 9) rfl)) (by decide) (by decide)) q45a q45c (g := (mkF m 244 #[.val (.int i0), .val (.int i1), .val (.int i2), .val (.int i3), .val (.int i4), .val (.int fA), .val (.int tA), .val (.int md), .val (.ref oA), .val (.int fA), .val (.int tA), .val (.ref oB), .val (.int (0 : Int32))] [(.ref oB), (.ref oA)])) rfl (by rw [hml]; rfl) (Steps.refl _) (argsL := [(.ref oB)]) (rest := []) (lenOf own_f115 rfl) rfl (by show 2 * 0 + _ ≤ _; exact Nat.le_of_eq rfl) (hb hby at_244) (fun _ _ => ⟨rfl, rfl, (by dsimp only [Pt.cells, Pt.slots]; decide), (by dsimp only [Pt.cells, Pt.slots]; decide)⟩)
          dsimp only [Pt.U, Pt.locs, Pt.cells, Pt.slots] at X45 l45 y45 z45 st45 hQ45
          subst l45 y45 z45
          obtain ⟨rfl, N45q, e45⟩ := hQ45
          have N45 := Fr.app N39 N45q
          refine Go.step (fun _ k => st45.trans k) ?_
          show Go p e below _ T45 (mkF m 247 #[.val (.int i0), .val (.int i1), .val (.int i2), .val (.int i3), .val (.int i4), .val (.int fA), .val (.int tA), .val (.int md), .val (.ref oA), .val (.int fA), .val (.int tA), .val (.ref oB), .val (.int (0 : Int32))] [(.int (own_eq fA tA fA tA))])
          refine Go.step (fun _ k => XS.iload X45.here hx rfl (hb hby at_247) rfl k) ?_
          show Go p e below _ T45 (mkF m 249 #[.val (.int i0), .val (.int i1), .val (.int i2), .val (.int i3), .val (.int i4), .val (.int fA), .val (.int tA), .val (.int md), .val (.ref oA), .val (.int fA), .val (.int tA), .val (.ref oB), .val (.int (0 : Int32))] [(.int (0 : Int32)), (.int (own_eq fA tA fA tA))])
          refine Go.step (fun _ k => XS.icmpNo X45.here hx rfl (hb hby at_249) rfl (teq (own_eqN2 hc230_41)).2 k) ?_
          show Go p e below _ T45 (mkF m 252 #[.val (.int i0), .val (.int i1), .val (.int i2), .val (.int i3), .val (.int i4), .val (.int fA), .val (.int tA), .val (.int md), .val (.ref oA), .val (.int fA), .val (.int tA), .val (.ref oB), .val (.int (0 : Int32))] [])
          refine Go.step (fun _ k => XS.aload X45.here hx rfl (hb hby at_252) rfl rfl k) ?_
          show Go p e below _ T45 (mkF m 254 #[.val (.int i0), .val (.int i1), .val (.int i2), .val (.int i3), .val (.int i4), .val (.int fA), .val (.int tA), .val (.int md), .val (.ref oA), .val (.int fA), .val (.int tA), .val (.ref oB), .val (.int (0 : Int32))] [(.ref oB)])
          refine Go.step (fun _ k => XS.aload X45.here hx rfl (hb hby at_254) rfl rfl k) ?_
          show Go p e below _ T45 (mkF m 256 #[.val (.int i0), .val (.int i1), .val (.int i2), .val (.int i3), .val (.int i4), .val (.int fA), .val (.int tA), .val (.int md), .val (.ref oA), .val (.int fA), .val (.int tA), .val (.ref oB), .val (.int (0 : Int32))] [(.ref oA), (.ref oB)])
          obtain ⟨cq46, kq46, q46a, q46b, q46c⟩ := isOf hZ e45 E_oB
          obtain ⟨_, _, ⟨T46, L46, k46, n46⟩, -, X46, ⟨Lc46, hQ46, l46, y46, z46⟩, st46⟩ := X45.virtualBack hx (y := (⟨"com/example/vigilant_crawler/vigilantcrawler/model/WordSpan", "equals", "(Ljava/lang/Object;)Z"⟩ : MethodName)) (z := (⟨"com/example/vigilant_crawler/vigilantcrawler/model/WordSpan", "equals", "(Ljava/lang/Object;)Z"⟩ : MethodName)) hown (mvT hZ (hw _ (List.mem_of_getElem? (i := 20) rfl))) (mvT hZ (hw _ (List.mem_of_getElem? (i := 21) rfl))) (notFace_of_selects (args := #[]) (mvT hZ (hw _ (List.mem_of_getElem? (i := 23) rfl)))) (mvT hZ (hw _ (List.mem_of_getElem? (i := 23) rfl))) (mvT hZ (hw _ (List.mem_of_getElem? (i := 22) rfl))) (by decide) (backOf (W := 0) (rmE l Z a0 hw [] oB oA fA tA fA tA T39.heap n0 Zn F_from_oB F_to_oB E_oA F_from_oA F_to_oA) hZ (hw _ (List.mem_of_getElem? (i := 24) rfl)) (hw _ (List.mem_of_getElem? (i := 9) rfl)) (by decide) (by decide)) q46a q46c (g := (mkF m 256 #[.val (.int i0), .val (.int i1), .val (.int i2), .val (.int i3), .val (.int i4), .val (.int fA), .val (.int tA), .val (.int md), .val (.ref oA), .val (.int fA), .val (.int tA), .val (.ref oB), .val (.int (0 : Int32))] [(.ref oA), (.ref oB)])) rfl (by rw [hml]; rfl) (Steps.refl _) (argsL := [(.ref oA)]) (rest := []) (lenOf own_f115 rfl) rfl (by show 2 * 0 + _ ≤ _; exact Nat.le_of_eq rfl) (hb hby at_256) (fun _ _ => ⟨rfl, e45, (by dsimp only [Pt.cells, Pt.slots]; decide), (by dsimp only [Pt.cells, Pt.slots]; decide)⟩)
          dsimp only [Pt.U, Pt.locs, Pt.cells, Pt.slots] at X46 l46 y46 z46 st46 hQ46
          subst l46 y46 z46
          obtain ⟨rfl, N46q, e46⟩ := hQ46
          have N46 := Fr.app N45 N46q
          refine Go.step (fun _ k => st46.trans k) ?_
          show Go p e below _ T46 (mkF m 259 #[.val (.int i0), .val (.int i1), .val (.int i2), .val (.int i3), .val (.int i4), .val (.int fA), .val (.int tA), .val (.int md), .val (.ref oA), .val (.int fA), .val (.int tA), .val (.ref oB), .val (.int (0 : Int32))] [(.int (own_eq fA tA fA tA))])
          refine Go.step (fun _ k => XS.iload X46.here hx rfl (hb hby at_259) rfl k) ?_
          show Go p e below _ T46 (mkF m 261 #[.val (.int i0), .val (.int i1), .val (.int i2), .val (.int i3), .val (.int i4), .val (.int fA), .val (.int tA), .val (.int md), .val (.ref oA), .val (.int fA), .val (.int tA), .val (.ref oB), .val (.int (0 : Int32))] [(.int (0 : Int32)), (.int (own_eq fA tA fA tA))])
          refine Go.step (fun _ k => XS.icmpNo X46.here hx rfl (hb hby at_261) rfl (teq (own_eqN2 (Ne.symm hc230_41))).2 k) ?_
          show Go p e below _ T46 (mkF m 264 #[.val (.int i0), .val (.int i1), .val (.int i2), .val (.int i3), .val (.int i4), .val (.int fA), .val (.int tA), .val (.int md), .val (.ref oA), .val (.int fA), .val (.int tA), .val (.ref oB), .val (.int (0 : Int32))] [])
          refine Go.step (fun _ k => XS.aload X46.here hx rfl (hb hby at_264) rfl rfl k) ?_
          show Go p e below _ T46 (mkF m 266 #[.val (.int i0), .val (.int i1), .val (.int i2), .val (.int i3), .val (.int i4), .val (.int fA), .val (.int tA), .val (.int md), .val (.ref oA), .val (.int fA), .val (.int tA), .val (.ref oB), .val (.int (0 : Int32))] [(.ref oA)])
          refine Go.step (fun _ k => XS.aload X46.here hx rfl (hb hby at_266) rfl rfl k) ?_
          show Go p e below _ T46 (mkF m 268 #[.val (.int i0), .val (.int i1), .val (.int i2), .val (.int i3), .val (.int i4), .val (.int fA), .val (.int tA), .val (.int md), .val (.ref oA), .val (.int fA), .val (.int tA), .val (.ref oB), .val (.int (0 : Int32))] [(.ref oA), (.ref oA)])
          obtain ⟨cq47, kq47, q47a, q47b, q47c⟩ := isOf hZ e46 E_oA
          obtain ⟨_, _, ⟨T47, L47, k47, n47⟩, -, X47, ⟨Lc47, hQ47, l47, y47, z47⟩, st47⟩ := X46.virtualBack hx (y := (⟨"com/example/vigilant_crawler/vigilantcrawler/model/WordSpan", "equals", "(Ljava/lang/Object;)Z"⟩ : MethodName)) (z := (⟨"com/example/vigilant_crawler/vigilantcrawler/model/WordSpan", "equals", "(Ljava/lang/Object;)Z"⟩ : MethodName)) hown (mvT hZ (hw _ (List.mem_of_getElem? (i := 20) rfl))) (mvT hZ (hw _ (List.mem_of_getElem? (i := 21) rfl))) (notFace_of_selects (args := #[]) (mvT hZ (hw _ (List.mem_of_getElem? (i := 23) rfl)))) (mvT hZ (hw _ (List.mem_of_getElem? (i := 23) rfl))) (mvT hZ (hw _ (List.mem_of_getElem? (i := 22) rfl))) (by decide) (backOf (W := 0) (rmE l Z a0 hw [] oA oA fA tA fA tA T39.heap n0 Zn F_from_oA F_to_oA E_oA F_from_oA F_to_oA) hZ (hw _ (List.mem_of_getElem? (i := 24) rfl)) (hw _ (List.mem_of_getElem? (i := 9) rfl)) (by decide) (by decide)) q47a q47c (g := (mkF m 268 #[.val (.int i0), .val (.int i1), .val (.int i2), .val (.int i3), .val (.int i4), .val (.int fA), .val (.int tA), .val (.int md), .val (.ref oA), .val (.int fA), .val (.int tA), .val (.ref oB), .val (.int (0 : Int32))] [(.ref oA), (.ref oA)])) rfl (by rw [hml]; rfl) (Steps.refl _) (argsL := [(.ref oA)]) (rest := []) (lenOf own_f115 rfl) rfl (by show 2 * 0 + _ ≤ _; exact Nat.le_of_eq rfl) (hb hby at_268) (fun _ _ => ⟨rfl, e46, (by dsimp only [Pt.cells, Pt.slots]; decide), (by dsimp only [Pt.cells, Pt.slots]; decide)⟩)
          dsimp only [Pt.U, Pt.locs, Pt.cells, Pt.slots] at X47 l47 y47 z47 st47 hQ47
          subst l47 y47 z47
          obtain ⟨rfl, N47q, e47⟩ := hQ47
          have N47 := Fr.app N46 N47q
          refine Go.step (fun _ k => st47.trans k) ?_
          show Go p e below _ T47 (mkF m 271 #[.val (.int i0), .val (.int i1), .val (.int i2), .val (.int i3), .val (.int i4), .val (.int fA), .val (.int tA), .val (.int md), .val (.ref oA), .val (.int fA), .val (.int tA), .val (.ref oB), .val (.int (0 : Int32))] [(.int (own_eq fA tA fA tA))])
          refine Go.step (fun _ k => XS.ifNo X47.here hx rfl (hb hby at_271) rfl ((if0 _ _).trans (feq (own_eqS _ _)).1) k) ?_
          show Go p e below _ T47 (mkF m 274 #[.val (.int i0), .val (.int i1), .val (.int i2), .val (.int i3), .val (.int i4), .val (.int fA), .val (.int tA), .val (.int md), .val (.ref oA), .val (.int fA), .val (.int tA), .val (.ref oB), .val (.int (0 : Int32))] [])
          refine Go.step (fun _ k => XS.iconst X47.here hx rfl (hb hby at_274) k) ?_
          show Go p e below _ T47 (mkF m 275 #[.val (.int i0), .val (.int i1), .val (.int i2), .val (.int i3), .val (.int i4), .val (.int fA), .val (.int tA), .val (.int md), .val (.ref oA), .val (.int fA), .val (.int tA), .val (.ref oB), .val (.int (0 : Int32))] [(.int (1 : Int32))])
          refine Go.step (fun _ k => XS.goto X47.here hx rfl (pc0 := 275) (pc' := 279) rfl (hb hby at_275) (by decide) (by decide) k) ?_
          show Go p e below _ T47 (mkF m 279 #[.val (.int i0), .val (.int i1), .val (.int i2), .val (.int i3), .val (.int i4), .val (.int fA), .val (.int tA), .val (.int md), .val (.ref oA), .val (.int fA), .val (.int tA), .val (.ref oB), .val (.int (0 : Int32))] [(.int (1 : Int32))])
          obtain ⟨fs, hr, hrun, hended, hW, hsame⟩ := X47.leave (v := some (.int (1 : Int32))) (fun h => by rw [Bd.returns] at h; cases h)
          refine Go.fin (retN X47 hx (t := .boolean) Bd.returns (by simp) (hb hby at_279) hr) hrun hended ?_
          refine ⟨_, _, rfl, ?_, ⟨_, rfl⟩, hW, hsame.mono (by decide) (by decide)⟩
          show Q0 Z i0 i1 i2 i3 i4 kc aK cK h0 n0 _ T47.heap _
          rw [e47]
          exact ⟨rfl, N47⟩
      · show Go p e below _ T39 (mkF m 223 #[.val (.int i0), .val (.int i1), .val (.int i2), .val (.int i3), .val (.int i4), .val (.int fA), .val (.int tA), .val (.int md), .val (.ref oA), .val (.int fA), .val (.int tA), .val (.ref oB), .unset] [(.int fA), (.int fA)])
        refine Go.step (fun _ k => XS.icmpYes X39.here hx rfl (pc0 := 223) (pc' := 237) rfl (hb hby at_223) rfl (feq hc223_40).2 (by decide) (by decide) k) ?_
        show Go p e below _ T39 (mkF m 237 #[.val (.int i0), .val (.int i1), .val (.int i2), .val (.int i3), .val (.int i4), .val (.int fA), .val (.int tA), .val (.int md), .val (.ref oA), .val (.int fA), .val (.int tA), .val (.ref oB), .unset] [])
        refine Go.step (fun _ k => XS.iconst X39.here hx rfl (hb hby at_237) k) ?_
        show Go p e below _ T39 (mkF m 238 #[.val (.int i0), .val (.int i1), .val (.int i2), .val (.int i3), .val (.int i4), .val (.int fA), .val (.int tA), .val (.int md), .val (.ref oA), .val (.int fA), .val (.int tA), .val (.ref oB), .unset] [(.int (0 : Int32))])
        refine Go.step (fun _ k => XS.istore X39.here hx rfl (hb hby at_238) rfl (l' := #[.val (.int i0), .val (.int i1), .val (.int i2), .val (.int i3), .val (.int i4), .val (.int fA), .val (.int tA), .val (.int md), .val (.ref oA), .val (.int fA), .val (.int tA), .val (.ref oB), .val (.int (0 : Int32))]) rfl k) ?_
        show Go p e below _ T39 (mkF m 240 #[.val (.int i0), .val (.int i1), .val (.int i2), .val (.int i3), .val (.int i4), .val (.int fA), .val (.int tA), .val (.int md), .val (.ref oA), .val (.int fA), .val (.int tA), .val (.ref oB), .val (.int (0 : Int32))] [])
        refine Go.step (fun _ k => XS.aload X39.here hx rfl (hb hby at_240) rfl rfl k) ?_
        show Go p e below _ T39 (mkF m 242 #[.val (.int i0), .val (.int i1), .val (.int i2), .val (.int i3), .val (.int i4), .val (.int fA), .val (.int tA), .val (.int md), .val (.ref oA), .val (.int fA), .val (.int tA), .val (.ref oB), .val (.int (0 : Int32))] [(.ref oA)])
        refine Go.step (fun _ k => XS.aload X39.here hx rfl (hb hby at_242) rfl rfl k) ?_
        show Go p e below _ T39 (mkF m 244 #[.val (.int i0), .val (.int i1), .val (.int i2), .val (.int i3), .val (.int i4), .val (.int fA), .val (.int tA), .val (.int md), .val (.ref oA), .val (.int fA), .val (.int tA), .val (.ref oB), .val (.int (0 : Int32))] [(.ref oB), (.ref oA)])
        obtain ⟨cq48, kq48, q48a, q48b, q48c⟩ := isOf hZ rfl E_oA
        obtain ⟨_, _, ⟨T48, L48, k48, n48⟩, -, X48, ⟨Lc48, hQ48, l48, y48, z48⟩, st48⟩ := X39.virtualBack hx (y := (⟨"com/example/vigilant_crawler/vigilantcrawler/model/WordSpan", "equals", "(Ljava/lang/Object;)Z"⟩ : MethodName)) (z := (⟨"com/example/vigilant_crawler/vigilantcrawler/model/WordSpan", "equals", "(Ljava/lang/Object;)Z"⟩ : MethodName)) hown (mvT hZ (hw _ (List.mem_of_getElem? (i := 20) rfl))) (mvT hZ (hw _ (List.mem_of_getElem? (i := 21) rfl))) (notFace_of_selects (args := #[]) (mvT hZ (hw _ (List.mem_of_getElem? (i := 23) rfl)))) (mvT hZ (hw _ (List.mem_of_getElem? (i := 23) rfl))) (mvT hZ (hw _ (List.mem_of_getElem? (i := 22) rfl))) (by decide) (backOf (W := 0) (rmE l Z a0 hw [] oA oB fA tA fA tA T39.heap n0 Zn F_from_oA F_to_oA E_oB F_from_oB F_to_oB) hZ (hw _ (List.mem_of_getElem? (i := 24) rfl)) (hw _ (List.mem_of_getElem? (i := 9) rfl)) (by decide) (by decide)) q48a q48c (g := (mkF m 244 #[.val (.int i0), .val (.int i1), .val (.int i2), .val (.int i3), .val (.int i4), .val (.int fA), .val (.int tA), .val (.int md), .val (.ref oA), .val (.int fA), .val (.int tA), .val (.ref oB), .val (.int (0 : Int32))] [(.ref oB), (.ref oA)])) rfl (by rw [hml]; rfl) (Steps.refl _) (argsL := [(.ref oB)]) (rest := []) (lenOf own_f115 rfl) rfl (by show 2 * 0 + _ ≤ _; exact Nat.le_of_eq rfl) (hb hby at_244) (fun _ _ => ⟨rfl, rfl, (by dsimp only [Pt.cells, Pt.slots]; decide), (by dsimp only [Pt.cells, Pt.slots]; decide)⟩)
        dsimp only [Pt.U, Pt.locs, Pt.cells, Pt.slots] at X48 l48 y48 z48 st48 hQ48
        subst l48 y48 z48
        obtain ⟨rfl, N48q, e48⟩ := hQ48
        have N48 := Fr.app N39 N48q
        refine Go.step (fun _ k => st48.trans k) ?_
        show Go p e below _ T48 (mkF m 247 #[.val (.int i0), .val (.int i1), .val (.int i2), .val (.int i3), .val (.int i4), .val (.int fA), .val (.int tA), .val (.int md), .val (.ref oA), .val (.int fA), .val (.int tA), .val (.ref oB), .val (.int (0 : Int32))] [(.int (own_eq fA tA fA tA))])
        refine Go.step (fun _ k => XS.iload X48.here hx rfl (hb hby at_247) rfl k) ?_
        show Go p e below _ T48 (mkF m 249 #[.val (.int i0), .val (.int i1), .val (.int i2), .val (.int i3), .val (.int i4), .val (.int fA), .val (.int tA), .val (.int md), .val (.ref oA), .val (.int fA), .val (.int tA), .val (.ref oB), .val (.int (0 : Int32))] [(.int (0 : Int32)), (.int (own_eq fA tA fA tA))])
        refine Go.step (fun _ k => XS.icmpNo X48.here hx rfl (hb hby at_249) rfl (teq (own_eqN1 hc223_40)).2 k) ?_
        show Go p e below _ T48 (mkF m 252 #[.val (.int i0), .val (.int i1), .val (.int i2), .val (.int i3), .val (.int i4), .val (.int fA), .val (.int tA), .val (.int md), .val (.ref oA), .val (.int fA), .val (.int tA), .val (.ref oB), .val (.int (0 : Int32))] [])
        refine Go.step (fun _ k => XS.aload X48.here hx rfl (hb hby at_252) rfl rfl k) ?_
        show Go p e below _ T48 (mkF m 254 #[.val (.int i0), .val (.int i1), .val (.int i2), .val (.int i3), .val (.int i4), .val (.int fA), .val (.int tA), .val (.int md), .val (.ref oA), .val (.int fA), .val (.int tA), .val (.ref oB), .val (.int (0 : Int32))] [(.ref oB)])
        refine Go.step (fun _ k => XS.aload X48.here hx rfl (hb hby at_254) rfl rfl k) ?_
        show Go p e below _ T48 (mkF m 256 #[.val (.int i0), .val (.int i1), .val (.int i2), .val (.int i3), .val (.int i4), .val (.int fA), .val (.int tA), .val (.int md), .val (.ref oA), .val (.int fA), .val (.int tA), .val (.ref oB), .val (.int (0 : Int32))] [(.ref oA), (.ref oB)])
        obtain ⟨cq49, kq49, q49a, q49b, q49c⟩ := isOf hZ e48 E_oB
        obtain ⟨_, _, ⟨T49, L49, k49, n49⟩, -, X49, ⟨Lc49, hQ49, l49, y49, z49⟩, st49⟩ := X48.virtualBack hx (y := (⟨"com/example/vigilant_crawler/vigilantcrawler/model/WordSpan", "equals", "(Ljava/lang/Object;)Z"⟩ : MethodName)) (z := (⟨"com/example/vigilant_crawler/vigilantcrawler/model/WordSpan", "equals", "(Ljava/lang/Object;)Z"⟩ : MethodName)) hown (mvT hZ (hw _ (List.mem_of_getElem? (i := 20) rfl))) (mvT hZ (hw _ (List.mem_of_getElem? (i := 21) rfl))) (notFace_of_selects (args := #[]) (mvT hZ (hw _ (List.mem_of_getElem? (i := 23) rfl)))) (mvT hZ (hw _ (List.mem_of_getElem? (i := 23) rfl))) (mvT hZ (hw _ (List.mem_of_getElem? (i := 22) rfl))) (by decide) (backOf (W := 0) (rmE l Z a0 hw [] oB oA fA tA fA tA T39.heap n0 Zn F_from_oB F_to_oB E_oA F_from_oA F_to_oA) hZ (hw _ (List.mem_of_getElem? (i := 24) rfl)) (hw _ (List.mem_of_getElem? (i := 9) rfl)) (by decide) (by decide)) q49a q49c (g := (mkF m 256 #[.val (.int i0), .val (.int i1), .val (.int i2), .val (.int i3), .val (.int i4), .val (.int fA), .val (.int tA), .val (.int md), .val (.ref oA), .val (.int fA), .val (.int tA), .val (.ref oB), .val (.int (0 : Int32))] [(.ref oA), (.ref oB)])) rfl (by rw [hml]; rfl) (Steps.refl _) (argsL := [(.ref oA)]) (rest := []) (lenOf own_f115 rfl) rfl (by show 2 * 0 + _ ≤ _; exact Nat.le_of_eq rfl) (hb hby at_256) (fun _ _ => ⟨rfl, e48, (by dsimp only [Pt.cells, Pt.slots]; decide), (by dsimp only [Pt.cells, Pt.slots]; decide)⟩)
        dsimp only [Pt.U, Pt.locs, Pt.cells, Pt.slots] at X49 l49 y49 z49 st49 hQ49
        subst l49 y49 z49
        obtain ⟨rfl, N49q, e49⟩ := hQ49
        have N49 := Fr.app N48 N49q
        refine Go.step (fun _ k => st49.trans k) ?_
        show Go p e below _ T49 (mkF m 259 #[.val (.int i0), .val (.int i1), .val (.int i2), .val (.int i3), .val (.int i4), .val (.int fA), .val (.int tA), .val (.int md), .val (.ref oA), .val (.int fA), .val (.int tA), .val (.ref oB), .val (.int (0 : Int32))] [(.int (own_eq fA tA fA tA))])
        refine Go.step (fun _ k => XS.iload X49.here hx rfl (hb hby at_259) rfl k) ?_
        show Go p e below _ T49 (mkF m 261 #[.val (.int i0), .val (.int i1), .val (.int i2), .val (.int i3), .val (.int i4), .val (.int fA), .val (.int tA), .val (.int md), .val (.ref oA), .val (.int fA), .val (.int tA), .val (.ref oB), .val (.int (0 : Int32))] [(.int (0 : Int32)), (.int (own_eq fA tA fA tA))])
        refine Go.step (fun _ k => XS.icmpNo X49.here hx rfl (hb hby at_261) rfl (teq (own_eqN1 (Ne.symm hc223_40))).2 k) ?_
        show Go p e below _ T49 (mkF m 264 #[.val (.int i0), .val (.int i1), .val (.int i2), .val (.int i3), .val (.int i4), .val (.int fA), .val (.int tA), .val (.int md), .val (.ref oA), .val (.int fA), .val (.int tA), .val (.ref oB), .val (.int (0 : Int32))] [])
        refine Go.step (fun _ k => XS.aload X49.here hx rfl (hb hby at_264) rfl rfl k) ?_
        show Go p e below _ T49 (mkF m 266 #[.val (.int i0), .val (.int i1), .val (.int i2), .val (.int i3), .val (.int i4), .val (.int fA), .val (.int tA), .val (.int md), .val (.ref oA), .val (.int fA), .val (.int tA), .val (.ref oB), .val (.int (0 : Int32))] [(.ref oA)])
        refine Go.step (fun _ k => XS.aload X49.here hx rfl (hb hby at_266) rfl rfl k) ?_
        show Go p e below _ T49 (mkF m 268 #[.val (.int i0), .val (.int i1), .val (.int i2), .val (.int i3), .val (.int i4), .val (.int fA), .val (.int tA), .val (.int md), .val (.ref oA), .val (.int fA), .val (.int tA), .val (.ref oB), .val (.int (0 : Int32))] [(.ref oA), (.ref oA)])
        obtain ⟨cq50, kq50, q50a, q50b, q50c⟩ := isOf hZ e49 E_oA
        obtain ⟨_, _, ⟨T50, L50, k50, n50⟩, -, X50, ⟨Lc50, hQ50, l50, y50, z50⟩, st50⟩ := X49.virtualBack hx (y := (⟨"com/example/vigilant_crawler/vigilantcrawler/model/WordSpan", "equals", "(Ljava/lang/Object;)Z"⟩ : MethodName)) (z := (⟨"com/example/vigilant_crawler/vigilantcrawler/model/WordSpan", "equals", "(Ljava/lang/Object;)Z"⟩ : MethodName)) hown (mvT hZ (hw _ (List.mem_of_getElem? (i := 20) rfl))) (mvT hZ (hw _ (List.mem_of_getElem? (i := 21) rfl))) (notFace_of_selects (args := #[]) (mvT hZ (hw _ (List.mem_of_getElem? (i := 23) rfl)))) (mvT hZ (hw _ (List.mem_of_getElem? (i := 23) rfl))) (mvT hZ (hw _ (List.mem_of_getElem? (i := 22) rfl))) (by decide) (backOf (W := 0) (rmE l Z a0 hw [] oA oA fA tA fA tA T39.heap n0 Zn F_from_oA F_to_oA E_oA F_from_oA F_to_oA) hZ (hw _ (List.mem_of_getElem? (i := 24) rfl)) (hw _ (List.mem_of_getElem? (i := 9) rfl)) (by decide) (by decide)) q50a q50c (g := (mkF m 268 #[.val (.int i0), .val (.int i1), .val (.int i2), .val (.int i3), .val (.int i4), .val (.int fA), .val (.int tA), .val (.int md), .val (.ref oA), .val (.int fA), .val (.int tA), .val (.ref oB), .val (.int (0 : Int32))] [(.ref oA), (.ref oA)])) rfl (by rw [hml]; rfl) (Steps.refl _) (argsL := [(.ref oA)]) (rest := []) (lenOf own_f115 rfl) rfl (by show 2 * 0 + _ ≤ _; exact Nat.le_of_eq rfl) (hb hby at_268) (fun _ _ => ⟨rfl, e49, (by dsimp only [Pt.cells, Pt.slots]; decide), (by dsimp only [Pt.cells, Pt.slots]; decide)⟩)
        dsimp only [Pt.U, Pt.locs, Pt.cells, Pt.slots] at X50 l50 y50 z50 st50 hQ50
        subst l50 y50 z50
        obtain ⟨rfl, N50q, e50⟩ := hQ50
        have N50 := Fr.app N49 N50q
        refine Go.step (fun _ k => st50.trans k) ?_
        show Go p e below _ T50 (mkF m 271 #[.val (.int i0), .val (.int i1), .val (.int i2), .val (.int i3), .val (.int i4), .val (.int fA), .val (.int tA), .val (.int md), .val (.ref oA), .val (.int fA), .val (.int tA), .val (.ref oB), .val (.int (0 : Int32))] [(.int (own_eq fA tA fA tA))])
        refine Go.step (fun _ k => XS.ifNo X50.here hx rfl (hb hby at_271) rfl ((if0 _ _).trans (feq (own_eqS _ _)).1) k) ?_
        show Go p e below _ T50 (mkF m 274 #[.val (.int i0), .val (.int i1), .val (.int i2), .val (.int i3), .val (.int i4), .val (.int fA), .val (.int tA), .val (.int md), .val (.ref oA), .val (.int fA), .val (.int tA), .val (.ref oB), .val (.int (0 : Int32))] [])
        refine Go.step (fun _ k => XS.iconst X50.here hx rfl (hb hby at_274) k) ?_
        show Go p e below _ T50 (mkF m 275 #[.val (.int i0), .val (.int i1), .val (.int i2), .val (.int i3), .val (.int i4), .val (.int fA), .val (.int tA), .val (.int md), .val (.ref oA), .val (.int fA), .val (.int tA), .val (.ref oB), .val (.int (0 : Int32))] [(.int (1 : Int32))])
        refine Go.step (fun _ k => XS.goto X50.here hx rfl (pc0 := 275) (pc' := 279) rfl (hb hby at_275) (by decide) (by decide) k) ?_
        show Go p e below _ T50 (mkF m 279 #[.val (.int i0), .val (.int i1), .val (.int i2), .val (.int i3), .val (.int i4), .val (.int fA), .val (.int tA), .val (.int md), .val (.ref oA), .val (.int fA), .val (.int tA), .val (.ref oB), .val (.int (0 : Int32))] [(.int (1 : Int32))])
        obtain ⟨fs, hr, hrun, hended, hW, hsame⟩ := X50.leave (v := some (.int (1 : Int32))) (fun h => by rw [Bd.returns] at h; cases h)
        refine Go.fin (retN X50 hx (t := .boolean) Bd.returns (by simp) (hb hby at_279) hr) hrun hended ?_
        refine ⟨_, _, rfl, ?_, ⟨_, rfl⟩, hW, hsame.mono (by decide) (by decide)⟩
        show Q0 Z i0 i1 i2 i3 i4 kc aK cK h0 n0 _ T50.heap _
        rw [e50]
        exact ⟨rfl, N50⟩
    · show Go p e below _ T35 (mkF m 117 #[.val (.int i0), .val (.int i1), .val (.int i2), .val (.int i3), .val (.int i4), .val (.int fA), .val (.int tA), .val (.int md), .val (.ref oA), .unset, .unset, .unset, .unset] [(.int (1 : Int32)), (.int md)])
      refine Go.step (fun _ k => XS.icmpYes X35.here hx rfl (pc0 := 117) (pc' := 131) rfl (hb hby at_117) rfl (feq hc117_37).2 (by decide) (by decide) k) ?_
      show Go p e below _ T35 (mkF m 131 #[.val (.int i0), .val (.int i1), .val (.int i2), .val (.int i3), .val (.int i4), .val (.int fA), .val (.int tA), .val (.int md), .val (.ref oA), .unset, .unset, .unset, .unset] [])
      refine Go.step (fun _ k => XS.iload X35.here hx rfl (hb hby at_131) rfl k) ?_
      show Go p e below _ T35 (mkF m 133 #[.val (.int i0), .val (.int i1), .val (.int i2), .val (.int i3), .val (.int i4), .val (.int fA), .val (.int tA), .val (.int md), .val (.ref oA), .unset, .unset, .unset, .unset] [(.int md)])
      refine Go.step (fun _ k => XS.iconst X35.here hx rfl (hb hby at_133) k) ?_
      show Go p e below _ T35 (mkF m 134 #[.val (.int i0), .val (.int i1), .val (.int i2), .val (.int i3), .val (.int i4), .val (.int fA), .val (.int tA), .val (.int md), .val (.ref oA), .unset, .unset, .unset, .unset] [(.int (2 : Int32)), (.int md)])
      by_cases hc134_51 : md = (2 : Int32)
      · show Go p e below _ T35 (mkF m 134 #[.val (.int i0), .val (.int i1), .val (.int i2), .val (.int i3), .val (.int i4), .val (.int fA), .val (.int tA), .val (.int md), .val (.ref oA), .unset, .unset, .unset, .unset] [(.int (2 : Int32)), (.int md)])
        refine Go.step (fun _ k => XS.icmpNo X35.here hx rfl (hb hby at_134) rfl (teq hc134_51).2 k) ?_
        show Go p e below _ T35 (mkF m 137 #[.val (.int i0), .val (.int i1), .val (.int i2), .val (.int i3), .val (.int i4), .val (.int fA), .val (.int tA), .val (.int md), .val (.ref oA), .unset, .unset, .unset, .unset] [])
        refine Go.step (fun _ k => XS.iload X35.here hx rfl (hb hby at_137) rfl k) ?_
        show Go p e below _ T35 (mkF m 139 #[.val (.int i0), .val (.int i1), .val (.int i2), .val (.int i3), .val (.int i4), .val (.int fA), .val (.int tA), .val (.int md), .val (.ref oA), .unset, .unset, .unset, .unset] [(.int fA)])
        refine Go.step (fun _ k => XS.istore X35.here hx rfl (hb hby at_139) rfl (l' := #[.val (.int i0), .val (.int i1), .val (.int i2), .val (.int i3), .val (.int i4), .val (.int fA), .val (.int tA), .val (.int md), .val (.ref oA), .val (.int fA), .unset, .unset, .unset]) rfl k) ?_
        show Go p e below _ T35 (mkF m 141 #[.val (.int i0), .val (.int i1), .val (.int i2), .val (.int i3), .val (.int i4), .val (.int fA), .val (.int tA), .val (.int md), .val (.ref oA), .val (.int fA), .unset, .unset, .unset] [])
        refine Go.step (fun _ k => XS.iload X35.here hx rfl (hb hby at_141) rfl k) ?_
        show Go p e below _ T35 (mkF m 143 #[.val (.int i0), .val (.int i1), .val (.int i2), .val (.int i3), .val (.int i4), .val (.int fA), .val (.int tA), .val (.int md), .val (.ref oA), .val (.int fA), .unset, .unset, .unset] [(.int fA)])
        refine Go.step (fun _ k => XS.iloadN X35.here hx rfl (hb hby at_143) rfl k) ?_
        show Go p e below _ T35 (mkF m 144 #[.val (.int i0), .val (.int i1), .val (.int i2), .val (.int i3), .val (.int i4), .val (.int fA), .val (.int tA), .val (.int md), .val (.ref oA), .val (.int fA), .unset, .unset, .unset] [(.int i3), (.int fA)])
        refine Go.step (X35.ldc2Long hx hown (mvT hZ (hw _ (List.mem_of_getElem? (i := 1) rfl))) (g := (mkF m 144 #[.val (.int i0), .val (.int i1), .val (.int i2), .val (.int i3), .val (.int i4), .val (.int fA), .val (.int tA), .val (.int md), .val (.ref oA), .val (.int fA), .unset, .unset, .unset] [(.int i3), (.int fA)])) rfl (hb hby at_144)) ?_
        show Go p e below _ T35 (mkF m 147 #[.val (.int i0), .val (.int i1), .val (.int i2), .val (.int i3), .val (.int i4), .val (.int fA), .val (.int tA), .val (.int md), .val (.ref oA), .val (.int fA), .unset, .unset, .unset] [(.long (2147483648 : Int64)), (.int i3), (.int fA)])
        refine Go.step (fun _ k => XS.iload X35.here hx rfl (hb hby at_147) rfl k) ?_
        show Go p e below _ T35 (mkF m 149 #[.val (.int i0), .val (.int i1), .val (.int i2), .val (.int i3), .val (.int i4), .val (.int fA), .val (.int tA), .val (.int md), .val (.ref oA), .val (.int fA), .unset, .unset, .unset] [(.int fA), (.long (2147483648 : Int64)), (.int i3), (.int fA)])
        refine Go.step (fun _ k => XS.i2l X35.here hx rfl (hb hby at_149) rfl k) ?_
        show Go p e below _ T35 (mkF m 150 #[.val (.int i0), .val (.int i1), .val (.int i2), .val (.int i3), .val (.int i4), .val (.int fA), .val (.int tA), .val (.int md), .val (.ref oA), .val (.int fA), .unset, .unset, .unset] [(.long (fA.toInt64)), (.long (2147483648 : Int64)), (.int i3), (.int fA)])
        refine Go.step (fun _ k => XS.lsub X35.here hx rfl (hb hby at_150) rfl k) ?_
        show Go p e below _ T35 (mkF m 151 #[.val (.int i0), .val (.int i1), .val (.int i2), .val (.int i3), .val (.int i4), .val (.int fA), .val (.int tA), .val (.int md), .val (.ref oA), .val (.int fA), .unset, .unset, .unset] [(.long ((2147483648 : Int64) - (fA.toInt64))), (.int i3), (.int fA)])
        obtain ⟨_, _, ⟨T52, L52, k52, n52⟩, -, X52, ⟨Lc52, hQ52, l52, y52, z52⟩, st52⟩ := Jvm.LawKit.callS X35 hx (y := (⟨"com/example/vigilant_crawler/vigilantcrawler/model/WordSpanEqualsPinLaw", "below", "(IJ)I"⟩ : MethodName)) hown (mvT hZ (hw _ (List.mem_of_getElem? (i := 2) rfl))) (mvT hZ (hw _ (List.mem_of_getElem? (i := 3) rfl))) (mvT hZ (hw _ (List.mem_of_getElem? (i := 4) rfl))) (mvT hZ (hw _ (List.mem_of_getElem? (i := 5) rfl))) (by decide) (backOf (W := 1) (rmL l Z a0 hw [] i3 ((2147483648 : Int64) - (fA.toInt64)) T35.heap n0 Zn (own_jn (by rw [own_j1 hfA]; have := fA.toInt_lt; omega))) hZ (hw _ (List.mem_of_getElem? (i := 5) rfl)) (hw _ (List.mem_of_getElem? (i := 4) rfl)) (by decide) (by decide)) (g := (mkF m 151 #[.val (.int i0), .val (.int i1), .val (.int i2), .val (.int i3), .val (.int i4), .val (.int fA), .val (.int tA), .val (.int md), .val (.ref oA), .val (.int fA), .unset, .unset, .unset] [(.long ((2147483648 : Int64) - (fA.toInt64))), (.int i3), (.int fA)])) rfl (by rw [hml]; rfl) (argsL := [(.int i3), (.long ((2147483648 : Int64) - (fA.toInt64)))]) (rest := [(.int fA)]) (lenOf own_f113 rfl) rfl (by show 2 * 0 + _ ≤ _; exact Nat.le_of_eq rfl) (hb hby at_151) (fun _ _ => ⟨rfl, rfl, (by dsimp only [Pt.cells, Pt.slots]; decide), (by dsimp only [Pt.cells, Pt.slots]; decide)⟩)
        dsimp only [Pt.U, Pt.locs, Pt.cells, Pt.slots] at X52 l52 y52 z52 st52 hQ52
        subst l52 y52 z52
        obtain ⟨rfl, N52q, e52⟩ := hQ52
        have N52 := Fr.app N35 N52q
        refine Go.step (st52) ?_
        show Go p e below _ T52 (mkF m 154 #[.val (.int i0), .val (.int i1), .val (.int i2), .val (.int i3), .val (.int i4), .val (.int fA), .val (.int tA), .val (.int md), .val (.ref oA), .val (.int fA), .unset, .unset, .unset] [(.int (own_below i3 ((2147483648 : Int64) - (fA.toInt64)))), (.int fA)])
        obtain ⟨bB, e_bB⟩ : ∃ zq : Int32, zq = (own_below i3 ((2147483648 : Int64) - (fA.toInt64))) := ⟨_, rfl⟩
        rw [← e_bB]
        show Go p e below _ T52 (mkF m 154 #[.val (.int i0), .val (.int i1), .val (.int i2), .val (.int i3), .val (.int i4), .val (.int fA), .val (.int tA), .val (.int md), .val (.ref oA), .val (.int fA), .unset, .unset, .unset] [(.int bB), (.int fA)])
        refine Go.step (fun _ k => XS.iadd X52.here hx rfl (hb hby at_154) rfl k) ?_
        show Go p e below _ T52 (mkF m 155 #[.val (.int i0), .val (.int i1), .val (.int i2), .val (.int i3), .val (.int i4), .val (.int fA), .val (.int tA), .val (.int md), .val (.ref oA), .val (.int fA), .unset, .unset, .unset] [(.int (fA + bB))])
        obtain ⟨tB, e_tB⟩ : ∃ zq : Int32, zq = (fA + bB) := ⟨_, rfl⟩
        rw [← e_tB]
        show Go p e below _ T52 (mkF m 155 #[.val (.int i0), .val (.int i1), .val (.int i2), .val (.int i3), .val (.int i4), .val (.int fA), .val (.int tA), .val (.int md), .val (.ref oA), .val (.int fA), .unset, .unset, .unset] [(.int tB)])
        obtain ⟨okB, -⟩ := own_ft hfA e_bB e_tB
        refine Go.step (fun _ k => XS.istore X52.here hx rfl (hb hby at_155) rfl (l' := #[.val (.int i0), .val (.int i1), .val (.int i2), .val (.int i3), .val (.int i4), .val (.int fA), .val (.int tA), .val (.int md), .val (.ref oA), .val (.int fA), .val (.int tB), .unset, .unset]) rfl k) ?_
        show Go p e below _ T52 (mkF m 157 #[.val (.int i0), .val (.int i1), .val (.int i2), .val (.int i3), .val (.int i4), .val (.int fA), .val (.int tA), .val (.int md), .val (.ref oA), .val (.int fA), .val (.int tB), .unset, .unset] [])
        refine Go.step (fun _ k => XS.goto X52.here hx rfl (pc0 := 157) (pc' := 206) rfl (hb hby at_157) (by decide) (by decide) k) ?_
        show Go p e below _ T52 (mkF m 206 #[.val (.int i0), .val (.int i1), .val (.int i2), .val (.int i3), .val (.int i4), .val (.int fA), .val (.int tA), .val (.int md), .val (.ref oA), .val (.int fA), .val (.int tB), .unset, .unset] [])
        obtain ⟨T53, h53, X53, e53, E53, A53, D53, U53, st53⟩ := newO X52 hx hZ hown (hw _ (List.mem_of_getElem? (i := 7) rfl)) (hw _ (List.mem_of_getElem? (i := 8) rfl)) (hw _ (List.mem_of_getElem? (i := 9) rfl)) e52 (g := (mkF m 206 #[.val (.int i0), .val (.int i1), .val (.int i2), .val (.int i3), .val (.int i4), .val (.int fA), .val (.int tA), .val (.int md), .val (.ref oA), .val (.int fA), .val (.int tB), .unset, .unset] [])) rfl (hb hby at_206) (by decide) (by decide)
        obtain ⟨oB, g53⟩ : ∃ z, z = T35.heap.size := ⟨_, rfl⟩
        rw [← g53] at A53 D53 U53 st53
        have ne_oA_oB : oA ≠ oB := Nat.ne_of_lt (Nat.lt_of_lt_of_le E_oA.lt (Nat.le_of_eq g53.symm))
        have g_oB : n0 ≤ oB := Nat.le_trans Zn (Nat.le_of_eq g53.symm)
        have sz_oB : h0.size ≤ oB := Nat.le_trans K0.1 (Nat.le_of_eq g53.symm)
        replace Od := Od.ext E53
        replace E_oA := E_oA.ext E53
        replace F_from_oA := F_from_oA.ext E53
        replace F_to_oA := F_to_oA.ext E53
        replace Zn := Nat.le_trans Zn E53.1
        replace K0 := K0.ext E53
        have E_oB := A53
        have F_from_oB : Fld Z h53 oB "com/example/vigilant_crawler/vigilantcrawler/model/WordSpan" "from" "I" (.int (0 : Int32)) := D53 (Or.inr (hw _ (List.mem_of_getElem? (i := 17) rfl))) (ty := .int) (by decide)
        have F_to_oB : Fld Z h53 oB "com/example/vigilant_crawler/vigilantcrawler/model/WordSpan" "to" "I" (.int (0 : Int32)) := D53 (Or.inr (hw _ (List.mem_of_getElem? (i := 19) rfl))) (ty := .int) (by decide)
        refine Go.step st53 ?_
        show Go p e below _ T53 (mkF m 209 #[.val (.int i0), .val (.int i1), .val (.int i2), .val (.int i3), .val (.int i4), .val (.int fA), .val (.int tA), .val (.int md), .val (.ref oA), .val (.int fA), .val (.int tB), .unset, .unset] [(.ref oB)])
        refine Go.step (fun _ k => XS.dup X53.here hx rfl (hb hby at_209) rfl rfl k) ?_
        show Go p e below _ T53 (mkF m 210 #[.val (.int i0), .val (.int i1), .val (.int i2), .val (.int i3), .val (.int i4), .val (.int fA), .val (.int tA), .val (.int md), .val (.ref oA), .val (.int fA), .val (.int tB), .unset, .unset] [(.ref oB), (.ref oB)])
        refine Go.step (fun _ k => XS.iload X53.here hx rfl (hb hby at_210) rfl k) ?_
        show Go p e below _ T53 (mkF m 212 #[.val (.int i0), .val (.int i1), .val (.int i2), .val (.int i3), .val (.int i4), .val (.int fA), .val (.int tA), .val (.int md), .val (.ref oA), .val (.int fA), .val (.int tB), .unset, .unset] [(.int fA), (.ref oB), (.ref oB)])
        refine Go.step (fun _ k => XS.iload X53.here hx rfl (hb hby at_212) rfl k) ?_
        show Go p e below _ T53 (mkF m 214 #[.val (.int i0), .val (.int i1), .val (.int i2), .val (.int i3), .val (.int i4), .val (.int fA), .val (.int tA), .val (.int md), .val (.ref oA), .val (.int fA), .val (.int tB), .unset, .unset] [(.int tB), (.int fA), (.ref oB), (.ref oB)])
        obtain ⟨_, _, ⟨T54, L54, k54, n54⟩, -, X54, ⟨Lc54, hQ54, l54, y54, z54⟩, st54⟩ := X53.specialBack hx (y := (⟨"com/example/vigilant_crawler/vigilantcrawler/model/WordSpan", "<init>", "(II)V"⟩ : MethodName)) rfl hown (mvT hZ (hw _ (List.mem_of_getElem? (i := 10) rfl))) (mvT hZ (hw _ (List.mem_of_getElem? (i := 11) rfl))) (mvT hZ (hw _ (List.mem_of_getElem? (i := 12) rfl))) (by decide) (backOf (W := 1) (rmI l Z a0 hw [] oB fA tB h53 n0 Zn E_oB F_from_oB F_to_oB g_oB okB.1 okB.2) hZ (hw _ (List.mem_of_getElem? (i := 12) rfl)) (hw _ (List.mem_of_getElem? (i := 9) rfl)) (by decide) (by decide)) (g := (mkF m 214 #[.val (.int i0), .val (.int i1), .val (.int i2), .val (.int i3), .val (.int i4), .val (.int fA), .val (.int tA), .val (.int md), .val (.ref oA), .val (.int fA), .val (.int tB), .unset, .unset] [(.int tB), (.int fA), (.ref oB), (.ref oB)])) rfl (by rw [hml]; rfl) (Steps.refl _) (a := oB) (argsL := [(.int fA), (.int tB)]) (rest := [(.ref oB)]) (lenOf own_f114 rfl) rfl (by show 2 * 0 + _ ≤ _; exact Nat.le_of_eq rfl) (hb hby at_214) (fun _ _ => ⟨rfl, e53, (by dsimp only [Pt.cells, Pt.slots]; decide), (by dsimp only [Pt.cells, Pt.slots]; decide)⟩)
        dsimp only [Pt.U, Pt.locs, Pt.cells, Pt.slots] at X54 l54 y54 z54 st54 hQ54
        subst l54 y54 z54
        obtain ⟨rfl, N54q, K54, F_from_oB, F_to_oB⟩ := hQ54
        have N54 := Fr.app N52 N54q
        refine Go.step (fun _ k => st54.trans k) ?_
        replace Od := Od.keep K54 (allS g_oB all0)
        replace E_oA := E_oA.keep K54
        replace F_from_oA := F_from_oA.keep K54 (ninS ne_oA_oB nin0)
        replace F_to_oA := F_to_oA.keep K54 (ninS ne_oA_oB nin0)
        replace E_oB := E_oB.keep K54
        replace K0 := K0.trans K54 (allS (Or.inr sz_oB) (all0))
        replace Zn := Nat.le_trans Zn K54.1
        show Go p e below _ T54 (mkF m 217 #[.val (.int i0), .val (.int i1), .val (.int i2), .val (.int i3), .val (.int i4), .val (.int fA), .val (.int tA), .val (.int md), .val (.ref oA), .val (.int fA), .val (.int tB), .unset, .unset] [(.ref oB)])
        refine Go.step (fun _ k => XS.astore X54.here hx rfl (hb hby at_217) rfl rfl (l' := #[.val (.int i0), .val (.int i1), .val (.int i2), .val (.int i3), .val (.int i4), .val (.int fA), .val (.int tA), .val (.int md), .val (.ref oA), .val (.int fA), .val (.int tB), .val (.ref oB), .unset]) rfl k) ?_
        show Go p e below _ T54 (mkF m 219 #[.val (.int i0), .val (.int i1), .val (.int i2), .val (.int i3), .val (.int i4), .val (.int fA), .val (.int tA), .val (.int md), .val (.ref oA), .val (.int fA), .val (.int tB), .val (.ref oB), .unset] [])
        refine Go.step (fun _ k => XS.iload X54.here hx rfl (hb hby at_219) rfl k) ?_
        show Go p e below _ T54 (mkF m 221 #[.val (.int i0), .val (.int i1), .val (.int i2), .val (.int i3), .val (.int i4), .val (.int fA), .val (.int tA), .val (.int md), .val (.ref oA), .val (.int fA), .val (.int tB), .val (.ref oB), .unset] [(.int fA)])
        refine Go.step (fun _ k => XS.iload X54.here hx rfl (hb hby at_221) rfl k) ?_
        show Go p e below _ T54 (mkF m 223 #[.val (.int i0), .val (.int i1), .val (.int i2), .val (.int i3), .val (.int i4), .val (.int fA), .val (.int tA), .val (.int md), .val (.ref oA), .val (.int fA), .val (.int tB), .val (.ref oB), .unset] [(.int fA), (.int fA)])
        by_cases hc223_55 : fA = fA
        · show Go p e below _ T54 (mkF m 223 #[.val (.int i0), .val (.int i1), .val (.int i2), .val (.int i3), .val (.int i4), .val (.int fA), .val (.int tA), .val (.int md), .val (.ref oA), .val (.int fA), .val (.int tB), .val (.ref oB), .unset] [(.int fA), (.int fA)])
          refine Go.step (fun _ k => XS.icmpNo X54.here hx rfl (hb hby at_223) rfl (teq hc223_55).2 k) ?_
          show Go p e below _ T54 (mkF m 226 #[.val (.int i0), .val (.int i1), .val (.int i2), .val (.int i3), .val (.int i4), .val (.int fA), .val (.int tA), .val (.int md), .val (.ref oA), .val (.int fA), .val (.int tB), .val (.ref oB), .unset] [])
          refine Go.step (fun _ k => XS.iload X54.here hx rfl (hb hby at_226) rfl k) ?_
          show Go p e below _ T54 (mkF m 228 #[.val (.int i0), .val (.int i1), .val (.int i2), .val (.int i3), .val (.int i4), .val (.int fA), .val (.int tA), .val (.int md), .val (.ref oA), .val (.int fA), .val (.int tB), .val (.ref oB), .unset] [(.int tA)])
          refine Go.step (fun _ k => XS.iload X54.here hx rfl (hb hby at_228) rfl k) ?_
          show Go p e below _ T54 (mkF m 230 #[.val (.int i0), .val (.int i1), .val (.int i2), .val (.int i3), .val (.int i4), .val (.int fA), .val (.int tA), .val (.int md), .val (.ref oA), .val (.int fA), .val (.int tB), .val (.ref oB), .unset] [(.int tB), (.int tA)])
          by_cases hc230_56 : tA = tB
          · show Go p e below _ T54 (mkF m 230 #[.val (.int i0), .val (.int i1), .val (.int i2), .val (.int i3), .val (.int i4), .val (.int fA), .val (.int tA), .val (.int md), .val (.ref oA), .val (.int fA), .val (.int tB), .val (.ref oB), .unset] [(.int tB), (.int tA)])
            refine Go.step (fun _ k => XS.icmpNo X54.here hx rfl (hb hby at_230) rfl (teq hc230_56).2 k) ?_
            show Go p e below _ T54 (mkF m 233 #[.val (.int i0), .val (.int i1), .val (.int i2), .val (.int i3), .val (.int i4), .val (.int fA), .val (.int tA), .val (.int md), .val (.ref oA), .val (.int fA), .val (.int tB), .val (.ref oB), .unset] [])
            refine Go.step (fun _ k => XS.iconst X54.here hx rfl (hb hby at_233) k) ?_
            show Go p e below _ T54 (mkF m 234 #[.val (.int i0), .val (.int i1), .val (.int i2), .val (.int i3), .val (.int i4), .val (.int fA), .val (.int tA), .val (.int md), .val (.ref oA), .val (.int fA), .val (.int tB), .val (.ref oB), .unset] [(.int (1 : Int32))])
            refine Go.step (fun _ k => XS.goto X54.here hx rfl (pc0 := 234) (pc' := 238) rfl (hb hby at_234) (by decide) (by decide) k) ?_
            show Go p e below _ T54 (mkF m 238 #[.val (.int i0), .val (.int i1), .val (.int i2), .val (.int i3), .val (.int i4), .val (.int fA), .val (.int tA), .val (.int md), .val (.ref oA), .val (.int fA), .val (.int tB), .val (.ref oB), .unset] [(.int (1 : Int32))])
            refine Go.step (fun _ k => XS.istore X54.here hx rfl (hb hby at_238) rfl (l' := #[.val (.int i0), .val (.int i1), .val (.int i2), .val (.int i3), .val (.int i4), .val (.int fA), .val (.int tA), .val (.int md), .val (.ref oA), .val (.int fA), .val (.int tB), .val (.ref oB), .val (.int (1 : Int32))]) rfl k) ?_
            show Go p e below _ T54 (mkF m 240 #[.val (.int i0), .val (.int i1), .val (.int i2), .val (.int i3), .val (.int i4), .val (.int fA), .val (.int tA), .val (.int md), .val (.ref oA), .val (.int fA), .val (.int tB), .val (.ref oB), .val (.int (1 : Int32))] [])
            refine Go.step (fun _ k => XS.aload X54.here hx rfl (hb hby at_240) rfl rfl k) ?_
            show Go p e below _ T54 (mkF m 242 #[.val (.int i0), .val (.int i1), .val (.int i2), .val (.int i3), .val (.int i4), .val (.int fA), .val (.int tA), .val (.int md), .val (.ref oA), .val (.int fA), .val (.int tB), .val (.ref oB), .val (.int (1 : Int32))] [(.ref oA)])
            refine Go.step (fun _ k => XS.aload X54.here hx rfl (hb hby at_242) rfl rfl k) ?_
            show Go p e below _ T54 (mkF m 244 #[.val (.int i0), .val (.int i1), .val (.int i2), .val (.int i3), .val (.int i4), .val (.int fA), .val (.int tA), .val (.int md), .val (.ref oA), .val (.int fA), .val (.int tB), .val (.ref oB), .val (.int (1 : Int32))] [(.ref oB), (.ref oA)])
            obtain ⟨cq57, kq57, q57a, q57b, q57c⟩ := isOf hZ rfl E_oA
            obtain ⟨_, _, ⟨T57, L57, k57, n57⟩, -, X57, ⟨Lc57, hQ57, l57, y57, z57⟩, st57⟩ := X54.virtualBack hx (y := (⟨"com/example/vigilant_crawler/vigilantcrawler/model/WordSpan", "equals", "(Ljava/lang/Object;)Z"⟩ : MethodName)) (z := (⟨"com/example/vigilant_crawler/vigilantcrawler/model/WordSpan", "equals", "(Ljava/lang/Object;)Z"⟩ : MethodName)) hown (mvT hZ (hw _ (List.mem_of_getElem? (i := 20) rfl))) (mvT hZ (hw _ (List.mem_of_getElem? (i := 21) rfl))) (notFace_of_selects (args := #[]) (mvT hZ (hw _ (List.mem_of_getElem? (i := 23) rfl)))) (mvT hZ (hw _ (List.mem_of_getElem? (i := 23) rfl))) (mvT hZ (hw _ (List.mem_of_getElem? (i := 22) rfl))) (by decide) (backOf (W := 0) (rmE l Z a0 hw [] oA oB fA tA fA tB T54.heap n0 Zn F_from_oA F_to_oA E_oB F_from_oB F_to_oB) hZ (hw _ (List.mem_of_getElem? (i := 24) rfl)) (hw _ (List.mem_of_getElem? (i := 9) rfl)) (by decide) (by decide)) q57a q57c (g := (mkF m 244 #[.val (.int i0), .val (.int i1), .val (.int i2), .val (.int i3), .val (.int i4), .val (.int fA), .val (.int tA), .val (.int md), .val (.ref oA), .val (.int fA), .val (.int tB), .val (.ref oB), .val (.int (1 : Int32))] [(.ref oB), (.ref oA)])) rfl (by rw [hml]; rfl) (Steps.refl _) (argsL := [(.ref oB)]) (rest := []) (lenOf own_f115 rfl) rfl (by show 2 * 0 + _ ≤ _; exact Nat.le_of_eq rfl) (hb hby at_244) (fun _ _ => ⟨rfl, rfl, (by dsimp only [Pt.cells, Pt.slots]; decide), (by dsimp only [Pt.cells, Pt.slots]; decide)⟩)
            dsimp only [Pt.U, Pt.locs, Pt.cells, Pt.slots] at X57 l57 y57 z57 st57 hQ57
            subst l57 y57 z57
            obtain ⟨rfl, N57q, e57⟩ := hQ57
            have N57 := Fr.app N54 N57q
            refine Go.step (fun _ k => st57.trans k) ?_
            show Go p e below _ T57 (mkF m 247 #[.val (.int i0), .val (.int i1), .val (.int i2), .val (.int i3), .val (.int i4), .val (.int fA), .val (.int tA), .val (.int md), .val (.ref oA), .val (.int fA), .val (.int tB), .val (.ref oB), .val (.int (1 : Int32))] [(.int (own_eq fA tA fA tB))])
            refine Go.step (fun _ k => XS.iload X57.here hx rfl (hb hby at_247) rfl k) ?_
            show Go p e below _ T57 (mkF m 249 #[.val (.int i0), .val (.int i1), .val (.int i2), .val (.int i3), .val (.int i4), .val (.int fA), .val (.int tA), .val (.int md), .val (.ref oA), .val (.int fA), .val (.int tB), .val (.ref oB), .val (.int (1 : Int32))] [(.int (1 : Int32)), (.int (own_eq fA tA fA tB))])
            refine Go.step (fun _ k => XS.icmpNo X57.here hx rfl (hb hby at_249) rfl (teq (own_eqY hc223_55 hc230_56)).2 k) ?_
            show Go p e below _ T57 (mkF m 252 #[.val (.int i0), .val (.int i1), .val (.int i2), .val (.int i3), .val (.int i4), .val (.int fA), .val (.int tA), .val (.int md), .val (.ref oA), .val (.int fA), .val (.int tB), .val (.ref oB), .val (.int (1 : Int32))] [])
            refine Go.step (fun _ k => XS.aload X57.here hx rfl (hb hby at_252) rfl rfl k) ?_
            show Go p e below _ T57 (mkF m 254 #[.val (.int i0), .val (.int i1), .val (.int i2), .val (.int i3), .val (.int i4), .val (.int fA), .val (.int tA), .val (.int md), .val (.ref oA), .val (.int fA), .val (.int tB), .val (.ref oB), .val (.int (1 : Int32))] [(.ref oB)])
            refine Go.step (fun _ k => XS.aload X57.here hx rfl (hb hby at_254) rfl rfl k) ?_
            show Go p e below _ T57 (mkF m 256 #[.val (.int i0), .val (.int i1), .val (.int i2), .val (.int i3), .val (.int i4), .val (.int fA), .val (.int tA), .val (.int md), .val (.ref oA), .val (.int fA), .val (.int tB), .val (.ref oB), .val (.int (1 : Int32))] [(.ref oA), (.ref oB)])
            obtain ⟨cq58, kq58, q58a, q58b, q58c⟩ := isOf hZ e57 E_oB
            obtain ⟨_, _, ⟨T58, L58, k58, n58⟩, -, X58, ⟨Lc58, hQ58, l58, y58, z58⟩, st58⟩ := X57.virtualBack hx (y := (⟨"com/example/vigilant_crawler/vigilantcrawler/model/WordSpan", "equals", "(Ljava/lang/Object;)Z"⟩ : MethodName)) (z := (⟨"com/example/vigilant_crawler/vigilantcrawler/model/WordSpan", "equals", "(Ljava/lang/Object;)Z"⟩ : MethodName)) hown (mvT hZ (hw _ (List.mem_of_getElem? (i := 20) rfl))) (mvT hZ (hw _ (List.mem_of_getElem? (i := 21) rfl))) (notFace_of_selects (args := #[]) (mvT hZ (hw _ (List.mem_of_getElem? (i := 23) rfl)))) (mvT hZ (hw _ (List.mem_of_getElem? (i := 23) rfl))) (mvT hZ (hw _ (List.mem_of_getElem? (i := 22) rfl))) (by decide) (backOf (W := 0) (rmE l Z a0 hw [] oB oA fA tB fA tA T54.heap n0 Zn F_from_oB F_to_oB E_oA F_from_oA F_to_oA) hZ (hw _ (List.mem_of_getElem? (i := 24) rfl)) (hw _ (List.mem_of_getElem? (i := 9) rfl)) (by decide) (by decide)) q58a q58c (g := (mkF m 256 #[.val (.int i0), .val (.int i1), .val (.int i2), .val (.int i3), .val (.int i4), .val (.int fA), .val (.int tA), .val (.int md), .val (.ref oA), .val (.int fA), .val (.int tB), .val (.ref oB), .val (.int (1 : Int32))] [(.ref oA), (.ref oB)])) rfl (by rw [hml]; rfl) (Steps.refl _) (argsL := [(.ref oA)]) (rest := []) (lenOf own_f115 rfl) rfl (by show 2 * 0 + _ ≤ _; exact Nat.le_of_eq rfl) (hb hby at_256) (fun _ _ => ⟨rfl, e57, (by dsimp only [Pt.cells, Pt.slots]; decide), (by dsimp only [Pt.cells, Pt.slots]; decide)⟩)
            dsimp only [Pt.U, Pt.locs, Pt.cells, Pt.slots] at X58 l58 y58 z58 st58 hQ58
            subst l58 y58 z58
            obtain ⟨rfl, N58q, e58⟩ := hQ58
            have N58 := Fr.app N57 N58q
            refine Go.step (fun _ k => st58.trans k) ?_
            show Go p e below _ T58 (mkF m 259 #[.val (.int i0), .val (.int i1), .val (.int i2), .val (.int i3), .val (.int i4), .val (.int fA), .val (.int tA), .val (.int md), .val (.ref oA), .val (.int fA), .val (.int tB), .val (.ref oB), .val (.int (1 : Int32))] [(.int (own_eq fA tB fA tA))])
            refine Go.step (fun _ k => XS.iload X58.here hx rfl (hb hby at_259) rfl k) ?_
            show Go p e below _ T58 (mkF m 261 #[.val (.int i0), .val (.int i1), .val (.int i2), .val (.int i3), .val (.int i4), .val (.int fA), .val (.int tA), .val (.int md), .val (.ref oA), .val (.int fA), .val (.int tB), .val (.ref oB), .val (.int (1 : Int32))] [(.int (1 : Int32)), (.int (own_eq fA tB fA tA))])
            refine Go.step (fun _ k => XS.icmpNo X58.here hx rfl (hb hby at_261) rfl (teq (own_eqY hc223_55.symm hc230_56.symm)).2 k) ?_
            show Go p e below _ T58 (mkF m 264 #[.val (.int i0), .val (.int i1), .val (.int i2), .val (.int i3), .val (.int i4), .val (.int fA), .val (.int tA), .val (.int md), .val (.ref oA), .val (.int fA), .val (.int tB), .val (.ref oB), .val (.int (1 : Int32))] [])
            refine Go.step (fun _ k => XS.aload X58.here hx rfl (hb hby at_264) rfl rfl k) ?_
            show Go p e below _ T58 (mkF m 266 #[.val (.int i0), .val (.int i1), .val (.int i2), .val (.int i3), .val (.int i4), .val (.int fA), .val (.int tA), .val (.int md), .val (.ref oA), .val (.int fA), .val (.int tB), .val (.ref oB), .val (.int (1 : Int32))] [(.ref oA)])
            refine Go.step (fun _ k => XS.aload X58.here hx rfl (hb hby at_266) rfl rfl k) ?_
            show Go p e below _ T58 (mkF m 268 #[.val (.int i0), .val (.int i1), .val (.int i2), .val (.int i3), .val (.int i4), .val (.int fA), .val (.int tA), .val (.int md), .val (.ref oA), .val (.int fA), .val (.int tB), .val (.ref oB), .val (.int (1 : Int32))] [(.ref oA), (.ref oA)])
            obtain ⟨cq59, kq59, q59a, q59b, q59c⟩ := isOf hZ e58 E_oA
            obtain ⟨_, _, ⟨T59, L59, k59, n59⟩, -, X59, ⟨Lc59, hQ59, l59, y59, z59⟩, st59⟩ := X58.virtualBack hx (y := (⟨"com/example/vigilant_crawler/vigilantcrawler/model/WordSpan", "equals", "(Ljava/lang/Object;)Z"⟩ : MethodName)) (z := (⟨"com/example/vigilant_crawler/vigilantcrawler/model/WordSpan", "equals", "(Ljava/lang/Object;)Z"⟩ : MethodName)) hown (mvT hZ (hw _ (List.mem_of_getElem? (i := 20) rfl))) (mvT hZ (hw _ (List.mem_of_getElem? (i := 21) rfl))) (notFace_of_selects (args := #[]) (mvT hZ (hw _ (List.mem_of_getElem? (i := 23) rfl)))) (mvT hZ (hw _ (List.mem_of_getElem? (i := 23) rfl))) (mvT hZ (hw _ (List.mem_of_getElem? (i := 22) rfl))) (by decide) (backOf (W := 0) (rmE l Z a0 hw [] oA oA fA tA fA tA T54.heap n0 Zn F_from_oA F_to_oA E_oA F_from_oA F_to_oA) hZ (hw _ (List.mem_of_getElem? (i := 24) rfl)) (hw _ (List.mem_of_getElem? (i := 9) rfl)) (by decide) (by decide)) q59a q59c (g := (mkF m 268 #[.val (.int i0), .val (.int i1), .val (.int i2), .val (.int i3), .val (.int i4), .val (.int fA), .val (.int tA), .val (.int md), .val (.ref oA), .val (.int fA), .val (.int tB), .val (.ref oB), .val (.int (1 : Int32))] [(.ref oA), (.ref oA)])) rfl (by rw [hml]; rfl) (Steps.refl _) (argsL := [(.ref oA)]) (rest := []) (lenOf own_f115 rfl) rfl (by show 2 * 0 + _ ≤ _; exact Nat.le_of_eq rfl) (hb hby at_268) (fun _ _ => ⟨rfl, e58, (by dsimp only [Pt.cells, Pt.slots]; decide), (by dsimp only [Pt.cells, Pt.slots]; decide)⟩)
            dsimp only [Pt.U, Pt.locs, Pt.cells, Pt.slots] at X59 l59 y59 z59 st59 hQ59
            subst l59 y59 z59
            obtain ⟨rfl, N59q, e59⟩ := hQ59
            have N59 := Fr.app N58 N59q
            refine Go.step (fun _ k => st59.trans k) ?_
            show Go p e below _ T59 (mkF m 271 #[.val (.int i0), .val (.int i1), .val (.int i2), .val (.int i3), .val (.int i4), .val (.int fA), .val (.int tA), .val (.int md), .val (.ref oA), .val (.int fA), .val (.int tB), .val (.ref oB), .val (.int (1 : Int32))] [(.int (own_eq fA tA fA tA))])
            refine Go.step (fun _ k => XS.ifNo X59.here hx rfl (hb hby at_271) rfl ((if0 _ _).trans (feq (own_eqS _ _)).1) k) ?_
            show Go p e below _ T59 (mkF m 274 #[.val (.int i0), .val (.int i1), .val (.int i2), .val (.int i3), .val (.int i4), .val (.int fA), .val (.int tA), .val (.int md), .val (.ref oA), .val (.int fA), .val (.int tB), .val (.ref oB), .val (.int (1 : Int32))] [])
            refine Go.step (fun _ k => XS.iconst X59.here hx rfl (hb hby at_274) k) ?_
            show Go p e below _ T59 (mkF m 275 #[.val (.int i0), .val (.int i1), .val (.int i2), .val (.int i3), .val (.int i4), .val (.int fA), .val (.int tA), .val (.int md), .val (.ref oA), .val (.int fA), .val (.int tB), .val (.ref oB), .val (.int (1 : Int32))] [(.int (1 : Int32))])
            refine Go.step (fun _ k => XS.goto X59.here hx rfl (pc0 := 275) (pc' := 279) rfl (hb hby at_275) (by decide) (by decide) k) ?_
            show Go p e below _ T59 (mkF m 279 #[.val (.int i0), .val (.int i1), .val (.int i2), .val (.int i3), .val (.int i4), .val (.int fA), .val (.int tA), .val (.int md), .val (.ref oA), .val (.int fA), .val (.int tB), .val (.ref oB), .val (.int (1 : Int32))] [(.int (1 : Int32))])
            obtain ⟨fs, hr, hrun, hended, hW, hsame⟩ := X59.leave (v := some (.int (1 : Int32))) (fun h => by rw [Bd.returns] at h; cases h)
            refine Go.fin (retN X59 hx (t := .boolean) Bd.returns (by simp) (hb hby at_279) hr) hrun hended ?_
            refine ⟨_, _, rfl, ?_, ⟨_, rfl⟩, hW, hsame.mono (by decide) (by decide)⟩
            show Q0 Z i0 i1 i2 i3 i4 kc aK cK h0 n0 _ T59.heap _
            rw [e59]
            exact ⟨rfl, N59⟩
          · show Go p e below _ T54 (mkF m 230 #[.val (.int i0), .val (.int i1), .val (.int i2), .val (.int i3), .val (.int i4), .val (.int fA), .val (.int tA), .val (.int md), .val (.ref oA), .val (.int fA), .val (.int tB), .val (.ref oB), .unset] [(.int tB), (.int tA)])
            refine Go.step (fun _ k => XS.icmpYes X54.here hx rfl (pc0 := 230) (pc' := 237) rfl (hb hby at_230) rfl (feq hc230_56).2 (by decide) (by decide) k) ?_
            show Go p e below _ T54 (mkF m 237 #[.val (.int i0), .val (.int i1), .val (.int i2), .val (.int i3), .val (.int i4), .val (.int fA), .val (.int tA), .val (.int md), .val (.ref oA), .val (.int fA), .val (.int tB), .val (.ref oB), .unset] [])
            refine Go.step (fun _ k => XS.iconst X54.here hx rfl (hb hby at_237) k) ?_
            show Go p e below _ T54 (mkF m 238 #[.val (.int i0), .val (.int i1), .val (.int i2), .val (.int i3), .val (.int i4), .val (.int fA), .val (.int tA), .val (.int md), .val (.ref oA), .val (.int fA), .val (.int tB), .val (.ref oB), .unset] [(.int (0 : Int32))])
            refine Go.step (fun _ k => XS.istore X54.here hx rfl (hb hby at_238) rfl (l' := #[.val (.int i0), .val (.int i1), .val (.int i2), .val (.int i3), .val (.int i4), .val (.int fA), .val (.int tA), .val (.int md), .val (.ref oA), .val (.int fA), .val (.int tB), .val (.ref oB), .val (.int (0 : Int32))]) rfl k) ?_
            show Go p e below _ T54 (mkF m 240 #[.val (.int i0), .val (.int i1), .val (.int i2), .val (.int i3), .val (.int i4), .val (.int fA), .val (.int tA), .val (.int md), .val (.ref oA), .val (.int fA), .val (.int tB), .val (.ref oB), .val (.int (0 : Int32))] [])
            refine Go.step (fun _ k => XS.aload X54.here hx rfl (hb hby at_240) rfl rfl k) ?_
            show Go p e below _ T54 (mkF m 242 #[.val (.int i0), .val (.int i1), .val (.int i2), .val (.int i3), .val (.int i4), .val (.int fA), .val (.int tA), .val (.int md), .val (.ref oA), .val (.int fA), .val (.int tB), .val (.ref oB), .val (.int (0 : Int32))] [(.ref oA)])
            refine Go.step (fun _ k => XS.aload X54.here hx rfl (hb hby at_242) rfl rfl k) ?_
            show Go p e below _ T54 (mkF m 244 #[.val (.int i0), .val (.int i1), .val (.int i2), .val (.int i3), .val (.int i4), .val (.int fA), .val (.int tA), .val (.int md), .val (.ref oA), .val (.int fA), .val (.int tB), .val (.ref oB), .val (.int (0 : Int32))] [(.ref oB), (.ref oA)])
            obtain ⟨cq60, kq60, q60a, q60b, q60c⟩ := isOf hZ rfl E_oA
            obtain ⟨_, _, ⟨T60, L60, k60, n60⟩, -, X60, ⟨Lc60, hQ60, l60, y60, z60⟩, st60⟩ := X54.virtualBack hx (y := (⟨"com/example/vigilant_crawler/vigilantcrawler/model/WordSpan", "equals", "(Ljava/lang/Object;)Z"⟩ : MethodName)) (z := (⟨"com/example/vigilant_crawler/vigilantcrawler/model/WordSpan", "equals", "(Ljava/lang/Object;)Z"⟩ : MethodName)) hown (mvT hZ (hw _ (List.mem_of_getElem? (i := 20) rfl))) (mvT hZ (hw _ (List.mem_of_getElem? (i := 21) rfl))) (notFace_of_selects (args := #[]) (mvT hZ (hw _ (List.mem_of_getElem? (i := 23) rfl)))) (mvT hZ (hw _ (List.mem_of_getElem? (i := 23) rfl))) (mvT hZ (hw _ (List.mem_of_getElem? (i := 22) rfl))) (by decide) (backOf (W := 0) (rmE l Z a0 hw [] oA oB fA tA fA tB T54.heap n0 Zn F_from_oA F_to_oA E_oB F_from_oB F_to_oB) hZ (hw _ (List.mem_of_getElem? (i := 24) rfl)) (hw _ (List.mem_of_getElem? (i := 9) rfl)) (by decide) (by decide)) q60a q60c (g := (mkF m 244 #[.val (.int i0), .val (.int i1), .val (.int i2), .val (.int i3), .val (.int i4), .val (.int fA), .val (.int tA), .val (.int md), .val (.ref oA), .val (.int fA), .val (.int tB), .val (.ref oB), .val (.int (0 : Int32))] [(.ref oB), (.ref oA)])) rfl (by rw [hml]; rfl) (Steps.refl _) (argsL := [(.ref oB)]) (rest := []) (lenOf own_f115 rfl) rfl (by show 2 * 0 + _ ≤ _; exact Nat.le_of_eq rfl) (hb hby at_244) (fun _ _ => ⟨rfl, rfl, (by dsimp only [Pt.cells, Pt.slots]; decide), (by dsimp only [Pt.cells, Pt.slots]; decide)⟩)
            dsimp only [Pt.U, Pt.locs, Pt.cells, Pt.slots] at X60 l60 y60 z60 st60 hQ60
            subst l60 y60 z60
            obtain ⟨rfl, N60q, e60⟩ := hQ60
            have N60 := Fr.app N54 N60q
            refine Go.step (fun _ k => st60.trans k) ?_
            show Go p e below _ T60 (mkF m 247 #[.val (.int i0), .val (.int i1), .val (.int i2), .val (.int i3), .val (.int i4), .val (.int fA), .val (.int tA), .val (.int md), .val (.ref oA), .val (.int fA), .val (.int tB), .val (.ref oB), .val (.int (0 : Int32))] [(.int (own_eq fA tA fA tB))])
            refine Go.step (fun _ k => XS.iload X60.here hx rfl (hb hby at_247) rfl k) ?_
            show Go p e below _ T60 (mkF m 249 #[.val (.int i0), .val (.int i1), .val (.int i2), .val (.int i3), .val (.int i4), .val (.int fA), .val (.int tA), .val (.int md), .val (.ref oA), .val (.int fA), .val (.int tB), .val (.ref oB), .val (.int (0 : Int32))] [(.int (0 : Int32)), (.int (own_eq fA tA fA tB))])
            refine Go.step (fun _ k => XS.icmpNo X60.here hx rfl (hb hby at_249) rfl (teq (own_eqN2 hc230_56)).2 k) ?_
            show Go p e below _ T60 (mkF m 252 #[.val (.int i0), .val (.int i1), .val (.int i2), .val (.int i3), .val (.int i4), .val (.int fA), .val (.int tA), .val (.int md), .val (.ref oA), .val (.int fA), .val (.int tB), .val (.ref oB), .val (.int (0 : Int32))] [])
            refine Go.step (fun _ k => XS.aload X60.here hx rfl (hb hby at_252) rfl rfl k) ?_
            show Go p e below _ T60 (mkF m 254 #[.val (.int i0), .val (.int i1), .val (.int i2), .val (.int i3), .val (.int i4), .val (.int fA), .val (.int tA), .val (.int md), .val (.ref oA), .val (.int fA), .val (.int tB), .val (.ref oB), .val (.int (0 : Int32))] [(.ref oB)])
            refine Go.step (fun _ k => XS.aload X60.here hx rfl (hb hby at_254) rfl rfl k) ?_
            show Go p e below _ T60 (mkF m 256 #[.val (.int i0), .val (.int i1), .val (.int i2), .val (.int i3), .val (.int i4), .val (.int fA), .val (.int tA), .val (.int md), .val (.ref oA), .val (.int fA), .val (.int tB), .val (.ref oB), .val (.int (0 : Int32))] [(.ref oA), (.ref oB)])
            obtain ⟨cq61, kq61, q61a, q61b, q61c⟩ := isOf hZ e60 E_oB
            obtain ⟨_, _, ⟨T61, L61, k61, n61⟩, -, X61, ⟨Lc61, hQ61, l61, y61, z61⟩, st61⟩ := X60.virtualBack hx (y := (⟨"com/example/vigilant_crawler/vigilantcrawler/model/WordSpan", "equals", "(Ljava/lang/Object;)Z"⟩ : MethodName)) (z := (⟨"com/example/vigilant_crawler/vigilantcrawler/model/WordSpan", "equals", "(Ljava/lang/Object;)Z"⟩ : MethodName)) hown (mvT hZ (hw _ (List.mem_of_getElem? (i := 20) rfl))) (mvT hZ (hw _ (List.mem_of_getElem? (i := 21) rfl))) (notFace_of_selects (args := #[]) (mvT hZ (hw _ (List.mem_of_getElem? (i := 23) rfl)))) (mvT hZ (hw _ (List.mem_of_getElem? (i := 23) rfl))) (mvT hZ (hw _ (List.mem_of_getElem? (i := 22) rfl))) (by decide) (backOf (W := 0) (rmE l Z a0 hw [] oB oA fA tB fA tA T54.heap n0 Zn F_from_oB F_to_oB E_oA F_from_oA F_to_oA) hZ (hw _ (List.mem_of_getElem? (i := 24) rfl)) (hw _ (List.mem_of_getElem? (i := 9) rfl)) (by decide) (by decide)) q61a q61c (g := (mkF m 256 #[.val (.int i0), .val (.int i1), .val (.int i2), .val (.int i3), .val (.int i4), .val (.int fA), .val (.int tA), .val (.int md), .val (.ref oA), .val (.int fA), .val (.int tB), .val (.ref oB), .val (.int (0 : Int32))] [(.ref oA), (.ref oB)])) rfl (by rw [hml]; rfl) (Steps.refl _) (argsL := [(.ref oA)]) (rest := []) (lenOf own_f115 rfl) rfl (by show 2 * 0 + _ ≤ _; exact Nat.le_of_eq rfl) (hb hby at_256) (fun _ _ => ⟨rfl, e60, (by dsimp only [Pt.cells, Pt.slots]; decide), (by dsimp only [Pt.cells, Pt.slots]; decide)⟩)
            dsimp only [Pt.U, Pt.locs, Pt.cells, Pt.slots] at X61 l61 y61 z61 st61 hQ61
            subst l61 y61 z61
            obtain ⟨rfl, N61q, e61⟩ := hQ61
            have N61 := Fr.app N60 N61q
            refine Go.step (fun _ k => st61.trans k) ?_
            show Go p e below _ T61 (mkF m 259 #[.val (.int i0), .val (.int i1), .val (.int i2), .val (.int i3), .val (.int i4), .val (.int fA), .val (.int tA), .val (.int md), .val (.ref oA), .val (.int fA), .val (.int tB), .val (.ref oB), .val (.int (0 : Int32))] [(.int (own_eq fA tB fA tA))])
            refine Go.step (fun _ k => XS.iload X61.here hx rfl (hb hby at_259) rfl k) ?_
            show Go p e below _ T61 (mkF m 261 #[.val (.int i0), .val (.int i1), .val (.int i2), .val (.int i3), .val (.int i4), .val (.int fA), .val (.int tA), .val (.int md), .val (.ref oA), .val (.int fA), .val (.int tB), .val (.ref oB), .val (.int (0 : Int32))] [(.int (0 : Int32)), (.int (own_eq fA tB fA tA))])
            refine Go.step (fun _ k => XS.icmpNo X61.here hx rfl (hb hby at_261) rfl (teq (own_eqN2 (Ne.symm hc230_56))).2 k) ?_
            show Go p e below _ T61 (mkF m 264 #[.val (.int i0), .val (.int i1), .val (.int i2), .val (.int i3), .val (.int i4), .val (.int fA), .val (.int tA), .val (.int md), .val (.ref oA), .val (.int fA), .val (.int tB), .val (.ref oB), .val (.int (0 : Int32))] [])
            refine Go.step (fun _ k => XS.aload X61.here hx rfl (hb hby at_264) rfl rfl k) ?_
            show Go p e below _ T61 (mkF m 266 #[.val (.int i0), .val (.int i1), .val (.int i2), .val (.int i3), .val (.int i4), .val (.int fA), .val (.int tA), .val (.int md), .val (.ref oA), .val (.int fA), .val (.int tB), .val (.ref oB), .val (.int (0 : Int32))] [(.ref oA)])
            refine Go.step (fun _ k => XS.aload X61.here hx rfl (hb hby at_266) rfl rfl k) ?_
            show Go p e below _ T61 (mkF m 268 #[.val (.int i0), .val (.int i1), .val (.int i2), .val (.int i3), .val (.int i4), .val (.int fA), .val (.int tA), .val (.int md), .val (.ref oA), .val (.int fA), .val (.int tB), .val (.ref oB), .val (.int (0 : Int32))] [(.ref oA), (.ref oA)])
            obtain ⟨cq62, kq62, q62a, q62b, q62c⟩ := isOf hZ e61 E_oA
            obtain ⟨_, _, ⟨T62, L62, k62, n62⟩, -, X62, ⟨Lc62, hQ62, l62, y62, z62⟩, st62⟩ := X61.virtualBack hx (y := (⟨"com/example/vigilant_crawler/vigilantcrawler/model/WordSpan", "equals", "(Ljava/lang/Object;)Z"⟩ : MethodName)) (z := (⟨"com/example/vigilant_crawler/vigilantcrawler/model/WordSpan", "equals", "(Ljava/lang/Object;)Z"⟩ : MethodName)) hown (mvT hZ (hw _ (List.mem_of_getElem? (i := 20) rfl))) (mvT hZ (hw _ (List.mem_of_getElem? (i := 21) rfl))) (notFace_of_selects (args := #[]) (mvT hZ (hw _ (List.mem_of_getElem? (i := 23) rfl)))) (mvT hZ (hw _ (List.mem_of_getElem? (i := 23) rfl))) (mvT hZ (hw _ (List.mem_of_getElem? (i := 22) rfl))) (by decide) (backOf (W := 0) (rmE l Z a0 hw [] oA oA fA tA fA tA T54.heap n0 Zn F_from_oA F_to_oA E_oA F_from_oA F_to_oA) hZ (hw _ (List.mem_of_getElem? (i := 24) rfl)) (hw _ (List.mem_of_getElem? (i := 9) rfl)) (by decide) (by decide)) q62a q62c (g := (mkF m 268 #[.val (.int i0), .val (.int i1), .val (.int i2), .val (.int i3), .val (.int i4), .val (.int fA), .val (.int tA), .val (.int md), .val (.ref oA), .val (.int fA), .val (.int tB), .val (.ref oB), .val (.int (0 : Int32))] [(.ref oA), (.ref oA)])) rfl (by rw [hml]; rfl) (Steps.refl _) (argsL := [(.ref oA)]) (rest := []) (lenOf own_f115 rfl) rfl (by show 2 * 0 + _ ≤ _; exact Nat.le_of_eq rfl) (hb hby at_268) (fun _ _ => ⟨rfl, e61, (by dsimp only [Pt.cells, Pt.slots]; decide), (by dsimp only [Pt.cells, Pt.slots]; decide)⟩)
            dsimp only [Pt.U, Pt.locs, Pt.cells, Pt.slots] at X62 l62 y62 z62 st62 hQ62
            subst l62 y62 z62
            obtain ⟨rfl, N62q, e62⟩ := hQ62
            have N62 := Fr.app N61 N62q
            refine Go.step (fun _ k => st62.trans k) ?_
            show Go p e below _ T62 (mkF m 271 #[.val (.int i0), .val (.int i1), .val (.int i2), .val (.int i3), .val (.int i4), .val (.int fA), .val (.int tA), .val (.int md), .val (.ref oA), .val (.int fA), .val (.int tB), .val (.ref oB), .val (.int (0 : Int32))] [(.int (own_eq fA tA fA tA))])
            refine Go.step (fun _ k => XS.ifNo X62.here hx rfl (hb hby at_271) rfl ((if0 _ _).trans (feq (own_eqS _ _)).1) k) ?_
            show Go p e below _ T62 (mkF m 274 #[.val (.int i0), .val (.int i1), .val (.int i2), .val (.int i3), .val (.int i4), .val (.int fA), .val (.int tA), .val (.int md), .val (.ref oA), .val (.int fA), .val (.int tB), .val (.ref oB), .val (.int (0 : Int32))] [])
            refine Go.step (fun _ k => XS.iconst X62.here hx rfl (hb hby at_274) k) ?_
            show Go p e below _ T62 (mkF m 275 #[.val (.int i0), .val (.int i1), .val (.int i2), .val (.int i3), .val (.int i4), .val (.int fA), .val (.int tA), .val (.int md), .val (.ref oA), .val (.int fA), .val (.int tB), .val (.ref oB), .val (.int (0 : Int32))] [(.int (1 : Int32))])
            refine Go.step (fun _ k => XS.goto X62.here hx rfl (pc0 := 275) (pc' := 279) rfl (hb hby at_275) (by decide) (by decide) k) ?_
            show Go p e below _ T62 (mkF m 279 #[.val (.int i0), .val (.int i1), .val (.int i2), .val (.int i3), .val (.int i4), .val (.int fA), .val (.int tA), .val (.int md), .val (.ref oA), .val (.int fA), .val (.int tB), .val (.ref oB), .val (.int (0 : Int32))] [(.int (1 : Int32))])
            obtain ⟨fs, hr, hrun, hended, hW, hsame⟩ := X62.leave (v := some (.int (1 : Int32))) (fun h => by rw [Bd.returns] at h; cases h)
            refine Go.fin (retN X62 hx (t := .boolean) Bd.returns (by simp) (hb hby at_279) hr) hrun hended ?_
            refine ⟨_, _, rfl, ?_, ⟨_, rfl⟩, hW, hsame.mono (by decide) (by decide)⟩
            show Q0 Z i0 i1 i2 i3 i4 kc aK cK h0 n0 _ T62.heap _
            rw [e62]
            exact ⟨rfl, N62⟩
        · show Go p e below _ T54 (mkF m 223 #[.val (.int i0), .val (.int i1), .val (.int i2), .val (.int i3), .val (.int i4), .val (.int fA), .val (.int tA), .val (.int md), .val (.ref oA), .val (.int fA), .val (.int tB), .val (.ref oB), .unset] [(.int fA), (.int fA)])
          refine Go.step (fun _ k => XS.icmpYes X54.here hx rfl (pc0 := 223) (pc' := 237) rfl (hb hby at_223) rfl (feq hc223_55).2 (by decide) (by decide) k) ?_
          show Go p e below _ T54 (mkF m 237 #[.val (.int i0), .val (.int i1), .val (.int i2), .val (.int i3), .val (.int i4), .val (.int fA), .val (.int tA), .val (.int md), .val (.ref oA), .val (.int fA), .val (.int tB), .val (.ref oB), .unset] [])
          refine Go.step (fun _ k => XS.iconst X54.here hx rfl (hb hby at_237) k) ?_
          show Go p e below _ T54 (mkF m 238 #[.val (.int i0), .val (.int i1), .val (.int i2), .val (.int i3), .val (.int i4), .val (.int fA), .val (.int tA), .val (.int md), .val (.ref oA), .val (.int fA), .val (.int tB), .val (.ref oB), .unset] [(.int (0 : Int32))])
          refine Go.step (fun _ k => XS.istore X54.here hx rfl (hb hby at_238) rfl (l' := #[.val (.int i0), .val (.int i1), .val (.int i2), .val (.int i3), .val (.int i4), .val (.int fA), .val (.int tA), .val (.int md), .val (.ref oA), .val (.int fA), .val (.int tB), .val (.ref oB), .val (.int (0 : Int32))]) rfl k) ?_
          show Go p e below _ T54 (mkF m 240 #[.val (.int i0), .val (.int i1), .val (.int i2), .val (.int i3), .val (.int i4), .val (.int fA), .val (.int tA), .val (.int md), .val (.ref oA), .val (.int fA), .val (.int tB), .val (.ref oB), .val (.int (0 : Int32))] [])
          refine Go.step (fun _ k => XS.aload X54.here hx rfl (hb hby at_240) rfl rfl k) ?_
          show Go p e below _ T54 (mkF m 242 #[.val (.int i0), .val (.int i1), .val (.int i2), .val (.int i3), .val (.int i4), .val (.int fA), .val (.int tA), .val (.int md), .val (.ref oA), .val (.int fA), .val (.int tB), .val (.ref oB), .val (.int (0 : Int32))] [(.ref oA)])
          refine Go.step (fun _ k => XS.aload X54.here hx rfl (hb hby at_242) rfl rfl k) ?_
          show Go p e below _ T54 (mkF m 244 #[.val (.int i0), .val (.int i1), .val (.int i2), .val (.int i3), .val (.int i4), .val (.int fA), .val (.int tA), .val (.int md), .val (.ref oA), .val (.int fA), .val (.int tB), .val (.ref oB), .val (.int (0 : Int32))] [(.ref oB), (.ref oA)])
          obtain ⟨cq63, kq63, q63a, q63b, q63c⟩ := isOf hZ rfl E_oA
          obtain ⟨_, _, ⟨T63, L63, k63, n63⟩, -, X63, ⟨Lc63, hQ63, l63, y63, z63⟩, st63⟩ := X54.virtualBack hx (y := (⟨"com/example/vigilant_crawler/vigilantcrawler/model/WordSpan", "equals", "(Ljava/lang/Object;)Z"⟩ : MethodName)) (z := (⟨"com/example/vigilant_crawler/vigilantcrawler/model/WordSpan", "equals", "(Ljava/lang/Object;)Z"⟩ : MethodName)) hown (mvT hZ (hw _ (List.mem_of_getElem? (i := 20) rfl))) (mvT hZ (hw _ (List.mem_of_getElem? (i := 21) rfl))) (notFace_of_selects (args := #[]) (mvT hZ (hw _ (List.mem_of_getElem? (i := 23) rfl)))) (mvT hZ (hw _ (List.mem_of_getElem? (i := 23) rfl))) (mvT hZ (hw _ (List.mem_of_getElem? (i := 22) rfl))) (by decide) (backOf (W := 0) (rmE l Z a0 hw [] oA oB fA tA fA tB T54.heap n0 Zn F_from_oA F_to_oA E_oB F_from_oB F_to_oB) hZ (hw _ (List.mem_of_getElem? (i := 24) rfl)) (hw _ (List.mem_of_getElem? (i := 9) rfl)) (by decide) (by decide)) q63a q63c (g := (mkF m 244 #[.val (.int i0), .val (.int i1), .val (.int i2), .val (.int i3), .val (.int i4), .val (.int fA), .val (.int tA), .val (.int md), .val (.ref oA), .val (.int fA), .val (.int tB), .val (.ref oB), .val (.int (0 : Int32))] [(.ref oB), (.ref oA)])) rfl (by rw [hml]; rfl) (Steps.refl _) (argsL := [(.ref oB)]) (rest := []) (lenOf own_f115 rfl) rfl (by show 2 * 0 + _ ≤ _; exact Nat.le_of_eq rfl) (hb hby at_244) (fun _ _ => ⟨rfl, rfl, (by dsimp only [Pt.cells, Pt.slots]; decide), (by dsimp only [Pt.cells, Pt.slots]; decide)⟩)
          dsimp only [Pt.U, Pt.locs, Pt.cells, Pt.slots] at X63 l63 y63 z63 st63 hQ63
          subst l63 y63 z63
          obtain ⟨rfl, N63q, e63⟩ := hQ63
          have N63 := Fr.app N54 N63q
          refine Go.step (fun _ k => st63.trans k) ?_
          show Go p e below _ T63 (mkF m 247 #[.val (.int i0), .val (.int i1), .val (.int i2), .val (.int i3), .val (.int i4), .val (.int fA), .val (.int tA), .val (.int md), .val (.ref oA), .val (.int fA), .val (.int tB), .val (.ref oB), .val (.int (0 : Int32))] [(.int (own_eq fA tA fA tB))])
          refine Go.step (fun _ k => XS.iload X63.here hx rfl (hb hby at_247) rfl k) ?_
          show Go p e below _ T63 (mkF m 249 #[.val (.int i0), .val (.int i1), .val (.int i2), .val (.int i3), .val (.int i4), .val (.int fA), .val (.int tA), .val (.int md), .val (.ref oA), .val (.int fA), .val (.int tB), .val (.ref oB), .val (.int (0 : Int32))] [(.int (0 : Int32)), (.int (own_eq fA tA fA tB))])
          refine Go.step (fun _ k => XS.icmpNo X63.here hx rfl (hb hby at_249) rfl (teq (own_eqN1 hc223_55)).2 k) ?_
          show Go p e below _ T63 (mkF m 252 #[.val (.int i0), .val (.int i1), .val (.int i2), .val (.int i3), .val (.int i4), .val (.int fA), .val (.int tA), .val (.int md), .val (.ref oA), .val (.int fA), .val (.int tB), .val (.ref oB), .val (.int (0 : Int32))] [])
          refine Go.step (fun _ k => XS.aload X63.here hx rfl (hb hby at_252) rfl rfl k) ?_
          show Go p e below _ T63 (mkF m 254 #[.val (.int i0), .val (.int i1), .val (.int i2), .val (.int i3), .val (.int i4), .val (.int fA), .val (.int tA), .val (.int md), .val (.ref oA), .val (.int fA), .val (.int tB), .val (.ref oB), .val (.int (0 : Int32))] [(.ref oB)])
          refine Go.step (fun _ k => XS.aload X63.here hx rfl (hb hby at_254) rfl rfl k) ?_
          show Go p e below _ T63 (mkF m 256 #[.val (.int i0), .val (.int i1), .val (.int i2), .val (.int i3), .val (.int i4), .val (.int fA), .val (.int tA), .val (.int md), .val (.ref oA), .val (.int fA), .val (.int tB), .val (.ref oB), .val (.int (0 : Int32))] [(.ref oA), (.ref oB)])
          obtain ⟨cq64, kq64, q64a, q64b, q64c⟩ := isOf hZ e63 E_oB
          obtain ⟨_, _, ⟨T64, L64, k64, n64⟩, -, X64, ⟨Lc64, hQ64, l64, y64, z64⟩, st64⟩ := X63.virtualBack hx (y := (⟨"com/example/vigilant_crawler/vigilantcrawler/model/WordSpan", "equals", "(Ljava/lang/Object;)Z"⟩ : MethodName)) (z := (⟨"com/example/vigilant_crawler/vigilantcrawler/model/WordSpan", "equals", "(Ljava/lang/Object;)Z"⟩ : MethodName)) hown (mvT hZ (hw _ (List.mem_of_getElem? (i := 20) rfl))) (mvT hZ (hw _ (List.mem_of_getElem? (i := 21) rfl))) (notFace_of_selects (args := #[]) (mvT hZ (hw _ (List.mem_of_getElem? (i := 23) rfl)))) (mvT hZ (hw _ (List.mem_of_getElem? (i := 23) rfl))) (mvT hZ (hw _ (List.mem_of_getElem? (i := 22) rfl))) (by decide) (backOf (W := 0) (rmE l Z a0 hw [] oB oA fA tB fA tA T54.heap n0 Zn F_from_oB F_to_oB E_oA F_from_oA F_to_oA) hZ (hw _ (List.mem_of_getElem? (i := 24) rfl)) (hw _ (List.mem_of_getElem? (i := 9) rfl)) (by decide) (by decide)) q64a q64c (g := (mkF m 256 #[.val (.int i0), .val (.int i1), .val (.int i2), .val (.int i3), .val (.int i4), .val (.int fA), .val (.int tA), .val (.int md), .val (.ref oA), .val (.int fA), .val (.int tB), .val (.ref oB), .val (.int (0 : Int32))] [(.ref oA), (.ref oB)])) rfl (by rw [hml]; rfl) (Steps.refl _) (argsL := [(.ref oA)]) (rest := []) (lenOf own_f115 rfl) rfl (by show 2 * 0 + _ ≤ _; exact Nat.le_of_eq rfl) (hb hby at_256) (fun _ _ => ⟨rfl, e63, (by dsimp only [Pt.cells, Pt.slots]; decide), (by dsimp only [Pt.cells, Pt.slots]; decide)⟩)
          dsimp only [Pt.U, Pt.locs, Pt.cells, Pt.slots] at X64 l64 y64 z64 st64 hQ64
          subst l64 y64 z64
          obtain ⟨rfl, N64q, e64⟩ := hQ64
          have N64 := Fr.app N63 N64q
          refine Go.step (fun _ k => st64.trans k) ?_
          show Go p e below _ T64 (mkF m 259 #[.val (.int i0), .val (.int i1), .val (.int i2), .val (.int i3), .val (.int i4), .val (.int fA), .val (.int tA), .val (.int md), .val (.ref oA), .val (.int fA), .val (.int tB), .val (.ref oB), .val (.int (0 : Int32))] [(.int (own_eq fA tB fA tA))])
          refine Go.step (fun _ k => XS.iload X64.here hx rfl (hb hby at_259) rfl k) ?_
          show Go p e below _ T64 (mkF m 261 #[.val (.int i0), .val (.int i1), .val (.int i2), .val (.int i3), .val (.int i4), .val (.int fA), .val (.int tA), .val (.int md), .val (.ref oA), .val (.int fA), .val (.int tB), .val (.ref oB), .val (.int (0 : Int32))] [(.int (0 : Int32)), (.int (own_eq fA tB fA tA))])
          refine Go.step (fun _ k => XS.icmpNo X64.here hx rfl (hb hby at_261) rfl (teq (own_eqN1 (Ne.symm hc223_55))).2 k) ?_
          show Go p e below _ T64 (mkF m 264 #[.val (.int i0), .val (.int i1), .val (.int i2), .val (.int i3), .val (.int i4), .val (.int fA), .val (.int tA), .val (.int md), .val (.ref oA), .val (.int fA), .val (.int tB), .val (.ref oB), .val (.int (0 : Int32))] [])
          refine Go.step (fun _ k => XS.aload X64.here hx rfl (hb hby at_264) rfl rfl k) ?_
          show Go p e below _ T64 (mkF m 266 #[.val (.int i0), .val (.int i1), .val (.int i2), .val (.int i3), .val (.int i4), .val (.int fA), .val (.int tA), .val (.int md), .val (.ref oA), .val (.int fA), .val (.int tB), .val (.ref oB), .val (.int (0 : Int32))] [(.ref oA)])
          refine Go.step (fun _ k => XS.aload X64.here hx rfl (hb hby at_266) rfl rfl k) ?_
          show Go p e below _ T64 (mkF m 268 #[.val (.int i0), .val (.int i1), .val (.int i2), .val (.int i3), .val (.int i4), .val (.int fA), .val (.int tA), .val (.int md), .val (.ref oA), .val (.int fA), .val (.int tB), .val (.ref oB), .val (.int (0 : Int32))] [(.ref oA), (.ref oA)])
          obtain ⟨cq65, kq65, q65a, q65b, q65c⟩ := isOf hZ e64 E_oA
          obtain ⟨_, _, ⟨T65, L65, k65, n65⟩, -, X65, ⟨Lc65, hQ65, l65, y65, z65⟩, st65⟩ := X64.virtualBack hx (y := (⟨"com/example/vigilant_crawler/vigilantcrawler/model/WordSpan", "equals", "(Ljava/lang/Object;)Z"⟩ : MethodName)) (z := (⟨"com/example/vigilant_crawler/vigilantcrawler/model/WordSpan", "equals", "(Ljava/lang/Object;)Z"⟩ : MethodName)) hown (mvT hZ (hw _ (List.mem_of_getElem? (i := 20) rfl))) (mvT hZ (hw _ (List.mem_of_getElem? (i := 21) rfl))) (notFace_of_selects (args := #[]) (mvT hZ (hw _ (List.mem_of_getElem? (i := 23) rfl)))) (mvT hZ (hw _ (List.mem_of_getElem? (i := 23) rfl))) (mvT hZ (hw _ (List.mem_of_getElem? (i := 22) rfl))) (by decide) (backOf (W := 0) (rmE l Z a0 hw [] oA oA fA tA fA tA T54.heap n0 Zn F_from_oA F_to_oA E_oA F_from_oA F_to_oA) hZ (hw _ (List.mem_of_getElem? (i := 24) rfl)) (hw _ (List.mem_of_getElem? (i := 9) rfl)) (by decide) (by decide)) q65a q65c (g := (mkF m 268 #[.val (.int i0), .val (.int i1), .val (.int i2), .val (.int i3), .val (.int i4), .val (.int fA), .val (.int tA), .val (.int md), .val (.ref oA), .val (.int fA), .val (.int tB), .val (.ref oB), .val (.int (0 : Int32))] [(.ref oA), (.ref oA)])) rfl (by rw [hml]; rfl) (Steps.refl _) (argsL := [(.ref oA)]) (rest := []) (lenOf own_f115 rfl) rfl (by show 2 * 0 + _ ≤ _; exact Nat.le_of_eq rfl) (hb hby at_268) (fun _ _ => ⟨rfl, e64, (by dsimp only [Pt.cells, Pt.slots]; decide), (by dsimp only [Pt.cells, Pt.slots]; decide)⟩)
          dsimp only [Pt.U, Pt.locs, Pt.cells, Pt.slots] at X65 l65 y65 z65 st65 hQ65
          subst l65 y65 z65
          obtain ⟨rfl, N65q, e65⟩ := hQ65
          have N65 := Fr.app N64 N65q
          refine Go.step (fun _ k => st65.trans k) ?_
          show Go p e below _ T65 (mkF m 271 #[.val (.int i0), .val (.int i1), .val (.int i2), .val (.int i3), .val (.int i4), .val (.int fA), .val (.int tA), .val (.int md), .val (.ref oA), .val (.int fA), .val (.int tB), .val (.ref oB), .val (.int (0 : Int32))] [(.int (own_eq fA tA fA tA))])
          refine Go.step (fun _ k => XS.ifNo X65.here hx rfl (hb hby at_271) rfl ((if0 _ _).trans (feq (own_eqS _ _)).1) k) ?_
          show Go p e below _ T65 (mkF m 274 #[.val (.int i0), .val (.int i1), .val (.int i2), .val (.int i3), .val (.int i4), .val (.int fA), .val (.int tA), .val (.int md), .val (.ref oA), .val (.int fA), .val (.int tB), .val (.ref oB), .val (.int (0 : Int32))] [])
          refine Go.step (fun _ k => XS.iconst X65.here hx rfl (hb hby at_274) k) ?_
          show Go p e below _ T65 (mkF m 275 #[.val (.int i0), .val (.int i1), .val (.int i2), .val (.int i3), .val (.int i4), .val (.int fA), .val (.int tA), .val (.int md), .val (.ref oA), .val (.int fA), .val (.int tB), .val (.ref oB), .val (.int (0 : Int32))] [(.int (1 : Int32))])
          refine Go.step (fun _ k => XS.goto X65.here hx rfl (pc0 := 275) (pc' := 279) rfl (hb hby at_275) (by decide) (by decide) k) ?_
          show Go p e below _ T65 (mkF m 279 #[.val (.int i0), .val (.int i1), .val (.int i2), .val (.int i3), .val (.int i4), .val (.int fA), .val (.int tA), .val (.int md), .val (.ref oA), .val (.int fA), .val (.int tB), .val (.ref oB), .val (.int (0 : Int32))] [(.int (1 : Int32))])
          obtain ⟨fs, hr, hrun, hended, hW, hsame⟩ := X65.leave (v := some (.int (1 : Int32))) (fun h => by rw [Bd.returns] at h; cases h)
          refine Go.fin (retN X65 hx (t := .boolean) Bd.returns (by simp) (hb hby at_279) hr) hrun hended ?_
          refine ⟨_, _, rfl, ?_, ⟨_, rfl⟩, hW, hsame.mono (by decide) (by decide)⟩
          show Q0 Z i0 i1 i2 i3 i4 kc aK cK h0 n0 _ T65.heap _
          rw [e65]
          exact ⟨rfl, N65⟩
      · show Go p e below _ T35 (mkF m 134 #[.val (.int i0), .val (.int i1), .val (.int i2), .val (.int i3), .val (.int i4), .val (.int fA), .val (.int tA), .val (.int md), .val (.ref oA), .unset, .unset, .unset, .unset] [(.int (2 : Int32)), (.int md)])
        refine Go.step (fun _ k => XS.icmpYes X35.here hx rfl (pc0 := 134) (pc' := 160) rfl (hb hby at_134) rfl (feq hc134_51).2 (by decide) (by decide) k) ?_
        show Go p e below _ T35 (mkF m 160 #[.val (.int i0), .val (.int i1), .val (.int i2), .val (.int i3), .val (.int i4), .val (.int fA), .val (.int tA), .val (.int md), .val (.ref oA), .unset, .unset, .unset, .unset] [])
        refine Go.step (fun _ k => XS.iload X35.here hx rfl (hb hby at_160) rfl k) ?_
        show Go p e below _ T35 (mkF m 162 #[.val (.int i0), .val (.int i1), .val (.int i2), .val (.int i3), .val (.int i4), .val (.int fA), .val (.int tA), .val (.int md), .val (.ref oA), .unset, .unset, .unset, .unset] [(.int md)])
        refine Go.step (fun _ k => XS.iconst X35.here hx rfl (hb hby at_162) k) ?_
        show Go p e below _ T35 (mkF m 163 #[.val (.int i0), .val (.int i1), .val (.int i2), .val (.int i3), .val (.int i4), .val (.int fA), .val (.int tA), .val (.int md), .val (.ref oA), .unset, .unset, .unset, .unset] [(.int (3 : Int32)), (.int md)])
        by_cases hc163_66 : md = (3 : Int32)
        · show Go p e below _ T35 (mkF m 163 #[.val (.int i0), .val (.int i1), .val (.int i2), .val (.int i3), .val (.int i4), .val (.int fA), .val (.int tA), .val (.int md), .val (.ref oA), .unset, .unset, .unset, .unset] [(.int (3 : Int32)), (.int md)])
          refine Go.step (fun _ k => XS.icmpNo X35.here hx rfl (hb hby at_163) rfl (teq hc163_66).2 k) ?_
          show Go p e below _ T35 (mkF m 166 #[.val (.int i0), .val (.int i1), .val (.int i2), .val (.int i3), .val (.int i4), .val (.int fA), .val (.int tA), .val (.int md), .val (.ref oA), .unset, .unset, .unset, .unset] [])
          refine Go.step (fun _ k => XS.iload X35.here hx rfl (hb hby at_166) rfl k) ?_
          show Go p e below _ T35 (mkF m 168 #[.val (.int i0), .val (.int i1), .val (.int i2), .val (.int i3), .val (.int i4), .val (.int fA), .val (.int tA), .val (.int md), .val (.ref oA), .unset, .unset, .unset, .unset] [(.int tA)])
          refine Go.step (fun _ k => XS.istore X35.here hx rfl (hb hby at_168) rfl (l' := #[.val (.int i0), .val (.int i1), .val (.int i2), .val (.int i3), .val (.int i4), .val (.int fA), .val (.int tA), .val (.int md), .val (.ref oA), .unset, .val (.int tA), .unset, .unset]) rfl k) ?_
          show Go p e below _ T35 (mkF m 170 #[.val (.int i0), .val (.int i1), .val (.int i2), .val (.int i3), .val (.int i4), .val (.int fA), .val (.int tA), .val (.int md), .val (.ref oA), .unset, .val (.int tA), .unset, .unset] [])
          refine Go.step (fun _ k => XS.iloadN X35.here hx rfl (hb hby at_170) rfl k) ?_
          show Go p e below _ T35 (mkF m 171 #[.val (.int i0), .val (.int i1), .val (.int i2), .val (.int i3), .val (.int i4), .val (.int fA), .val (.int tA), .val (.int md), .val (.ref oA), .unset, .val (.int tA), .unset, .unset] [(.int i2)])
          refine Go.step (fun _ k => XS.iload X35.here hx rfl (hb hby at_171) rfl k) ?_
          show Go p e below _ T35 (mkF m 173 #[.val (.int i0), .val (.int i1), .val (.int i2), .val (.int i3), .val (.int i4), .val (.int fA), .val (.int tA), .val (.int md), .val (.ref oA), .unset, .val (.int tA), .unset, .unset] [(.int tA), (.int i2)])
          refine Go.step (fun _ k => XS.i2l X35.here hx rfl (hb hby at_173) rfl k) ?_
          show Go p e below _ T35 (mkF m 174 #[.val (.int i0), .val (.int i1), .val (.int i2), .val (.int i3), .val (.int i4), .val (.int fA), .val (.int tA), .val (.int md), .val (.ref oA), .unset, .val (.int tA), .unset, .unset] [(.long (tA.toInt64)), (.int i2)])
          refine Go.step (fun _ k => XS.lconst X35.here hx rfl (hb hby at_174) k) ?_
          show Go p e below _ T35 (mkF m 175 #[.val (.int i0), .val (.int i1), .val (.int i2), .val (.int i3), .val (.int i4), .val (.int fA), .val (.int tA), .val (.int md), .val (.ref oA), .unset, .val (.int tA), .unset, .unset] [(.long (1 : Int64)), (.long (tA.toInt64)), (.int i2)])
          refine Go.step (fun _ k => XS.ladd X35.here hx rfl (hb hby at_175) rfl k) ?_
          show Go p e below _ T35 (mkF m 176 #[.val (.int i0), .val (.int i1), .val (.int i2), .val (.int i3), .val (.int i4), .val (.int fA), .val (.int tA), .val (.int md), .val (.ref oA), .unset, .val (.int tA), .unset, .unset] [(.long ((tA.toInt64) + (1 : Int64))), (.int i2)])
          obtain ⟨_, _, ⟨T67, L67, k67, n67⟩, -, X67, ⟨Lc67, hQ67, l67, y67, z67⟩, st67⟩ := Jvm.LawKit.callS X35 hx (y := (⟨"com/example/vigilant_crawler/vigilantcrawler/model/WordSpanEqualsPinLaw", "below", "(IJ)I"⟩ : MethodName)) hown (mvT hZ (hw _ (List.mem_of_getElem? (i := 2) rfl))) (mvT hZ (hw _ (List.mem_of_getElem? (i := 3) rfl))) (mvT hZ (hw _ (List.mem_of_getElem? (i := 4) rfl))) (mvT hZ (hw _ (List.mem_of_getElem? (i := 5) rfl))) (by decide) (backOf (W := 0) (rmL l Z a0 hw [] i2 ((tA.toInt64) + (1 : Int64)) T35.heap n0 Zn (own_jn (by rw [own_j2 htA]; omega))) hZ (hw _ (List.mem_of_getElem? (i := 5) rfl)) (hw _ (List.mem_of_getElem? (i := 4) rfl)) (by decide) (by decide)) (g := (mkF m 176 #[.val (.int i0), .val (.int i1), .val (.int i2), .val (.int i3), .val (.int i4), .val (.int fA), .val (.int tA), .val (.int md), .val (.ref oA), .unset, .val (.int tA), .unset, .unset] [(.long ((tA.toInt64) + (1 : Int64))), (.int i2)])) rfl (by rw [hml]; rfl) (argsL := [(.int i2), (.long ((tA.toInt64) + (1 : Int64)))]) (rest := []) (lenOf own_f113 rfl) rfl (by show 2 * 0 + _ ≤ _; exact Nat.le_of_eq rfl) (hb hby at_176) (fun _ _ => ⟨rfl, rfl, (by dsimp only [Pt.cells, Pt.slots]; decide), (by dsimp only [Pt.cells, Pt.slots]; decide)⟩)
          dsimp only [Pt.U, Pt.locs, Pt.cells, Pt.slots] at X67 l67 y67 z67 st67 hQ67
          subst l67 y67 z67
          obtain ⟨rfl, N67q, e67⟩ := hQ67
          have N67 := Fr.app N35 N67q
          refine Go.step (st67) ?_
          show Go p e below _ T67 (mkF m 179 #[.val (.int i0), .val (.int i1), .val (.int i2), .val (.int i3), .val (.int i4), .val (.int fA), .val (.int tA), .val (.int md), .val (.ref oA), .unset, .val (.int tA), .unset, .unset] [(.int (own_below i2 ((tA.toInt64) + (1 : Int64))))])
          obtain ⟨fB, e_fB⟩ : ∃ zq : Int32, zq = (own_below i2 ((tA.toInt64) + (1 : Int64))) := ⟨_, rfl⟩
          rw [← e_fB]
          show Go p e below _ T67 (mkF m 179 #[.val (.int i0), .val (.int i1), .val (.int i2), .val (.int i3), .val (.int i4), .val (.int fA), .val (.int tA), .val (.int md), .val (.ref oA), .unset, .val (.int tA), .unset, .unset] [(.int fB)])
          have okB := own_ft3 htA e_fB
          refine Go.step (fun _ k => XS.istore X67.here hx rfl (hb hby at_179) rfl (l' := #[.val (.int i0), .val (.int i1), .val (.int i2), .val (.int i3), .val (.int i4), .val (.int fA), .val (.int tA), .val (.int md), .val (.ref oA), .val (.int fB), .val (.int tA), .unset, .unset]) rfl k) ?_
          show Go p e below _ T67 (mkF m 181 #[.val (.int i0), .val (.int i1), .val (.int i2), .val (.int i3), .val (.int i4), .val (.int fA), .val (.int tA), .val (.int md), .val (.ref oA), .val (.int fB), .val (.int tA), .unset, .unset] [])
          refine Go.step (fun _ k => XS.goto X67.here hx rfl (pc0 := 181) (pc' := 206) rfl (hb hby at_181) (by decide) (by decide) k) ?_
          show Go p e below _ T67 (mkF m 206 #[.val (.int i0), .val (.int i1), .val (.int i2), .val (.int i3), .val (.int i4), .val (.int fA), .val (.int tA), .val (.int md), .val (.ref oA), .val (.int fB), .val (.int tA), .unset, .unset] [])
          obtain ⟨T68, h68, X68, e68, E68, A68, D68, U68, st68⟩ := newO X67 hx hZ hown (hw _ (List.mem_of_getElem? (i := 7) rfl)) (hw _ (List.mem_of_getElem? (i := 8) rfl)) (hw _ (List.mem_of_getElem? (i := 9) rfl)) e67 (g := (mkF m 206 #[.val (.int i0), .val (.int i1), .val (.int i2), .val (.int i3), .val (.int i4), .val (.int fA), .val (.int tA), .val (.int md), .val (.ref oA), .val (.int fB), .val (.int tA), .unset, .unset] [])) rfl (hb hby at_206) (by decide) (by decide)
          obtain ⟨oB, g68⟩ : ∃ z, z = T35.heap.size := ⟨_, rfl⟩
          rw [← g68] at A68 D68 U68 st68
          have ne_oA_oB : oA ≠ oB := Nat.ne_of_lt (Nat.lt_of_lt_of_le E_oA.lt (Nat.le_of_eq g68.symm))
          have g_oB : n0 ≤ oB := Nat.le_trans Zn (Nat.le_of_eq g68.symm)
          have sz_oB : h0.size ≤ oB := Nat.le_trans K0.1 (Nat.le_of_eq g68.symm)
          replace Od := Od.ext E68
          replace E_oA := E_oA.ext E68
          replace F_from_oA := F_from_oA.ext E68
          replace F_to_oA := F_to_oA.ext E68
          replace Zn := Nat.le_trans Zn E68.1
          replace K0 := K0.ext E68
          have E_oB := A68
          have F_from_oB : Fld Z h68 oB "com/example/vigilant_crawler/vigilantcrawler/model/WordSpan" "from" "I" (.int (0 : Int32)) := D68 (Or.inr (hw _ (List.mem_of_getElem? (i := 17) rfl))) (ty := .int) (by decide)
          have F_to_oB : Fld Z h68 oB "com/example/vigilant_crawler/vigilantcrawler/model/WordSpan" "to" "I" (.int (0 : Int32)) := D68 (Or.inr (hw _ (List.mem_of_getElem? (i := 19) rfl))) (ty := .int) (by decide)
          refine Go.step st68 ?_
          show Go p e below _ T68 (mkF m 209 #[.val (.int i0), .val (.int i1), .val (.int i2), .val (.int i3), .val (.int i4), .val (.int fA), .val (.int tA), .val (.int md), .val (.ref oA), .val (.int fB), .val (.int tA), .unset, .unset] [(.ref oB)])
          refine Go.step (fun _ k => XS.dup X68.here hx rfl (hb hby at_209) rfl rfl k) ?_
          show Go p e below _ T68 (mkF m 210 #[.val (.int i0), .val (.int i1), .val (.int i2), .val (.int i3), .val (.int i4), .val (.int fA), .val (.int tA), .val (.int md), .val (.ref oA), .val (.int fB), .val (.int tA), .unset, .unset] [(.ref oB), (.ref oB)])
          refine Go.step (fun _ k => XS.iload X68.here hx rfl (hb hby at_210) rfl k) ?_
          show Go p e below _ T68 (mkF m 212 #[.val (.int i0), .val (.int i1), .val (.int i2), .val (.int i3), .val (.int i4), .val (.int fA), .val (.int tA), .val (.int md), .val (.ref oA), .val (.int fB), .val (.int tA), .unset, .unset] [(.int fB), (.ref oB), (.ref oB)])
          refine Go.step (fun _ k => XS.iload X68.here hx rfl (hb hby at_212) rfl k) ?_
          show Go p e below _ T68 (mkF m 214 #[.val (.int i0), .val (.int i1), .val (.int i2), .val (.int i3), .val (.int i4), .val (.int fA), .val (.int tA), .val (.int md), .val (.ref oA), .val (.int fB), .val (.int tA), .unset, .unset] [(.int tA), (.int fB), (.ref oB), (.ref oB)])
          obtain ⟨_, _, ⟨T69, L69, k69, n69⟩, -, X69, ⟨Lc69, hQ69, l69, y69, z69⟩, st69⟩ := X68.specialBack hx (y := (⟨"com/example/vigilant_crawler/vigilantcrawler/model/WordSpan", "<init>", "(II)V"⟩ : MethodName)) rfl hown (mvT hZ (hw _ (List.mem_of_getElem? (i := 10) rfl))) (mvT hZ (hw _ (List.mem_of_getElem? (i := 11) rfl))) (mvT hZ (hw _ (List.mem_of_getElem? (i := 12) rfl))) (by decide) (backOf (W := 1) (rmI l Z a0 hw [] oB fB tA h68 n0 Zn E_oB F_from_oB F_to_oB g_oB okB.1 okB.2) hZ (hw _ (List.mem_of_getElem? (i := 12) rfl)) (hw _ (List.mem_of_getElem? (i := 9) rfl)) (by decide) (by decide)) (g := (mkF m 214 #[.val (.int i0), .val (.int i1), .val (.int i2), .val (.int i3), .val (.int i4), .val (.int fA), .val (.int tA), .val (.int md), .val (.ref oA), .val (.int fB), .val (.int tA), .unset, .unset] [(.int tA), (.int fB), (.ref oB), (.ref oB)])) rfl (by rw [hml]; rfl) (Steps.refl _) (a := oB) (argsL := [(.int fB), (.int tA)]) (rest := [(.ref oB)]) (lenOf own_f114 rfl) rfl (by show 2 * 0 + _ ≤ _; exact Nat.le_of_eq rfl) (hb hby at_214) (fun _ _ => ⟨rfl, e68, (by dsimp only [Pt.cells, Pt.slots]; decide), (by dsimp only [Pt.cells, Pt.slots]; decide)⟩)
          dsimp only [Pt.U, Pt.locs, Pt.cells, Pt.slots] at X69 l69 y69 z69 st69 hQ69
          subst l69 y69 z69
          obtain ⟨rfl, N69q, K69, F_from_oB, F_to_oB⟩ := hQ69
          have N69 := Fr.app N67 N69q
          refine Go.step (fun _ k => st69.trans k) ?_
          replace Od := Od.keep K69 (allS g_oB all0)
          replace E_oA := E_oA.keep K69
          replace F_from_oA := F_from_oA.keep K69 (ninS ne_oA_oB nin0)
          replace F_to_oA := F_to_oA.keep K69 (ninS ne_oA_oB nin0)
          replace E_oB := E_oB.keep K69
          replace K0 := K0.trans K69 (allS (Or.inr sz_oB) (all0))
          replace Zn := Nat.le_trans Zn K69.1
          show Go p e below _ T69 (mkF m 217 #[.val (.int i0), .val (.int i1), .val (.int i2), .val (.int i3), .val (.int i4), .val (.int fA), .val (.int tA), .val (.int md), .val (.ref oA), .val (.int fB), .val (.int tA), .unset, .unset] [(.ref oB)])
          refine Go.step (fun _ k => XS.astore X69.here hx rfl (hb hby at_217) rfl rfl (l' := #[.val (.int i0), .val (.int i1), .val (.int i2), .val (.int i3), .val (.int i4), .val (.int fA), .val (.int tA), .val (.int md), .val (.ref oA), .val (.int fB), .val (.int tA), .val (.ref oB), .unset]) rfl k) ?_
          show Go p e below _ T69 (mkF m 219 #[.val (.int i0), .val (.int i1), .val (.int i2), .val (.int i3), .val (.int i4), .val (.int fA), .val (.int tA), .val (.int md), .val (.ref oA), .val (.int fB), .val (.int tA), .val (.ref oB), .unset] [])
          refine Go.step (fun _ k => XS.iload X69.here hx rfl (hb hby at_219) rfl k) ?_
          show Go p e below _ T69 (mkF m 221 #[.val (.int i0), .val (.int i1), .val (.int i2), .val (.int i3), .val (.int i4), .val (.int fA), .val (.int tA), .val (.int md), .val (.ref oA), .val (.int fB), .val (.int tA), .val (.ref oB), .unset] [(.int fA)])
          refine Go.step (fun _ k => XS.iload X69.here hx rfl (hb hby at_221) rfl k) ?_
          show Go p e below _ T69 (mkF m 223 #[.val (.int i0), .val (.int i1), .val (.int i2), .val (.int i3), .val (.int i4), .val (.int fA), .val (.int tA), .val (.int md), .val (.ref oA), .val (.int fB), .val (.int tA), .val (.ref oB), .unset] [(.int fB), (.int fA)])
          by_cases hc223_70 : fA = fB
          · show Go p e below _ T69 (mkF m 223 #[.val (.int i0), .val (.int i1), .val (.int i2), .val (.int i3), .val (.int i4), .val (.int fA), .val (.int tA), .val (.int md), .val (.ref oA), .val (.int fB), .val (.int tA), .val (.ref oB), .unset] [(.int fB), (.int fA)])
            refine Go.step (fun _ k => XS.icmpNo X69.here hx rfl (hb hby at_223) rfl (teq hc223_70).2 k) ?_
            show Go p e below _ T69 (mkF m 226 #[.val (.int i0), .val (.int i1), .val (.int i2), .val (.int i3), .val (.int i4), .val (.int fA), .val (.int tA), .val (.int md), .val (.ref oA), .val (.int fB), .val (.int tA), .val (.ref oB), .unset] [])
            refine Go.step (fun _ k => XS.iload X69.here hx rfl (hb hby at_226) rfl k) ?_
            show Go p e below _ T69 (mkF m 228 #[.val (.int i0), .val (.int i1), .val (.int i2), .val (.int i3), .val (.int i4), .val (.int fA), .val (.int tA), .val (.int md), .val (.ref oA), .val (.int fB), .val (.int tA), .val (.ref oB), .unset] [(.int tA)])
            refine Go.step (fun _ k => XS.iload X69.here hx rfl (hb hby at_228) rfl k) ?_
            show Go p e below _ T69 (mkF m 230 #[.val (.int i0), .val (.int i1), .val (.int i2), .val (.int i3), .val (.int i4), .val (.int fA), .val (.int tA), .val (.int md), .val (.ref oA), .val (.int fB), .val (.int tA), .val (.ref oB), .unset] [(.int tA), (.int tA)])
            by_cases hc230_71 : tA = tA
            · show Go p e below _ T69 (mkF m 230 #[.val (.int i0), .val (.int i1), .val (.int i2), .val (.int i3), .val (.int i4), .val (.int fA), .val (.int tA), .val (.int md), .val (.ref oA), .val (.int fB), .val (.int tA), .val (.ref oB), .unset] [(.int tA), (.int tA)])
              refine Go.step (fun _ k => XS.icmpNo X69.here hx rfl (hb hby at_230) rfl (teq hc230_71).2 k) ?_
              show Go p e below _ T69 (mkF m 233 #[.val (.int i0), .val (.int i1), .val (.int i2), .val (.int i3), .val (.int i4), .val (.int fA), .val (.int tA), .val (.int md), .val (.ref oA), .val (.int fB), .val (.int tA), .val (.ref oB), .unset] [])
              refine Go.step (fun _ k => XS.iconst X69.here hx rfl (hb hby at_233) k) ?_
              show Go p e below _ T69 (mkF m 234 #[.val (.int i0), .val (.int i1), .val (.int i2), .val (.int i3), .val (.int i4), .val (.int fA), .val (.int tA), .val (.int md), .val (.ref oA), .val (.int fB), .val (.int tA), .val (.ref oB), .unset] [(.int (1 : Int32))])
              refine Go.step (fun _ k => XS.goto X69.here hx rfl (pc0 := 234) (pc' := 238) rfl (hb hby at_234) (by decide) (by decide) k) ?_
              show Go p e below _ T69 (mkF m 238 #[.val (.int i0), .val (.int i1), .val (.int i2), .val (.int i3), .val (.int i4), .val (.int fA), .val (.int tA), .val (.int md), .val (.ref oA), .val (.int fB), .val (.int tA), .val (.ref oB), .unset] [(.int (1 : Int32))])
              refine Go.step (fun _ k => XS.istore X69.here hx rfl (hb hby at_238) rfl (l' := #[.val (.int i0), .val (.int i1), .val (.int i2), .val (.int i3), .val (.int i4), .val (.int fA), .val (.int tA), .val (.int md), .val (.ref oA), .val (.int fB), .val (.int tA), .val (.ref oB), .val (.int (1 : Int32))]) rfl k) ?_
              show Go p e below _ T69 (mkF m 240 #[.val (.int i0), .val (.int i1), .val (.int i2), .val (.int i3), .val (.int i4), .val (.int fA), .val (.int tA), .val (.int md), .val (.ref oA), .val (.int fB), .val (.int tA), .val (.ref oB), .val (.int (1 : Int32))] [])
              refine Go.step (fun _ k => XS.aload X69.here hx rfl (hb hby at_240) rfl rfl k) ?_
              show Go p e below _ T69 (mkF m 242 #[.val (.int i0), .val (.int i1), .val (.int i2), .val (.int i3), .val (.int i4), .val (.int fA), .val (.int tA), .val (.int md), .val (.ref oA), .val (.int fB), .val (.int tA), .val (.ref oB), .val (.int (1 : Int32))] [(.ref oA)])
              refine Go.step (fun _ k => XS.aload X69.here hx rfl (hb hby at_242) rfl rfl k) ?_
              show Go p e below _ T69 (mkF m 244 #[.val (.int i0), .val (.int i1), .val (.int i2), .val (.int i3), .val (.int i4), .val (.int fA), .val (.int tA), .val (.int md), .val (.ref oA), .val (.int fB), .val (.int tA), .val (.ref oB), .val (.int (1 : Int32))] [(.ref oB), (.ref oA)])
              obtain ⟨cq72, kq72, q72a, q72b, q72c⟩ := isOf hZ rfl E_oA
              obtain ⟨_, _, ⟨T72, L72, k72, n72⟩, -, X72, ⟨Lc72, hQ72, l72, y72, z72⟩, st72⟩ := X69.virtualBack hx (y := (⟨"com/example/vigilant_crawler/vigilantcrawler/model/WordSpan", "equals", "(Ljava/lang/Object;)Z"⟩ : MethodName)) (z := (⟨"com/example/vigilant_crawler/vigilantcrawler/model/WordSpan", "equals", "(Ljava/lang/Object;)Z"⟩ : MethodName)) hown (mvT hZ (hw _ (List.mem_of_getElem? (i := 20) rfl))) (mvT hZ (hw _ (List.mem_of_getElem? (i := 21) rfl))) (notFace_of_selects (args := #[]) (mvT hZ (hw _ (List.mem_of_getElem? (i := 23) rfl)))) (mvT hZ (hw _ (List.mem_of_getElem? (i := 23) rfl))) (mvT hZ (hw _ (List.mem_of_getElem? (i := 22) rfl))) (by decide) (backOf (W := 0) (rmE l Z a0 hw [] oA oB fA tA fB tA T69.heap n0 Zn F_from_oA F_to_oA E_oB F_from_oB F_to_oB) hZ (hw _ (List.mem_of_getElem? (i := 24) rfl)) (hw _ (List.mem_of_getElem? (i := 9) rfl)) (by decide) (by decide)) q72a q72c (g := (mkF m 244 #[.val (.int i0), .val (.int i1), .val (.int i2), .val (.int i3), .val (.int i4), .val (.int fA), .val (.int tA), .val (.int md), .val (.ref oA), .val (.int fB), .val (.int tA), .val (.ref oB), .val (.int (1 : Int32))] [(.ref oB), (.ref oA)])) rfl (by rw [hml]; rfl) (Steps.refl _) (argsL := [(.ref oB)]) (rest := []) (lenOf own_f115 rfl) rfl (by show 2 * 0 + _ ≤ _; exact Nat.le_of_eq rfl) (hb hby at_244) (fun _ _ => ⟨rfl, rfl, (by dsimp only [Pt.cells, Pt.slots]; decide), (by dsimp only [Pt.cells, Pt.slots]; decide)⟩)
              dsimp only [Pt.U, Pt.locs, Pt.cells, Pt.slots] at X72 l72 y72 z72 st72 hQ72
              subst l72 y72 z72
              obtain ⟨rfl, N72q, e72⟩ := hQ72
              have N72 := Fr.app N69 N72q
              refine Go.step (fun _ k => st72.trans k) ?_
              show Go p e below _ T72 (mkF m 247 #[.val (.int i0), .val (.int i1), .val (.int i2), .val (.int i3), .val (.int i4), .val (.int fA), .val (.int tA), .val (.int md), .val (.ref oA), .val (.int fB), .val (.int tA), .val (.ref oB), .val (.int (1 : Int32))] [(.int (own_eq fA tA fB tA))])
              refine Go.step (fun _ k => XS.iload X72.here hx rfl (hb hby at_247) rfl k) ?_
              show Go p e below _ T72 (mkF m 249 #[.val (.int i0), .val (.int i1), .val (.int i2), .val (.int i3), .val (.int i4), .val (.int fA), .val (.int tA), .val (.int md), .val (.ref oA), .val (.int fB), .val (.int tA), .val (.ref oB), .val (.int (1 : Int32))] [(.int (1 : Int32)), (.int (own_eq fA tA fB tA))])
              refine Go.step (fun _ k => XS.icmpNo X72.here hx rfl (hb hby at_249) rfl (teq (own_eqY hc223_70 hc230_71)).2 k) ?_
              show Go p e below _ T72 (mkF m 252 #[.val (.int i0), .val (.int i1), .val (.int i2), .val (.int i3), .val (.int i4), .val (.int fA), .val (.int tA), .val (.int md), .val (.ref oA), .val (.int fB), .val (.int tA), .val (.ref oB), .val (.int (1 : Int32))] [])
              refine Go.step (fun _ k => XS.aload X72.here hx rfl (hb hby at_252) rfl rfl k) ?_
              show Go p e below _ T72 (mkF m 254 #[.val (.int i0), .val (.int i1), .val (.int i2), .val (.int i3), .val (.int i4), .val (.int fA), .val (.int tA), .val (.int md), .val (.ref oA), .val (.int fB), .val (.int tA), .val (.ref oB), .val (.int (1 : Int32))] [(.ref oB)])
              refine Go.step (fun _ k => XS.aload X72.here hx rfl (hb hby at_254) rfl rfl k) ?_
              show Go p e below _ T72 (mkF m 256 #[.val (.int i0), .val (.int i1), .val (.int i2), .val (.int i3), .val (.int i4), .val (.int fA), .val (.int tA), .val (.int md), .val (.ref oA), .val (.int fB), .val (.int tA), .val (.ref oB), .val (.int (1 : Int32))] [(.ref oA), (.ref oB)])
              obtain ⟨cq73, kq73, q73a, q73b, q73c⟩ := isOf hZ e72 E_oB
              obtain ⟨_, _, ⟨T73, L73, k73, n73⟩, -, X73, ⟨Lc73, hQ73, l73, y73, z73⟩, st73⟩ := X72.virtualBack hx (y := (⟨"com/example/vigilant_crawler/vigilantcrawler/model/WordSpan", "equals", "(Ljava/lang/Object;)Z"⟩ : MethodName)) (z := (⟨"com/example/vigilant_crawler/vigilantcrawler/model/WordSpan", "equals", "(Ljava/lang/Object;)Z"⟩ : MethodName)) hown (mvT hZ (hw _ (List.mem_of_getElem? (i := 20) rfl))) (mvT hZ (hw _ (List.mem_of_getElem? (i := 21) rfl))) (notFace_of_selects (args := #[]) (mvT hZ (hw _ (List.mem_of_getElem? (i := 23) rfl)))) (mvT hZ (hw _ (List.mem_of_getElem? (i := 23) rfl))) (mvT hZ (hw _ (List.mem_of_getElem? (i := 22) rfl))) (by decide) (backOf (W := 0) (rmE l Z a0 hw [] oB oA fB tA fA tA T69.heap n0 Zn F_from_oB F_to_oB E_oA F_from_oA F_to_oA) hZ (hw _ (List.mem_of_getElem? (i := 24) rfl)) (hw _ (List.mem_of_getElem? (i := 9) rfl)) (by decide) (by decide)) q73a q73c (g := (mkF m 256 #[.val (.int i0), .val (.int i1), .val (.int i2), .val (.int i3), .val (.int i4), .val (.int fA), .val (.int tA), .val (.int md), .val (.ref oA), .val (.int fB), .val (.int tA), .val (.ref oB), .val (.int (1 : Int32))] [(.ref oA), (.ref oB)])) rfl (by rw [hml]; rfl) (Steps.refl _) (argsL := [(.ref oA)]) (rest := []) (lenOf own_f115 rfl) rfl (by show 2 * 0 + _ ≤ _; exact Nat.le_of_eq rfl) (hb hby at_256) (fun _ _ => ⟨rfl, e72, (by dsimp only [Pt.cells, Pt.slots]; decide), (by dsimp only [Pt.cells, Pt.slots]; decide)⟩)
              dsimp only [Pt.U, Pt.locs, Pt.cells, Pt.slots] at X73 l73 y73 z73 st73 hQ73
              subst l73 y73 z73
              obtain ⟨rfl, N73q, e73⟩ := hQ73
              have N73 := Fr.app N72 N73q
              refine Go.step (fun _ k => st73.trans k) ?_
              show Go p e below _ T73 (mkF m 259 #[.val (.int i0), .val (.int i1), .val (.int i2), .val (.int i3), .val (.int i4), .val (.int fA), .val (.int tA), .val (.int md), .val (.ref oA), .val (.int fB), .val (.int tA), .val (.ref oB), .val (.int (1 : Int32))] [(.int (own_eq fB tA fA tA))])
              refine Go.step (fun _ k => XS.iload X73.here hx rfl (hb hby at_259) rfl k) ?_
              show Go p e below _ T73 (mkF m 261 #[.val (.int i0), .val (.int i1), .val (.int i2), .val (.int i3), .val (.int i4), .val (.int fA), .val (.int tA), .val (.int md), .val (.ref oA), .val (.int fB), .val (.int tA), .val (.ref oB), .val (.int (1 : Int32))] [(.int (1 : Int32)), (.int (own_eq fB tA fA tA))])
              refine Go.step (fun _ k => XS.icmpNo X73.here hx rfl (hb hby at_261) rfl (teq (own_eqY hc223_70.symm hc230_71.symm)).2 k) ?_
              show Go p e below _ T73 (mkF m 264 #[.val (.int i0), .val (.int i1), .val (.int i2), .val (.int i3), .val (.int i4), .val (.int fA), .val (.int tA), .val (.int md), .val (.ref oA), .val (.int fB), .val (.int tA), .val (.ref oB), .val (.int (1 : Int32))] [])
              refine Go.step (fun _ k => XS.aload X73.here hx rfl (hb hby at_264) rfl rfl k) ?_
              show Go p e below _ T73 (mkF m 266 #[.val (.int i0), .val (.int i1), .val (.int i2), .val (.int i3), .val (.int i4), .val (.int fA), .val (.int tA), .val (.int md), .val (.ref oA), .val (.int fB), .val (.int tA), .val (.ref oB), .val (.int (1 : Int32))] [(.ref oA)])
              refine Go.step (fun _ k => XS.aload X73.here hx rfl (hb hby at_266) rfl rfl k) ?_
              show Go p e below _ T73 (mkF m 268 #[.val (.int i0), .val (.int i1), .val (.int i2), .val (.int i3), .val (.int i4), .val (.int fA), .val (.int tA), .val (.int md), .val (.ref oA), .val (.int fB), .val (.int tA), .val (.ref oB), .val (.int (1 : Int32))] [(.ref oA), (.ref oA)])
              obtain ⟨cq74, kq74, q74a, q74b, q74c⟩ := isOf hZ e73 E_oA
              obtain ⟨_, _, ⟨T74, L74, k74, n74⟩, -, X74, ⟨Lc74, hQ74, l74, y74, z74⟩, st74⟩ := X73.virtualBack hx (y := (⟨"com/example/vigilant_crawler/vigilantcrawler/model/WordSpan", "equals", "(Ljava/lang/Object;)Z"⟩ : MethodName)) (z := (⟨"com/example/vigilant_crawler/vigilantcrawler/model/WordSpan", "equals", "(Ljava/lang/Object;)Z"⟩ : MethodName)) hown (mvT hZ (hw _ (List.mem_of_getElem? (i := 20) rfl))) (mvT hZ (hw _ (List.mem_of_getElem? (i := 21) rfl))) (notFace_of_selects (args := #[]) (mvT hZ (hw _ (List.mem_of_getElem? (i := 23) rfl)))) (mvT hZ (hw _ (List.mem_of_getElem? (i := 23) rfl))) (mvT hZ (hw _ (List.mem_of_getElem? (i := 22) rfl))) (by decide) (backOf (W := 0) (rmE l Z a0 hw [] oA oA fA tA fA tA T69.heap n0 Zn F_from_oA F_to_oA E_oA F_from_oA F_to_oA) hZ (hw _ (List.mem_of_getElem? (i := 24) rfl)) (hw _ (List.mem_of_getElem? (i := 9) rfl)) (by decide) (by decide)) q74a q74c (g := (mkF m 268 #[.val (.int i0), .val (.int i1), .val (.int i2), .val (.int i3), .val (.int i4), .val (.int fA), .val (.int tA), .val (.int md), .val (.ref oA), .val (.int fB), .val (.int tA), .val (.ref oB), .val (.int (1 : Int32))] [(.ref oA), (.ref oA)])) rfl (by rw [hml]; rfl) (Steps.refl _) (argsL := [(.ref oA)]) (rest := []) (lenOf own_f115 rfl) rfl (by show 2 * 0 + _ ≤ _; exact Nat.le_of_eq rfl) (hb hby at_268) (fun _ _ => ⟨rfl, e73, (by dsimp only [Pt.cells, Pt.slots]; decide), (by dsimp only [Pt.cells, Pt.slots]; decide)⟩)
              dsimp only [Pt.U, Pt.locs, Pt.cells, Pt.slots] at X74 l74 y74 z74 st74 hQ74
              subst l74 y74 z74
              obtain ⟨rfl, N74q, e74⟩ := hQ74
              have N74 := Fr.app N73 N74q
              refine Go.step (fun _ k => st74.trans k) ?_
              show Go p e below _ T74 (mkF m 271 #[.val (.int i0), .val (.int i1), .val (.int i2), .val (.int i3), .val (.int i4), .val (.int fA), .val (.int tA), .val (.int md), .val (.ref oA), .val (.int fB), .val (.int tA), .val (.ref oB), .val (.int (1 : Int32))] [(.int (own_eq fA tA fA tA))])
              refine Go.step (fun _ k => XS.ifNo X74.here hx rfl (hb hby at_271) rfl ((if0 _ _).trans (feq (own_eqS _ _)).1) k) ?_
              show Go p e below _ T74 (mkF m 274 #[.val (.int i0), .val (.int i1), .val (.int i2), .val (.int i3), .val (.int i4), .val (.int fA), .val (.int tA), .val (.int md), .val (.ref oA), .val (.int fB), .val (.int tA), .val (.ref oB), .val (.int (1 : Int32))] [])
              refine Go.step (fun _ k => XS.iconst X74.here hx rfl (hb hby at_274) k) ?_
              show Go p e below _ T74 (mkF m 275 #[.val (.int i0), .val (.int i1), .val (.int i2), .val (.int i3), .val (.int i4), .val (.int fA), .val (.int tA), .val (.int md), .val (.ref oA), .val (.int fB), .val (.int tA), .val (.ref oB), .val (.int (1 : Int32))] [(.int (1 : Int32))])
              refine Go.step (fun _ k => XS.goto X74.here hx rfl (pc0 := 275) (pc' := 279) rfl (hb hby at_275) (by decide) (by decide) k) ?_
              show Go p e below _ T74 (mkF m 279 #[.val (.int i0), .val (.int i1), .val (.int i2), .val (.int i3), .val (.int i4), .val (.int fA), .val (.int tA), .val (.int md), .val (.ref oA), .val (.int fB), .val (.int tA), .val (.ref oB), .val (.int (1 : Int32))] [(.int (1 : Int32))])
              obtain ⟨fs, hr, hrun, hended, hW, hsame⟩ := X74.leave (v := some (.int (1 : Int32))) (fun h => by rw [Bd.returns] at h; cases h)
              refine Go.fin (retN X74 hx (t := .boolean) Bd.returns (by simp) (hb hby at_279) hr) hrun hended ?_
              refine ⟨_, _, rfl, ?_, ⟨_, rfl⟩, hW, hsame.mono (by decide) (by decide)⟩
              show Q0 Z i0 i1 i2 i3 i4 kc aK cK h0 n0 _ T74.heap _
              rw [e74]
              exact ⟨rfl, N74⟩
            · show Go p e below _ T69 (mkF m 230 #[.val (.int i0), .val (.int i1), .val (.int i2), .val (.int i3), .val (.int i4), .val (.int fA), .val (.int tA), .val (.int md), .val (.ref oA), .val (.int fB), .val (.int tA), .val (.ref oB), .unset] [(.int tA), (.int tA)])
              refine Go.step (fun _ k => XS.icmpYes X69.here hx rfl (pc0 := 230) (pc' := 237) rfl (hb hby at_230) rfl (feq hc230_71).2 (by decide) (by decide) k) ?_
              show Go p e below _ T69 (mkF m 237 #[.val (.int i0), .val (.int i1), .val (.int i2), .val (.int i3), .val (.int i4), .val (.int fA), .val (.int tA), .val (.int md), .val (.ref oA), .val (.int fB), .val (.int tA), .val (.ref oB), .unset] [])
              refine Go.step (fun _ k => XS.iconst X69.here hx rfl (hb hby at_237) k) ?_
              show Go p e below _ T69 (mkF m 238 #[.val (.int i0), .val (.int i1), .val (.int i2), .val (.int i3), .val (.int i4), .val (.int fA), .val (.int tA), .val (.int md), .val (.ref oA), .val (.int fB), .val (.int tA), .val (.ref oB), .unset] [(.int (0 : Int32))])
              refine Go.step (fun _ k => XS.istore X69.here hx rfl (hb hby at_238) rfl (l' := #[.val (.int i0), .val (.int i1), .val (.int i2), .val (.int i3), .val (.int i4), .val (.int fA), .val (.int tA), .val (.int md), .val (.ref oA), .val (.int fB), .val (.int tA), .val (.ref oB), .val (.int (0 : Int32))]) rfl k) ?_
              show Go p e below _ T69 (mkF m 240 #[.val (.int i0), .val (.int i1), .val (.int i2), .val (.int i3), .val (.int i4), .val (.int fA), .val (.int tA), .val (.int md), .val (.ref oA), .val (.int fB), .val (.int tA), .val (.ref oB), .val (.int (0 : Int32))] [])
              refine Go.step (fun _ k => XS.aload X69.here hx rfl (hb hby at_240) rfl rfl k) ?_
              show Go p e below _ T69 (mkF m 242 #[.val (.int i0), .val (.int i1), .val (.int i2), .val (.int i3), .val (.int i4), .val (.int fA), .val (.int tA), .val (.int md), .val (.ref oA), .val (.int fB), .val (.int tA), .val (.ref oB), .val (.int (0 : Int32))] [(.ref oA)])
              refine Go.step (fun _ k => XS.aload X69.here hx rfl (hb hby at_242) rfl rfl k) ?_
              show Go p e below _ T69 (mkF m 244 #[.val (.int i0), .val (.int i1), .val (.int i2), .val (.int i3), .val (.int i4), .val (.int fA), .val (.int tA), .val (.int md), .val (.ref oA), .val (.int fB), .val (.int tA), .val (.ref oB), .val (.int (0 : Int32))] [(.ref oB), (.ref oA)])
              obtain ⟨cq75, kq75, q75a, q75b, q75c⟩ := isOf hZ rfl E_oA
              obtain ⟨_, _, ⟨T75, L75, k75, n75⟩, -, X75, ⟨Lc75, hQ75, l75, y75, z75⟩, st75⟩ := X69.virtualBack hx (y := (⟨"com/example/vigilant_crawler/vigilantcrawler/model/WordSpan", "equals", "(Ljava/lang/Object;)Z"⟩ : MethodName)) (z := (⟨"com/example/vigilant_crawler/vigilantcrawler/model/WordSpan", "equals", "(Ljava/lang/Object;)Z"⟩ : MethodName)) hown (mvT hZ (hw _ (List.mem_of_getElem? (i := 20) rfl))) (mvT hZ (hw _ (List.mem_of_getElem? (i := 21) rfl))) (notFace_of_selects (args := #[]) (mvT hZ (hw _ (List.mem_of_getElem? (i := 23) rfl)))) (mvT hZ (hw _ (List.mem_of_getElem? (i := 23) rfl))) (mvT hZ (hw _ (List.mem_of_getElem? (i := 22) rfl))) (by decide) (backOf (W := 0) (rmE l Z a0 hw [] oA oB fA tA fB tA T69.heap n0 Zn F_from_oA F_to_oA E_oB F_from_oB F_to_oB) hZ (hw _ (List.mem_of_getElem? (i := 24) rfl)) (hw _ (List.mem_of_getElem? (i := 9) rfl)) (by decide) (by decide)) q75a q75c (g := (mkF m 244 #[.val (.int i0), .val (.int i1), .val (.int i2), .val (.int i3), .val (.int i4), .val (.int fA), .val (.int tA), .val (.int md), .val (.ref oA), .val (.int fB), .val (.int tA), .val (.ref oB), .val (.int (0 : Int32))] [(.ref oB), (.ref oA)])) rfl (by rw [hml]; rfl) (Steps.refl _) (argsL := [(.ref oB)]) (rest := []) (lenOf own_f115 rfl) rfl (by show 2 * 0 + _ ≤ _; exact Nat.le_of_eq rfl) (hb hby at_244) (fun _ _ => ⟨rfl, rfl, (by dsimp only [Pt.cells, Pt.slots]; decide), (by dsimp only [Pt.cells, Pt.slots]; decide)⟩)
              dsimp only [Pt.U, Pt.locs, Pt.cells, Pt.slots] at X75 l75 y75 z75 st75 hQ75
              subst l75 y75 z75
              obtain ⟨rfl, N75q, e75⟩ := hQ75
              have N75 := Fr.app N69 N75q
              refine Go.step (fun _ k => st75.trans k) ?_
              show Go p e below _ T75 (mkF m 247 #[.val (.int i0), .val (.int i1), .val (.int i2), .val (.int i3), .val (.int i4), .val (.int fA), .val (.int tA), .val (.int md), .val (.ref oA), .val (.int fB), .val (.int tA), .val (.ref oB), .val (.int (0 : Int32))] [(.int (own_eq fA tA fB tA))])
              refine Go.step (fun _ k => XS.iload X75.here hx rfl (hb hby at_247) rfl k) ?_
              show Go p e below _ T75 (mkF m 249 #[.val (.int i0), .val (.int i1), .val (.int i2), .val (.int i3), .val (.int i4), .val (.int fA), .val (.int tA), .val (.int md), .val (.ref oA), .val (.int fB), .val (.int tA), .val (.ref oB), .val (.int (0 : Int32))] [(.int (0 : Int32)), (.int (own_eq fA tA fB tA))])
              refine Go.step (fun _ k => XS.icmpNo X75.here hx rfl (hb hby at_249) rfl (teq (own_eqN2 hc230_71)).2 k) ?_
              show Go p e below _ T75 (mkF m 252 #[.val (.int i0), .val (.int i1), .val (.int i2), .val (.int i3), .val (.int i4), .val (.int fA), .val (.int tA), .val (.int md), .val (.ref oA), .val (.int fB), .val (.int tA), .val (.ref oB), .val (.int (0 : Int32))] [])
              refine Go.step (fun _ k => XS.aload X75.here hx rfl (hb hby at_252) rfl rfl k) ?_
              show Go p e below _ T75 (mkF m 254 #[.val (.int i0), .val (.int i1), .val (.int i2), .val (.int i3), .val (.int i4), .val (.int fA), .val (.int tA), .val (.int md), .val (.ref oA), .val (.int fB), .val (.int tA), .val (.ref oB), .val (.int (0 : Int32))] [(.ref oB)])
              refine Go.step (fun _ k => XS.aload X75.here hx rfl (hb hby at_254) rfl rfl k) ?_
              show Go p e below _ T75 (mkF m 256 #[.val (.int i0), .val (.int i1), .val (.int i2), .val (.int i3), .val (.int i4), .val (.int fA), .val (.int tA), .val (.int md), .val (.ref oA), .val (.int fB), .val (.int tA), .val (.ref oB), .val (.int (0 : Int32))] [(.ref oA), (.ref oB)])
              obtain ⟨cq76, kq76, q76a, q76b, q76c⟩ := isOf hZ e75 E_oB
              obtain ⟨_, _, ⟨T76, L76, k76, n76⟩, -, X76, ⟨Lc76, hQ76, l76, y76, z76⟩, st76⟩ := X75.virtualBack hx (y := (⟨"com/example/vigilant_crawler/vigilantcrawler/model/WordSpan", "equals", "(Ljava/lang/Object;)Z"⟩ : MethodName)) (z := (⟨"com/example/vigilant_crawler/vigilantcrawler/model/WordSpan", "equals", "(Ljava/lang/Object;)Z"⟩ : MethodName)) hown (mvT hZ (hw _ (List.mem_of_getElem? (i := 20) rfl))) (mvT hZ (hw _ (List.mem_of_getElem? (i := 21) rfl))) (notFace_of_selects (args := #[]) (mvT hZ (hw _ (List.mem_of_getElem? (i := 23) rfl)))) (mvT hZ (hw _ (List.mem_of_getElem? (i := 23) rfl))) (mvT hZ (hw _ (List.mem_of_getElem? (i := 22) rfl))) (by decide) (backOf (W := 0) (rmE l Z a0 hw [] oB oA fB tA fA tA T69.heap n0 Zn F_from_oB F_to_oB E_oA F_from_oA F_to_oA) hZ (hw _ (List.mem_of_getElem? (i := 24) rfl)) (hw _ (List.mem_of_getElem? (i := 9) rfl)) (by decide) (by decide)) q76a q76c (g := (mkF m 256 #[.val (.int i0), .val (.int i1), .val (.int i2), .val (.int i3), .val (.int i4), .val (.int fA), .val (.int tA), .val (.int md), .val (.ref oA), .val (.int fB), .val (.int tA), .val (.ref oB), .val (.int (0 : Int32))] [(.ref oA), (.ref oB)])) rfl (by rw [hml]; rfl) (Steps.refl _) (argsL := [(.ref oA)]) (rest := []) (lenOf own_f115 rfl) rfl (by show 2 * 0 + _ ≤ _; exact Nat.le_of_eq rfl) (hb hby at_256) (fun _ _ => ⟨rfl, e75, (by dsimp only [Pt.cells, Pt.slots]; decide), (by dsimp only [Pt.cells, Pt.slots]; decide)⟩)
              dsimp only [Pt.U, Pt.locs, Pt.cells, Pt.slots] at X76 l76 y76 z76 st76 hQ76
              subst l76 y76 z76
              obtain ⟨rfl, N76q, e76⟩ := hQ76
              have N76 := Fr.app N75 N76q
              refine Go.step (fun _ k => st76.trans k) ?_
              show Go p e below _ T76 (mkF m 259 #[.val (.int i0), .val (.int i1), .val (.int i2), .val (.int i3), .val (.int i4), .val (.int fA), .val (.int tA), .val (.int md), .val (.ref oA), .val (.int fB), .val (.int tA), .val (.ref oB), .val (.int (0 : Int32))] [(.int (own_eq fB tA fA tA))])
              refine Go.step (fun _ k => XS.iload X76.here hx rfl (hb hby at_259) rfl k) ?_
              show Go p e below _ T76 (mkF m 261 #[.val (.int i0), .val (.int i1), .val (.int i2), .val (.int i3), .val (.int i4), .val (.int fA), .val (.int tA), .val (.int md), .val (.ref oA), .val (.int fB), .val (.int tA), .val (.ref oB), .val (.int (0 : Int32))] [(.int (0 : Int32)), (.int (own_eq fB tA fA tA))])
              refine Go.step (fun _ k => XS.icmpNo X76.here hx rfl (hb hby at_261) rfl (teq (own_eqN2 (Ne.symm hc230_71))).2 k) ?_
              show Go p e below _ T76 (mkF m 264 #[.val (.int i0), .val (.int i1), .val (.int i2), .val (.int i3), .val (.int i4), .val (.int fA), .val (.int tA), .val (.int md), .val (.ref oA), .val (.int fB), .val (.int tA), .val (.ref oB), .val (.int (0 : Int32))] [])
              refine Go.step (fun _ k => XS.aload X76.here hx rfl (hb hby at_264) rfl rfl k) ?_
              show Go p e below _ T76 (mkF m 266 #[.val (.int i0), .val (.int i1), .val (.int i2), .val (.int i3), .val (.int i4), .val (.int fA), .val (.int tA), .val (.int md), .val (.ref oA), .val (.int fB), .val (.int tA), .val (.ref oB), .val (.int (0 : Int32))] [(.ref oA)])
              refine Go.step (fun _ k => XS.aload X76.here hx rfl (hb hby at_266) rfl rfl k) ?_
              show Go p e below _ T76 (mkF m 268 #[.val (.int i0), .val (.int i1), .val (.int i2), .val (.int i3), .val (.int i4), .val (.int fA), .val (.int tA), .val (.int md), .val (.ref oA), .val (.int fB), .val (.int tA), .val (.ref oB), .val (.int (0 : Int32))] [(.ref oA), (.ref oA)])
              obtain ⟨cq77, kq77, q77a, q77b, q77c⟩ := isOf hZ e76 E_oA
              obtain ⟨_, _, ⟨T77, L77, k77, n77⟩, -, X77, ⟨Lc77, hQ77, l77, y77, z77⟩, st77⟩ := X76.virtualBack hx (y := (⟨"com/example/vigilant_crawler/vigilantcrawler/model/WordSpan", "equals", "(Ljava/lang/Object;)Z"⟩ : MethodName)) (z := (⟨"com/example/vigilant_crawler/vigilantcrawler/model/WordSpan", "equals", "(Ljava/lang/Object;)Z"⟩ : MethodName)) hown (mvT hZ (hw _ (List.mem_of_getElem? (i := 20) rfl))) (mvT hZ (hw _ (List.mem_of_getElem? (i := 21) rfl))) (notFace_of_selects (args := #[]) (mvT hZ (hw _ (List.mem_of_getElem? (i := 23) rfl)))) (mvT hZ (hw _ (List.mem_of_getElem? (i := 23) rfl))) (mvT hZ (hw _ (List.mem_of_getElem? (i := 22) rfl))) (by decide) (backOf (W := 0) (rmE l Z a0 hw [] oA oA fA tA fA tA T69.heap n0 Zn F_from_oA F_to_oA E_oA F_from_oA F_to_oA) hZ (hw _ (List.mem_of_getElem? (i := 24) rfl)) (hw _ (List.mem_of_getElem? (i := 9) rfl)) (by decide) (by decide)) q77a q77c (g := (mkF m 268 #[.val (.int i0), .val (.int i1), .val (.int i2), .val (.int i3), .val (.int i4), .val (.int fA), .val (.int tA), .val (.int md), .val (.ref oA), .val (.int fB), .val (.int tA), .val (.ref oB), .val (.int (0 : Int32))] [(.ref oA), (.ref oA)])) rfl (by rw [hml]; rfl) (Steps.refl _) (argsL := [(.ref oA)]) (rest := []) (lenOf own_f115 rfl) rfl (by show 2 * 0 + _ ≤ _; exact Nat.le_of_eq rfl) (hb hby at_268) (fun _ _ => ⟨rfl, e76, (by dsimp only [Pt.cells, Pt.slots]; decide), (by dsimp only [Pt.cells, Pt.slots]; decide)⟩)
              dsimp only [Pt.U, Pt.locs, Pt.cells, Pt.slots] at X77 l77 y77 z77 st77 hQ77
              subst l77 y77 z77
              obtain ⟨rfl, N77q, e77⟩ := hQ77
              have N77 := Fr.app N76 N77q
              refine Go.step (fun _ k => st77.trans k) ?_
              show Go p e below _ T77 (mkF m 271 #[.val (.int i0), .val (.int i1), .val (.int i2), .val (.int i3), .val (.int i4), .val (.int fA), .val (.int tA), .val (.int md), .val (.ref oA), .val (.int fB), .val (.int tA), .val (.ref oB), .val (.int (0 : Int32))] [(.int (own_eq fA tA fA tA))])
              refine Go.step (fun _ k => XS.ifNo X77.here hx rfl (hb hby at_271) rfl ((if0 _ _).trans (feq (own_eqS _ _)).1) k) ?_
              show Go p e below _ T77 (mkF m 274 #[.val (.int i0), .val (.int i1), .val (.int i2), .val (.int i3), .val (.int i4), .val (.int fA), .val (.int tA), .val (.int md), .val (.ref oA), .val (.int fB), .val (.int tA), .val (.ref oB), .val (.int (0 : Int32))] [])
              refine Go.step (fun _ k => XS.iconst X77.here hx rfl (hb hby at_274) k) ?_
              show Go p e below _ T77 (mkF m 275 #[.val (.int i0), .val (.int i1), .val (.int i2), .val (.int i3), .val (.int i4), .val (.int fA), .val (.int tA), .val (.int md), .val (.ref oA), .val (.int fB), .val (.int tA), .val (.ref oB), .val (.int (0 : Int32))] [(.int (1 : Int32))])
              refine Go.step (fun _ k => XS.goto X77.here hx rfl (pc0 := 275) (pc' := 279) rfl (hb hby at_275) (by decide) (by decide) k) ?_
              show Go p e below _ T77 (mkF m 279 #[.val (.int i0), .val (.int i1), .val (.int i2), .val (.int i3), .val (.int i4), .val (.int fA), .val (.int tA), .val (.int md), .val (.ref oA), .val (.int fB), .val (.int tA), .val (.ref oB), .val (.int (0 : Int32))] [(.int (1 : Int32))])
              obtain ⟨fs, hr, hrun, hended, hW, hsame⟩ := X77.leave (v := some (.int (1 : Int32))) (fun h => by rw [Bd.returns] at h; cases h)
              refine Go.fin (retN X77 hx (t := .boolean) Bd.returns (by simp) (hb hby at_279) hr) hrun hended ?_
              refine ⟨_, _, rfl, ?_, ⟨_, rfl⟩, hW, hsame.mono (by decide) (by decide)⟩
              show Q0 Z i0 i1 i2 i3 i4 kc aK cK h0 n0 _ T77.heap _
              rw [e77]
              exact ⟨rfl, N77⟩
          · show Go p e below _ T69 (mkF m 223 #[.val (.int i0), .val (.int i1), .val (.int i2), .val (.int i3), .val (.int i4), .val (.int fA), .val (.int tA), .val (.int md), .val (.ref oA), .val (.int fB), .val (.int tA), .val (.ref oB), .unset] [(.int fB), (.int fA)])
            refine Go.step (fun _ k => XS.icmpYes X69.here hx rfl (pc0 := 223) (pc' := 237) rfl (hb hby at_223) rfl (feq hc223_70).2 (by decide) (by decide) k) ?_
            show Go p e below _ T69 (mkF m 237 #[.val (.int i0), .val (.int i1), .val (.int i2), .val (.int i3), .val (.int i4), .val (.int fA), .val (.int tA), .val (.int md), .val (.ref oA), .val (.int fB), .val (.int tA), .val (.ref oB), .unset] [])
            refine Go.step (fun _ k => XS.iconst X69.here hx rfl (hb hby at_237) k) ?_
            show Go p e below _ T69 (mkF m 238 #[.val (.int i0), .val (.int i1), .val (.int i2), .val (.int i3), .val (.int i4), .val (.int fA), .val (.int tA), .val (.int md), .val (.ref oA), .val (.int fB), .val (.int tA), .val (.ref oB), .unset] [(.int (0 : Int32))])
            refine Go.step (fun _ k => XS.istore X69.here hx rfl (hb hby at_238) rfl (l' := #[.val (.int i0), .val (.int i1), .val (.int i2), .val (.int i3), .val (.int i4), .val (.int fA), .val (.int tA), .val (.int md), .val (.ref oA), .val (.int fB), .val (.int tA), .val (.ref oB), .val (.int (0 : Int32))]) rfl k) ?_
            show Go p e below _ T69 (mkF m 240 #[.val (.int i0), .val (.int i1), .val (.int i2), .val (.int i3), .val (.int i4), .val (.int fA), .val (.int tA), .val (.int md), .val (.ref oA), .val (.int fB), .val (.int tA), .val (.ref oB), .val (.int (0 : Int32))] [])
            refine Go.step (fun _ k => XS.aload X69.here hx rfl (hb hby at_240) rfl rfl k) ?_
            show Go p e below _ T69 (mkF m 242 #[.val (.int i0), .val (.int i1), .val (.int i2), .val (.int i3), .val (.int i4), .val (.int fA), .val (.int tA), .val (.int md), .val (.ref oA), .val (.int fB), .val (.int tA), .val (.ref oB), .val (.int (0 : Int32))] [(.ref oA)])
            refine Go.step (fun _ k => XS.aload X69.here hx rfl (hb hby at_242) rfl rfl k) ?_
            show Go p e below _ T69 (mkF m 244 #[.val (.int i0), .val (.int i1), .val (.int i2), .val (.int i3), .val (.int i4), .val (.int fA), .val (.int tA), .val (.int md), .val (.ref oA), .val (.int fB), .val (.int tA), .val (.ref oB), .val (.int (0 : Int32))] [(.ref oB), (.ref oA)])
            obtain ⟨cq78, kq78, q78a, q78b, q78c⟩ := isOf hZ rfl E_oA
            obtain ⟨_, _, ⟨T78, L78, k78, n78⟩, -, X78, ⟨Lc78, hQ78, l78, y78, z78⟩, st78⟩ := X69.virtualBack hx (y := (⟨"com/example/vigilant_crawler/vigilantcrawler/model/WordSpan", "equals", "(Ljava/lang/Object;)Z"⟩ : MethodName)) (z := (⟨"com/example/vigilant_crawler/vigilantcrawler/model/WordSpan", "equals", "(Ljava/lang/Object;)Z"⟩ : MethodName)) hown (mvT hZ (hw _ (List.mem_of_getElem? (i := 20) rfl))) (mvT hZ (hw _ (List.mem_of_getElem? (i := 21) rfl))) (notFace_of_selects (args := #[]) (mvT hZ (hw _ (List.mem_of_getElem? (i := 23) rfl)))) (mvT hZ (hw _ (List.mem_of_getElem? (i := 23) rfl))) (mvT hZ (hw _ (List.mem_of_getElem? (i := 22) rfl))) (by decide) (backOf (W := 0) (rmE l Z a0 hw [] oA oB fA tA fB tA T69.heap n0 Zn F_from_oA F_to_oA E_oB F_from_oB F_to_oB) hZ (hw _ (List.mem_of_getElem? (i := 24) rfl)) (hw _ (List.mem_of_getElem? (i := 9) rfl)) (by decide) (by decide)) q78a q78c (g := (mkF m 244 #[.val (.int i0), .val (.int i1), .val (.int i2), .val (.int i3), .val (.int i4), .val (.int fA), .val (.int tA), .val (.int md), .val (.ref oA), .val (.int fB), .val (.int tA), .val (.ref oB), .val (.int (0 : Int32))] [(.ref oB), (.ref oA)])) rfl (by rw [hml]; rfl) (Steps.refl _) (argsL := [(.ref oB)]) (rest := []) (lenOf own_f115 rfl) rfl (by show 2 * 0 + _ ≤ _; exact Nat.le_of_eq rfl) (hb hby at_244) (fun _ _ => ⟨rfl, rfl, (by dsimp only [Pt.cells, Pt.slots]; decide), (by dsimp only [Pt.cells, Pt.slots]; decide)⟩)
            dsimp only [Pt.U, Pt.locs, Pt.cells, Pt.slots] at X78 l78 y78 z78 st78 hQ78
            subst l78 y78 z78
            obtain ⟨rfl, N78q, e78⟩ := hQ78
            have N78 := Fr.app N69 N78q
            refine Go.step (fun _ k => st78.trans k) ?_
            show Go p e below _ T78 (mkF m 247 #[.val (.int i0), .val (.int i1), .val (.int i2), .val (.int i3), .val (.int i4), .val (.int fA), .val (.int tA), .val (.int md), .val (.ref oA), .val (.int fB), .val (.int tA), .val (.ref oB), .val (.int (0 : Int32))] [(.int (own_eq fA tA fB tA))])
            refine Go.step (fun _ k => XS.iload X78.here hx rfl (hb hby at_247) rfl k) ?_
            show Go p e below _ T78 (mkF m 249 #[.val (.int i0), .val (.int i1), .val (.int i2), .val (.int i3), .val (.int i4), .val (.int fA), .val (.int tA), .val (.int md), .val (.ref oA), .val (.int fB), .val (.int tA), .val (.ref oB), .val (.int (0 : Int32))] [(.int (0 : Int32)), (.int (own_eq fA tA fB tA))])
            refine Go.step (fun _ k => XS.icmpNo X78.here hx rfl (hb hby at_249) rfl (teq (own_eqN1 hc223_70)).2 k) ?_
            show Go p e below _ T78 (mkF m 252 #[.val (.int i0), .val (.int i1), .val (.int i2), .val (.int i3), .val (.int i4), .val (.int fA), .val (.int tA), .val (.int md), .val (.ref oA), .val (.int fB), .val (.int tA), .val (.ref oB), .val (.int (0 : Int32))] [])
            refine Go.step (fun _ k => XS.aload X78.here hx rfl (hb hby at_252) rfl rfl k) ?_
            show Go p e below _ T78 (mkF m 254 #[.val (.int i0), .val (.int i1), .val (.int i2), .val (.int i3), .val (.int i4), .val (.int fA), .val (.int tA), .val (.int md), .val (.ref oA), .val (.int fB), .val (.int tA), .val (.ref oB), .val (.int (0 : Int32))] [(.ref oB)])
            refine Go.step (fun _ k => XS.aload X78.here hx rfl (hb hby at_254) rfl rfl k) ?_
            show Go p e below _ T78 (mkF m 256 #[.val (.int i0), .val (.int i1), .val (.int i2), .val (.int i3), .val (.int i4), .val (.int fA), .val (.int tA), .val (.int md), .val (.ref oA), .val (.int fB), .val (.int tA), .val (.ref oB), .val (.int (0 : Int32))] [(.ref oA), (.ref oB)])
            obtain ⟨cq79, kq79, q79a, q79b, q79c⟩ := isOf hZ e78 E_oB
            obtain ⟨_, _, ⟨T79, L79, k79, n79⟩, -, X79, ⟨Lc79, hQ79, l79, y79, z79⟩, st79⟩ := X78.virtualBack hx (y := (⟨"com/example/vigilant_crawler/vigilantcrawler/model/WordSpan", "equals", "(Ljava/lang/Object;)Z"⟩ : MethodName)) (z := (⟨"com/example/vigilant_crawler/vigilantcrawler/model/WordSpan", "equals", "(Ljava/lang/Object;)Z"⟩ : MethodName)) hown (mvT hZ (hw _ (List.mem_of_getElem? (i := 20) rfl))) (mvT hZ (hw _ (List.mem_of_getElem? (i := 21) rfl))) (notFace_of_selects (args := #[]) (mvT hZ (hw _ (List.mem_of_getElem? (i := 23) rfl)))) (mvT hZ (hw _ (List.mem_of_getElem? (i := 23) rfl))) (mvT hZ (hw _ (List.mem_of_getElem? (i := 22) rfl))) (by decide) (backOf (W := 0) (rmE l Z a0 hw [] oB oA fB tA fA tA T69.heap n0 Zn F_from_oB F_to_oB E_oA F_from_oA F_to_oA) hZ (hw _ (List.mem_of_getElem? (i := 24) rfl)) (hw _ (List.mem_of_getElem? (i := 9) rfl)) (by decide) (by decide)) q79a q79c (g := (mkF m 256 #[.val (.int i0), .val (.int i1), .val (.int i2), .val (.int i3), .val (.int i4), .val (.int fA), .val (.int tA), .val (.int md), .val (.ref oA), .val (.int fB), .val (.int tA), .val (.ref oB), .val (.int (0 : Int32))] [(.ref oA), (.ref oB)])) rfl (by rw [hml]; rfl) (Steps.refl _) (argsL := [(.ref oA)]) (rest := []) (lenOf own_f115 rfl) rfl (by show 2 * 0 + _ ≤ _; exact Nat.le_of_eq rfl) (hb hby at_256) (fun _ _ => ⟨rfl, e78, (by dsimp only [Pt.cells, Pt.slots]; decide), (by dsimp only [Pt.cells, Pt.slots]; decide)⟩)
            dsimp only [Pt.U, Pt.locs, Pt.cells, Pt.slots] at X79 l79 y79 z79 st79 hQ79
            subst l79 y79 z79
            obtain ⟨rfl, N79q, e79⟩ := hQ79
            have N79 := Fr.app N78 N79q
            refine Go.step (fun _ k => st79.trans k) ?_
            show Go p e below _ T79 (mkF m 259 #[.val (.int i0), .val (.int i1), .val (.int i2), .val (.int i3), .val (.int i4), .val (.int fA), .val (.int tA), .val (.int md), .val (.ref oA), .val (.int fB), .val (.int tA), .val (.ref oB), .val (.int (0 : Int32))] [(.int (own_eq fB tA fA tA))])
            refine Go.step (fun _ k => XS.iload X79.here hx rfl (hb hby at_259) rfl k) ?_
            show Go p e below _ T79 (mkF m 261 #[.val (.int i0), .val (.int i1), .val (.int i2), .val (.int i3), .val (.int i4), .val (.int fA), .val (.int tA), .val (.int md), .val (.ref oA), .val (.int fB), .val (.int tA), .val (.ref oB), .val (.int (0 : Int32))] [(.int (0 : Int32)), (.int (own_eq fB tA fA tA))])
            refine Go.step (fun _ k => XS.icmpNo X79.here hx rfl (hb hby at_261) rfl (teq (own_eqN1 (Ne.symm hc223_70))).2 k) ?_
            show Go p e below _ T79 (mkF m 264 #[.val (.int i0), .val (.int i1), .val (.int i2), .val (.int i3), .val (.int i4), .val (.int fA), .val (.int tA), .val (.int md), .val (.ref oA), .val (.int fB), .val (.int tA), .val (.ref oB), .val (.int (0 : Int32))] [])
            refine Go.step (fun _ k => XS.aload X79.here hx rfl (hb hby at_264) rfl rfl k) ?_
            show Go p e below _ T79 (mkF m 266 #[.val (.int i0), .val (.int i1), .val (.int i2), .val (.int i3), .val (.int i4), .val (.int fA), .val (.int tA), .val (.int md), .val (.ref oA), .val (.int fB), .val (.int tA), .val (.ref oB), .val (.int (0 : Int32))] [(.ref oA)])
            refine Go.step (fun _ k => XS.aload X79.here hx rfl (hb hby at_266) rfl rfl k) ?_
            show Go p e below _ T79 (mkF m 268 #[.val (.int i0), .val (.int i1), .val (.int i2), .val (.int i3), .val (.int i4), .val (.int fA), .val (.int tA), .val (.int md), .val (.ref oA), .val (.int fB), .val (.int tA), .val (.ref oB), .val (.int (0 : Int32))] [(.ref oA), (.ref oA)])
            obtain ⟨cq80, kq80, q80a, q80b, q80c⟩ := isOf hZ e79 E_oA
            obtain ⟨_, _, ⟨T80, L80, k80, n80⟩, -, X80, ⟨Lc80, hQ80, l80, y80, z80⟩, st80⟩ := X79.virtualBack hx (y := (⟨"com/example/vigilant_crawler/vigilantcrawler/model/WordSpan", "equals", "(Ljava/lang/Object;)Z"⟩ : MethodName)) (z := (⟨"com/example/vigilant_crawler/vigilantcrawler/model/WordSpan", "equals", "(Ljava/lang/Object;)Z"⟩ : MethodName)) hown (mvT hZ (hw _ (List.mem_of_getElem? (i := 20) rfl))) (mvT hZ (hw _ (List.mem_of_getElem? (i := 21) rfl))) (notFace_of_selects (args := #[]) (mvT hZ (hw _ (List.mem_of_getElem? (i := 23) rfl)))) (mvT hZ (hw _ (List.mem_of_getElem? (i := 23) rfl))) (mvT hZ (hw _ (List.mem_of_getElem? (i := 22) rfl))) (by decide) (backOf (W := 0) (rmE l Z a0 hw [] oA oA fA tA fA tA T69.heap n0 Zn F_from_oA F_to_oA E_oA F_from_oA F_to_oA) hZ (hw _ (List.mem_of_getElem? (i := 24) rfl)) (hw _ (List.mem_of_getElem? (i := 9) rfl)) (by decide) (by decide)) q80a q80c (g := (mkF m 268 #[.val (.int i0), .val (.int i1), .val (.int i2), .val (.int i3), .val (.int i4), .val (.int fA), .val (.int tA), .val (.int md), .val (.ref oA), .val (.int fB), .val (.int tA), .val (.ref oB), .val (.int (0 : Int32))] [(.ref oA), (.ref oA)])) rfl (by rw [hml]; rfl) (Steps.refl _) (argsL := [(.ref oA)]) (rest := []) (lenOf own_f115 rfl) rfl (by show 2 * 0 + _ ≤ _; exact Nat.le_of_eq rfl) (hb hby at_268) (fun _ _ => ⟨rfl, e79, (by dsimp only [Pt.cells, Pt.slots]; decide), (by dsimp only [Pt.cells, Pt.slots]; decide)⟩)
            dsimp only [Pt.U, Pt.locs, Pt.cells, Pt.slots] at X80 l80 y80 z80 st80 hQ80
            subst l80 y80 z80
            obtain ⟨rfl, N80q, e80⟩ := hQ80
            have N80 := Fr.app N79 N80q
            refine Go.step (fun _ k => st80.trans k) ?_
            show Go p e below _ T80 (mkF m 271 #[.val (.int i0), .val (.int i1), .val (.int i2), .val (.int i3), .val (.int i4), .val (.int fA), .val (.int tA), .val (.int md), .val (.ref oA), .val (.int fB), .val (.int tA), .val (.ref oB), .val (.int (0 : Int32))] [(.int (own_eq fA tA fA tA))])
            refine Go.step (fun _ k => XS.ifNo X80.here hx rfl (hb hby at_271) rfl ((if0 _ _).trans (feq (own_eqS _ _)).1) k) ?_
            show Go p e below _ T80 (mkF m 274 #[.val (.int i0), .val (.int i1), .val (.int i2), .val (.int i3), .val (.int i4), .val (.int fA), .val (.int tA), .val (.int md), .val (.ref oA), .val (.int fB), .val (.int tA), .val (.ref oB), .val (.int (0 : Int32))] [])
            refine Go.step (fun _ k => XS.iconst X80.here hx rfl (hb hby at_274) k) ?_
            show Go p e below _ T80 (mkF m 275 #[.val (.int i0), .val (.int i1), .val (.int i2), .val (.int i3), .val (.int i4), .val (.int fA), .val (.int tA), .val (.int md), .val (.ref oA), .val (.int fB), .val (.int tA), .val (.ref oB), .val (.int (0 : Int32))] [(.int (1 : Int32))])
            refine Go.step (fun _ k => XS.goto X80.here hx rfl (pc0 := 275) (pc' := 279) rfl (hb hby at_275) (by decide) (by decide) k) ?_
            show Go p e below _ T80 (mkF m 279 #[.val (.int i0), .val (.int i1), .val (.int i2), .val (.int i3), .val (.int i4), .val (.int fA), .val (.int tA), .val (.int md), .val (.ref oA), .val (.int fB), .val (.int tA), .val (.ref oB), .val (.int (0 : Int32))] [(.int (1 : Int32))])
            obtain ⟨fs, hr, hrun, hended, hW, hsame⟩ := X80.leave (v := some (.int (1 : Int32))) (fun h => by rw [Bd.returns] at h; cases h)
            refine Go.fin (retN X80 hx (t := .boolean) Bd.returns (by simp) (hb hby at_279) hr) hrun hended ?_
            refine ⟨_, _, rfl, ?_, ⟨_, rfl⟩, hW, hsame.mono (by decide) (by decide)⟩
            show Q0 Z i0 i1 i2 i3 i4 kc aK cK h0 n0 _ T80.heap _
            rw [e80]
            exact ⟨rfl, N80⟩
        · show Go p e below _ T35 (mkF m 163 #[.val (.int i0), .val (.int i1), .val (.int i2), .val (.int i3), .val (.int i4), .val (.int fA), .val (.int tA), .val (.int md), .val (.ref oA), .unset, .unset, .unset, .unset] [(.int (3 : Int32)), (.int md)])
          refine Go.step (fun _ k => XS.icmpYes X35.here hx rfl (pc0 := 163) (pc' := 184) rfl (hb hby at_163) rfl (feq hc163_66).2 (by decide) (by decide) k) ?_
          show Go p e below _ T35 (mkF m 184 #[.val (.int i0), .val (.int i1), .val (.int i2), .val (.int i3), .val (.int i4), .val (.int fA), .val (.int tA), .val (.int md), .val (.ref oA), .unset, .unset, .unset, .unset] [])
          refine Go.step (fun _ k => XS.iloadN X35.here hx rfl (hb hby at_184) rfl k) ?_
          show Go p e below _ T35 (mkF m 185 #[.val (.int i0), .val (.int i1), .val (.int i2), .val (.int i3), .val (.int i4), .val (.int fA), .val (.int tA), .val (.int md), .val (.ref oA), .unset, .unset, .unset, .unset] [(.int i2)])
          refine Go.step (X35.ldcInt hx hown (mvT hZ (hw _ (List.mem_of_getElem? (i := 0) rfl))) (g := (mkF m 185 #[.val (.int i0), .val (.int i1), .val (.int i2), .val (.int i3), .val (.int i4), .val (.int fA), .val (.int tA), .val (.int md), .val (.ref oA), .unset, .unset, .unset, .unset] [(.int i2)])) rfl (hb hby at_185)) ?_
          show Go p e below _ T35 (mkF m 187 #[.val (.int i0), .val (.int i1), .val (.int i2), .val (.int i3), .val (.int i4), .val (.int fA), .val (.int tA), .val (.int md), .val (.ref oA), .unset, .unset, .unset, .unset] [(.int (2147483647 : Int32)), (.int i2)])
          refine Go.step (fun _ k => XS.iand X35.here hx rfl (hb hby at_187) rfl k) ?_
          show Go p e below _ T35 (mkF m 188 #[.val (.int i0), .val (.int i1), .val (.int i2), .val (.int i3), .val (.int i4), .val (.int fA), .val (.int tA), .val (.int md), .val (.ref oA), .unset, .unset, .unset, .unset] [(.int (i2 &&& (2147483647 : Int32)))])
          obtain ⟨fB, e_fB⟩ : ∃ zq : Int32, zq = (i2 &&& (2147483647 : Int32)) := ⟨_, rfl⟩
          rw [← e_fB]
          show Go p e below _ T35 (mkF m 188 #[.val (.int i0), .val (.int i1), .val (.int i2), .val (.int i3), .val (.int i4), .val (.int fA), .val (.int tA), .val (.int md), .val (.ref oA), .unset, .unset, .unset, .unset] [(.int fB)])
          have hfB : 0 ≤ fB.toInt := by rw [e_fB]; exact (own_msk i2).1
          refine Go.step (fun _ k => XS.istore X35.here hx rfl (hb hby at_188) rfl (l' := #[.val (.int i0), .val (.int i1), .val (.int i2), .val (.int i3), .val (.int i4), .val (.int fA), .val (.int tA), .val (.int md), .val (.ref oA), .val (.int fB), .unset, .unset, .unset]) rfl k) ?_
          show Go p e below _ T35 (mkF m 190 #[.val (.int i0), .val (.int i1), .val (.int i2), .val (.int i3), .val (.int i4), .val (.int fA), .val (.int tA), .val (.int md), .val (.ref oA), .val (.int fB), .unset, .unset, .unset] [])
          refine Go.step (fun _ k => XS.iload X35.here hx rfl (hb hby at_190) rfl k) ?_
          show Go p e below _ T35 (mkF m 192 #[.val (.int i0), .val (.int i1), .val (.int i2), .val (.int i3), .val (.int i4), .val (.int fA), .val (.int tA), .val (.int md), .val (.ref oA), .val (.int fB), .unset, .unset, .unset] [(.int fB)])
          refine Go.step (fun _ k => XS.iloadN X35.here hx rfl (hb hby at_192) rfl k) ?_
          show Go p e below _ T35 (mkF m 193 #[.val (.int i0), .val (.int i1), .val (.int i2), .val (.int i3), .val (.int i4), .val (.int fA), .val (.int tA), .val (.int md), .val (.ref oA), .val (.int fB), .unset, .unset, .unset] [(.int i3), (.int fB)])
          refine Go.step (X35.ldc2Long hx hown (mvT hZ (hw _ (List.mem_of_getElem? (i := 1) rfl))) (g := (mkF m 193 #[.val (.int i0), .val (.int i1), .val (.int i2), .val (.int i3), .val (.int i4), .val (.int fA), .val (.int tA), .val (.int md), .val (.ref oA), .val (.int fB), .unset, .unset, .unset] [(.int i3), (.int fB)])) rfl (hb hby at_193)) ?_
          show Go p e below _ T35 (mkF m 196 #[.val (.int i0), .val (.int i1), .val (.int i2), .val (.int i3), .val (.int i4), .val (.int fA), .val (.int tA), .val (.int md), .val (.ref oA), .val (.int fB), .unset, .unset, .unset] [(.long (2147483648 : Int64)), (.int i3), (.int fB)])
          refine Go.step (fun _ k => XS.iload X35.here hx rfl (hb hby at_196) rfl k) ?_
          show Go p e below _ T35 (mkF m 198 #[.val (.int i0), .val (.int i1), .val (.int i2), .val (.int i3), .val (.int i4), .val (.int fA), .val (.int tA), .val (.int md), .val (.ref oA), .val (.int fB), .unset, .unset, .unset] [(.int fB), (.long (2147483648 : Int64)), (.int i3), (.int fB)])
          refine Go.step (fun _ k => XS.i2l X35.here hx rfl (hb hby at_198) rfl k) ?_
          show Go p e below _ T35 (mkF m 199 #[.val (.int i0), .val (.int i1), .val (.int i2), .val (.int i3), .val (.int i4), .val (.int fA), .val (.int tA), .val (.int md), .val (.ref oA), .val (.int fB), .unset, .unset, .unset] [(.long (fB.toInt64)), (.long (2147483648 : Int64)), (.int i3), (.int fB)])
          refine Go.step (fun _ k => XS.lsub X35.here hx rfl (hb hby at_199) rfl k) ?_
          show Go p e below _ T35 (mkF m 200 #[.val (.int i0), .val (.int i1), .val (.int i2), .val (.int i3), .val (.int i4), .val (.int fA), .val (.int tA), .val (.int md), .val (.ref oA), .val (.int fB), .unset, .unset, .unset] [(.long ((2147483648 : Int64) - (fB.toInt64))), (.int i3), (.int fB)])
          obtain ⟨_, _, ⟨T81, L81, k81, n81⟩, -, X81, ⟨Lc81, hQ81, l81, y81, z81⟩, st81⟩ := Jvm.LawKit.callS X35 hx (y := (⟨"com/example/vigilant_crawler/vigilantcrawler/model/WordSpanEqualsPinLaw", "below", "(IJ)I"⟩ : MethodName)) hown (mvT hZ (hw _ (List.mem_of_getElem? (i := 2) rfl))) (mvT hZ (hw _ (List.mem_of_getElem? (i := 3) rfl))) (mvT hZ (hw _ (List.mem_of_getElem? (i := 4) rfl))) (mvT hZ (hw _ (List.mem_of_getElem? (i := 5) rfl))) (by decide) (backOf (W := 1) (rmL l Z a0 hw [] i3 ((2147483648 : Int64) - (fB.toInt64)) T35.heap n0 Zn (own_jn (by rw [own_j1 hfB]; have := fB.toInt_lt; omega))) hZ (hw _ (List.mem_of_getElem? (i := 5) rfl)) (hw _ (List.mem_of_getElem? (i := 4) rfl)) (by decide) (by decide)) (g := (mkF m 200 #[.val (.int i0), .val (.int i1), .val (.int i2), .val (.int i3), .val (.int i4), .val (.int fA), .val (.int tA), .val (.int md), .val (.ref oA), .val (.int fB), .unset, .unset, .unset] [(.long ((2147483648 : Int64) - (fB.toInt64))), (.int i3), (.int fB)])) rfl (by rw [hml]; rfl) (argsL := [(.int i3), (.long ((2147483648 : Int64) - (fB.toInt64)))]) (rest := [(.int fB)]) (lenOf own_f113 rfl) rfl (by show 2 * 0 + _ ≤ _; exact Nat.le_of_eq rfl) (hb hby at_200) (fun _ _ => ⟨rfl, rfl, (by dsimp only [Pt.cells, Pt.slots]; decide), (by dsimp only [Pt.cells, Pt.slots]; decide)⟩)
          dsimp only [Pt.U, Pt.locs, Pt.cells, Pt.slots] at X81 l81 y81 z81 st81 hQ81
          subst l81 y81 z81
          obtain ⟨rfl, N81q, e81⟩ := hQ81
          have N81 := Fr.app N35 N81q
          refine Go.step (st81) ?_
          show Go p e below _ T81 (mkF m 203 #[.val (.int i0), .val (.int i1), .val (.int i2), .val (.int i3), .val (.int i4), .val (.int fA), .val (.int tA), .val (.int md), .val (.ref oA), .val (.int fB), .unset, .unset, .unset] [(.int (own_below i3 ((2147483648 : Int64) - (fB.toInt64)))), (.int fB)])
          obtain ⟨bB, e_bB⟩ : ∃ zq : Int32, zq = (own_below i3 ((2147483648 : Int64) - (fB.toInt64))) := ⟨_, rfl⟩
          rw [← e_bB]
          show Go p e below _ T81 (mkF m 203 #[.val (.int i0), .val (.int i1), .val (.int i2), .val (.int i3), .val (.int i4), .val (.int fA), .val (.int tA), .val (.int md), .val (.ref oA), .val (.int fB), .unset, .unset, .unset] [(.int bB), (.int fB)])
          refine Go.step (fun _ k => XS.iadd X81.here hx rfl (hb hby at_203) rfl k) ?_
          show Go p e below _ T81 (mkF m 204 #[.val (.int i0), .val (.int i1), .val (.int i2), .val (.int i3), .val (.int i4), .val (.int fA), .val (.int tA), .val (.int md), .val (.ref oA), .val (.int fB), .unset, .unset, .unset] [(.int (fB + bB))])
          obtain ⟨tB, e_tB⟩ : ∃ zq : Int32, zq = (fB + bB) := ⟨_, rfl⟩
          rw [← e_tB]
          show Go p e below _ T81 (mkF m 204 #[.val (.int i0), .val (.int i1), .val (.int i2), .val (.int i3), .val (.int i4), .val (.int fA), .val (.int tA), .val (.int md), .val (.ref oA), .val (.int fB), .unset, .unset, .unset] [(.int tB)])
          obtain ⟨okB, -⟩ := own_ft hfB e_bB e_tB
          refine Go.step (fun _ k => XS.istore X81.here hx rfl (hb hby at_204) rfl (l' := #[.val (.int i0), .val (.int i1), .val (.int i2), .val (.int i3), .val (.int i4), .val (.int fA), .val (.int tA), .val (.int md), .val (.ref oA), .val (.int fB), .val (.int tB), .unset, .unset]) rfl k) ?_
          show Go p e below _ T81 (mkF m 206 #[.val (.int i0), .val (.int i1), .val (.int i2), .val (.int i3), .val (.int i4), .val (.int fA), .val (.int tA), .val (.int md), .val (.ref oA), .val (.int fB), .val (.int tB), .unset, .unset] [])
          obtain ⟨T82, h82, X82, e82, E82, A82, D82, U82, st82⟩ := newO X81 hx hZ hown (hw _ (List.mem_of_getElem? (i := 7) rfl)) (hw _ (List.mem_of_getElem? (i := 8) rfl)) (hw _ (List.mem_of_getElem? (i := 9) rfl)) e81 (g := (mkF m 206 #[.val (.int i0), .val (.int i1), .val (.int i2), .val (.int i3), .val (.int i4), .val (.int fA), .val (.int tA), .val (.int md), .val (.ref oA), .val (.int fB), .val (.int tB), .unset, .unset] [])) rfl (hb hby at_206) (by decide) (by decide)
          obtain ⟨oB, g82⟩ : ∃ z, z = T35.heap.size := ⟨_, rfl⟩
          rw [← g82] at A82 D82 U82 st82
          have ne_oA_oB : oA ≠ oB := Nat.ne_of_lt (Nat.lt_of_lt_of_le E_oA.lt (Nat.le_of_eq g82.symm))
          have g_oB : n0 ≤ oB := Nat.le_trans Zn (Nat.le_of_eq g82.symm)
          have sz_oB : h0.size ≤ oB := Nat.le_trans K0.1 (Nat.le_of_eq g82.symm)
          replace Od := Od.ext E82
          replace E_oA := E_oA.ext E82
          replace F_from_oA := F_from_oA.ext E82
          replace F_to_oA := F_to_oA.ext E82
          replace Zn := Nat.le_trans Zn E82.1
          replace K0 := K0.ext E82
          have E_oB := A82
          have F_from_oB : Fld Z h82 oB "com/example/vigilant_crawler/vigilantcrawler/model/WordSpan" "from" "I" (.int (0 : Int32)) := D82 (Or.inr (hw _ (List.mem_of_getElem? (i := 17) rfl))) (ty := .int) (by decide)
          have F_to_oB : Fld Z h82 oB "com/example/vigilant_crawler/vigilantcrawler/model/WordSpan" "to" "I" (.int (0 : Int32)) := D82 (Or.inr (hw _ (List.mem_of_getElem? (i := 19) rfl))) (ty := .int) (by decide)
          refine Go.step st82 ?_
          show Go p e below _ T82 (mkF m 209 #[.val (.int i0), .val (.int i1), .val (.int i2), .val (.int i3), .val (.int i4), .val (.int fA), .val (.int tA), .val (.int md), .val (.ref oA), .val (.int fB), .val (.int tB), .unset, .unset] [(.ref oB)])
          refine Go.step (fun _ k => XS.dup X82.here hx rfl (hb hby at_209) rfl rfl k) ?_
          show Go p e below _ T82 (mkF m 210 #[.val (.int i0), .val (.int i1), .val (.int i2), .val (.int i3), .val (.int i4), .val (.int fA), .val (.int tA), .val (.int md), .val (.ref oA), .val (.int fB), .val (.int tB), .unset, .unset] [(.ref oB), (.ref oB)])
          refine Go.step (fun _ k => XS.iload X82.here hx rfl (hb hby at_210) rfl k) ?_
          show Go p e below _ T82 (mkF m 212 #[.val (.int i0), .val (.int i1), .val (.int i2), .val (.int i3), .val (.int i4), .val (.int fA), .val (.int tA), .val (.int md), .val (.ref oA), .val (.int fB), .val (.int tB), .unset, .unset] [(.int fB), (.ref oB), (.ref oB)])
          refine Go.step (fun _ k => XS.iload X82.here hx rfl (hb hby at_212) rfl k) ?_
          show Go p e below _ T82 (mkF m 214 #[.val (.int i0), .val (.int i1), .val (.int i2), .val (.int i3), .val (.int i4), .val (.int fA), .val (.int tA), .val (.int md), .val (.ref oA), .val (.int fB), .val (.int tB), .unset, .unset] [(.int tB), (.int fB), (.ref oB), (.ref oB)])
          obtain ⟨_, _, ⟨T83, L83, k83, n83⟩, -, X83, ⟨Lc83, hQ83, l83, y83, z83⟩, st83⟩ := X82.specialBack hx (y := (⟨"com/example/vigilant_crawler/vigilantcrawler/model/WordSpan", "<init>", "(II)V"⟩ : MethodName)) rfl hown (mvT hZ (hw _ (List.mem_of_getElem? (i := 10) rfl))) (mvT hZ (hw _ (List.mem_of_getElem? (i := 11) rfl))) (mvT hZ (hw _ (List.mem_of_getElem? (i := 12) rfl))) (by decide) (backOf (W := 1) (rmI l Z a0 hw [] oB fB tB h82 n0 Zn E_oB F_from_oB F_to_oB g_oB okB.1 okB.2) hZ (hw _ (List.mem_of_getElem? (i := 12) rfl)) (hw _ (List.mem_of_getElem? (i := 9) rfl)) (by decide) (by decide)) (g := (mkF m 214 #[.val (.int i0), .val (.int i1), .val (.int i2), .val (.int i3), .val (.int i4), .val (.int fA), .val (.int tA), .val (.int md), .val (.ref oA), .val (.int fB), .val (.int tB), .unset, .unset] [(.int tB), (.int fB), (.ref oB), (.ref oB)])) rfl (by rw [hml]; rfl) (Steps.refl _) (a := oB) (argsL := [(.int fB), (.int tB)]) (rest := [(.ref oB)]) (lenOf own_f114 rfl) rfl (by show 2 * 0 + _ ≤ _; exact Nat.le_of_eq rfl) (hb hby at_214) (fun _ _ => ⟨rfl, e82, (by dsimp only [Pt.cells, Pt.slots]; decide), (by dsimp only [Pt.cells, Pt.slots]; decide)⟩)
          dsimp only [Pt.U, Pt.locs, Pt.cells, Pt.slots] at X83 l83 y83 z83 st83 hQ83
          subst l83 y83 z83
          obtain ⟨rfl, N83q, K83, F_from_oB, F_to_oB⟩ := hQ83
          have N83 := Fr.app N81 N83q
          refine Go.step (fun _ k => st83.trans k) ?_
          replace Od := Od.keep K83 (allS g_oB all0)
          replace E_oA := E_oA.keep K83
          replace F_from_oA := F_from_oA.keep K83 (ninS ne_oA_oB nin0)
          replace F_to_oA := F_to_oA.keep K83 (ninS ne_oA_oB nin0)
          replace E_oB := E_oB.keep K83
          replace K0 := K0.trans K83 (allS (Or.inr sz_oB) (all0))
          replace Zn := Nat.le_trans Zn K83.1
          show Go p e below _ T83 (mkF m 217 #[.val (.int i0), .val (.int i1), .val (.int i2), .val (.int i3), .val (.int i4), .val (.int fA), .val (.int tA), .val (.int md), .val (.ref oA), .val (.int fB), .val (.int tB), .unset, .unset] [(.ref oB)])
          refine Go.step (fun _ k => XS.astore X83.here hx rfl (hb hby at_217) rfl rfl (l' := #[.val (.int i0), .val (.int i1), .val (.int i2), .val (.int i3), .val (.int i4), .val (.int fA), .val (.int tA), .val (.int md), .val (.ref oA), .val (.int fB), .val (.int tB), .val (.ref oB), .unset]) rfl k) ?_
          show Go p e below _ T83 (mkF m 219 #[.val (.int i0), .val (.int i1), .val (.int i2), .val (.int i3), .val (.int i4), .val (.int fA), .val (.int tA), .val (.int md), .val (.ref oA), .val (.int fB), .val (.int tB), .val (.ref oB), .unset] [])
          refine Go.step (fun _ k => XS.iload X83.here hx rfl (hb hby at_219) rfl k) ?_
          show Go p e below _ T83 (mkF m 221 #[.val (.int i0), .val (.int i1), .val (.int i2), .val (.int i3), .val (.int i4), .val (.int fA), .val (.int tA), .val (.int md), .val (.ref oA), .val (.int fB), .val (.int tB), .val (.ref oB), .unset] [(.int fA)])
          refine Go.step (fun _ k => XS.iload X83.here hx rfl (hb hby at_221) rfl k) ?_
          show Go p e below _ T83 (mkF m 223 #[.val (.int i0), .val (.int i1), .val (.int i2), .val (.int i3), .val (.int i4), .val (.int fA), .val (.int tA), .val (.int md), .val (.ref oA), .val (.int fB), .val (.int tB), .val (.ref oB), .unset] [(.int fB), (.int fA)])
          by_cases hc223_84 : fA = fB
          · show Go p e below _ T83 (mkF m 223 #[.val (.int i0), .val (.int i1), .val (.int i2), .val (.int i3), .val (.int i4), .val (.int fA), .val (.int tA), .val (.int md), .val (.ref oA), .val (.int fB), .val (.int tB), .val (.ref oB), .unset] [(.int fB), (.int fA)])
            refine Go.step (fun _ k => XS.icmpNo X83.here hx rfl (hb hby at_223) rfl (teq hc223_84).2 k) ?_
            show Go p e below _ T83 (mkF m 226 #[.val (.int i0), .val (.int i1), .val (.int i2), .val (.int i3), .val (.int i4), .val (.int fA), .val (.int tA), .val (.int md), .val (.ref oA), .val (.int fB), .val (.int tB), .val (.ref oB), .unset] [])
            refine Go.step (fun _ k => XS.iload X83.here hx rfl (hb hby at_226) rfl k) ?_
            show Go p e below _ T83 (mkF m 228 #[.val (.int i0), .val (.int i1), .val (.int i2), .val (.int i3), .val (.int i4), .val (.int fA), .val (.int tA), .val (.int md), .val (.ref oA), .val (.int fB), .val (.int tB), .val (.ref oB), .unset] [(.int tA)])
            refine Go.step (fun _ k => XS.iload X83.here hx rfl (hb hby at_228) rfl k) ?_
            show Go p e below _ T83 (mkF m 230 #[.val (.int i0), .val (.int i1), .val (.int i2), .val (.int i3), .val (.int i4), .val (.int fA), .val (.int tA), .val (.int md), .val (.ref oA), .val (.int fB), .val (.int tB), .val (.ref oB), .unset] [(.int tB), (.int tA)])
            by_cases hc230_85 : tA = tB
            · show Go p e below _ T83 (mkF m 230 #[.val (.int i0), .val (.int i1), .val (.int i2), .val (.int i3), .val (.int i4), .val (.int fA), .val (.int tA), .val (.int md), .val (.ref oA), .val (.int fB), .val (.int tB), .val (.ref oB), .unset] [(.int tB), (.int tA)])
              refine Go.step (fun _ k => XS.icmpNo X83.here hx rfl (hb hby at_230) rfl (teq hc230_85).2 k) ?_
              show Go p e below _ T83 (mkF m 233 #[.val (.int i0), .val (.int i1), .val (.int i2), .val (.int i3), .val (.int i4), .val (.int fA), .val (.int tA), .val (.int md), .val (.ref oA), .val (.int fB), .val (.int tB), .val (.ref oB), .unset] [])
              refine Go.step (fun _ k => XS.iconst X83.here hx rfl (hb hby at_233) k) ?_
              show Go p e below _ T83 (mkF m 234 #[.val (.int i0), .val (.int i1), .val (.int i2), .val (.int i3), .val (.int i4), .val (.int fA), .val (.int tA), .val (.int md), .val (.ref oA), .val (.int fB), .val (.int tB), .val (.ref oB), .unset] [(.int (1 : Int32))])
              refine Go.step (fun _ k => XS.goto X83.here hx rfl (pc0 := 234) (pc' := 238) rfl (hb hby at_234) (by decide) (by decide) k) ?_
              show Go p e below _ T83 (mkF m 238 #[.val (.int i0), .val (.int i1), .val (.int i2), .val (.int i3), .val (.int i4), .val (.int fA), .val (.int tA), .val (.int md), .val (.ref oA), .val (.int fB), .val (.int tB), .val (.ref oB), .unset] [(.int (1 : Int32))])
              refine Go.step (fun _ k => XS.istore X83.here hx rfl (hb hby at_238) rfl (l' := #[.val (.int i0), .val (.int i1), .val (.int i2), .val (.int i3), .val (.int i4), .val (.int fA), .val (.int tA), .val (.int md), .val (.ref oA), .val (.int fB), .val (.int tB), .val (.ref oB), .val (.int (1 : Int32))]) rfl k) ?_
              show Go p e below _ T83 (mkF m 240 #[.val (.int i0), .val (.int i1), .val (.int i2), .val (.int i3), .val (.int i4), .val (.int fA), .val (.int tA), .val (.int md), .val (.ref oA), .val (.int fB), .val (.int tB), .val (.ref oB), .val (.int (1 : Int32))] [])
              refine Go.step (fun _ k => XS.aload X83.here hx rfl (hb hby at_240) rfl rfl k) ?_
              show Go p e below _ T83 (mkF m 242 #[.val (.int i0), .val (.int i1), .val (.int i2), .val (.int i3), .val (.int i4), .val (.int fA), .val (.int tA), .val (.int md), .val (.ref oA), .val (.int fB), .val (.int tB), .val (.ref oB), .val (.int (1 : Int32))] [(.ref oA)])
              refine Go.step (fun _ k => XS.aload X83.here hx rfl (hb hby at_242) rfl rfl k) ?_
              show Go p e below _ T83 (mkF m 244 #[.val (.int i0), .val (.int i1), .val (.int i2), .val (.int i3), .val (.int i4), .val (.int fA), .val (.int tA), .val (.int md), .val (.ref oA), .val (.int fB), .val (.int tB), .val (.ref oB), .val (.int (1 : Int32))] [(.ref oB), (.ref oA)])
              obtain ⟨cq86, kq86, q86a, q86b, q86c⟩ := isOf hZ rfl E_oA
              obtain ⟨_, _, ⟨T86, L86, k86, n86⟩, -, X86, ⟨Lc86, hQ86, l86, y86, z86⟩, st86⟩ := X83.virtualBack hx (y := (⟨"com/example/vigilant_crawler/vigilantcrawler/model/WordSpan", "equals", "(Ljava/lang/Object;)Z"⟩ : MethodName)) (z := (⟨"com/example/vigilant_crawler/vigilantcrawler/model/WordSpan", "equals", "(Ljava/lang/Object;)Z"⟩ : MethodName)) hown (mvT hZ (hw _ (List.mem_of_getElem? (i := 20) rfl))) (mvT hZ (hw _ (List.mem_of_getElem? (i := 21) rfl))) (notFace_of_selects (args := #[]) (mvT hZ (hw _ (List.mem_of_getElem? (i := 23) rfl)))) (mvT hZ (hw _ (List.mem_of_getElem? (i := 23) rfl))) (mvT hZ (hw _ (List.mem_of_getElem? (i := 22) rfl))) (by decide) (backOf (W := 0) (rmE l Z a0 hw [] oA oB fA tA fB tB T83.heap n0 Zn F_from_oA F_to_oA E_oB F_from_oB F_to_oB) hZ (hw _ (List.mem_of_getElem? (i := 24) rfl)) (hw _ (List.mem_of_getElem? (i := 9) rfl)) (by decide) (by decide)) q86a q86c (g := (mkF m 244 #[.val (.int i0), .val (.int i1), .val (.int i2), .val (.int i3), .val (.int i4), .val (.int fA), .val (.int tA), .val (.int md), .val (.ref oA), .val (.int fB), .val (.int tB), .val (.ref oB), .val (.int (1 : Int32))] [(.ref oB), (.ref oA)])) rfl (by rw [hml]; rfl) (Steps.refl _) (argsL := [(.ref oB)]) (rest := []) (lenOf own_f115 rfl) rfl (by show 2 * 0 + _ ≤ _; exact Nat.le_of_eq rfl) (hb hby at_244) (fun _ _ => ⟨rfl, rfl, (by dsimp only [Pt.cells, Pt.slots]; decide), (by dsimp only [Pt.cells, Pt.slots]; decide)⟩)
              dsimp only [Pt.U, Pt.locs, Pt.cells, Pt.slots] at X86 l86 y86 z86 st86 hQ86
              subst l86 y86 z86
              obtain ⟨rfl, N86q, e86⟩ := hQ86
              have N86 := Fr.app N83 N86q
              refine Go.step (fun _ k => st86.trans k) ?_
              show Go p e below _ T86 (mkF m 247 #[.val (.int i0), .val (.int i1), .val (.int i2), .val (.int i3), .val (.int i4), .val (.int fA), .val (.int tA), .val (.int md), .val (.ref oA), .val (.int fB), .val (.int tB), .val (.ref oB), .val (.int (1 : Int32))] [(.int (own_eq fA tA fB tB))])
              refine Go.step (fun _ k => XS.iload X86.here hx rfl (hb hby at_247) rfl k) ?_
              show Go p e below _ T86 (mkF m 249 #[.val (.int i0), .val (.int i1), .val (.int i2), .val (.int i3), .val (.int i4), .val (.int fA), .val (.int tA), .val (.int md), .val (.ref oA), .val (.int fB), .val (.int tB), .val (.ref oB), .val (.int (1 : Int32))] [(.int (1 : Int32)), (.int (own_eq fA tA fB tB))])
              refine Go.step (fun _ k => XS.icmpNo X86.here hx rfl (hb hby at_249) rfl (teq (own_eqY hc223_84 hc230_85)).2 k) ?_
              show Go p e below _ T86 (mkF m 252 #[.val (.int i0), .val (.int i1), .val (.int i2), .val (.int i3), .val (.int i4), .val (.int fA), .val (.int tA), .val (.int md), .val (.ref oA), .val (.int fB), .val (.int tB), .val (.ref oB), .val (.int (1 : Int32))] [])
              refine Go.step (fun _ k => XS.aload X86.here hx rfl (hb hby at_252) rfl rfl k) ?_
              show Go p e below _ T86 (mkF m 254 #[.val (.int i0), .val (.int i1), .val (.int i2), .val (.int i3), .val (.int i4), .val (.int fA), .val (.int tA), .val (.int md), .val (.ref oA), .val (.int fB), .val (.int tB), .val (.ref oB), .val (.int (1 : Int32))] [(.ref oB)])
              refine Go.step (fun _ k => XS.aload X86.here hx rfl (hb hby at_254) rfl rfl k) ?_
              show Go p e below _ T86 (mkF m 256 #[.val (.int i0), .val (.int i1), .val (.int i2), .val (.int i3), .val (.int i4), .val (.int fA), .val (.int tA), .val (.int md), .val (.ref oA), .val (.int fB), .val (.int tB), .val (.ref oB), .val (.int (1 : Int32))] [(.ref oA), (.ref oB)])
              obtain ⟨cq87, kq87, q87a, q87b, q87c⟩ := isOf hZ e86 E_oB
              obtain ⟨_, _, ⟨T87, L87, k87, n87⟩, -, X87, ⟨Lc87, hQ87, l87, y87, z87⟩, st87⟩ := X86.virtualBack hx (y := (⟨"com/example/vigilant_crawler/vigilantcrawler/model/WordSpan", "equals", "(Ljava/lang/Object;)Z"⟩ : MethodName)) (z := (⟨"com/example/vigilant_crawler/vigilantcrawler/model/WordSpan", "equals", "(Ljava/lang/Object;)Z"⟩ : MethodName)) hown (mvT hZ (hw _ (List.mem_of_getElem? (i := 20) rfl))) (mvT hZ (hw _ (List.mem_of_getElem? (i := 21) rfl))) (notFace_of_selects (args := #[]) (mvT hZ (hw _ (List.mem_of_getElem? (i := 23) rfl)))) (mvT hZ (hw _ (List.mem_of_getElem? (i := 23) rfl))) (mvT hZ (hw _ (List.mem_of_getElem? (i := 22) rfl))) (by decide) (backOf (W := 0) (rmE l Z a0 hw [] oB oA fB tB fA tA T83.heap n0 Zn F_from_oB F_to_oB E_oA F_from_oA F_to_oA) hZ (hw _ (List.mem_of_getElem? (i := 24) rfl)) (hw _ (List.mem_of_getElem? (i := 9) rfl)) (by decide) (by decide)) q87a q87c (g := (mkF m 256 #[.val (.int i0), .val (.int i1), .val (.int i2), .val (.int i3), .val (.int i4), .val (.int fA), .val (.int tA), .val (.int md), .val (.ref oA), .val (.int fB), .val (.int tB), .val (.ref oB), .val (.int (1 : Int32))] [(.ref oA), (.ref oB)])) rfl (by rw [hml]; rfl) (Steps.refl _) (argsL := [(.ref oA)]) (rest := []) (lenOf own_f115 rfl) rfl (by show 2 * 0 + _ ≤ _; exact Nat.le_of_eq rfl) (hb hby at_256) (fun _ _ => ⟨rfl, e86, (by dsimp only [Pt.cells, Pt.slots]; decide), (by dsimp only [Pt.cells, Pt.slots]; decide)⟩)
              dsimp only [Pt.U, Pt.locs, Pt.cells, Pt.slots] at X87 l87 y87 z87 st87 hQ87
              subst l87 y87 z87
              obtain ⟨rfl, N87q, e87⟩ := hQ87
              have N87 := Fr.app N86 N87q
              refine Go.step (fun _ k => st87.trans k) ?_
              show Go p e below _ T87 (mkF m 259 #[.val (.int i0), .val (.int i1), .val (.int i2), .val (.int i3), .val (.int i4), .val (.int fA), .val (.int tA), .val (.int md), .val (.ref oA), .val (.int fB), .val (.int tB), .val (.ref oB), .val (.int (1 : Int32))] [(.int (own_eq fB tB fA tA))])
              refine Go.step (fun _ k => XS.iload X87.here hx rfl (hb hby at_259) rfl k) ?_
              show Go p e below _ T87 (mkF m 261 #[.val (.int i0), .val (.int i1), .val (.int i2), .val (.int i3), .val (.int i4), .val (.int fA), .val (.int tA), .val (.int md), .val (.ref oA), .val (.int fB), .val (.int tB), .val (.ref oB), .val (.int (1 : Int32))] [(.int (1 : Int32)), (.int (own_eq fB tB fA tA))])
              refine Go.step (fun _ k => XS.icmpNo X87.here hx rfl (hb hby at_261) rfl (teq (own_eqY hc223_84.symm hc230_85.symm)).2 k) ?_
              show Go p e below _ T87 (mkF m 264 #[.val (.int i0), .val (.int i1), .val (.int i2), .val (.int i3), .val (.int i4), .val (.int fA), .val (.int tA), .val (.int md), .val (.ref oA), .val (.int fB), .val (.int tB), .val (.ref oB), .val (.int (1 : Int32))] [])
              refine Go.step (fun _ k => XS.aload X87.here hx rfl (hb hby at_264) rfl rfl k) ?_
              show Go p e below _ T87 (mkF m 266 #[.val (.int i0), .val (.int i1), .val (.int i2), .val (.int i3), .val (.int i4), .val (.int fA), .val (.int tA), .val (.int md), .val (.ref oA), .val (.int fB), .val (.int tB), .val (.ref oB), .val (.int (1 : Int32))] [(.ref oA)])
              refine Go.step (fun _ k => XS.aload X87.here hx rfl (hb hby at_266) rfl rfl k) ?_
              show Go p e below _ T87 (mkF m 268 #[.val (.int i0), .val (.int i1), .val (.int i2), .val (.int i3), .val (.int i4), .val (.int fA), .val (.int tA), .val (.int md), .val (.ref oA), .val (.int fB), .val (.int tB), .val (.ref oB), .val (.int (1 : Int32))] [(.ref oA), (.ref oA)])
              obtain ⟨cq88, kq88, q88a, q88b, q88c⟩ := isOf hZ e87 E_oA
              obtain ⟨_, _, ⟨T88, L88, k88, n88⟩, -, X88, ⟨Lc88, hQ88, l88, y88, z88⟩, st88⟩ := X87.virtualBack hx (y := (⟨"com/example/vigilant_crawler/vigilantcrawler/model/WordSpan", "equals", "(Ljava/lang/Object;)Z"⟩ : MethodName)) (z := (⟨"com/example/vigilant_crawler/vigilantcrawler/model/WordSpan", "equals", "(Ljava/lang/Object;)Z"⟩ : MethodName)) hown (mvT hZ (hw _ (List.mem_of_getElem? (i := 20) rfl))) (mvT hZ (hw _ (List.mem_of_getElem? (i := 21) rfl))) (notFace_of_selects (args := #[]) (mvT hZ (hw _ (List.mem_of_getElem? (i := 23) rfl)))) (mvT hZ (hw _ (List.mem_of_getElem? (i := 23) rfl))) (mvT hZ (hw _ (List.mem_of_getElem? (i := 22) rfl))) (by decide) (backOf (W := 0) (rmE l Z a0 hw [] oA oA fA tA fA tA T83.heap n0 Zn F_from_oA F_to_oA E_oA F_from_oA F_to_oA) hZ (hw _ (List.mem_of_getElem? (i := 24) rfl)) (hw _ (List.mem_of_getElem? (i := 9) rfl)) (by decide) (by decide)) q88a q88c (g := (mkF m 268 #[.val (.int i0), .val (.int i1), .val (.int i2), .val (.int i3), .val (.int i4), .val (.int fA), .val (.int tA), .val (.int md), .val (.ref oA), .val (.int fB), .val (.int tB), .val (.ref oB), .val (.int (1 : Int32))] [(.ref oA), (.ref oA)])) rfl (by rw [hml]; rfl) (Steps.refl _) (argsL := [(.ref oA)]) (rest := []) (lenOf own_f115 rfl) rfl (by show 2 * 0 + _ ≤ _; exact Nat.le_of_eq rfl) (hb hby at_268) (fun _ _ => ⟨rfl, e87, (by dsimp only [Pt.cells, Pt.slots]; decide), (by dsimp only [Pt.cells, Pt.slots]; decide)⟩)
              dsimp only [Pt.U, Pt.locs, Pt.cells, Pt.slots] at X88 l88 y88 z88 st88 hQ88
              subst l88 y88 z88
              obtain ⟨rfl, N88q, e88⟩ := hQ88
              have N88 := Fr.app N87 N88q
              refine Go.step (fun _ k => st88.trans k) ?_
              show Go p e below _ T88 (mkF m 271 #[.val (.int i0), .val (.int i1), .val (.int i2), .val (.int i3), .val (.int i4), .val (.int fA), .val (.int tA), .val (.int md), .val (.ref oA), .val (.int fB), .val (.int tB), .val (.ref oB), .val (.int (1 : Int32))] [(.int (own_eq fA tA fA tA))])
              refine Go.step (fun _ k => XS.ifNo X88.here hx rfl (hb hby at_271) rfl ((if0 _ _).trans (feq (own_eqS _ _)).1) k) ?_
              show Go p e below _ T88 (mkF m 274 #[.val (.int i0), .val (.int i1), .val (.int i2), .val (.int i3), .val (.int i4), .val (.int fA), .val (.int tA), .val (.int md), .val (.ref oA), .val (.int fB), .val (.int tB), .val (.ref oB), .val (.int (1 : Int32))] [])
              refine Go.step (fun _ k => XS.iconst X88.here hx rfl (hb hby at_274) k) ?_
              show Go p e below _ T88 (mkF m 275 #[.val (.int i0), .val (.int i1), .val (.int i2), .val (.int i3), .val (.int i4), .val (.int fA), .val (.int tA), .val (.int md), .val (.ref oA), .val (.int fB), .val (.int tB), .val (.ref oB), .val (.int (1 : Int32))] [(.int (1 : Int32))])
              refine Go.step (fun _ k => XS.goto X88.here hx rfl (pc0 := 275) (pc' := 279) rfl (hb hby at_275) (by decide) (by decide) k) ?_
              show Go p e below _ T88 (mkF m 279 #[.val (.int i0), .val (.int i1), .val (.int i2), .val (.int i3), .val (.int i4), .val (.int fA), .val (.int tA), .val (.int md), .val (.ref oA), .val (.int fB), .val (.int tB), .val (.ref oB), .val (.int (1 : Int32))] [(.int (1 : Int32))])
              obtain ⟨fs, hr, hrun, hended, hW, hsame⟩ := X88.leave (v := some (.int (1 : Int32))) (fun h => by rw [Bd.returns] at h; cases h)
              refine Go.fin (retN X88 hx (t := .boolean) Bd.returns (by simp) (hb hby at_279) hr) hrun hended ?_
              refine ⟨_, _, rfl, ?_, ⟨_, rfl⟩, hW, hsame.mono (by decide) (by decide)⟩
              show Q0 Z i0 i1 i2 i3 i4 kc aK cK h0 n0 _ T88.heap _
              rw [e88]
              exact ⟨rfl, N88⟩
            · show Go p e below _ T83 (mkF m 230 #[.val (.int i0), .val (.int i1), .val (.int i2), .val (.int i3), .val (.int i4), .val (.int fA), .val (.int tA), .val (.int md), .val (.ref oA), .val (.int fB), .val (.int tB), .val (.ref oB), .unset] [(.int tB), (.int tA)])
              refine Go.step (fun _ k => XS.icmpYes X83.here hx rfl (pc0 := 230) (pc' := 237) rfl (hb hby at_230) rfl (feq hc230_85).2 (by decide) (by decide) k) ?_
              show Go p e below _ T83 (mkF m 237 #[.val (.int i0), .val (.int i1), .val (.int i2), .val (.int i3), .val (.int i4), .val (.int fA), .val (.int tA), .val (.int md), .val (.ref oA), .val (.int fB), .val (.int tB), .val (.ref oB), .unset] [])
              refine Go.step (fun _ k => XS.iconst X83.here hx rfl (hb hby at_237) k) ?_
              show Go p e below _ T83 (mkF m 238 #[.val (.int i0), .val (.int i1), .val (.int i2), .val (.int i3), .val (.int i4), .val (.int fA), .val (.int tA), .val (.int md), .val (.ref oA), .val (.int fB), .val (.int tB), .val (.ref oB), .unset] [(.int (0 : Int32))])
              refine Go.step (fun _ k => XS.istore X83.here hx rfl (hb hby at_238) rfl (l' := #[.val (.int i0), .val (.int i1), .val (.int i2), .val (.int i3), .val (.int i4), .val (.int fA), .val (.int tA), .val (.int md), .val (.ref oA), .val (.int fB), .val (.int tB), .val (.ref oB), .val (.int (0 : Int32))]) rfl k) ?_
              show Go p e below _ T83 (mkF m 240 #[.val (.int i0), .val (.int i1), .val (.int i2), .val (.int i3), .val (.int i4), .val (.int fA), .val (.int tA), .val (.int md), .val (.ref oA), .val (.int fB), .val (.int tB), .val (.ref oB), .val (.int (0 : Int32))] [])
              refine Go.step (fun _ k => XS.aload X83.here hx rfl (hb hby at_240) rfl rfl k) ?_
              show Go p e below _ T83 (mkF m 242 #[.val (.int i0), .val (.int i1), .val (.int i2), .val (.int i3), .val (.int i4), .val (.int fA), .val (.int tA), .val (.int md), .val (.ref oA), .val (.int fB), .val (.int tB), .val (.ref oB), .val (.int (0 : Int32))] [(.ref oA)])
              refine Go.step (fun _ k => XS.aload X83.here hx rfl (hb hby at_242) rfl rfl k) ?_
              show Go p e below _ T83 (mkF m 244 #[.val (.int i0), .val (.int i1), .val (.int i2), .val (.int i3), .val (.int i4), .val (.int fA), .val (.int tA), .val (.int md), .val (.ref oA), .val (.int fB), .val (.int tB), .val (.ref oB), .val (.int (0 : Int32))] [(.ref oB), (.ref oA)])
              obtain ⟨cq89, kq89, q89a, q89b, q89c⟩ := isOf hZ rfl E_oA
              obtain ⟨_, _, ⟨T89, L89, k89, n89⟩, -, X89, ⟨Lc89, hQ89, l89, y89, z89⟩, st89⟩ := X83.virtualBack hx (y := (⟨"com/example/vigilant_crawler/vigilantcrawler/model/WordSpan", "equals", "(Ljava/lang/Object;)Z"⟩ : MethodName)) (z := (⟨"com/example/vigilant_crawler/vigilantcrawler/model/WordSpan", "equals", "(Ljava/lang/Object;)Z"⟩ : MethodName)) hown (mvT hZ (hw _ (List.mem_of_getElem? (i := 20) rfl))) (mvT hZ (hw _ (List.mem_of_getElem? (i := 21) rfl))) (notFace_of_selects (args := #[]) (mvT hZ (hw _ (List.mem_of_getElem? (i := 23) rfl)))) (mvT hZ (hw _ (List.mem_of_getElem? (i := 23) rfl))) (mvT hZ (hw _ (List.mem_of_getElem? (i := 22) rfl))) (by decide) (backOf (W := 0) (rmE l Z a0 hw [] oA oB fA tA fB tB T83.heap n0 Zn F_from_oA F_to_oA E_oB F_from_oB F_to_oB) hZ (hw _ (List.mem_of_getElem? (i := 24) rfl)) (hw _ (List.mem_of_getElem? (i := 9) rfl)) (by decide) (by decide)) q89a q89c (g := (mkF m 244 #[.val (.int i0), .val (.int i1), .val (.int i2), .val (.int i3), .val (.int i4), .val (.int fA), .val (.int tA), .val (.int md), .val (.ref oA), .val (.int fB), .val (.int tB), .val (.ref oB), .val (.int (0 : Int32))] [(.ref oB), (.ref oA)])) rfl (by rw [hml]; rfl) (Steps.refl _) (argsL := [(.ref oB)]) (rest := []) (lenOf own_f115 rfl) rfl (by show 2 * 0 + _ ≤ _; exact Nat.le_of_eq rfl) (hb hby at_244) (fun _ _ => ⟨rfl, rfl, (by dsimp only [Pt.cells, Pt.slots]; decide), (by dsimp only [Pt.cells, Pt.slots]; decide)⟩)
              dsimp only [Pt.U, Pt.locs, Pt.cells, Pt.slots] at X89 l89 y89 z89 st89 hQ89
              subst l89 y89 z89
              obtain ⟨rfl, N89q, e89⟩ := hQ89
              have N89 := Fr.app N83 N89q
              refine Go.step (fun _ k => st89.trans k) ?_
              show Go p e below _ T89 (mkF m 247 #[.val (.int i0), .val (.int i1), .val (.int i2), .val (.int i3), .val (.int i4), .val (.int fA), .val (.int tA), .val (.int md), .val (.ref oA), .val (.int fB), .val (.int tB), .val (.ref oB), .val (.int (0 : Int32))] [(.int (own_eq fA tA fB tB))])
              refine Go.step (fun _ k => XS.iload X89.here hx rfl (hb hby at_247) rfl k) ?_
              show Go p e below _ T89 (mkF m 249 #[.val (.int i0), .val (.int i1), .val (.int i2), .val (.int i3), .val (.int i4), .val (.int fA), .val (.int tA), .val (.int md), .val (.ref oA), .val (.int fB), .val (.int tB), .val (.ref oB), .val (.int (0 : Int32))] [(.int (0 : Int32)), (.int (own_eq fA tA fB tB))])
              refine Go.step (fun _ k => XS.icmpNo X89.here hx rfl (hb hby at_249) rfl (teq (own_eqN2 hc230_85)).2 k) ?_
              show Go p e below _ T89 (mkF m 252 #[.val (.int i0), .val (.int i1), .val (.int i2), .val (.int i3), .val (.int i4), .val (.int fA), .val (.int tA), .val (.int md), .val (.ref oA), .val (.int fB), .val (.int tB), .val (.ref oB), .val (.int (0 : Int32))] [])
              refine Go.step (fun _ k => XS.aload X89.here hx rfl (hb hby at_252) rfl rfl k) ?_
              show Go p e below _ T89 (mkF m 254 #[.val (.int i0), .val (.int i1), .val (.int i2), .val (.int i3), .val (.int i4), .val (.int fA), .val (.int tA), .val (.int md), .val (.ref oA), .val (.int fB), .val (.int tB), .val (.ref oB), .val (.int (0 : Int32))] [(.ref oB)])
              refine Go.step (fun _ k => XS.aload X89.here hx rfl (hb hby at_254) rfl rfl k) ?_
              show Go p e below _ T89 (mkF m 256 #[.val (.int i0), .val (.int i1), .val (.int i2), .val (.int i3), .val (.int i4), .val (.int fA), .val (.int tA), .val (.int md), .val (.ref oA), .val (.int fB), .val (.int tB), .val (.ref oB), .val (.int (0 : Int32))] [(.ref oA), (.ref oB)])
              obtain ⟨cq90, kq90, q90a, q90b, q90c⟩ := isOf hZ e89 E_oB
              obtain ⟨_, _, ⟨T90, L90, k90, n90⟩, -, X90, ⟨Lc90, hQ90, l90, y90, z90⟩, st90⟩ := X89.virtualBack hx (y := (⟨"com/example/vigilant_crawler/vigilantcrawler/model/WordSpan", "equals", "(Ljava/lang/Object;)Z"⟩ : MethodName)) (z := (⟨"com/example/vigilant_crawler/vigilantcrawler/model/WordSpan", "equals", "(Ljava/lang/Object;)Z"⟩ : MethodName)) hown (mvT hZ (hw _ (List.mem_of_getElem? (i := 20) rfl))) (mvT hZ (hw _ (List.mem_of_getElem? (i := 21) rfl))) (notFace_of_selects (args := #[]) (mvT hZ (hw _ (List.mem_of_getElem? (i := 23) rfl)))) (mvT hZ (hw _ (List.mem_of_getElem? (i := 23) rfl))) (mvT hZ (hw _ (List.mem_of_getElem? (i := 22) rfl))) (by decide) (backOf (W := 0) (rmE l Z a0 hw [] oB oA fB tB fA tA T83.heap n0 Zn F_from_oB F_to_oB E_oA F_from_oA F_to_oA) hZ (hw _ (List.mem_of_getElem? (i := 24) rfl)) (hw _ (List.mem_of_getElem? (i := 9) rfl)) (by decide) (by decide)) q90a q90c (g := (mkF m 256 #[.val (.int i0), .val (.int i1), .val (.int i2), .val (.int i3), .val (.int i4), .val (.int fA), .val (.int tA), .val (.int md), .val (.ref oA), .val (.int fB), .val (.int tB), .val (.ref oB), .val (.int (0 : Int32))] [(.ref oA), (.ref oB)])) rfl (by rw [hml]; rfl) (Steps.refl _) (argsL := [(.ref oA)]) (rest := []) (lenOf own_f115 rfl) rfl (by show 2 * 0 + _ ≤ _; exact Nat.le_of_eq rfl) (hb hby at_256) (fun _ _ => ⟨rfl, e89, (by dsimp only [Pt.cells, Pt.slots]; decide), (by dsimp only [Pt.cells, Pt.slots]; decide)⟩)
              dsimp only [Pt.U, Pt.locs, Pt.cells, Pt.slots] at X90 l90 y90 z90 st90 hQ90
              subst l90 y90 z90
              obtain ⟨rfl, N90q, e90⟩ := hQ90
              have N90 := Fr.app N89 N90q
              refine Go.step (fun _ k => st90.trans k) ?_
              show Go p e below _ T90 (mkF m 259 #[.val (.int i0), .val (.int i1), .val (.int i2), .val (.int i3), .val (.int i4), .val (.int fA), .val (.int tA), .val (.int md), .val (.ref oA), .val (.int fB), .val (.int tB), .val (.ref oB), .val (.int (0 : Int32))] [(.int (own_eq fB tB fA tA))])
              refine Go.step (fun _ k => XS.iload X90.here hx rfl (hb hby at_259) rfl k) ?_
              show Go p e below _ T90 (mkF m 261 #[.val (.int i0), .val (.int i1), .val (.int i2), .val (.int i3), .val (.int i4), .val (.int fA), .val (.int tA), .val (.int md), .val (.ref oA), .val (.int fB), .val (.int tB), .val (.ref oB), .val (.int (0 : Int32))] [(.int (0 : Int32)), (.int (own_eq fB tB fA tA))])
              refine Go.step (fun _ k => XS.icmpNo X90.here hx rfl (hb hby at_261) rfl (teq (own_eqN2 (Ne.symm hc230_85))).2 k) ?_
              show Go p e below _ T90 (mkF m 264 #[.val (.int i0), .val (.int i1), .val (.int i2), .val (.int i3), .val (.int i4), .val (.int fA), .val (.int tA), .val (.int md), .val (.ref oA), .val (.int fB), .val (.int tB), .val (.ref oB), .val (.int (0 : Int32))] [])
              refine Go.step (fun _ k => XS.aload X90.here hx rfl (hb hby at_264) rfl rfl k) ?_
              show Go p e below _ T90 (mkF m 266 #[.val (.int i0), .val (.int i1), .val (.int i2), .val (.int i3), .val (.int i4), .val (.int fA), .val (.int tA), .val (.int md), .val (.ref oA), .val (.int fB), .val (.int tB), .val (.ref oB), .val (.int (0 : Int32))] [(.ref oA)])
              refine Go.step (fun _ k => XS.aload X90.here hx rfl (hb hby at_266) rfl rfl k) ?_
              show Go p e below _ T90 (mkF m 268 #[.val (.int i0), .val (.int i1), .val (.int i2), .val (.int i3), .val (.int i4), .val (.int fA), .val (.int tA), .val (.int md), .val (.ref oA), .val (.int fB), .val (.int tB), .val (.ref oB), .val (.int (0 : Int32))] [(.ref oA), (.ref oA)])
              obtain ⟨cq91, kq91, q91a, q91b, q91c⟩ := isOf hZ e90 E_oA
              obtain ⟨_, _, ⟨T91, L91, k91, n91⟩, -, X91, ⟨Lc91, hQ91, l91, y91, z91⟩, st91⟩ := X90.virtualBack hx (y := (⟨"com/example/vigilant_crawler/vigilantcrawler/model/WordSpan", "equals", "(Ljava/lang/Object;)Z"⟩ : MethodName)) (z := (⟨"com/example/vigilant_crawler/vigilantcrawler/model/WordSpan", "equals", "(Ljava/lang/Object;)Z"⟩ : MethodName)) hown (mvT hZ (hw _ (List.mem_of_getElem? (i := 20) rfl))) (mvT hZ (hw _ (List.mem_of_getElem? (i := 21) rfl))) (notFace_of_selects (args := #[]) (mvT hZ (hw _ (List.mem_of_getElem? (i := 23) rfl)))) (mvT hZ (hw _ (List.mem_of_getElem? (i := 23) rfl))) (mvT hZ (hw _ (List.mem_of_getElem? (i := 22) rfl))) (by decide) (backOf (W := 0) (rmE l Z a0 hw [] oA oA fA tA fA tA T83.heap n0 Zn F_from_oA F_to_oA E_oA F_from_oA F_to_oA) hZ (hw _ (List.mem_of_getElem? (i := 24) rfl)) (hw _ (List.mem_of_getElem? (i := 9) rfl)) (by decide) (by decide)) q91a q91c (g := (mkF m 268 #[.val (.int i0), .val (.int i1), .val (.int i2), .val (.int i3), .val (.int i4), .val (.int fA), .val (.int tA), .val (.int md), .val (.ref oA), .val (.int fB), .val (.int tB), .val (.ref oB), .val (.int (0 : Int32))] [(.ref oA), (.ref oA)])) rfl (by rw [hml]; rfl) (Steps.refl _) (argsL := [(.ref oA)]) (rest := []) (lenOf own_f115 rfl) rfl (by show 2 * 0 + _ ≤ _; exact Nat.le_of_eq rfl) (hb hby at_268) (fun _ _ => ⟨rfl, e90, (by dsimp only [Pt.cells, Pt.slots]; decide), (by dsimp only [Pt.cells, Pt.slots]; decide)⟩)
              dsimp only [Pt.U, Pt.locs, Pt.cells, Pt.slots] at X91 l91 y91 z91 st91 hQ91
              subst l91 y91 z91
              obtain ⟨rfl, N91q, e91⟩ := hQ91
              have N91 := Fr.app N90 N91q
              refine Go.step (fun _ k => st91.trans k) ?_
              show Go p e below _ T91 (mkF m 271 #[.val (.int i0), .val (.int i1), .val (.int i2), .val (.int i3), .val (.int i4), .val (.int fA), .val (.int tA), .val (.int md), .val (.ref oA), .val (.int fB), .val (.int tB), .val (.ref oB), .val (.int (0 : Int32))] [(.int (own_eq fA tA fA tA))])
              refine Go.step (fun _ k => XS.ifNo X91.here hx rfl (hb hby at_271) rfl ((if0 _ _).trans (feq (own_eqS _ _)).1) k) ?_
              show Go p e below _ T91 (mkF m 274 #[.val (.int i0), .val (.int i1), .val (.int i2), .val (.int i3), .val (.int i4), .val (.int fA), .val (.int tA), .val (.int md), .val (.ref oA), .val (.int fB), .val (.int tB), .val (.ref oB), .val (.int (0 : Int32))] [])
              refine Go.step (fun _ k => XS.iconst X91.here hx rfl (hb hby at_274) k) ?_
              show Go p e below _ T91 (mkF m 275 #[.val (.int i0), .val (.int i1), .val (.int i2), .val (.int i3), .val (.int i4), .val (.int fA), .val (.int tA), .val (.int md), .val (.ref oA), .val (.int fB), .val (.int tB), .val (.ref oB), .val (.int (0 : Int32))] [(.int (1 : Int32))])
              refine Go.step (fun _ k => XS.goto X91.here hx rfl (pc0 := 275) (pc' := 279) rfl (hb hby at_275) (by decide) (by decide) k) ?_
              show Go p e below _ T91 (mkF m 279 #[.val (.int i0), .val (.int i1), .val (.int i2), .val (.int i3), .val (.int i4), .val (.int fA), .val (.int tA), .val (.int md), .val (.ref oA), .val (.int fB), .val (.int tB), .val (.ref oB), .val (.int (0 : Int32))] [(.int (1 : Int32))])
              obtain ⟨fs, hr, hrun, hended, hW, hsame⟩ := X91.leave (v := some (.int (1 : Int32))) (fun h => by rw [Bd.returns] at h; cases h)
              refine Go.fin (retN X91 hx (t := .boolean) Bd.returns (by simp) (hb hby at_279) hr) hrun hended ?_
              refine ⟨_, _, rfl, ?_, ⟨_, rfl⟩, hW, hsame.mono (by decide) (by decide)⟩
              show Q0 Z i0 i1 i2 i3 i4 kc aK cK h0 n0 _ T91.heap _
              rw [e91]
              exact ⟨rfl, N91⟩
          · show Go p e below _ T83 (mkF m 223 #[.val (.int i0), .val (.int i1), .val (.int i2), .val (.int i3), .val (.int i4), .val (.int fA), .val (.int tA), .val (.int md), .val (.ref oA), .val (.int fB), .val (.int tB), .val (.ref oB), .unset] [(.int fB), (.int fA)])
            refine Go.step (fun _ k => XS.icmpYes X83.here hx rfl (pc0 := 223) (pc' := 237) rfl (hb hby at_223) rfl (feq hc223_84).2 (by decide) (by decide) k) ?_
            show Go p e below _ T83 (mkF m 237 #[.val (.int i0), .val (.int i1), .val (.int i2), .val (.int i3), .val (.int i4), .val (.int fA), .val (.int tA), .val (.int md), .val (.ref oA), .val (.int fB), .val (.int tB), .val (.ref oB), .unset] [])
            refine Go.step (fun _ k => XS.iconst X83.here hx rfl (hb hby at_237) k) ?_
            show Go p e below _ T83 (mkF m 238 #[.val (.int i0), .val (.int i1), .val (.int i2), .val (.int i3), .val (.int i4), .val (.int fA), .val (.int tA), .val (.int md), .val (.ref oA), .val (.int fB), .val (.int tB), .val (.ref oB), .unset] [(.int (0 : Int32))])
            refine Go.step (fun _ k => XS.istore X83.here hx rfl (hb hby at_238) rfl (l' := #[.val (.int i0), .val (.int i1), .val (.int i2), .val (.int i3), .val (.int i4), .val (.int fA), .val (.int tA), .val (.int md), .val (.ref oA), .val (.int fB), .val (.int tB), .val (.ref oB), .val (.int (0 : Int32))]) rfl k) ?_
            show Go p e below _ T83 (mkF m 240 #[.val (.int i0), .val (.int i1), .val (.int i2), .val (.int i3), .val (.int i4), .val (.int fA), .val (.int tA), .val (.int md), .val (.ref oA), .val (.int fB), .val (.int tB), .val (.ref oB), .val (.int (0 : Int32))] [])
            refine Go.step (fun _ k => XS.aload X83.here hx rfl (hb hby at_240) rfl rfl k) ?_
            show Go p e below _ T83 (mkF m 242 #[.val (.int i0), .val (.int i1), .val (.int i2), .val (.int i3), .val (.int i4), .val (.int fA), .val (.int tA), .val (.int md), .val (.ref oA), .val (.int fB), .val (.int tB), .val (.ref oB), .val (.int (0 : Int32))] [(.ref oA)])
            refine Go.step (fun _ k => XS.aload X83.here hx rfl (hb hby at_242) rfl rfl k) ?_
            show Go p e below _ T83 (mkF m 244 #[.val (.int i0), .val (.int i1), .val (.int i2), .val (.int i3), .val (.int i4), .val (.int fA), .val (.int tA), .val (.int md), .val (.ref oA), .val (.int fB), .val (.int tB), .val (.ref oB), .val (.int (0 : Int32))] [(.ref oB), (.ref oA)])
            obtain ⟨cq92, kq92, q92a, q92b, q92c⟩ := isOf hZ rfl E_oA
            obtain ⟨_, _, ⟨T92, L92, k92, n92⟩, -, X92, ⟨Lc92, hQ92, l92, y92, z92⟩, st92⟩ := X83.virtualBack hx (y := (⟨"com/example/vigilant_crawler/vigilantcrawler/model/WordSpan", "equals", "(Ljava/lang/Object;)Z"⟩ : MethodName)) (z := (⟨"com/example/vigilant_crawler/vigilantcrawler/model/WordSpan", "equals", "(Ljava/lang/Object;)Z"⟩ : MethodName)) hown (mvT hZ (hw _ (List.mem_of_getElem? (i := 20) rfl))) (mvT hZ (hw _ (List.mem_of_getElem? (i := 21) rfl))) (notFace_of_selects (args := #[]) (mvT hZ (hw _ (List.mem_of_getElem? (i := 23) rfl)))) (mvT hZ (hw _ (List.mem_of_getElem? (i := 23) rfl))) (mvT hZ (hw _ (List.mem_of_getElem? (i := 22) rfl))) (by decide) (backOf (W := 0) (rmE l Z a0 hw [] oA oB fA tA fB tB T83.heap n0 Zn F_from_oA F_to_oA E_oB F_from_oB F_to_oB) hZ (hw _ (List.mem_of_getElem? (i := 24) rfl)) (hw _ (List.mem_of_getElem? (i := 9) rfl)) (by decide) (by decide)) q92a q92c (g := (mkF m 244 #[.val (.int i0), .val (.int i1), .val (.int i2), .val (.int i3), .val (.int i4), .val (.int fA), .val (.int tA), .val (.int md), .val (.ref oA), .val (.int fB), .val (.int tB), .val (.ref oB), .val (.int (0 : Int32))] [(.ref oB), (.ref oA)])) rfl (by rw [hml]; rfl) (Steps.refl _) (argsL := [(.ref oB)]) (rest := []) (lenOf own_f115 rfl) rfl (by show 2 * 0 + _ ≤ _; exact Nat.le_of_eq rfl) (hb hby at_244) (fun _ _ => ⟨rfl, rfl, (by dsimp only [Pt.cells, Pt.slots]; decide), (by dsimp only [Pt.cells, Pt.slots]; decide)⟩)
            dsimp only [Pt.U, Pt.locs, Pt.cells, Pt.slots] at X92 l92 y92 z92 st92 hQ92
            subst l92 y92 z92
            obtain ⟨rfl, N92q, e92⟩ := hQ92
            have N92 := Fr.app N83 N92q
            refine Go.step (fun _ k => st92.trans k) ?_
            show Go p e below _ T92 (mkF m 247 #[.val (.int i0), .val (.int i1), .val (.int i2), .val (.int i3), .val (.int i4), .val (.int fA), .val (.int tA), .val (.int md), .val (.ref oA), .val (.int fB), .val (.int tB), .val (.ref oB), .val (.int (0 : Int32))] [(.int (own_eq fA tA fB tB))])
            refine Go.step (fun _ k => XS.iload X92.here hx rfl (hb hby at_247) rfl k) ?_
            show Go p e below _ T92 (mkF m 249 #[.val (.int i0), .val (.int i1), .val (.int i2), .val (.int i3), .val (.int i4), .val (.int fA), .val (.int tA), .val (.int md), .val (.ref oA), .val (.int fB), .val (.int tB), .val (.ref oB), .val (.int (0 : Int32))] [(.int (0 : Int32)), (.int (own_eq fA tA fB tB))])
            refine Go.step (fun _ k => XS.icmpNo X92.here hx rfl (hb hby at_249) rfl (teq (own_eqN1 hc223_84)).2 k) ?_
            show Go p e below _ T92 (mkF m 252 #[.val (.int i0), .val (.int i1), .val (.int i2), .val (.int i3), .val (.int i4), .val (.int fA), .val (.int tA), .val (.int md), .val (.ref oA), .val (.int fB), .val (.int tB), .val (.ref oB), .val (.int (0 : Int32))] [])
            refine Go.step (fun _ k => XS.aload X92.here hx rfl (hb hby at_252) rfl rfl k) ?_
            show Go p e below _ T92 (mkF m 254 #[.val (.int i0), .val (.int i1), .val (.int i2), .val (.int i3), .val (.int i4), .val (.int fA), .val (.int tA), .val (.int md), .val (.ref oA), .val (.int fB), .val (.int tB), .val (.ref oB), .val (.int (0 : Int32))] [(.ref oB)])
            refine Go.step (fun _ k => XS.aload X92.here hx rfl (hb hby at_254) rfl rfl k) ?_
            show Go p e below _ T92 (mkF m 256 #[.val (.int i0), .val (.int i1), .val (.int i2), .val (.int i3), .val (.int i4), .val (.int fA), .val (.int tA), .val (.int md), .val (.ref oA), .val (.int fB), .val (.int tB), .val (.ref oB), .val (.int (0 : Int32))] [(.ref oA), (.ref oB)])
            obtain ⟨cq93, kq93, q93a, q93b, q93c⟩ := isOf hZ e92 E_oB
            obtain ⟨_, _, ⟨T93, L93, k93, n93⟩, -, X93, ⟨Lc93, hQ93, l93, y93, z93⟩, st93⟩ := X92.virtualBack hx (y := (⟨"com/example/vigilant_crawler/vigilantcrawler/model/WordSpan", "equals", "(Ljava/lang/Object;)Z"⟩ : MethodName)) (z := (⟨"com/example/vigilant_crawler/vigilantcrawler/model/WordSpan", "equals", "(Ljava/lang/Object;)Z"⟩ : MethodName)) hown (mvT hZ (hw _ (List.mem_of_getElem? (i := 20) rfl))) (mvT hZ (hw _ (List.mem_of_getElem? (i := 21) rfl))) (notFace_of_selects (args := #[]) (mvT hZ (hw _ (List.mem_of_getElem? (i := 23) rfl)))) (mvT hZ (hw _ (List.mem_of_getElem? (i := 23) rfl))) (mvT hZ (hw _ (List.mem_of_getElem? (i := 22) rfl))) (by decide) (backOf (W := 0) (rmE l Z a0 hw [] oB oA fB tB fA tA T83.heap n0 Zn F_from_oB F_to_oB E_oA F_from_oA F_to_oA) hZ (hw _ (List.mem_of_getElem? (i := 24) rfl)) (hw _ (List.mem_of_getElem? (i := 9) rfl)) (by decide) (by decide)) q93a q93c (g := (mkF m 256 #[.val (.int i0), .val (.int i1), .val (.int i2), .val (.int i3), .val (.int i4), .val (.int fA), .val (.int tA), .val (.int md), .val (.ref oA), .val (.int fB), .val (.int tB), .val (.ref oB), .val (.int (0 : Int32))] [(.ref oA), (.ref oB)])) rfl (by rw [hml]; rfl) (Steps.refl _) (argsL := [(.ref oA)]) (rest := []) (lenOf own_f115 rfl) rfl (by show 2 * 0 + _ ≤ _; exact Nat.le_of_eq rfl) (hb hby at_256) (fun _ _ => ⟨rfl, e92, (by dsimp only [Pt.cells, Pt.slots]; decide), (by dsimp only [Pt.cells, Pt.slots]; decide)⟩)
            dsimp only [Pt.U, Pt.locs, Pt.cells, Pt.slots] at X93 l93 y93 z93 st93 hQ93
            subst l93 y93 z93
            obtain ⟨rfl, N93q, e93⟩ := hQ93
            have N93 := Fr.app N92 N93q
            refine Go.step (fun _ k => st93.trans k) ?_
            show Go p e below _ T93 (mkF m 259 #[.val (.int i0), .val (.int i1), .val (.int i2), .val (.int i3), .val (.int i4), .val (.int fA), .val (.int tA), .val (.int md), .val (.ref oA), .val (.int fB), .val (.int tB), .val (.ref oB), .val (.int (0 : Int32))] [(.int (own_eq fB tB fA tA))])
            refine Go.step (fun _ k => XS.iload X93.here hx rfl (hb hby at_259) rfl k) ?_
            show Go p e below _ T93 (mkF m 261 #[.val (.int i0), .val (.int i1), .val (.int i2), .val (.int i3), .val (.int i4), .val (.int fA), .val (.int tA), .val (.int md), .val (.ref oA), .val (.int fB), .val (.int tB), .val (.ref oB), .val (.int (0 : Int32))] [(.int (0 : Int32)), (.int (own_eq fB tB fA tA))])
            refine Go.step (fun _ k => XS.icmpNo X93.here hx rfl (hb hby at_261) rfl (teq (own_eqN1 (Ne.symm hc223_84))).2 k) ?_
            show Go p e below _ T93 (mkF m 264 #[.val (.int i0), .val (.int i1), .val (.int i2), .val (.int i3), .val (.int i4), .val (.int fA), .val (.int tA), .val (.int md), .val (.ref oA), .val (.int fB), .val (.int tB), .val (.ref oB), .val (.int (0 : Int32))] [])
            refine Go.step (fun _ k => XS.aload X93.here hx rfl (hb hby at_264) rfl rfl k) ?_
            show Go p e below _ T93 (mkF m 266 #[.val (.int i0), .val (.int i1), .val (.int i2), .val (.int i3), .val (.int i4), .val (.int fA), .val (.int tA), .val (.int md), .val (.ref oA), .val (.int fB), .val (.int tB), .val (.ref oB), .val (.int (0 : Int32))] [(.ref oA)])
            refine Go.step (fun _ k => XS.aload X93.here hx rfl (hb hby at_266) rfl rfl k) ?_
            show Go p e below _ T93 (mkF m 268 #[.val (.int i0), .val (.int i1), .val (.int i2), .val (.int i3), .val (.int i4), .val (.int fA), .val (.int tA), .val (.int md), .val (.ref oA), .val (.int fB), .val (.int tB), .val (.ref oB), .val (.int (0 : Int32))] [(.ref oA), (.ref oA)])
            obtain ⟨cq94, kq94, q94a, q94b, q94c⟩ := isOf hZ e93 E_oA
            obtain ⟨_, _, ⟨T94, L94, k94, n94⟩, -, X94, ⟨Lc94, hQ94, l94, y94, z94⟩, st94⟩ := X93.virtualBack hx (y := (⟨"com/example/vigilant_crawler/vigilantcrawler/model/WordSpan", "equals", "(Ljava/lang/Object;)Z"⟩ : MethodName)) (z := (⟨"com/example/vigilant_crawler/vigilantcrawler/model/WordSpan", "equals", "(Ljava/lang/Object;)Z"⟩ : MethodName)) hown (mvT hZ (hw _ (List.mem_of_getElem? (i := 20) rfl))) (mvT hZ (hw _ (List.mem_of_getElem? (i := 21) rfl))) (notFace_of_selects (args := #[]) (mvT hZ (hw _ (List.mem_of_getElem? (i := 23) rfl)))) (mvT hZ (hw _ (List.mem_of_getElem? (i := 23) rfl))) (mvT hZ (hw _ (List.mem_of_getElem? (i := 22) rfl))) (by decide) (backOf (W := 0) (rmE l Z a0 hw [] oA oA fA tA fA tA T83.heap n0 Zn F_from_oA F_to_oA E_oA F_from_oA F_to_oA) hZ (hw _ (List.mem_of_getElem? (i := 24) rfl)) (hw _ (List.mem_of_getElem? (i := 9) rfl)) (by decide) (by decide)) q94a q94c (g := (mkF m 268 #[.val (.int i0), .val (.int i1), .val (.int i2), .val (.int i3), .val (.int i4), .val (.int fA), .val (.int tA), .val (.int md), .val (.ref oA), .val (.int fB), .val (.int tB), .val (.ref oB), .val (.int (0 : Int32))] [(.ref oA), (.ref oA)])) rfl (by rw [hml]; rfl) (Steps.refl _) (argsL := [(.ref oA)]) (rest := []) (lenOf own_f115 rfl) rfl (by show 2 * 0 + _ ≤ _; exact Nat.le_of_eq rfl) (hb hby at_268) (fun _ _ => ⟨rfl, e93, (by dsimp only [Pt.cells, Pt.slots]; decide), (by dsimp only [Pt.cells, Pt.slots]; decide)⟩)
            dsimp only [Pt.U, Pt.locs, Pt.cells, Pt.slots] at X94 l94 y94 z94 st94 hQ94
            subst l94 y94 z94
            obtain ⟨rfl, N94q, e94⟩ := hQ94
            have N94 := Fr.app N93 N94q
            refine Go.step (fun _ k => st94.trans k) ?_
            show Go p e below _ T94 (mkF m 271 #[.val (.int i0), .val (.int i1), .val (.int i2), .val (.int i3), .val (.int i4), .val (.int fA), .val (.int tA), .val (.int md), .val (.ref oA), .val (.int fB), .val (.int tB), .val (.ref oB), .val (.int (0 : Int32))] [(.int (own_eq fA tA fA tA))])
            refine Go.step (fun _ k => XS.ifNo X94.here hx rfl (hb hby at_271) rfl ((if0 _ _).trans (feq (own_eqS _ _)).1) k) ?_
            show Go p e below _ T94 (mkF m 274 #[.val (.int i0), .val (.int i1), .val (.int i2), .val (.int i3), .val (.int i4), .val (.int fA), .val (.int tA), .val (.int md), .val (.ref oA), .val (.int fB), .val (.int tB), .val (.ref oB), .val (.int (0 : Int32))] [])
            refine Go.step (fun _ k => XS.iconst X94.here hx rfl (hb hby at_274) k) ?_
            show Go p e below _ T94 (mkF m 275 #[.val (.int i0), .val (.int i1), .val (.int i2), .val (.int i3), .val (.int i4), .val (.int fA), .val (.int tA), .val (.int md), .val (.ref oA), .val (.int fB), .val (.int tB), .val (.ref oB), .val (.int (0 : Int32))] [(.int (1 : Int32))])
            refine Go.step (fun _ k => XS.goto X94.here hx rfl (pc0 := 275) (pc' := 279) rfl (hb hby at_275) (by decide) (by decide) k) ?_
            show Go p e below _ T94 (mkF m 279 #[.val (.int i0), .val (.int i1), .val (.int i2), .val (.int i3), .val (.int i4), .val (.int fA), .val (.int tA), .val (.int md), .val (.ref oA), .val (.int fB), .val (.int tB), .val (.ref oB), .val (.int (0 : Int32))] [(.int (1 : Int32))])
            obtain ⟨fs, hr, hrun, hended, hW, hsame⟩ := X94.leave (v := some (.int (1 : Int32))) (fun h => by rw [Bd.returns] at h; cases h)
            refine Go.fin (retN X94 hx (t := .boolean) Bd.returns (by simp) (hb hby at_279) hr) hrun hended ?_
            refine ⟨_, _, rfl, ?_, ⟨_, rfl⟩, hW, hsame.mono (by decide) (by decide)⟩
            show Q0 Z i0 i1 i2 i3 i4 kc aK cK h0 n0 _ T94.heap _
            rw [e94]
            exact ⟨rfl, N94⟩
  · show Go p e below _ T35 (mkF m 45 #[.val (.int i0), .val (.int i1), .val (.int i2), .val (.int i3), .val (.int i4), .val (.int fA), .val (.int tA), .val (.int md), .val (.ref oA), .unset, .unset, .unset, .unset] [(.int (5 : Int32)), (.int md)])
    refine Go.step (fun _ k => XS.icmpNo X35.here hx rfl (hb hby at_45) rfl (flt hc45_36).1 k) ?_
    show Go p e below _ T35 (mkF m 48 #[.val (.int i0), .val (.int i1), .val (.int i2), .val (.int i3), .val (.int i4), .val (.int fA), .val (.int tA), .val (.int md), .val (.ref oA), .unset, .unset, .unset, .unset] [])
    refine Go.step (fun _ k => XS.iload X35.here hx rfl (hb hby at_48) rfl k) ?_
    show Go p e below _ T35 (mkF m 50 #[.val (.int i0), .val (.int i1), .val (.int i2), .val (.int i3), .val (.int i4), .val (.int fA), .val (.int tA), .val (.int md), .val (.ref oA), .unset, .unset, .unset, .unset] [(.int md)])
    refine Go.step (fun _ k => XS.iconst X35.here hx rfl (hb hby at_50) k) ?_
    show Go p e below _ T35 (mkF m 51 #[.val (.int i0), .val (.int i1), .val (.int i2), .val (.int i3), .val (.int i4), .val (.int fA), .val (.int tA), .val (.int md), .val (.ref oA), .unset, .unset, .unset, .unset] [(.int (5 : Int32)), (.int md)])
    by_cases hc51_95 : md = (5 : Int32)
    · show Go p e below _ T35 (mkF m 51 #[.val (.int i0), .val (.int i1), .val (.int i2), .val (.int i3), .val (.int i4), .val (.int fA), .val (.int tA), .val (.int md), .val (.ref oA), .unset, .unset, .unset, .unset] [(.int (5 : Int32)), (.int md)])
      refine Go.step (fun _ k => XS.icmpNo X35.here hx rfl (hb hby at_51) rfl (teq hc51_95).2 k) ?_
      show Go p e below _ T35 (mkF m 54 #[.val (.int i0), .val (.int i1), .val (.int i2), .val (.int i3), .val (.int i4), .val (.int fA), .val (.int tA), .val (.int md), .val (.ref oA), .unset, .unset, .unset, .unset] [])
      refine Go.step (fun _ k => XS.aconstNull X35.here hx rfl (hb hby at_54) k) ?_
      show Go p e below _ T35 (mkF m 55 #[.val (.int i0), .val (.int i1), .val (.int i2), .val (.int i3), .val (.int i4), .val (.int fA), .val (.int tA), .val (.int md), .val (.ref oA), .unset, .unset, .unset, .unset] [.null])
      refine Go.step (fun _ k => XS.astore X35.here hx rfl (hb hby at_55) rfl rfl (l' := #[.val (.int i0), .val (.int i1), .val (.int i2), .val (.int i3), .val (.int i4), .val (.int fA), .val (.int tA), .val (.int md), .val (.ref oA), .val .null, .unset, .unset, .unset]) rfl k) ?_
      show Go p e below _ T35 (mkF m 57 #[.val (.int i0), .val (.int i1), .val (.int i2), .val (.int i3), .val (.int i4), .val (.int fA), .val (.int tA), .val (.int md), .val (.ref oA), .val .null, .unset, .unset, .unset] [])
      refine Go.step (fun _ k => XS.goto X35.here hx rfl (pc0 := 57) (pc' := 88) rfl (hb hby at_57) (by decide) (by decide) k) ?_
      show Go p e below _ T35 (mkF m 88 #[.val (.int i0), .val (.int i1), .val (.int i2), .val (.int i3), .val (.int i4), .val (.int fA), .val (.int tA), .val (.int md), .val (.ref oA), .val .null, .unset, .unset, .unset] [])
      refine Go.step (fun _ k => XS.aload X35.here hx rfl (hb hby at_88) rfl rfl k) ?_
      show Go p e below _ T35 (mkF m 90 #[.val (.int i0), .val (.int i1), .val (.int i2), .val (.int i3), .val (.int i4), .val (.int fA), .val (.int tA), .val (.int md), .val (.ref oA), .val .null, .unset, .unset, .unset] [(.ref oA)])
      refine Go.step (fun _ k => XS.aload X35.here hx rfl (hb hby at_90) rfl rfl k) ?_
      show Go p e below _ T35 (mkF m 92 #[.val (.int i0), .val (.int i1), .val (.int i2), .val (.int i3), .val (.int i4), .val (.int fA), .val (.int tA), .val (.int md), .val (.ref oA), .val .null, .unset, .unset, .unset] [.null, (.ref oA)])
      obtain ⟨cq96, kq96, q96a, q96b, q96c⟩ := isOf hZ rfl E_oA
      obtain ⟨_, _, ⟨T96, L96, k96, n96⟩, -, X96, ⟨Lc96, hQ96, l96, y96, z96⟩, st96⟩ := X35.virtualBack hx (y := (⟨"com/example/vigilant_crawler/vigilantcrawler/model/WordSpan", "equals", "(Ljava/lang/Object;)Z"⟩ : MethodName)) (z := (⟨"com/example/vigilant_crawler/vigilantcrawler/model/WordSpan", "equals", "(Ljava/lang/Object;)Z"⟩ : MethodName)) hown (mvT hZ (hw _ (List.mem_of_getElem? (i := 20) rfl))) (mvT hZ (hw _ (List.mem_of_getElem? (i := 21) rfl))) (notFace_of_selects (args := #[]) (mvT hZ (hw _ (List.mem_of_getElem? (i := 23) rfl)))) (mvT hZ (hw _ (List.mem_of_getElem? (i := 23) rfl))) (mvT hZ (hw _ (List.mem_of_getElem? (i := 22) rfl))) (by decide) (backOf (W := 0) (rmEn l Z a0 hw [] oA T35.heap n0 Zn) hZ (hw _ (List.mem_of_getElem? (i := 24) rfl)) (hw _ (List.mem_of_getElem? (i := 9) rfl)) (by decide) (by decide)) q96a q96c (g := (mkF m 92 #[.val (.int i0), .val (.int i1), .val (.int i2), .val (.int i3), .val (.int i4), .val (.int fA), .val (.int tA), .val (.int md), .val (.ref oA), .val .null, .unset, .unset, .unset] [.null, (.ref oA)])) rfl (by rw [hml]; rfl) (Steps.refl _) (argsL := [.null]) (rest := []) (lenOf own_f115 rfl) rfl (by show 2 * 0 + _ ≤ _; exact Nat.le_of_eq rfl) (hb hby at_92) (fun _ _ => ⟨rfl, rfl, (by dsimp only [Pt.cells, Pt.slots]; decide), (by dsimp only [Pt.cells, Pt.slots]; decide)⟩)
      dsimp only [Pt.U, Pt.locs, Pt.cells, Pt.slots] at X96 l96 y96 z96 st96 hQ96
      subst l96 y96 z96
      obtain ⟨rfl, N96q, e96⟩ := hQ96
      have N96 := Fr.app N35 N96q
      refine Go.step (fun _ k => st96.trans k) ?_
      show Go p e below _ T96 (mkF m 95 #[.val (.int i0), .val (.int i1), .val (.int i2), .val (.int i3), .val (.int i4), .val (.int fA), .val (.int tA), .val (.int md), .val (.ref oA), .val .null, .unset, .unset, .unset] [(.int (0 : Int32))])
      refine Go.step (fun _ k => XS.ifNo X96.here hx rfl (hb hby at_95) rfl ((if0 _ _).trans (teq rfl).2) k) ?_
      show Go p e below _ T96 (mkF m 98 #[.val (.int i0), .val (.int i1), .val (.int i2), .val (.int i3), .val (.int i4), .val (.int fA), .val (.int tA), .val (.int md), .val (.ref oA), .val .null, .unset, .unset, .unset] [])
      refine Go.step (fun _ k => XS.aload X96.here hx rfl (hb hby at_98) rfl rfl k) ?_
      show Go p e below _ T96 (mkF m 100 #[.val (.int i0), .val (.int i1), .val (.int i2), .val (.int i3), .val (.int i4), .val (.int fA), .val (.int tA), .val (.int md), .val (.ref oA), .val .null, .unset, .unset, .unset] [(.ref oA)])
      refine Go.step (fun _ k => XS.aload X96.here hx rfl (hb hby at_100) rfl rfl k) ?_
      show Go p e below _ T96 (mkF m 102 #[.val (.int i0), .val (.int i1), .val (.int i2), .val (.int i3), .val (.int i4), .val (.int fA), .val (.int tA), .val (.int md), .val (.ref oA), .val .null, .unset, .unset, .unset] [(.ref oA), (.ref oA)])
      obtain ⟨cq97, kq97, q97a, q97b, q97c⟩ := isOf hZ e96 E_oA
      obtain ⟨_, _, ⟨T97, L97, k97, n97⟩, -, X97, ⟨Lc97, hQ97, l97, y97, z97⟩, st97⟩ := X96.virtualBack hx (y := (⟨"com/example/vigilant_crawler/vigilantcrawler/model/WordSpan", "equals", "(Ljava/lang/Object;)Z"⟩ : MethodName)) (z := (⟨"com/example/vigilant_crawler/vigilantcrawler/model/WordSpan", "equals", "(Ljava/lang/Object;)Z"⟩ : MethodName)) hown (mvT hZ (hw _ (List.mem_of_getElem? (i := 20) rfl))) (mvT hZ (hw _ (List.mem_of_getElem? (i := 21) rfl))) (notFace_of_selects (args := #[]) (mvT hZ (hw _ (List.mem_of_getElem? (i := 23) rfl)))) (mvT hZ (hw _ (List.mem_of_getElem? (i := 23) rfl))) (mvT hZ (hw _ (List.mem_of_getElem? (i := 22) rfl))) (by decide) (backOf (W := 0) (rmE l Z a0 hw [] oA oA fA tA fA tA T35.heap n0 Zn F_from_oA F_to_oA E_oA F_from_oA F_to_oA) hZ (hw _ (List.mem_of_getElem? (i := 24) rfl)) (hw _ (List.mem_of_getElem? (i := 9) rfl)) (by decide) (by decide)) q97a q97c (g := (mkF m 102 #[.val (.int i0), .val (.int i1), .val (.int i2), .val (.int i3), .val (.int i4), .val (.int fA), .val (.int tA), .val (.int md), .val (.ref oA), .val .null, .unset, .unset, .unset] [(.ref oA), (.ref oA)])) rfl (by rw [hml]; rfl) (Steps.refl _) (argsL := [(.ref oA)]) (rest := []) (lenOf own_f115 rfl) rfl (by show 2 * 0 + _ ≤ _; exact Nat.le_of_eq rfl) (hb hby at_102) (fun _ _ => ⟨rfl, e96, (by dsimp only [Pt.cells, Pt.slots]; decide), (by dsimp only [Pt.cells, Pt.slots]; decide)⟩)
      dsimp only [Pt.U, Pt.locs, Pt.cells, Pt.slots] at X97 l97 y97 z97 st97 hQ97
      subst l97 y97 z97
      obtain ⟨rfl, N97q, e97⟩ := hQ97
      have N97 := Fr.app N96 N97q
      refine Go.step (fun _ k => st97.trans k) ?_
      show Go p e below _ T97 (mkF m 105 #[.val (.int i0), .val (.int i1), .val (.int i2), .val (.int i3), .val (.int i4), .val (.int fA), .val (.int tA), .val (.int md), .val (.ref oA), .val .null, .unset, .unset, .unset] [(.int (own_eq fA tA fA tA))])
      refine Go.step (fun _ k => XS.ifNo X97.here hx rfl (hb hby at_105) rfl ((if0 _ _).trans (feq (own_eqS _ _)).1) k) ?_
      show Go p e below _ T97 (mkF m 108 #[.val (.int i0), .val (.int i1), .val (.int i2), .val (.int i3), .val (.int i4), .val (.int fA), .val (.int tA), .val (.int md), .val (.ref oA), .val .null, .unset, .unset, .unset] [])
      refine Go.step (fun _ k => XS.iconst X97.here hx rfl (hb hby at_108) k) ?_
      show Go p e below _ T97 (mkF m 109 #[.val (.int i0), .val (.int i1), .val (.int i2), .val (.int i3), .val (.int i4), .val (.int fA), .val (.int tA), .val (.int md), .val (.ref oA), .val .null, .unset, .unset, .unset] [(.int (1 : Int32))])
      refine Go.step (fun _ k => XS.goto X97.here hx rfl (pc0 := 109) (pc' := 113) rfl (hb hby at_109) (by decide) (by decide) k) ?_
      show Go p e below _ T97 (mkF m 113 #[.val (.int i0), .val (.int i1), .val (.int i2), .val (.int i3), .val (.int i4), .val (.int fA), .val (.int tA), .val (.int md), .val (.ref oA), .val .null, .unset, .unset, .unset] [(.int (1 : Int32))])
      obtain ⟨fs, hr, hrun, hended, hW, hsame⟩ := X97.leave (v := some (.int (1 : Int32))) (fun h => by rw [Bd.returns] at h; cases h)
      refine Go.fin (retN X97 hx (t := .boolean) Bd.returns (by simp) (hb hby at_113) hr) hrun hended ?_
      refine ⟨_, _, rfl, ?_, ⟨_, rfl⟩, hW, hsame.mono (by decide) (by decide)⟩
      show Q0 Z i0 i1 i2 i3 i4 kc aK cK h0 n0 _ T97.heap _
      rw [e97]
      exact ⟨rfl, N97⟩
    · show Go p e below _ T35 (mkF m 51 #[.val (.int i0), .val (.int i1), .val (.int i2), .val (.int i3), .val (.int i4), .val (.int fA), .val (.int tA), .val (.int md), .val (.ref oA), .unset, .unset, .unset, .unset] [(.int (5 : Int32)), (.int md)])
      refine Go.step (fun _ k => XS.icmpYes X35.here hx rfl (pc0 := 51) (pc' := 60) rfl (hb hby at_51) rfl (feq hc51_95).2 (by decide) (by decide) k) ?_
      show Go p e below _ T35 (mkF m 60 #[.val (.int i0), .val (.int i1), .val (.int i2), .val (.int i3), .val (.int i4), .val (.int fA), .val (.int tA), .val (.int md), .val (.ref oA), .unset, .unset, .unset, .unset] [])
      refine Go.step (fun _ k => XS.iload X35.here hx rfl (hb hby at_60) rfl k) ?_
      show Go p e below _ T35 (mkF m 62 #[.val (.int i0), .val (.int i1), .val (.int i2), .val (.int i3), .val (.int i4), .val (.int fA), .val (.int tA), .val (.int md), .val (.ref oA), .unset, .unset, .unset, .unset] [(.int md)])
      refine Go.step (fun _ k => XS.bipush X35.here hx rfl (hb hby at_62) k) ?_
      show Go p e below _ T35 (mkF m 64 #[.val (.int i0), .val (.int i1), .val (.int i2), .val (.int i3), .val (.int i4), .val (.int fA), .val (.int tA), .val (.int md), .val (.ref oA), .unset, .unset, .unset, .unset] [(.int (6 : Int32)), (.int md)])
      by_cases hc64_98 : md = (6 : Int32)
      · show Go p e below _ T35 (mkF m 64 #[.val (.int i0), .val (.int i1), .val (.int i2), .val (.int i3), .val (.int i4), .val (.int fA), .val (.int tA), .val (.int md), .val (.ref oA), .unset, .unset, .unset, .unset] [(.int (6 : Int32)), (.int md)])
        refine Go.step (fun _ k => XS.icmpNo X35.here hx rfl (hb hby at_64) rfl (teq hc64_98).2 k) ?_
        show Go p e below _ T35 (mkF m 67 #[.val (.int i0), .val (.int i1), .val (.int i2), .val (.int i3), .val (.int i4), .val (.int fA), .val (.int tA), .val (.int md), .val (.ref oA), .unset, .unset, .unset, .unset] [])
        refine Go.step (fun _ k => XS.iload X35.here hx rfl (hb hby at_67) rfl k) ?_
        show Go p e below _ T35 (mkF m 69 #[.val (.int i0), .val (.int i1), .val (.int i2), .val (.int i3), .val (.int i4), .val (.int fA), .val (.int tA), .val (.int md), .val (.ref oA), .unset, .unset, .unset, .unset] [(.int fA)])
        obtain ⟨_, _, ⟨T99, L99, k99, n99⟩, -, X99, ⟨Lc99, hQ99, l99, y99, z99⟩, st99⟩ := Jvm.LawKit.callS X35 hx (y := (⟨"java/lang/Integer", "valueOf", "(I)Ljava/lang/Integer;"⟩ : MethodName)) hown (mvT hZ (hw _ (List.mem_of_getElem? (i := 53) rfl))) (mvT hZ (hw _ (List.mem_of_getElem? (i := 54) rfl))) (mvT hZ (hw _ (List.mem_of_getElem? (i := 55) rfl))) (mvT hZ (hw _ (List.mem_of_getElem? (i := 56) rfl))) (by decide) (backOf (W := 0) (rmIV l Z a0 hw [] fA aK cK T35.heap n0 Zn (SH.ext Od.2) (SK.ext Od.2) BX Od.2 hfA) hZ (hw _ (List.mem_of_getElem? (i := 56) rfl)) (hw _ (List.mem_of_getElem? (i := 55) rfl)) (by decide) (by decide)) (g := (mkF m 69 #[.val (.int i0), .val (.int i1), .val (.int i2), .val (.int i3), .val (.int i4), .val (.int fA), .val (.int tA), .val (.int md), .val (.ref oA), .unset, .unset, .unset, .unset] [(.int fA)])) rfl (by rw [hml]; rfl) (argsL := [(.int fA)]) (rest := []) (lenOf own_f116 rfl) rfl (by show 2 * 0 + _ ≤ _; exact Nat.le_of_eq rfl) (hb hby at_69) (fun _ _ => ⟨rfl, rfl, (by dsimp only [Pt.cells, Pt.slots]; decide), (by dsimp only [Pt.cells, Pt.slots]; decide)⟩)
        dsimp only [Pt.U, Pt.locs, Pt.cells, Pt.slots] at X99 l99 y99 z99 st99 hQ99
        subst l99 y99 z99
        obtain ⟨ib, rfl, N99q, K99, E_ib⟩ := hQ99
        have N99 := Fr.app N35 N99q
        refine Go.step (st99) ?_
        replace Od := Od.keep K99 all0
        replace E_oA := E_oA.keep K99
        replace F_from_oA := F_from_oA.keep K99 nin0
        replace F_to_oA := F_to_oA.keep K99 nin0
        replace K0 := K0.trans K99 (all0)
        replace Zn := Nat.le_trans Zn K99.1
        show Go p e below _ T99 (mkF m 72 #[.val (.int i0), .val (.int i1), .val (.int i2), .val (.int i3), .val (.int i4), .val (.int fA), .val (.int tA), .val (.int md), .val (.ref oA), .unset, .unset, .unset, .unset] [(.ref ib)])
        refine Go.step (fun _ k => XS.astore X99.here hx rfl (hb hby at_72) rfl rfl (l' := #[.val (.int i0), .val (.int i1), .val (.int i2), .val (.int i3), .val (.int i4), .val (.int fA), .val (.int tA), .val (.int md), .val (.ref oA), .val (.ref ib), .unset, .unset, .unset]) rfl k) ?_
        show Go p e below _ T99 (mkF m 74 #[.val (.int i0), .val (.int i1), .val (.int i2), .val (.int i3), .val (.int i4), .val (.int fA), .val (.int tA), .val (.int md), .val (.ref oA), .val (.ref ib), .unset, .unset, .unset] [])
        refine Go.step (fun _ k => XS.goto X99.here hx rfl (pc0 := 74) (pc' := 88) rfl (hb hby at_74) (by decide) (by decide) k) ?_
        show Go p e below _ T99 (mkF m 88 #[.val (.int i0), .val (.int i1), .val (.int i2), .val (.int i3), .val (.int i4), .val (.int fA), .val (.int tA), .val (.int md), .val (.ref oA), .val (.ref ib), .unset, .unset, .unset] [])
        refine Go.step (fun _ k => XS.aload X99.here hx rfl (hb hby at_88) rfl rfl k) ?_
        show Go p e below _ T99 (mkF m 90 #[.val (.int i0), .val (.int i1), .val (.int i2), .val (.int i3), .val (.int i4), .val (.int fA), .val (.int tA), .val (.int md), .val (.ref oA), .val (.ref ib), .unset, .unset, .unset] [(.ref oA)])
        refine Go.step (fun _ k => XS.aload X99.here hx rfl (hb hby at_90) rfl rfl k) ?_
        show Go p e below _ T99 (mkF m 92 #[.val (.int i0), .val (.int i1), .val (.int i2), .val (.int i3), .val (.int i4), .val (.int fA), .val (.int tA), .val (.int md), .val (.ref oA), .val (.ref ib), .unset, .unset, .unset] [(.ref ib), (.ref oA)])
        obtain ⟨cq100, kq100, q100a, q100b, q100c⟩ := isOf hZ rfl E_oA
        obtain ⟨_, _, ⟨T100, L100, k100, n100⟩, -, X100, ⟨Lc100, hQ100, l100, y100, z100⟩, st100⟩ := X99.virtualBack hx (y := (⟨"com/example/vigilant_crawler/vigilantcrawler/model/WordSpan", "equals", "(Ljava/lang/Object;)Z"⟩ : MethodName)) (z := (⟨"com/example/vigilant_crawler/vigilantcrawler/model/WordSpan", "equals", "(Ljava/lang/Object;)Z"⟩ : MethodName)) hown (mvT hZ (hw _ (List.mem_of_getElem? (i := 20) rfl))) (mvT hZ (hw _ (List.mem_of_getElem? (i := 21) rfl))) (notFace_of_selects (args := #[]) (mvT hZ (hw _ (List.mem_of_getElem? (i := 23) rfl)))) (mvT hZ (hw _ (List.mem_of_getElem? (i := 23) rfl))) (mvT hZ (hw _ (List.mem_of_getElem? (i := 22) rfl))) (by decide) (backOf (W := 0) (rmEf l Z a0 hw [] oA ib "java/lang/Integer" T99.heap n0 Zn E_ib noI) hZ (hw _ (List.mem_of_getElem? (i := 24) rfl)) (hw _ (List.mem_of_getElem? (i := 9) rfl)) (by decide) (by decide)) q100a q100c (g := (mkF m 92 #[.val (.int i0), .val (.int i1), .val (.int i2), .val (.int i3), .val (.int i4), .val (.int fA), .val (.int tA), .val (.int md), .val (.ref oA), .val (.ref ib), .unset, .unset, .unset] [(.ref ib), (.ref oA)])) rfl (by rw [hml]; rfl) (Steps.refl _) (argsL := [(.ref ib)]) (rest := []) (lenOf own_f115 rfl) rfl (by show 2 * 0 + _ ≤ _; exact Nat.le_of_eq rfl) (hb hby at_92) (fun _ _ => ⟨rfl, rfl, (by dsimp only [Pt.cells, Pt.slots]; decide), (by dsimp only [Pt.cells, Pt.slots]; decide)⟩)
        dsimp only [Pt.U, Pt.locs, Pt.cells, Pt.slots] at X100 l100 y100 z100 st100 hQ100
        subst l100 y100 z100
        obtain ⟨rfl, N100q, e100⟩ := hQ100
        have N100 := Fr.app N99 N100q
        refine Go.step (fun _ k => st100.trans k) ?_
        show Go p e below _ T100 (mkF m 95 #[.val (.int i0), .val (.int i1), .val (.int i2), .val (.int i3), .val (.int i4), .val (.int fA), .val (.int tA), .val (.int md), .val (.ref oA), .val (.ref ib), .unset, .unset, .unset] [(.int (0 : Int32))])
        refine Go.step (fun _ k => XS.ifNo X100.here hx rfl (hb hby at_95) rfl ((if0 _ _).trans (teq rfl).2) k) ?_
        show Go p e below _ T100 (mkF m 98 #[.val (.int i0), .val (.int i1), .val (.int i2), .val (.int i3), .val (.int i4), .val (.int fA), .val (.int tA), .val (.int md), .val (.ref oA), .val (.ref ib), .unset, .unset, .unset] [])
        refine Go.step (fun _ k => XS.aload X100.here hx rfl (hb hby at_98) rfl rfl k) ?_
        show Go p e below _ T100 (mkF m 100 #[.val (.int i0), .val (.int i1), .val (.int i2), .val (.int i3), .val (.int i4), .val (.int fA), .val (.int tA), .val (.int md), .val (.ref oA), .val (.ref ib), .unset, .unset, .unset] [(.ref oA)])
        refine Go.step (fun _ k => XS.aload X100.here hx rfl (hb hby at_100) rfl rfl k) ?_
        show Go p e below _ T100 (mkF m 102 #[.val (.int i0), .val (.int i1), .val (.int i2), .val (.int i3), .val (.int i4), .val (.int fA), .val (.int tA), .val (.int md), .val (.ref oA), .val (.ref ib), .unset, .unset, .unset] [(.ref oA), (.ref oA)])
        obtain ⟨cq101, kq101, q101a, q101b, q101c⟩ := isOf hZ e100 E_oA
        obtain ⟨_, _, ⟨T101, L101, k101, n101⟩, -, X101, ⟨Lc101, hQ101, l101, y101, z101⟩, st101⟩ := X100.virtualBack hx (y := (⟨"com/example/vigilant_crawler/vigilantcrawler/model/WordSpan", "equals", "(Ljava/lang/Object;)Z"⟩ : MethodName)) (z := (⟨"com/example/vigilant_crawler/vigilantcrawler/model/WordSpan", "equals", "(Ljava/lang/Object;)Z"⟩ : MethodName)) hown (mvT hZ (hw _ (List.mem_of_getElem? (i := 20) rfl))) (mvT hZ (hw _ (List.mem_of_getElem? (i := 21) rfl))) (notFace_of_selects (args := #[]) (mvT hZ (hw _ (List.mem_of_getElem? (i := 23) rfl)))) (mvT hZ (hw _ (List.mem_of_getElem? (i := 23) rfl))) (mvT hZ (hw _ (List.mem_of_getElem? (i := 22) rfl))) (by decide) (backOf (W := 0) (rmE l Z a0 hw [] oA oA fA tA fA tA T99.heap n0 Zn F_from_oA F_to_oA E_oA F_from_oA F_to_oA) hZ (hw _ (List.mem_of_getElem? (i := 24) rfl)) (hw _ (List.mem_of_getElem? (i := 9) rfl)) (by decide) (by decide)) q101a q101c (g := (mkF m 102 #[.val (.int i0), .val (.int i1), .val (.int i2), .val (.int i3), .val (.int i4), .val (.int fA), .val (.int tA), .val (.int md), .val (.ref oA), .val (.ref ib), .unset, .unset, .unset] [(.ref oA), (.ref oA)])) rfl (by rw [hml]; rfl) (Steps.refl _) (argsL := [(.ref oA)]) (rest := []) (lenOf own_f115 rfl) rfl (by show 2 * 0 + _ ≤ _; exact Nat.le_of_eq rfl) (hb hby at_102) (fun _ _ => ⟨rfl, e100, (by dsimp only [Pt.cells, Pt.slots]; decide), (by dsimp only [Pt.cells, Pt.slots]; decide)⟩)
        dsimp only [Pt.U, Pt.locs, Pt.cells, Pt.slots] at X101 l101 y101 z101 st101 hQ101
        subst l101 y101 z101
        obtain ⟨rfl, N101q, e101⟩ := hQ101
        have N101 := Fr.app N100 N101q
        refine Go.step (fun _ k => st101.trans k) ?_
        show Go p e below _ T101 (mkF m 105 #[.val (.int i0), .val (.int i1), .val (.int i2), .val (.int i3), .val (.int i4), .val (.int fA), .val (.int tA), .val (.int md), .val (.ref oA), .val (.ref ib), .unset, .unset, .unset] [(.int (own_eq fA tA fA tA))])
        refine Go.step (fun _ k => XS.ifNo X101.here hx rfl (hb hby at_105) rfl ((if0 _ _).trans (feq (own_eqS _ _)).1) k) ?_
        show Go p e below _ T101 (mkF m 108 #[.val (.int i0), .val (.int i1), .val (.int i2), .val (.int i3), .val (.int i4), .val (.int fA), .val (.int tA), .val (.int md), .val (.ref oA), .val (.ref ib), .unset, .unset, .unset] [])
        refine Go.step (fun _ k => XS.iconst X101.here hx rfl (hb hby at_108) k) ?_
        show Go p e below _ T101 (mkF m 109 #[.val (.int i0), .val (.int i1), .val (.int i2), .val (.int i3), .val (.int i4), .val (.int fA), .val (.int tA), .val (.int md), .val (.ref oA), .val (.ref ib), .unset, .unset, .unset] [(.int (1 : Int32))])
        refine Go.step (fun _ k => XS.goto X101.here hx rfl (pc0 := 109) (pc' := 113) rfl (hb hby at_109) (by decide) (by decide) k) ?_
        show Go p e below _ T101 (mkF m 113 #[.val (.int i0), .val (.int i1), .val (.int i2), .val (.int i3), .val (.int i4), .val (.int fA), .val (.int tA), .val (.int md), .val (.ref oA), .val (.ref ib), .unset, .unset, .unset] [(.int (1 : Int32))])
        obtain ⟨fs, hr, hrun, hended, hW, hsame⟩ := X101.leave (v := some (.int (1 : Int32))) (fun h => by rw [Bd.returns] at h; cases h)
        refine Go.fin (retN X101 hx (t := .boolean) Bd.returns (by simp) (hb hby at_113) hr) hrun hended ?_
        refine ⟨_, _, rfl, ?_, ⟨_, rfl⟩, hW, hsame.mono (by decide) (by decide)⟩
        show Q0 Z i0 i1 i2 i3 i4 kc aK cK h0 n0 _ T101.heap _
        rw [e101]
        exact ⟨rfl, N101⟩
      · show Go p e below _ T35 (mkF m 64 #[.val (.int i0), .val (.int i1), .val (.int i2), .val (.int i3), .val (.int i4), .val (.int fA), .val (.int tA), .val (.int md), .val (.ref oA), .unset, .unset, .unset, .unset] [(.int (6 : Int32)), (.int md)])
        refine Go.step (fun _ k => XS.icmpYes X35.here hx rfl (pc0 := 64) (pc' := 77) rfl (hb hby at_64) rfl (feq hc64_98).2 (by decide) (by decide) k) ?_
        show Go p e below _ T35 (mkF m 77 #[.val (.int i0), .val (.int i1), .val (.int i2), .val (.int i3), .val (.int i4), .val (.int fA), .val (.int tA), .val (.int md), .val (.ref oA), .unset, .unset, .unset, .unset] [])
        refine Go.step (fun _ k => XS.iloadN X35.here hx rfl (hb hby at_77) rfl k) ?_
        show Go p e below _ T35 (mkF m 78 #[.val (.int i0), .val (.int i1), .val (.int i2), .val (.int i3), .val (.int i4), .val (.int fA), .val (.int tA), .val (.int md), .val (.ref oA), .unset, .unset, .unset, .unset] [(.int i2)])
        refine Go.step (fun _ k => XS.sipush X35.here hx rfl (hb hby at_78) k) ?_
        show Go p e below _ T35 (mkF m 81 #[.val (.int i0), .val (.int i1), .val (.int i2), .val (.int i3), .val (.int i4), .val (.int fA), .val (.int tA), .val (.int md), .val (.ref oA), .unset, .unset, .unset, .unset] [(.int (255 : Int32)), (.int i2)])
        refine Go.step (fun _ k => XS.iand X35.here hx rfl (hb hby at_81) rfl k) ?_
        show Go p e below _ T35 (mkF m 82 #[.val (.int i0), .val (.int i1), .val (.int i2), .val (.int i3), .val (.int i4), .val (.int fA), .val (.int tA), .val (.int md), .val (.ref oA), .unset, .unset, .unset, .unset] [(.int (i2 &&& (255 : Int32)))])
        refine Go.step (fun _ k => XS.i2c X35.here hx rfl (hb hby at_82) rfl k) ?_
        show Go p e below _ T35 (mkF m 83 #[.val (.int i0), .val (.int i1), .val (.int i2), .val (.int i3), .val (.int i4), .val (.int fA), .val (.int tA), .val (.int md), .val (.ref oA), .unset, .unset, .unset, .unset] [(.int ((i2 &&& (255 : Int32)).toUInt32.toUInt16.toUInt32.toInt32))])
        obtain ⟨_, _, ⟨T102, L102, k102, n102⟩, -, X102, ⟨Lc102, hQ102, l102, y102, z102⟩, st102⟩ := Jvm.LawKit.callS X35 hx (y := (⟨"java/lang/String", "valueOf", "(C)Ljava/lang/String;"⟩ : MethodName)) hown (mvT hZ (hw _ (List.mem_of_getElem? (i := 27) rfl))) (mvT hZ (hw _ (List.mem_of_getElem? (i := 28) rfl))) (mvT hZ (hw _ (List.mem_of_getElem? (i := 29) rfl))) (mvT hZ (hw _ (List.mem_of_getElem? (i := 30) rfl))) (by decide) (backOf (W := 0) (rmSV l Z a0 hw [] ((i2 &&& (255 : Int32)).toUInt32.toUInt16.toUInt32.toInt32) kc T35.heap n0 Zn (SC.ext Od.2) hkc (own_chr i2)) hZ (hw _ (List.mem_of_getElem? (i := 30) rfl)) (hw _ (List.mem_of_getElem? (i := 29) rfl)) (by decide) (by decide)) (g := (mkF m 83 #[.val (.int i0), .val (.int i1), .val (.int i2), .val (.int i3), .val (.int i4), .val (.int fA), .val (.int tA), .val (.int md), .val (.ref oA), .unset, .unset, .unset, .unset] [(.int ((i2 &&& (255 : Int32)).toUInt32.toUInt16.toUInt32.toInt32))])) rfl (by rw [hml]; rfl) (argsL := [(.int ((i2 &&& (255 : Int32)).toUInt32.toUInt16.toUInt32.toInt32))]) (rest := []) (lenOf own_f117 rfl) rfl (by show 2 * 0 + _ ≤ _; exact Nat.le_of_eq rfl) (hb hby at_83) (fun _ _ => ⟨rfl, rfl, (by dsimp only [Pt.cells, Pt.slots]; decide), (by dsimp only [Pt.cells, Pt.slots]; decide)⟩)
        dsimp only [Pt.U, Pt.locs, Pt.cells, Pt.slots] at X102 l102 y102 z102 st102 hQ102
        subst l102 y102 z102
        obtain ⟨sb, rfl, N102q, K102, E_sb⟩ := hQ102
        have N102 := Fr.app N35 N102q
        refine Go.step (st102) ?_
        replace Od := Od.keep K102 all0
        replace E_oA := E_oA.keep K102
        replace F_from_oA := F_from_oA.keep K102 nin0
        replace F_to_oA := F_to_oA.keep K102 nin0
        replace K0 := K0.trans K102 (all0)
        replace Zn := Nat.le_trans Zn K102.1
        show Go p e below _ T102 (mkF m 86 #[.val (.int i0), .val (.int i1), .val (.int i2), .val (.int i3), .val (.int i4), .val (.int fA), .val (.int tA), .val (.int md), .val (.ref oA), .unset, .unset, .unset, .unset] [(.ref sb)])
        refine Go.step (fun _ k => XS.astore X102.here hx rfl (hb hby at_86) rfl rfl (l' := #[.val (.int i0), .val (.int i1), .val (.int i2), .val (.int i3), .val (.int i4), .val (.int fA), .val (.int tA), .val (.int md), .val (.ref oA), .val (.ref sb), .unset, .unset, .unset]) rfl k) ?_
        show Go p e below _ T102 (mkF m 88 #[.val (.int i0), .val (.int i1), .val (.int i2), .val (.int i3), .val (.int i4), .val (.int fA), .val (.int tA), .val (.int md), .val (.ref oA), .val (.ref sb), .unset, .unset, .unset] [])
        refine Go.step (fun _ k => XS.aload X102.here hx rfl (hb hby at_88) rfl rfl k) ?_
        show Go p e below _ T102 (mkF m 90 #[.val (.int i0), .val (.int i1), .val (.int i2), .val (.int i3), .val (.int i4), .val (.int fA), .val (.int tA), .val (.int md), .val (.ref oA), .val (.ref sb), .unset, .unset, .unset] [(.ref oA)])
        refine Go.step (fun _ k => XS.aload X102.here hx rfl (hb hby at_90) rfl rfl k) ?_
        show Go p e below _ T102 (mkF m 92 #[.val (.int i0), .val (.int i1), .val (.int i2), .val (.int i3), .val (.int i4), .val (.int fA), .val (.int tA), .val (.int md), .val (.ref oA), .val (.ref sb), .unset, .unset, .unset] [(.ref sb), (.ref oA)])
        obtain ⟨cq103, kq103, q103a, q103b, q103c⟩ := isOf hZ rfl E_oA
        obtain ⟨_, _, ⟨T103, L103, k103, n103⟩, -, X103, ⟨Lc103, hQ103, l103, y103, z103⟩, st103⟩ := X102.virtualBack hx (y := (⟨"com/example/vigilant_crawler/vigilantcrawler/model/WordSpan", "equals", "(Ljava/lang/Object;)Z"⟩ : MethodName)) (z := (⟨"com/example/vigilant_crawler/vigilantcrawler/model/WordSpan", "equals", "(Ljava/lang/Object;)Z"⟩ : MethodName)) hown (mvT hZ (hw _ (List.mem_of_getElem? (i := 20) rfl))) (mvT hZ (hw _ (List.mem_of_getElem? (i := 21) rfl))) (notFace_of_selects (args := #[]) (mvT hZ (hw _ (List.mem_of_getElem? (i := 23) rfl)))) (mvT hZ (hw _ (List.mem_of_getElem? (i := 23) rfl))) (mvT hZ (hw _ (List.mem_of_getElem? (i := 22) rfl))) (by decide) (backOf (W := 0) (rmEf l Z a0 hw [] oA sb "java/lang/String" T102.heap n0 Zn E_sb noS) hZ (hw _ (List.mem_of_getElem? (i := 24) rfl)) (hw _ (List.mem_of_getElem? (i := 9) rfl)) (by decide) (by decide)) q103a q103c (g := (mkF m 92 #[.val (.int i0), .val (.int i1), .val (.int i2), .val (.int i3), .val (.int i4), .val (.int fA), .val (.int tA), .val (.int md), .val (.ref oA), .val (.ref sb), .unset, .unset, .unset] [(.ref sb), (.ref oA)])) rfl (by rw [hml]; rfl) (Steps.refl _) (argsL := [(.ref sb)]) (rest := []) (lenOf own_f115 rfl) rfl (by show 2 * 0 + _ ≤ _; exact Nat.le_of_eq rfl) (hb hby at_92) (fun _ _ => ⟨rfl, rfl, (by dsimp only [Pt.cells, Pt.slots]; decide), (by dsimp only [Pt.cells, Pt.slots]; decide)⟩)
        dsimp only [Pt.U, Pt.locs, Pt.cells, Pt.slots] at X103 l103 y103 z103 st103 hQ103
        subst l103 y103 z103
        obtain ⟨rfl, N103q, e103⟩ := hQ103
        have N103 := Fr.app N102 N103q
        refine Go.step (fun _ k => st103.trans k) ?_
        show Go p e below _ T103 (mkF m 95 #[.val (.int i0), .val (.int i1), .val (.int i2), .val (.int i3), .val (.int i4), .val (.int fA), .val (.int tA), .val (.int md), .val (.ref oA), .val (.ref sb), .unset, .unset, .unset] [(.int (0 : Int32))])
        refine Go.step (fun _ k => XS.ifNo X103.here hx rfl (hb hby at_95) rfl ((if0 _ _).trans (teq rfl).2) k) ?_
        show Go p e below _ T103 (mkF m 98 #[.val (.int i0), .val (.int i1), .val (.int i2), .val (.int i3), .val (.int i4), .val (.int fA), .val (.int tA), .val (.int md), .val (.ref oA), .val (.ref sb), .unset, .unset, .unset] [])
        refine Go.step (fun _ k => XS.aload X103.here hx rfl (hb hby at_98) rfl rfl k) ?_
        show Go p e below _ T103 (mkF m 100 #[.val (.int i0), .val (.int i1), .val (.int i2), .val (.int i3), .val (.int i4), .val (.int fA), .val (.int tA), .val (.int md), .val (.ref oA), .val (.ref sb), .unset, .unset, .unset] [(.ref oA)])
        refine Go.step (fun _ k => XS.aload X103.here hx rfl (hb hby at_100) rfl rfl k) ?_
        show Go p e below _ T103 (mkF m 102 #[.val (.int i0), .val (.int i1), .val (.int i2), .val (.int i3), .val (.int i4), .val (.int fA), .val (.int tA), .val (.int md), .val (.ref oA), .val (.ref sb), .unset, .unset, .unset] [(.ref oA), (.ref oA)])
        obtain ⟨cq104, kq104, q104a, q104b, q104c⟩ := isOf hZ e103 E_oA
        obtain ⟨_, _, ⟨T104, L104, k104, n104⟩, -, X104, ⟨Lc104, hQ104, l104, y104, z104⟩, st104⟩ := X103.virtualBack hx (y := (⟨"com/example/vigilant_crawler/vigilantcrawler/model/WordSpan", "equals", "(Ljava/lang/Object;)Z"⟩ : MethodName)) (z := (⟨"com/example/vigilant_crawler/vigilantcrawler/model/WordSpan", "equals", "(Ljava/lang/Object;)Z"⟩ : MethodName)) hown (mvT hZ (hw _ (List.mem_of_getElem? (i := 20) rfl))) (mvT hZ (hw _ (List.mem_of_getElem? (i := 21) rfl))) (notFace_of_selects (args := #[]) (mvT hZ (hw _ (List.mem_of_getElem? (i := 23) rfl)))) (mvT hZ (hw _ (List.mem_of_getElem? (i := 23) rfl))) (mvT hZ (hw _ (List.mem_of_getElem? (i := 22) rfl))) (by decide) (backOf (W := 0) (rmE l Z a0 hw [] oA oA fA tA fA tA T102.heap n0 Zn F_from_oA F_to_oA E_oA F_from_oA F_to_oA) hZ (hw _ (List.mem_of_getElem? (i := 24) rfl)) (hw _ (List.mem_of_getElem? (i := 9) rfl)) (by decide) (by decide)) q104a q104c (g := (mkF m 102 #[.val (.int i0), .val (.int i1), .val (.int i2), .val (.int i3), .val (.int i4), .val (.int fA), .val (.int tA), .val (.int md), .val (.ref oA), .val (.ref sb), .unset, .unset, .unset] [(.ref oA), (.ref oA)])) rfl (by rw [hml]; rfl) (Steps.refl _) (argsL := [(.ref oA)]) (rest := []) (lenOf own_f115 rfl) rfl (by show 2 * 0 + _ ≤ _; exact Nat.le_of_eq rfl) (hb hby at_102) (fun _ _ => ⟨rfl, e103, (by dsimp only [Pt.cells, Pt.slots]; decide), (by dsimp only [Pt.cells, Pt.slots]; decide)⟩)
        dsimp only [Pt.U, Pt.locs, Pt.cells, Pt.slots] at X104 l104 y104 z104 st104 hQ104
        subst l104 y104 z104
        obtain ⟨rfl, N104q, e104⟩ := hQ104
        have N104 := Fr.app N103 N104q
        refine Go.step (fun _ k => st104.trans k) ?_
        show Go p e below _ T104 (mkF m 105 #[.val (.int i0), .val (.int i1), .val (.int i2), .val (.int i3), .val (.int i4), .val (.int fA), .val (.int tA), .val (.int md), .val (.ref oA), .val (.ref sb), .unset, .unset, .unset] [(.int (own_eq fA tA fA tA))])
        refine Go.step (fun _ k => XS.ifNo X104.here hx rfl (hb hby at_105) rfl ((if0 _ _).trans (feq (own_eqS _ _)).1) k) ?_
        show Go p e below _ T104 (mkF m 108 #[.val (.int i0), .val (.int i1), .val (.int i2), .val (.int i3), .val (.int i4), .val (.int fA), .val (.int tA), .val (.int md), .val (.ref oA), .val (.ref sb), .unset, .unset, .unset] [])
        refine Go.step (fun _ k => XS.iconst X104.here hx rfl (hb hby at_108) k) ?_
        show Go p e below _ T104 (mkF m 109 #[.val (.int i0), .val (.int i1), .val (.int i2), .val (.int i3), .val (.int i4), .val (.int fA), .val (.int tA), .val (.int md), .val (.ref oA), .val (.ref sb), .unset, .unset, .unset] [(.int (1 : Int32))])
        refine Go.step (fun _ k => XS.goto X104.here hx rfl (pc0 := 109) (pc' := 113) rfl (hb hby at_109) (by decide) (by decide) k) ?_
        show Go p e below _ T104 (mkF m 113 #[.val (.int i0), .val (.int i1), .val (.int i2), .val (.int i3), .val (.int i4), .val (.int fA), .val (.int tA), .val (.int md), .val (.ref oA), .val (.ref sb), .unset, .unset, .unset] [(.int (1 : Int32))])
        obtain ⟨fs, hr, hrun, hended, hW, hsame⟩ := X104.leave (v := some (.int (1 : Int32))) (fun h => by rw [Bd.returns] at h; cases h)
        refine Go.fin (retN X104 hx (t := .boolean) Bd.returns (by simp) (hb hby at_113) hr) hrun hended ?_
        refine ⟨_, _, rfl, ?_, ⟨_, rfl⟩, hW, hsame.mono (by decide) (by decide)⟩
        show Q0 Z i0 i1 i2 i3 i4 kc aK cK h0 n0 _ T104.heap _
        rw [e104]
        exact ⟨rfl, N104⟩
set_option maxRecDepth 65536 in
set_option maxHeartbeats 40000000 in
theorem comes_1 {Post : Tables → Env → Array Value → State → Outcome → State → Prop} (hpost : ∀ tb e args s v u, (limb_1_1.after args s (.returned v) u = true ∧ limb_1_2.after args s (.returned v) u = true ∧ True) → FrameEnd s (.returned v) u (Jvm.fieldLocs frame_1_writes args s ++ Jvm.arrayLocs frame_1_arrays args s ++ Jvm.staticLocs frame_1_statics s) 16 128 → Post tb e args s (.returned v) u) :
    ArmFor flags0 classFile x code maxLocals ret World_1 tables_1 room_1 Calls_1 rest_1 Pre_1 Post := by
  intro l hfl _ _ p e ha hc hk s m args below hf hA hF happ hP
  obtain ⟨hcalls, hrest, hpre⟩ := hP
  obtain ⟨-, -, -, hnamed, -, -, -, hat⟩ := (Spec.applies_iff hf).mp happ
  obtain ⟨hg, hn⟩ := and_e (Cond.before_iff.mp (show (Jvm.Cond.and given_1 narrow_1).before args s = true from hpre))
  obtain ⟨hg1, hg2⟩ := and_e hg
  obtain ⟨hg3, hg4⟩ := and_e hg2
  obtain ⟨hg5, hg6⟩ := and_e hg4
  obtain ⟨hg7, hg8⟩ := and_e hg6
  obtain ⟨hg9, hg10⟩ := and_e hg8
  obtain ⟨w0, w1, w2, w3, w4, rfl⟩ : ∃ w0 w1 w2 w3 w4 : Value, args = #[w0, w1, w2, w3, w4] := by
    have hs : args.size = 5 := by simpa [Cond.value, given_1] using hg1
    obtain ⟨L⟩ := args
    match L, hs with
    | [w0, w1, w2, w3, w4], _ => exact ⟨w0, w1, w2, w3, w4, rfl⟩
  have hw := fun d (hd : d ∈ tables_1) => atoms_spec (ws := Jvm.Cond.code x code maxLocals ret :: tables_1) hat d (List.mem_cons_of_mem _ hd)
  have hfit : Fit s := fun {y c} hc i hi => by
    obtain ⟨ha, rfl⟩ := Array.getElem?_eq_some_iff.mp hc
    have q := List.all_eq_true.mp ((Array.all_eq_true_iff_forall_mem.mp hF) _ (Array.getElem_mem ha)) i (List.mem_range.mpr hi)
    simpa [Array.getElem?_eq_getElem hi] using q
  obtain ⟨i0, ei0⟩ := is_v hg3
  obtain rfl : w0 = (.int i0) := Option.some.inj ei0
  obtain ⟨i1, ei1⟩ := is_v hg5
  obtain rfl : w1 = (.int i1) := Option.some.inj ei1
  obtain ⟨i2, ei2⟩ := is_v hg7
  obtain rfl : w2 = (.int i2) := Option.some.inj ei2
  obtain ⟨i3, ei3⟩ := is_v hg9
  obtain rfl : w3 = (.int i3) := Option.some.inj ei3
  obtain ⟨i4, ei4⟩ := is_v hg10
  obtain rfl : w4 = (.int i4) := Option.some.inj ei4
  obtain ⟨hsets, -⟩ := atoms_of _ (rest_1_c_eq ▸ (show rest_1_c.before _ s = true from hrest))
  obtain ⟨kc, evC⟩ := is_v (Cond.before_iff.mp (hsets _ (List.mem_of_getElem? (i := 1) rfl)))
  have hkc : ¬ kc = (0 : Int32) := fun q => by
    have z := (Cond.before_iff.mp (hsets _ (List.mem_of_getElem? (i := 2) rfl)))
    simp [Cond.value, evC, Term.int_eval, q] at z
  have SC := Sta.start evC (Or.inl (hsets _ (List.mem_of_getElem? (i := 0) rfl)))
  have evH := eqv_i (Term.int_eval (127 : Int32)) (Cond.before_iff.mp (hsets _ (List.mem_of_getElem? (i := 12) rfl)))
  have SH := Sta.start evH (Or.inl (hsets _ (List.mem_of_getElem? (i := 10) rfl)))
  obtain ⟨aK, evK⟩ := arr_v (Cond.before_iff.mp (hsets _ (List.mem_of_getElem? (i := 13) rfl)))
  obtain ⟨cK, AK⟩ := Arr.start evK (Cond.before_iff.mp (hsets _ (List.mem_of_getElem? (i := 13) rfl)))
  obtain ⟨lK, mK⟩ := own_lenS evK AK (Cond.before_iff.mp (hsets _ (List.mem_of_getElem? (i := 15) rfl)))
  have SK := Sta.start evK (Or.inr ⟨(hw _ (List.mem_of_getElem? (i := 58) rfl)), (hsets _ (List.mem_of_getElem? (i := 11) rfl))⟩)
  have BX : Bxs s aK cK "java/lang/Integer" "I" (256 : Int32) own_bv := Bxs.start (fun _ => evK) AK lK mK (by decide) (Cond.before_iff.mp (hsets _ (List.mem_of_getElem? (i := 16) rfl))) (fun X j nn q => eqv_i (own_ix nn) q)
  obtain ⟨n, o, h1, h2, h3, _, L, rfl, ⟨rfl, N⟩, hq⟩ := rm0 l s _ hw tables_1 i0 i1 i2 i3 i4 kc aK cK s.heap s.heap.size (Nat.le_refl _) SC hkc SH SK BX (Old.start s) p e ha hc hk s m _ below hf ((Spec.applies_iff_loose hf).mp happ).1 ⟨rfl, State.Warmed39.refl s, rfl⟩ trivial
  refine ⟨n, _, h1, h2, h3, hpost _ _ _ _ _ _ ⟨Cond.after_iff.mpr rfl, Cond.after_iff.mpr (eq_i res_at (Term.int_eval (1)) rfl), trivial⟩ ⟨hq.1, hq.2.1, (hq.2.2.sift fun y hy => Or.inr (N y hy)).mono (by decide) (by decide)⟩⟩
theorem main_1_1 : Claimed_1_1 := comes_1 fun _ _ _ _ _ _ h hF => ⟨h.1, hF⟩
theorem main_1_2 : Claimed_1_2 := comes_1 fun _ _ _ _ _ _ h hF => ⟨h.2.1, hF⟩
end Jvm.Pilot.@@N@@
namespace Jvm.Pilot.@@N@@
open Jvm Jvm.ClassFile Sem Op Lib Jvm.Free Jvm.Stand Jvm.Pilot.@@N@@.Jvm.D
/-! MADE BY PROGRAM (witnessworld.py) out of the Statement's table words and the real class files: 21 classes; the members and pool entries that the words name. The judged class is class 1, her method 2. -/
namespace start1
open Jvm.ClassFile
def u (s : String) : CpInfo := .utf8 (stringToUtf16 s)
/-- a pool by its gaps: so many unusable entries, then the entry; so many at the end -/
def gap : Nat → List CpInfo → List CpInfo
  | 0, r => r
  | n + 1, r => .unusable :: gap n r
def poolList (es : List (Nat × CpInfo)) (last : Nat) : List CpInfo := es.foldr (fun e r => gap e.1 (e.2 :: r)) (gap last [])
def pool (es : List (Nat × CpInfo)) (last : Nat) : Array CpInfo := ⟨poolList es last⟩
def fileOf (pool : Array CpInfo) (this : Nat) (attrs : Array Attribute := #[]) (ms : Array MethodInfo := #[]) (fl : Nat := 33) (sup : Nat := 0) (ifs : Array Nat := #[]) (fds : Array FieldInfo := #[]) : ClassFile where
  minorVersion := 0
  majorVersion := 65
  constantPool := pool
  accessFlags := fl
  thisClass := this
  superClass := sup
  interfaces := ifs
  fields := fds
  methods := ms
  attributes := attrs
def plain (name : String) (sup : Option ClassId) : Class where
  name := name
  kind := .ordinary
  loader := none
  accessFlags := 33
  super := sup
  interfaces := #[]
  cf := none
  fields := #[]
  methods := #[]
  instanceTypes := #[]
  staticTypes := #[]
  resolved := #[]
  callSites := []
  init := .initialized
  statics := none
  mirror := none

def pool0 : Array CpInfo := pool [(5, u "<init>"), (0, u "()V"), (1, .class_ 10), (1, u "java/lang/Object")] 113

def k0c0 : Code := { maxStack := 0, maxLocals := 1, code := object_method_1_code, exceptionTable := #[], attributes := #[] }
def k0m0 : Method := { name := "<init>", desc := "()V", sig := { parameters := [], returnType := none }, accessFlags := 1, code := some k0c0 }
/-- java/lang/Object -/
def k0 : Class := { plain "java/lang/Object" none with
  accessFlags := 33
  interfaces := #[]
  cf := some (fileOf pool0 8 #[] #[{ accessFlags := 1, nameIndex := 5, descriptorIndex := 6, attributes := #[] }] 33 0 #[] #[])
  fields := #[]
  methods := #[k0m0]
  instanceTypes := #[]
  staticTypes := #[]
  resolved := Array.replicate 124 none
  statics := none }

def pool1 : Array CpInfo := pool [(2, .class_ 4), (1, u "java/lang/Object"), (0, u "<init>"), (0, u "()V"), (0, .long 2147483647), (1, .integer 2147483647), (0, .long 2147483648), (1, .methodref 13 14), (0, .class_ 15), (0, .nameAndType 16 17), (0, u "com/example/vigilant_crawler/vigilantcrawler/model/WordSpanEqualsPinLaw"), (0, u "below"), (0, u "(IJ)I"), (0, .class_ 19), (0, u "com/example/vigilant_crawler/vigilantcrawler/model/WordSpan"), (0, .methodref 18 21), (0, .nameAndType 5 22), (0, u "(II)V"), (0, .methodref 24 25), (0, .class_ 26), (0, .nameAndType 27 28), (0, u "java/lang/Integer"), (0, u "valueOf"), (0, u "(I)Ljava/lang/Integer;"), (0, .methodref 30 31), (0, .class_ 32), (0, .nameAndType 27 33), (0, u "java/lang/String"), (0, u "(C)Ljava/lang/String;"), (0, .methodref 18 35), (0, .nameAndType 36 37), (0, u "equals"), (0, u "(Ljava/lang/Object;)Z"), (2, u "law"), (0, u "(IIIII)Z")] 3

def k1m0 : Method := { name := "<init>", desc := "()V", sig := { parameters := [], returnType := none }, accessFlags := 1, code := none }
def k1c1 : Code := { maxStack := 4, maxLocals := 3, code := method_2_code, exceptionTable := #[], attributes := #[] }
def k1m1 : Method := { name := "below", desc := "(IJ)I", sig := { parameters := [.int, .long], returnType := some .int }, accessFlags := 10, code := some k1c1 }
def k1c2 : Code := { maxStack := 6, maxLocals := 13, code := code, exceptionTable := #[], attributes := #[] }
def k1m2 : Method := { name := "law", desc := "(IIIII)Z", sig := { parameters := [.int, .int, .int, .int, .int], returnType := some .boolean }, accessFlags := 9, code := some k1c2 }
/-- com/example/vigilant_crawler/vigilantcrawler/model/WordSpanEqualsPinLaw -/
def k1 : Class := { plain "com/example/vigilant_crawler/vigilantcrawler/model/WordSpanEqualsPinLaw" (some 0) with
  accessFlags := 49
  interfaces := #[]
  cf := some (fileOf pool1 13 #[] #[{ accessFlags := 1, nameIndex := 5, descriptorIndex := 6, attributes := #[] }, { accessFlags := 10, nameIndex := 16, descriptorIndex := 17, attributes := #[] }, { accessFlags := 9, nameIndex := 40, descriptorIndex := 41, attributes := #[] }] 49 2 #[] #[])
  fields := #[]
  methods := #[k1m0, k1m1, k1m2]
  instanceTypes := #[]
  staticTypes := #[]
  resolved := Array.replicate 45 none
  statics := none }

def pool2 : Array CpInfo := pool [(1, .methodref 2 3), (0, .class_ 4), (0, .nameAndType 5 6), (0, u "java/lang/Object"), (0, u "<init>"), (0, u "()V"), (9, .fieldref 17 18), (0, .class_ 19), (0, .nameAndType 20 21), (0, u "com/example/vigilant_crawler/vigilantcrawler/model/WordSpan"), (0, u "from"), (0, u "I"), (0, .fieldref 17 23), (0, .nameAndType 24 21), (0, u "to"), (1, u "(II)V"), (5, u "equals"), (0, u "(Ljava/lang/Object;)Z")] 22

def k2c0 : Code := { maxStack := 4, maxLocals := 3, code := prog_26_method_1_code, exceptionTable := #[], attributes := #[] }
def k2m0 : Method := { name := "<init>", desc := "(II)V", sig := { parameters := [.int, .int], returnType := none }, accessFlags := 1, code := some k2c0 }
def k2c1 : Code := { maxStack := 2, maxLocals := 2, code := prog_26_method_5_code, exceptionTable := #[], attributes := #[] }
def k2m1 : Method := { name := "equals", desc := "(Ljava/lang/Object;)Z", sig := { parameters := [(.object "java/lang/Object")], returnType := some .boolean }, accessFlags := 1, code := some k2c1 }
/-- com/example/vigilant_crawler/vigilantcrawler/model/WordSpan -/
def k2 : Class := { plain "com/example/vigilant_crawler/vigilantcrawler/model/WordSpan" (some 0) with
  accessFlags := 33
  interfaces := #[]
  cf := some (fileOf pool2 17 #[] #[{ accessFlags := 1, nameIndex := 5, descriptorIndex := 26, attributes := #[] }, { accessFlags := 1, nameIndex := 32, descriptorIndex := 33, attributes := #[] }] 33 2 #[] #[{ accessFlags := 18, nameIndex := 20, descriptorIndex := 21, attributes := #[] }, { accessFlags := 18, nameIndex := 24, descriptorIndex := 21, attributes := #[] }])
  fields := #[{ name := "from", type := .int, accessFlags := 18, slot := 0, constantValue := 0 }, { name := "to", type := .int, accessFlags := 18, slot := 1, constantValue := 0 }]
  methods := #[k2m0, k2m1]
  instanceTypes := #[.int, .int]
  staticTypes := #[]
  resolved := Array.replicate 56 none
  statics := none }

def pool3 : Array CpInfo := pool [(1, .class_ 2), (0, u "java/io/Serializable"), (0, .class_ 4), (0, u "java/lang/Object")] 2

/-- java/io/Serializable -/
def k3 : Class := { plain "java/io/Serializable" (some 0) with
  accessFlags := 1537
  interfaces := #[]
  cf := some (fileOf pool3 1 #[] #[] 1537 3 #[] #[])
  fields := #[]
  methods := #[]
  instanceTypes := #[]
  staticTypes := #[]
  resolved := Array.replicate 7 none
  statics := none }

def pool4 : Array CpInfo := pool [(1, .class_ 2), (0, u "java/lang/Comparable"), (0, .class_ 4), (0, u "java/lang/Object")] 7

/-- java/lang/Comparable -/
def k4 : Class := { plain "java/lang/Comparable" (some 0) with
  accessFlags := 1537
  interfaces := #[]
  cf := some (fileOf pool4 1 #[] #[] 1537 3 #[] #[])
  fields := #[]
  methods := #[]
  instanceTypes := #[]
  staticTypes := #[]
  resolved := Array.replicate 12 none
  statics := none }

def pool5 : Array CpInfo := pool [(2, .class_ 4), (1, u "java/lang/CharSequence"), (42, .class_ 48), (0, u "java/lang/CharSequence$1CodePointIterator"), (10, .class_ 60), (0, u "java/lang/CharSequence$1CharIterator"), (5, .class_ 67), (0, u "java/lang/Object")] 63

/-- java/lang/CharSequence -/
def k5 : Class := { plain "java/lang/CharSequence" (some 0) with
  accessFlags := 1537
  interfaces := #[]
  cf := some (fileOf pool5 2 #[.nestMembers #[47, 59]] #[] 1537 66 #[] #[])
  fields := #[]
  methods := #[]
  instanceTypes := #[]
  staticTypes := #[]
  resolved := Array.replicate 131 none
  statics := none }

def pool6 : Array CpInfo := pool [(1, .class_ 2), (0, u "java/lang/constant/Constable"), (0, .class_ 4), (0, u "java/lang/Object")] 6

/-- java/lang/constant/Constable -/
def k6 : Class := { plain "java/lang/constant/Constable" (some 0) with
  accessFlags := 1537
  interfaces := #[]
  cf := some (fileOf pool6 1 #[] #[] 1537 3 #[] #[])
  fields := #[]
  methods := #[]
  instanceTypes := #[]
  staticTypes := #[]
  resolved := Array.replicate 11 none
  statics := none }

def pool7 : Array CpInfo := pool [(1, .class_ 2), (0, u "java/lang/constant/ConstantDesc"), (0, .class_ 4), (0, u "java/lang/Object")] 32

/-- java/lang/constant/ConstantDesc -/
def k7 : Class := { plain "java/lang/constant/ConstantDesc" (some 0) with
  accessFlags := 1537
  interfaces := #[]
  cf := some (fileOf pool7 1 #[] #[] 1537 3 #[] #[])
  fields := #[]
  methods := #[]
  instanceTypes := #[]
  staticTypes := #[]
  resolved := Array.replicate 37 none
  statics := none }

def pool8 : Array CpInfo := pool [(1, .methodref 2 3), (0, .class_ 4), (0, .nameAndType 5 6), (0, u "java/lang/Object"), (0, u "<init>"), (0, u "()V"), (2, .fieldref 10 11), (0, .class_ 12), (0, .nameAndType 13 14), (0, u "java/lang/String"), (0, u "value"), (0, u "[B"), (0, .fieldref 10 16), (0, .nameAndType 17 18), (0, u "coder"), (0, u "B"), (2, u "hash"), (0, u "I"), (2, u "hashIsZero"), (0, u "Z"), (11, .fieldref 10 39), (0, .nameAndType 40 26), (0, u "COMPACT_STRINGS"), (12, u "toBytes"), (53, .class_ 109), (1, u "java/lang/StringLatin1"), (99, .methodref 10 210), (0, .nameAndType 5 211), (0, u "([BB)V"), (157, u "(C)Z"), (205, .class_ 576), (0, u "java/lang/CharSequence"), (22, u "CASE_INSENSITIVE_ORDER"), (0, u "Ljava/util/Comparator;"), (181, u "valueOf"), (0, u "(C)Ljava/lang/String;"), (231, .methodref 107 1016), (0, .nameAndType 1017 369), (0, u "canEncode"), (0, .methodref 107 1019), (0, .nameAndType 53 1020), (0, u "(C)[B"), (80, u "serialPersistentFields"), (0, u "[Ljava/io/ObjectStreamField;"), (0, .class_ 1104), (0, u "java/lang/String$CaseInsensitiveComparator"), (1, .class_ 1107), (0, u "java/io/Serializable"), (0, .class_ 1109), (0, u "java/lang/Comparable"), (0, .class_ 1111), (0, u "java/lang/constant/Constable"), (0, .class_ 1113), (0, u "java/lang/constant/ConstantDesc"), (2, u "serialVersionUID"), (0, u "J"), (3, u "REPL"), (0, u "C"), (2, u "LATIN1"), (1, u "UTF16")] 323

def k8m0 : Method := { name := "<init>", desc := "()V", sig := { parameters := [], returnType := none }, accessFlags := 1, code := none }
def k8c1 : Code := { maxStack := 4, maxLocals := 1, code := jdk_42_method_139_code, exceptionTable := #[], attributes := #[] }
def k8m1 : Method := { name := "valueOf", desc := "(C)Ljava/lang/String;", sig := { parameters := [.char], returnType := some (.object "java/lang/String") }, accessFlags := 9, code := some k8c1 }
def k8c2 : Code := { maxStack := 2, maxLocals := 3, code := jdk_42_method_151_code, exceptionTable := #[], attributes := #[] }
def k8m2 : Method := { name := "<init>", desc := "([BB)V", sig := { parameters := [(.array .byte), .byte], returnType := none }, accessFlags := 0, code := some k8c2 }
/-- java/lang/String -/
def k8 : Class := { plain "java/lang/String" (some 0) with
  accessFlags := 49
  interfaces := #[3, 4, 5, 6, 7]
  cf := some (fileOf pool8 10 #[.nestMembers #[1103]] #[{ accessFlags := 1, nameIndex := 5, descriptorIndex := 6, attributes := #[] }, { accessFlags := 9, nameIndex := 782, descriptorIndex := 783, attributes := #[] }, { accessFlags := 0, nameIndex := 5, descriptorIndex := 211, attributes := #[] }] 49 2 #[1106, 1108, 575, 1110, 1112] #[{ accessFlags := 18, nameIndex := 13, descriptorIndex := 14, attributes := #[] }, { accessFlags := 18, nameIndex := 17, descriptorIndex := 18, attributes := #[] }, { accessFlags := 2, nameIndex := 21, descriptorIndex := 22, attributes := #[] }, { accessFlags := 2, nameIndex := 25, descriptorIndex := 26, attributes := #[] }, { accessFlags := 26, nameIndex := 1116, descriptorIndex := 1117, attributes := #[] }, { accessFlags := 24, nameIndex := 40, descriptorIndex := 26, attributes := #[] }, { accessFlags := 26, nameIndex := 1101, descriptorIndex := 1102, attributes := #[] }, { accessFlags := 26, nameIndex := 1121, descriptorIndex := 1122, attributes := #[] }, { accessFlags := 25, nameIndex := 599, descriptorIndex := 600, attributes := #[] }, { accessFlags := 24, nameIndex := 1125, descriptorIndex := 18, attributes := #[] }, { accessFlags := 24, nameIndex := 1127, descriptorIndex := 18, attributes := #[] }])
  fields := #[{ name := "value", type := (.array .byte), accessFlags := 18, slot := 0, constantValue := 0 }, { name := "coder", type := .byte, accessFlags := 18, slot := 1, constantValue := 0 }, { name := "hash", type := .int, accessFlags := 2, slot := 2, constantValue := 0 }, { name := "hashIsZero", type := .boolean, accessFlags := 2, slot := 3, constantValue := 0 }, { name := "serialVersionUID", type := .long, accessFlags := 26, slot := 0, constantValue := 0 }, { name := "COMPACT_STRINGS", type := .boolean, accessFlags := 24, slot := 1, constantValue := 0 }, { name := "serialPersistentFields", type := (.array (.object "java/io/ObjectStreamField")), accessFlags := 26, slot := 2, constantValue := 0 }, { name := "REPL", type := .char, accessFlags := 26, slot := 3, constantValue := 0 }, { name := "CASE_INSENSITIVE_ORDER", type := (.object "java/util/Comparator"), accessFlags := 25, slot := 4, constantValue := 0 }, { name := "LATIN1", type := .byte, accessFlags := 24, slot := 5, constantValue := 0 }, { name := "UTF16", type := .byte, accessFlags := 24, slot := 6, constantValue := 0 }]
  methods := #[k8m0, k8m1, k8m2]
  instanceTypes := #[(.array .byte), .byte, .int, .boolean]
  staticTypes := #[.long, .boolean, (.array (.object "java/io/ObjectStreamField")), .char, (.object "java/util/Comparator"), .byte, .byte]
  resolved := Array.replicate 1451 none
  statics := some 0 }

def pool9 : Array CpInfo := pool [(4, .class_ 6), (1, u "java/lang/Object"), (0, u "<init>"), (0, u "()V"), (5, .class_ 16), (1, u "java/lang/StringLatin1"), (73, u "canEncode"), (14, u "(C)Z"), (15, u "$assertionsDisabled"), (0, u "Z"), (98, .class_ 223), (1, u "java/lang/StringLatin1$LinesSpliterator"), (156, u "toBytes"), (1, u "(C)[B"), (7, .class_ 391), (0, u "java/lang/StringLatin1$CharsSpliterator")] 3

def k9m0 : Method := { name := "<init>", desc := "()V", sig := { parameters := [], returnType := none }, accessFlags := 0, code := none }
def k9c1 : Code := { maxStack := 2, maxLocals := 1, code := jdk_43_method_3_code, exceptionTable := #[], attributes := #[] }
def k9m1 : Method := { name := "canEncode", desc := "(C)Z", sig := { parameters := [.char], returnType := some .boolean }, accessFlags := 9, code := some k9c1 }
def k9c2 : Code := { maxStack := 4, maxLocals := 1, code := jdk_43_method_46_code, exceptionTable := #[], attributes := #[] }
def k9m2 : Method := { name := "toBytes", desc := "(C)[B", sig := { parameters := [.char], returnType := some (.array .byte) }, accessFlags := 9, code := some k9c2 }
/-- java/lang/StringLatin1 -/
def k9 : Class := { plain "java/lang/StringLatin1" (some 0) with
  accessFlags := 48
  interfaces := #[]
  cf := some (fileOf pool9 14 #[.nestMembers #[390, 221]] #[{ accessFlags := 0, nameIndex := 7, descriptorIndex := 8, attributes := #[] }, { accessFlags := 9, nameIndex := 90, descriptorIndex := 105, attributes := #[] }, { accessFlags := 9, nameIndex := 380, descriptorIndex := 382, attributes := #[] }] 48 4 #[] #[{ accessFlags := 4120, nameIndex := 121, descriptorIndex := 122, attributes := #[] }])
  fields := #[{ name := "$assertionsDisabled", type := .boolean, accessFlags := 4120, slot := 0, constantValue := 0 }]
  methods := #[k9m0, k9m1, k9m2]
  instanceTypes := #[]
  staticTypes := #[.boolean]
  resolved := Array.replicate 395 none
  statics := none }

def pool10 : Array CpInfo := pool [(1, .methodref 2 3), (0, .class_ 4), (0, .nameAndType 5 6), (0, u "java/lang/Object"), (0, u "<init>"), (0, u "()V"), (1, .class_ 10), (1, u "java/lang/Number"), (2, .class_ 14), (0, u "java/io/Serializable"), (0, u "serialVersionUID"), (0, u "J")] 20

def k10c0 : Code := { maxStack := 1, maxLocals := 1, code := jdk_18_method_1_code, exceptionTable := #[], attributes := #[] }
def k10m0 : Method := { name := "<init>", desc := "()V", sig := { parameters := [], returnType := none }, accessFlags := 1, code := some k10c0 }
/-- java/lang/Number -/
def k10 : Class := { plain "java/lang/Number" (some 0) with
  accessFlags := 1057
  interfaces := #[3]
  cf := some (fileOf pool10 8 #[] #[{ accessFlags := 1, nameIndex := 5, descriptorIndex := 6, attributes := #[] }] 1057 2 #[13] #[{ accessFlags := 26, nameIndex := 15, descriptorIndex := 16, attributes := #[] }])
  fields := #[{ name := "serialVersionUID", type := .long, accessFlags := 26, slot := 0, constantValue := 0 }]
  methods := #[k10m0]
  instanceTypes := #[]
  staticTypes := #[.long]
  resolved := Array.replicate 37 none
  statics := none }

def pool11 : Array CpInfo := pool [(1, .class_ 2), (0, u "java/lang/Integer"), (16, u "digits"), (0, u "[C"), (46, u "<init>"), (17, u "DigitOnes"), (0, u "[B"), (2, u "DigitTens"), (10, .nameAndType 67 101), (0, u "()V"), (85, u "valueOf"), (0, u "(I)Ljava/lang/Integer;"), (0, .class_ 190), (0, u "java/lang/Integer$IntegerCache"), (0, .fieldref 189 192), (0, .nameAndType 193 194), (0, u "high"), (0, u "I"), (0, .fieldref 189 196), (0, .nameAndType 197 198), (0, u "cache"), (0, u "[Ljava/lang/Integer;"), (0, .methodref 1 200), (0, .nameAndType 67 201), (0, u "(I)V"), (0, .methodref 203 100), (0, .class_ 204), (0, u "java/lang/Number"), (0, .fieldref 1 206), (0, .nameAndType 207 194), (0, u "value"), (94, u "TYPE"), (0, u "Ljava/lang/Class;"), (0, .class_ 305), (0, u "java/lang/Comparable"), (0, .class_ 307), (0, u "java/lang/constant/Constable"), (0, .class_ 309), (0, u "java/lang/constant/ConstantDesc"), (0, u "MIN_VALUE"), (1, u "MAX_VALUE"), (3, u "SIZE"), (1, u "BYTES"), (1, u "serialVersionUID"), (0, u "J")] 131

def k11c0 : Code := { maxStack := 3, maxLocals := 1, code := jdk_33_method_22_code, exceptionTable := #[], attributes := #[] }
def k11m0 : Method := { name := "valueOf", desc := "(I)Ljava/lang/Integer;", sig := { parameters := [.int], returnType := some (.object "java/lang/Integer") }, accessFlags := 9, code := some k11c0 }
def k11c1 : Code := { maxStack := 2, maxLocals := 2, code := jdk_33_method_23_code, exceptionTable := #[], attributes := #[] }
def k11m1 : Method := { name := "<init>", desc := "(I)V", sig := { parameters := [.int], returnType := none }, accessFlags := 1, code := some k11c1 }
/-- java/lang/Integer -/
def k11 : Class := { plain "java/lang/Integer" (some 10) with
  accessFlags := 49
  interfaces := #[4, 6, 7]
  cf := some (fileOf pool11 1 #[.nestMembers #[189]] #[{ accessFlags := 9, nameIndex := 187, descriptorIndex := 188, attributes := #[] }, { accessFlags := 1, nameIndex := 67, descriptorIndex := 201, attributes := #[] }] 49 203 #[304, 306, 308] #[{ accessFlags := 25, nameIndex := 310, descriptorIndex := 194, attributes := #[] }, { accessFlags := 25, nameIndex := 312, descriptorIndex := 194, attributes := #[] }, { accessFlags := 25, nameIndex := 302, descriptorIndex := 303, attributes := #[] }, { accessFlags := 24, nameIndex := 19, descriptorIndex := 20, attributes := #[] }, { accessFlags := 24, nameIndex := 89, descriptorIndex := 86, attributes := #[] }, { accessFlags := 24, nameIndex := 85, descriptorIndex := 86, attributes := #[] }, { accessFlags := 18, nameIndex := 207, descriptorIndex := 194, attributes := #[] }, { accessFlags := 25, nameIndex := 316, descriptorIndex := 194, attributes := #[] }, { accessFlags := 25, nameIndex := 318, descriptorIndex := 194, attributes := #[] }, { accessFlags := 26, nameIndex := 320, descriptorIndex := 321, attributes := #[] }])
  fields := #[{ name := "MIN_VALUE", type := .int, accessFlags := 25, slot := 0, constantValue := 0 }, { name := "MAX_VALUE", type := .int, accessFlags := 25, slot := 1, constantValue := 0 }, { name := "TYPE", type := (.object "java/lang/Class"), accessFlags := 25, slot := 2, constantValue := 0 }, { name := "digits", type := (.array .char), accessFlags := 24, slot := 3, constantValue := 0 }, { name := "DigitTens", type := (.array .byte), accessFlags := 24, slot := 4, constantValue := 0 }, { name := "DigitOnes", type := (.array .byte), accessFlags := 24, slot := 5, constantValue := 0 }, { name := "value", type := .int, accessFlags := 18, slot := 0, constantValue := 0 }, { name := "SIZE", type := .int, accessFlags := 25, slot := 6, constantValue := 0 }, { name := "BYTES", type := .int, accessFlags := 25, slot := 7, constantValue := 0 }, { name := "serialVersionUID", type := .long, accessFlags := 26, slot := 8, constantValue := 0 }]
  methods := #[k11m0, k11m1]
  instanceTypes := #[.int]
  staticTypes := #[.int, .int, (.object "java/lang/Class"), (.array .char), (.array .byte), (.array .byte), .int, .int, .long]
  resolved := Array.replicate 453 none
  statics := none }

def pool12 : Array CpInfo := pool [(2, .class_ 4), (1, u "java/lang/Object"), (0, u "<init>"), (0, u "()V"), (0, .class_ 8), (0, u "java/lang/Integer"), (7, .class_ 18), (1, u "java/lang/Integer$IntegerCache"), (0, u "$assertionsDisabled"), (0, u "Z"), (26, u "high"), (0, u "I"), (8, u "archivedCache"), (0, u "[Ljava/lang/Integer;"), (12, u "cache"), (0, u "low")] 27

def k12m0 : Method := { name := "<init>", desc := "()V", sig := { parameters := [], returnType := none }, accessFlags := 2, code := none }
/-- java/lang/Integer$IntegerCache -/
def k12 : Class := { plain "java/lang/Integer$IntegerCache" (some 0) with
  accessFlags := 48
  interfaces := #[]
  cf := some (fileOf pool12 16 #[.nestHost 7] #[{ accessFlags := 2, nameIndex := 5, descriptorIndex := 6, attributes := #[] }] 48 2 #[] #[{ accessFlags := 24, nameIndex := 72, descriptorIndex := 48, attributes := #[] }, { accessFlags := 24, nameIndex := 47, descriptorIndex := 48, attributes := #[] }, { accessFlags := 24, nameIndex := 71, descriptorIndex := 58, attributes := #[] }, { accessFlags := 8, nameIndex := 57, descriptorIndex := 58, attributes := #[] }, { accessFlags := 4120, nameIndex := 19, descriptorIndex := 20, attributes := #[] }])
  fields := #[{ name := "low", type := .int, accessFlags := 24, slot := 0, constantValue := 0 }, { name := "high", type := .int, accessFlags := 24, slot := 1, constantValue := 0 }, { name := "cache", type := (.array (.object "java/lang/Integer")), accessFlags := 24, slot := 2, constantValue := 0 }, { name := "archivedCache", type := (.array (.object "java/lang/Integer")), accessFlags := 8, slot := 3, constantValue := 0 }, { name := "$assertionsDisabled", type := .boolean, accessFlags := 4120, slot := 4, constantValue := 0 }]
  methods := #[k12m0]
  instanceTypes := #[]
  staticTypes := #[.int, .int, (.array (.object "java/lang/Integer")), (.array (.object "java/lang/Integer")), .boolean]
  resolved := Array.replicate 100 none
  statics := some 1 }

def pool13 : Array CpInfo := pool [(2, .class_ 4), (1, u "java/lang/Object"), (0, u "<init>"), (0, u "()V"), (17, .class_ 26), (1, u "jdk/internal/util/Preconditions"), (28, .class_ 56), (0, u "jdk/internal/util/Preconditions$4"), (57, .class_ 115), (0, u "jdk/internal/util/Preconditions$1"), (7, u "SIOOBE_FORMATTER"), (0, u "Ljava/util/function/BiFunction;"), (0, .class_ 126), (0, u "jdk/internal/util/Preconditions$2"), (3, u "AIOOBE_FORMATTER"), (0, .class_ 132), (0, u "jdk/internal/util/Preconditions$3"), (3, u "IOOBE_FORMATTER")] 57

def k13m0 : Method := { name := "<init>", desc := "()V", sig := { parameters := [], returnType := none }, accessFlags := 1, code := none }
/-- jdk/internal/util/Preconditions -/
def k13 : Class := { plain "jdk/internal/util/Preconditions" (some 0) with
  accessFlags := 33
  interfaces := #[]
  cf := some (fileOf pool13 24 #[.nestMembers #[55, 131, 125, 114]] #[{ accessFlags := 1, nameIndex := 5, descriptorIndex := 6, attributes := #[] }] 33 2 #[] #[{ accessFlags := 25, nameIndex := 123, descriptorIndex := 124, attributes := #[] }, { accessFlags := 25, nameIndex := 130, descriptorIndex := 124, attributes := #[] }, { accessFlags := 25, nameIndex := 136, descriptorIndex := 124, attributes := #[] }])
  fields := #[{ name := "SIOOBE_FORMATTER", type := (.object "java/util/function/BiFunction"), accessFlags := 25, slot := 0, constantValue := 0 }, { name := "AIOOBE_FORMATTER", type := (.object "java/util/function/BiFunction"), accessFlags := 25, slot := 1, constantValue := 0 }, { name := "IOOBE_FORMATTER", type := (.object "java/util/function/BiFunction"), accessFlags := 25, slot := 2, constantValue := 0 }]
  methods := #[k13m0]
  instanceTypes := #[]
  staticTypes := #[(.object "java/util/function/BiFunction"), (.object "java/util/function/BiFunction"), (.object "java/util/function/BiFunction")]
  resolved := Array.replicate 194 none
  statics := some 2 }

def pool14 : Array CpInfo := pool [(9, u "<init>"), (6, .class_ 18), (1, u "java/lang/Object"), (0, u "()V"), (1, .class_ 23), (1, u "jdk/internal/util/ArraysSupport"), (0, u "LOG2_ARRAY_LONG_INDEX_SCALE"), (0, u "I"), (2, u "U"), (0, u "Ljdk/internal/misc/Unsafe;"), (8, u "BIG_ENDIAN"), (0, u "Z"), (8, u "LOG2_BYTE_BIT_SIZE"), (4, u "LOG2_ARRAY_INT_INDEX_SCALE"), (54, u "JLA"), (0, u "Ljdk/internal/access/JavaLangAccess;"), (11, u "LOG2_ARRAY_BOOLEAN_INDEX_SCALE"), (9, u "LOG2_ARRAY_BYTE_INDEX_SCALE"), (5, u "LOG2_ARRAY_CHAR_INDEX_SCALE"), (5, u "LOG2_ARRAY_SHORT_INDEX_SCALE"), (18, u "LOG2_ARRAY_FLOAT_INDEX_SCALE"), (24, u "LOG2_ARRAY_DOUBLE_INDEX_SCALE"), (89, u "T_BOOLEAN"), (2, u "T_CHAR"), (1, u "T_FLOAT"), (1, u "T_DOUBLE"), (1, u "T_BYTE"), (1, u "T_SHORT"), (1, u "T_INT"), (1, u "T_LONG"), (1, u "SOFT_MAX_ARRAY_LENGTH")] 83

def k14m0 : Method := { name := "<init>", desc := "()V", sig := { parameters := [], returnType := none }, accessFlags := 2, code := none }
/-- jdk/internal/util/ArraysSupport -/
def k14 : Class := { plain "jdk/internal/util/ArraysSupport" (some 0) with
  accessFlags := 33
  interfaces := #[]
  cf := some (fileOf pool14 21 #[] #[{ accessFlags := 2, nameIndex := 9, descriptorIndex := 19, attributes := #[] }] 33 16 #[] #[{ accessFlags := 24, nameIndex := 28, descriptorIndex := 29, attributes := #[] }, { accessFlags := 26, nameIndex := 38, descriptorIndex := 39, attributes := #[] }, { accessFlags := 25, nameIndex := 121, descriptorIndex := 25, attributes := #[] }, { accessFlags := 25, nameIndex := 131, descriptorIndex := 25, attributes := #[] }, { accessFlags := 25, nameIndex := 137, descriptorIndex := 25, attributes := #[] }, { accessFlags := 25, nameIndex := 143, descriptorIndex := 25, attributes := #[] }, { accessFlags := 25, nameIndex := 53, descriptorIndex := 25, attributes := #[] }, { accessFlags := 25, nameIndex := 24, descriptorIndex := 25, attributes := #[] }, { accessFlags := 25, nameIndex := 162, descriptorIndex := 25, attributes := #[] }, { accessFlags := 25, nameIndex := 187, descriptorIndex := 25, attributes := #[] }, { accessFlags := 26, nameIndex := 48, descriptorIndex := 25, attributes := #[] }, { accessFlags := 25, nameIndex := 277, descriptorIndex := 25, attributes := #[] }, { accessFlags := 25, nameIndex := 280, descriptorIndex := 25, attributes := #[] }, { accessFlags := 25, nameIndex := 282, descriptorIndex := 25, attributes := #[] }, { accessFlags := 25, nameIndex := 284, descriptorIndex := 25, attributes := #[] }, { accessFlags := 25, nameIndex := 286, descriptorIndex := 25, attributes := #[] }, { accessFlags := 25, nameIndex := 288, descriptorIndex := 25, attributes := #[] }, { accessFlags := 25, nameIndex := 290, descriptorIndex := 25, attributes := #[] }, { accessFlags := 25, nameIndex := 292, descriptorIndex := 25, attributes := #[] }, { accessFlags := 26, nameIndex := 108, descriptorIndex := 109, attributes := #[] }, { accessFlags := 25, nameIndex := 294, descriptorIndex := 25, attributes := #[] }])
  fields := #[{ name := "U", type := (.object "jdk/internal/misc/Unsafe"), accessFlags := 24, slot := 0, constantValue := 0 }, { name := "BIG_ENDIAN", type := .boolean, accessFlags := 26, slot := 1, constantValue := 0 }, { name := "LOG2_ARRAY_BOOLEAN_INDEX_SCALE", type := .int, accessFlags := 25, slot := 2, constantValue := 0 }, { name := "LOG2_ARRAY_BYTE_INDEX_SCALE", type := .int, accessFlags := 25, slot := 3, constantValue := 0 }, { name := "LOG2_ARRAY_CHAR_INDEX_SCALE", type := .int, accessFlags := 25, slot := 4, constantValue := 0 }, { name := "LOG2_ARRAY_SHORT_INDEX_SCALE", type := .int, accessFlags := 25, slot := 5, constantValue := 0 }, { name := "LOG2_ARRAY_INT_INDEX_SCALE", type := .int, accessFlags := 25, slot := 6, constantValue := 0 }, { name := "LOG2_ARRAY_LONG_INDEX_SCALE", type := .int, accessFlags := 25, slot := 7, constantValue := 0 }, { name := "LOG2_ARRAY_FLOAT_INDEX_SCALE", type := .int, accessFlags := 25, slot := 8, constantValue := 0 }, { name := "LOG2_ARRAY_DOUBLE_INDEX_SCALE", type := .int, accessFlags := 25, slot := 9, constantValue := 0 }, { name := "LOG2_BYTE_BIT_SIZE", type := .int, accessFlags := 26, slot := 10, constantValue := 0 }, { name := "T_BOOLEAN", type := .int, accessFlags := 25, slot := 11, constantValue := 0 }, { name := "T_CHAR", type := .int, accessFlags := 25, slot := 12, constantValue := 0 }, { name := "T_FLOAT", type := .int, accessFlags := 25, slot := 13, constantValue := 0 }, { name := "T_DOUBLE", type := .int, accessFlags := 25, slot := 14, constantValue := 0 }, { name := "T_BYTE", type := .int, accessFlags := 25, slot := 15, constantValue := 0 }, { name := "T_SHORT", type := .int, accessFlags := 25, slot := 16, constantValue := 0 }, { name := "T_INT", type := .int, accessFlags := 25, slot := 17, constantValue := 0 }, { name := "T_LONG", type := .int, accessFlags := 25, slot := 18, constantValue := 0 }, { name := "JLA", type := (.object "jdk/internal/access/JavaLangAccess"), accessFlags := 26, slot := 19, constantValue := 0 }, { name := "SOFT_MAX_ARRAY_LENGTH", type := .int, accessFlags := 25, slot := 20, constantValue := 0 }]
  methods := #[k14m0]
  instanceTypes := #[]
  staticTypes := #[(.object "jdk/internal/misc/Unsafe"), .boolean, .int, .int, .int, .int, .int, .int, .int, .int, .int, .int, .int, .int, .int, .int, .int, .int, .int, (.object "jdk/internal/access/JavaLangAccess"), .int]
  resolved := Array.replicate 378 none
  statics := none }

def pool15 : Array CpInfo := pool [(1, u "java/lang/Cloneable"), (0, .class_ 1), (0, u "java/lang/Object"), (0, .class_ 3)] 3

/-- java/lang/Cloneable -/
def k15 : Class := { plain "java/lang/Cloneable" (some 0) with
  accessFlags := 1537
  interfaces := #[]
  cf := some (fileOf pool15 2 #[] #[] 1537 4 #[] #[])
  fields := #[]
  methods := #[]
  instanceTypes := #[]
  staticTypes := #[]
  resolved := Array.replicate 8 none
  statics := none }

/-- the primitive byte -/
def k16 : Class := { plain "byte" none with kind := .primitive 'B', accessFlags := 0x411 }
/-- [B -/
def k17 : Class := { plain "[B" (some 0) with kind := .array 16 .byte, interfaces := #[15, 3], accessFlags := 1041 }

/-- the primitive int -/
def k18 : Class := { plain "int" none with kind := .primitive 'I', accessFlags := 0x411 }
/-- [I -/
def k19 : Class := { plain "[I" (some 0) with kind := .array 18 .int, interfaces := #[15, 3], accessFlags := 1041 }

/-- [Ljava/lang/Integer; -/
def k20 : Class := { plain "[Ljava/lang/Integer;" (some 0) with kind := .array 11 (.object "java/lang/Integer"), interfaces := #[15, 3], accessFlags := 1041 }

def heap : Heap := #[{ cls := 8, slots := #[.long 0, .int 1, .null, .int 0, .null, .int 0, .int 0], vm := .statics 8 },
  { cls := 12, slots := #[.int 0, .int 127, .ref 3, .null, .int 0], vm := .statics 12 },
  { cls := 13, slots := #[.null, .null, .null], vm := .statics 13 },
  { cls := 20, slots := #[.ref 4, .ref 5, .ref 6, .ref 7, .ref 8, .ref 9, .ref 10, .ref 11, .ref 12, .ref 13, .ref 14, .ref 15, .ref 16, .ref 17, .ref 18, .ref 19, .ref 20, .ref 21, .ref 22, .ref 23, .ref 24, .ref 25, .ref 26, .ref 27, .ref 28, .ref 29, .ref 30, .ref 31, .ref 32, .ref 33, .ref 34, .ref 35, .ref 36, .ref 37, .ref 38, .ref 39, .ref 40, .ref 41, .ref 42, .ref 43, .ref 44, .ref 45, .ref 46, .ref 47, .ref 48, .ref 49, .ref 50, .ref 51, .ref 52, .ref 53, .ref 54, .ref 55, .ref 56, .ref 57, .ref 58, .ref 59, .ref 60, .ref 61, .ref 62, .ref 63, .ref 64, .ref 65, .ref 66, .ref 67, .ref 68, .ref 69, .ref 70, .ref 71, .ref 72, .ref 73, .ref 74, .ref 75, .ref 76, .ref 77, .ref 78, .ref 79, .ref 80, .ref 81, .ref 82, .ref 83, .ref 84, .ref 85, .ref 86, .ref 87, .ref 88, .ref 89, .ref 90, .ref 91, .ref 92, .ref 93, .ref 94, .ref 95, .ref 96, .ref 97, .ref 98, .ref 99, .ref 100, .ref 101, .ref 102, .ref 103, .ref 104, .ref 105, .ref 106, .ref 107, .ref 108, .ref 109, .ref 110, .ref 111, .ref 112, .ref 113, .ref 114, .ref 115, .ref 116, .ref 117, .ref 118, .ref 119, .ref 120, .ref 121, .ref 122, .ref 123, .ref 124, .ref 125, .ref 126, .ref 127, .ref 128, .ref 129, .ref 130, .ref 131, .ref 132, .ref 133, .ref 134, .ref 135, .ref 136, .ref 137, .ref 138, .ref 139, .ref 140, .ref 141, .ref 142, .ref 143, .ref 144, .ref 145, .ref 146, .ref 147, .ref 148, .ref 149, .ref 150, .ref 151, .ref 152, .ref 153, .ref 154, .ref 155, .ref 156, .ref 157, .ref 158, .ref 159, .ref 160, .ref 161, .ref 162, .ref 163, .ref 164, .ref 165, .ref 166, .ref 167, .ref 168, .ref 169, .ref 170, .ref 171, .ref 172, .ref 173, .ref 174, .ref 175, .ref 176, .ref 177, .ref 178, .ref 179, .ref 180, .ref 181, .ref 182, .ref 183, .ref 184, .ref 185, .ref 186, .ref 187, .ref 188, .ref 189, .ref 190, .ref 191, .ref 192, .ref 193, .ref 194, .ref 195, .ref 196, .ref 197, .ref 198, .ref 199, .ref 200, .ref 201, .ref 202, .ref 203, .ref 204, .ref 205, .ref 206, .ref 207, .ref 208, .ref 209, .ref 210, .ref 211, .ref 212, .ref 213, .ref 214, .ref 215, .ref 216, .ref 217, .ref 218, .ref 219, .ref 220, .ref 221, .ref 222, .ref 223, .ref 224, .ref 225, .ref 226, .ref 227, .ref 228, .ref 229, .ref 230, .ref 231, .ref 232, .ref 233, .ref 234, .ref 235, .ref 236, .ref 237, .ref 238, .ref 239, .ref 240, .ref 241, .ref 242, .ref 243, .ref 244, .ref 245, .ref 246, .ref 247, .ref 248, .ref 249, .ref 250, .ref 251, .ref 252, .ref 253, .ref 254, .ref 255, .ref 256, .ref 257, .ref 258, .ref 259], vm := .none },
  { cls := 11, slots := #[.int (-128)], vm := .none },
  { cls := 11, slots := #[.int (-127)], vm := .none },
  { cls := 11, slots := #[.int (-126)], vm := .none },
  { cls := 11, slots := #[.int (-125)], vm := .none },
  { cls := 11, slots := #[.int (-124)], vm := .none },
  { cls := 11, slots := #[.int (-123)], vm := .none },
  { cls := 11, slots := #[.int (-122)], vm := .none },
  { cls := 11, slots := #[.int (-121)], vm := .none },
  { cls := 11, slots := #[.int (-120)], vm := .none },
  { cls := 11, slots := #[.int (-119)], vm := .none },
  { cls := 11, slots := #[.int (-118)], vm := .none },
  { cls := 11, slots := #[.int (-117)], vm := .none },
  { cls := 11, slots := #[.int (-116)], vm := .none },
  { cls := 11, slots := #[.int (-115)], vm := .none },
  { cls := 11, slots := #[.int (-114)], vm := .none },
  { cls := 11, slots := #[.int (-113)], vm := .none },
  { cls := 11, slots := #[.int (-112)], vm := .none },
  { cls := 11, slots := #[.int (-111)], vm := .none },
  { cls := 11, slots := #[.int (-110)], vm := .none },
  { cls := 11, slots := #[.int (-109)], vm := .none },
  { cls := 11, slots := #[.int (-108)], vm := .none },
  { cls := 11, slots := #[.int (-107)], vm := .none },
  { cls := 11, slots := #[.int (-106)], vm := .none },
  { cls := 11, slots := #[.int (-105)], vm := .none },
  { cls := 11, slots := #[.int (-104)], vm := .none },
  { cls := 11, slots := #[.int (-103)], vm := .none },
  { cls := 11, slots := #[.int (-102)], vm := .none },
  { cls := 11, slots := #[.int (-101)], vm := .none },
  { cls := 11, slots := #[.int (-100)], vm := .none },
  { cls := 11, slots := #[.int (-99)], vm := .none },
  { cls := 11, slots := #[.int (-98)], vm := .none },
  { cls := 11, slots := #[.int (-97)], vm := .none },
  { cls := 11, slots := #[.int (-96)], vm := .none },
  { cls := 11, slots := #[.int (-95)], vm := .none },
  { cls := 11, slots := #[.int (-94)], vm := .none },
  { cls := 11, slots := #[.int (-93)], vm := .none },
  { cls := 11, slots := #[.int (-92)], vm := .none },
  { cls := 11, slots := #[.int (-91)], vm := .none },
  { cls := 11, slots := #[.int (-90)], vm := .none },
  { cls := 11, slots := #[.int (-89)], vm := .none },
  { cls := 11, slots := #[.int (-88)], vm := .none },
  { cls := 11, slots := #[.int (-87)], vm := .none },
  { cls := 11, slots := #[.int (-86)], vm := .none },
  { cls := 11, slots := #[.int (-85)], vm := .none },
  { cls := 11, slots := #[.int (-84)], vm := .none },
  { cls := 11, slots := #[.int (-83)], vm := .none },
  { cls := 11, slots := #[.int (-82)], vm := .none },
  { cls := 11, slots := #[.int (-81)], vm := .none },
  { cls := 11, slots := #[.int (-80)], vm := .none },
  { cls := 11, slots := #[.int (-79)], vm := .none },
  { cls := 11, slots := #[.int (-78)], vm := .none },
  { cls := 11, slots := #[.int (-77)], vm := .none },
  { cls := 11, slots := #[.int (-76)], vm := .none },
  { cls := 11, slots := #[.int (-75)], vm := .none },
  { cls := 11, slots := #[.int (-74)], vm := .none },
  { cls := 11, slots := #[.int (-73)], vm := .none },
  { cls := 11, slots := #[.int (-72)], vm := .none },
  { cls := 11, slots := #[.int (-71)], vm := .none },
  { cls := 11, slots := #[.int (-70)], vm := .none },
  { cls := 11, slots := #[.int (-69)], vm := .none },
  { cls := 11, slots := #[.int (-68)], vm := .none },
  { cls := 11, slots := #[.int (-67)], vm := .none },
  { cls := 11, slots := #[.int (-66)], vm := .none },
  { cls := 11, slots := #[.int (-65)], vm := .none },
  { cls := 11, slots := #[.int (-64)], vm := .none },
  { cls := 11, slots := #[.int (-63)], vm := .none },
  { cls := 11, slots := #[.int (-62)], vm := .none },
  { cls := 11, slots := #[.int (-61)], vm := .none },
  { cls := 11, slots := #[.int (-60)], vm := .none },
  { cls := 11, slots := #[.int (-59)], vm := .none },
  { cls := 11, slots := #[.int (-58)], vm := .none },
  { cls := 11, slots := #[.int (-57)], vm := .none },
  { cls := 11, slots := #[.int (-56)], vm := .none },
  { cls := 11, slots := #[.int (-55)], vm := .none },
  { cls := 11, slots := #[.int (-54)], vm := .none },
  { cls := 11, slots := #[.int (-53)], vm := .none },
  { cls := 11, slots := #[.int (-52)], vm := .none },
  { cls := 11, slots := #[.int (-51)], vm := .none },
  { cls := 11, slots := #[.int (-50)], vm := .none },
  { cls := 11, slots := #[.int (-49)], vm := .none },
  { cls := 11, slots := #[.int (-48)], vm := .none },
  { cls := 11, slots := #[.int (-47)], vm := .none },
  { cls := 11, slots := #[.int (-46)], vm := .none },
  { cls := 11, slots := #[.int (-45)], vm := .none },
  { cls := 11, slots := #[.int (-44)], vm := .none },
  { cls := 11, slots := #[.int (-43)], vm := .none },
  { cls := 11, slots := #[.int (-42)], vm := .none },
  { cls := 11, slots := #[.int (-41)], vm := .none },
  { cls := 11, slots := #[.int (-40)], vm := .none },
  { cls := 11, slots := #[.int (-39)], vm := .none },
  { cls := 11, slots := #[.int (-38)], vm := .none },
  { cls := 11, slots := #[.int (-37)], vm := .none },
  { cls := 11, slots := #[.int (-36)], vm := .none },
  { cls := 11, slots := #[.int (-35)], vm := .none },
  { cls := 11, slots := #[.int (-34)], vm := .none },
  { cls := 11, slots := #[.int (-33)], vm := .none },
  { cls := 11, slots := #[.int (-32)], vm := .none },
  { cls := 11, slots := #[.int (-31)], vm := .none },
  { cls := 11, slots := #[.int (-30)], vm := .none },
  { cls := 11, slots := #[.int (-29)], vm := .none },
  { cls := 11, slots := #[.int (-28)], vm := .none },
  { cls := 11, slots := #[.int (-27)], vm := .none },
  { cls := 11, slots := #[.int (-26)], vm := .none },
  { cls := 11, slots := #[.int (-25)], vm := .none },
  { cls := 11, slots := #[.int (-24)], vm := .none },
  { cls := 11, slots := #[.int (-23)], vm := .none },
  { cls := 11, slots := #[.int (-22)], vm := .none },
  { cls := 11, slots := #[.int (-21)], vm := .none },
  { cls := 11, slots := #[.int (-20)], vm := .none },
  { cls := 11, slots := #[.int (-19)], vm := .none },
  { cls := 11, slots := #[.int (-18)], vm := .none },
  { cls := 11, slots := #[.int (-17)], vm := .none },
  { cls := 11, slots := #[.int (-16)], vm := .none },
  { cls := 11, slots := #[.int (-15)], vm := .none },
  { cls := 11, slots := #[.int (-14)], vm := .none },
  { cls := 11, slots := #[.int (-13)], vm := .none },
  { cls := 11, slots := #[.int (-12)], vm := .none },
  { cls := 11, slots := #[.int (-11)], vm := .none },
  { cls := 11, slots := #[.int (-10)], vm := .none },
  { cls := 11, slots := #[.int (-9)], vm := .none },
  { cls := 11, slots := #[.int (-8)], vm := .none },
  { cls := 11, slots := #[.int (-7)], vm := .none },
  { cls := 11, slots := #[.int (-6)], vm := .none },
  { cls := 11, slots := #[.int (-5)], vm := .none },
  { cls := 11, slots := #[.int (-4)], vm := .none },
  { cls := 11, slots := #[.int (-3)], vm := .none },
  { cls := 11, slots := #[.int (-2)], vm := .none },
  { cls := 11, slots := #[.int (-1)], vm := .none },
  { cls := 11, slots := #[.int (0)], vm := .none },
  { cls := 11, slots := #[.int (1)], vm := .none },
  { cls := 11, slots := #[.int (2)], vm := .none },
  { cls := 11, slots := #[.int (3)], vm := .none },
  { cls := 11, slots := #[.int (4)], vm := .none },
  { cls := 11, slots := #[.int (5)], vm := .none },
  { cls := 11, slots := #[.int (6)], vm := .none },
  { cls := 11, slots := #[.int (7)], vm := .none },
  { cls := 11, slots := #[.int (8)], vm := .none },
  { cls := 11, slots := #[.int (9)], vm := .none },
  { cls := 11, slots := #[.int (10)], vm := .none },
  { cls := 11, slots := #[.int (11)], vm := .none },
  { cls := 11, slots := #[.int (12)], vm := .none },
  { cls := 11, slots := #[.int (13)], vm := .none },
  { cls := 11, slots := #[.int (14)], vm := .none },
  { cls := 11, slots := #[.int (15)], vm := .none },
  { cls := 11, slots := #[.int (16)], vm := .none },
  { cls := 11, slots := #[.int (17)], vm := .none },
  { cls := 11, slots := #[.int (18)], vm := .none },
  { cls := 11, slots := #[.int (19)], vm := .none },
  { cls := 11, slots := #[.int (20)], vm := .none },
  { cls := 11, slots := #[.int (21)], vm := .none },
  { cls := 11, slots := #[.int (22)], vm := .none },
  { cls := 11, slots := #[.int (23)], vm := .none },
  { cls := 11, slots := #[.int (24)], vm := .none },
  { cls := 11, slots := #[.int (25)], vm := .none },
  { cls := 11, slots := #[.int (26)], vm := .none },
  { cls := 11, slots := #[.int (27)], vm := .none },
  { cls := 11, slots := #[.int (28)], vm := .none },
  { cls := 11, slots := #[.int (29)], vm := .none },
  { cls := 11, slots := #[.int (30)], vm := .none },
  { cls := 11, slots := #[.int (31)], vm := .none },
  { cls := 11, slots := #[.int (32)], vm := .none },
  { cls := 11, slots := #[.int (33)], vm := .none },
  { cls := 11, slots := #[.int (34)], vm := .none },
  { cls := 11, slots := #[.int (35)], vm := .none },
  { cls := 11, slots := #[.int (36)], vm := .none },
  { cls := 11, slots := #[.int (37)], vm := .none },
  { cls := 11, slots := #[.int (38)], vm := .none },
  { cls := 11, slots := #[.int (39)], vm := .none },
  { cls := 11, slots := #[.int (40)], vm := .none },
  { cls := 11, slots := #[.int (41)], vm := .none },
  { cls := 11, slots := #[.int (42)], vm := .none },
  { cls := 11, slots := #[.int (43)], vm := .none },
  { cls := 11, slots := #[.int (44)], vm := .none },
  { cls := 11, slots := #[.int (45)], vm := .none },
  { cls := 11, slots := #[.int (46)], vm := .none },
  { cls := 11, slots := #[.int (47)], vm := .none },
  { cls := 11, slots := #[.int (48)], vm := .none },
  { cls := 11, slots := #[.int (49)], vm := .none },
  { cls := 11, slots := #[.int (50)], vm := .none },
  { cls := 11, slots := #[.int (51)], vm := .none },
  { cls := 11, slots := #[.int (52)], vm := .none },
  { cls := 11, slots := #[.int (53)], vm := .none },
  { cls := 11, slots := #[.int (54)], vm := .none },
  { cls := 11, slots := #[.int (55)], vm := .none },
  { cls := 11, slots := #[.int (56)], vm := .none },
  { cls := 11, slots := #[.int (57)], vm := .none },
  { cls := 11, slots := #[.int (58)], vm := .none },
  { cls := 11, slots := #[.int (59)], vm := .none },
  { cls := 11, slots := #[.int (60)], vm := .none },
  { cls := 11, slots := #[.int (61)], vm := .none },
  { cls := 11, slots := #[.int (62)], vm := .none },
  { cls := 11, slots := #[.int (63)], vm := .none },
  { cls := 11, slots := #[.int (64)], vm := .none },
  { cls := 11, slots := #[.int (65)], vm := .none },
  { cls := 11, slots := #[.int (66)], vm := .none },
  { cls := 11, slots := #[.int (67)], vm := .none },
  { cls := 11, slots := #[.int (68)], vm := .none },
  { cls := 11, slots := #[.int (69)], vm := .none },
  { cls := 11, slots := #[.int (70)], vm := .none },
  { cls := 11, slots := #[.int (71)], vm := .none },
  { cls := 11, slots := #[.int (72)], vm := .none },
  { cls := 11, slots := #[.int (73)], vm := .none },
  { cls := 11, slots := #[.int (74)], vm := .none },
  { cls := 11, slots := #[.int (75)], vm := .none },
  { cls := 11, slots := #[.int (76)], vm := .none },
  { cls := 11, slots := #[.int (77)], vm := .none },
  { cls := 11, slots := #[.int (78)], vm := .none },
  { cls := 11, slots := #[.int (79)], vm := .none },
  { cls := 11, slots := #[.int (80)], vm := .none },
  { cls := 11, slots := #[.int (81)], vm := .none },
  { cls := 11, slots := #[.int (82)], vm := .none },
  { cls := 11, slots := #[.int (83)], vm := .none },
  { cls := 11, slots := #[.int (84)], vm := .none },
  { cls := 11, slots := #[.int (85)], vm := .none },
  { cls := 11, slots := #[.int (86)], vm := .none },
  { cls := 11, slots := #[.int (87)], vm := .none },
  { cls := 11, slots := #[.int (88)], vm := .none },
  { cls := 11, slots := #[.int (89)], vm := .none },
  { cls := 11, slots := #[.int (90)], vm := .none },
  { cls := 11, slots := #[.int (91)], vm := .none },
  { cls := 11, slots := #[.int (92)], vm := .none },
  { cls := 11, slots := #[.int (93)], vm := .none },
  { cls := 11, slots := #[.int (94)], vm := .none },
  { cls := 11, slots := #[.int (95)], vm := .none },
  { cls := 11, slots := #[.int (96)], vm := .none },
  { cls := 11, slots := #[.int (97)], vm := .none },
  { cls := 11, slots := #[.int (98)], vm := .none },
  { cls := 11, slots := #[.int (99)], vm := .none },
  { cls := 11, slots := #[.int (100)], vm := .none },
  { cls := 11, slots := #[.int (101)], vm := .none },
  { cls := 11, slots := #[.int (102)], vm := .none },
  { cls := 11, slots := #[.int (103)], vm := .none },
  { cls := 11, slots := #[.int (104)], vm := .none },
  { cls := 11, slots := #[.int (105)], vm := .none },
  { cls := 11, slots := #[.int (106)], vm := .none },
  { cls := 11, slots := #[.int (107)], vm := .none },
  { cls := 11, slots := #[.int (108)], vm := .none },
  { cls := 11, slots := #[.int (109)], vm := .none },
  { cls := 11, slots := #[.int (110)], vm := .none },
  { cls := 11, slots := #[.int (111)], vm := .none },
  { cls := 11, slots := #[.int (112)], vm := .none },
  { cls := 11, slots := #[.int (113)], vm := .none },
  { cls := 11, slots := #[.int (114)], vm := .none },
  { cls := 11, slots := #[.int (115)], vm := .none },
  { cls := 11, slots := #[.int (116)], vm := .none },
  { cls := 11, slots := #[.int (117)], vm := .none },
  { cls := 11, slots := #[.int (118)], vm := .none },
  { cls := 11, slots := #[.int (119)], vm := .none },
  { cls := 11, slots := #[.int (120)], vm := .none },
  { cls := 11, slots := #[.int (121)], vm := .none },
  { cls := 11, slots := #[.int (122)], vm := .none },
  { cls := 11, slots := #[.int (123)], vm := .none },
  { cls := 11, slots := #[.int (124)], vm := .none },
  { cls := 11, slots := #[.int (125)], vm := .none },
  { cls := 11, slots := #[.int (126)], vm := .none },
  { cls := 11, slots := #[.int (127)], vm := .none }]
def classes : Array Class := #[k0, k1, k2, k3, k4, k5, k6, k7, k8, k9, k10, k11, k12, k13, k14, k15, k16, k17, k18, k19, k20]
def interned : List (Array UInt16 × Addr) := []
def slotsUsed : Nat := 527
def theMethod : MethodId := ⟨1, 2⟩
def args0 : Array Value := #[.int 5, .int 7, .int 14, .int 3, .int 4]
def aboutOver (below : List Frame) : State where
  vm := { classes := classes, interned := interned.toArray }
  heap := heap
  slotsUsed := slotsUsed
  threads := #[{ frames := .invoking theMethod args0 :: below }]
def below0 : List Frame := [.native { method := ⟨0, 0⟩, args := #[] }]
def about1 : State := aboutOver below0
def p0 : Program := .bare "" "" ""
def e0 : Env := launch0.env 0 0 0
theorem w_frames : about1.frames = Frame.invoking theMethod args0 :: below0 := rfl
set_option maxRecDepth 65536 in
theorem w_args : argsFit about1.vm theMethod args0 = true := by decide +kernel
set_option maxRecDepth 65536 in
theorem w_heap : heapFits about1 = true := by decide +kernel
set_option maxRecDepth 65536 in
theorem w_runnable : about1.curStatus? = some .runnable := by decide +kernel
set_option maxRecDepth 65536 in
theorem w_alone : about1.alone = true := by decide +kernel
set_option maxRecDepth 65536 in
theorem w_named : about1.methodNamed? x = some theMethod := by decide +kernel
set_option maxRecDepth 65536 in
theorem w_hears : about1.hears theMethod below0 = true := by decide +kernel
set_option maxRecDepth 65536 in
theorem w_ripe : about1.ripe theMethod args0 below0 = true := by decide +kernel
theorem w_running : about1.status = .running := rfl
set_option maxRecDepth 65536 in
theorem w_room : about1.hasRoom e0.platform room_1 = true :=
  launch0.hasRoom_least _ room_1 (by decide +kernel) (by decide +kernel) (by decide +kernel) (by decide +kernel) (by decide +kernel) (by decide +kernel)
theorem allAtoms_all (ts : List Jvm.Cond) (a : Array Jvm.Value) (st : Jvm.State) : (allAtoms ts).before a st = ts.all (fun c => c.before a st) := by
  induction ts with
  | nil => rfl
  | cons c t ih =>
    show (Jvm.Cond.and c (allAtoms t)).before a st = _
    rw [Jvm.Cond.before_and, ih, List.all_cons]
def words1 : List Jvm.Cond := Jvm.Cond.code x code maxLocals ret :: tables_1
/-- a 'code' word, met by the world's own term for the bytes: nothing is compared byte by byte -/
theorem code_word {y : MethodName} {bytes : ByteArray} {mx : Nat} {rt : Option FieldType} {a : Array Value} {s : State} {m : MethodId} {meth : Method} {c : Code} (h1 : s.methodNamed? y = some m) (h2 : s.vm.method? m = some meth) (h3 : meth.code = some c) (h4 : c.code = bytes)
    (h5 : (c.maxLocals == mx && c.exceptionTable.isEmpty && decide (c.maxStack ≤ mostOperands) && decide (meth.sig.returnType = rt) && !meth.locks && decide (parseMethodDescriptor y.desc = some meth.sig)) = true) : (Jvm.Cond.code y bytes mx rt).before a s = true := by
  simp only [Bool.and_eq_true, beq_iff_eq, Bool.not_eq_true', decide_eq_true_eq] at h5
  obtain ⟨⟨⟨⟨⟨g1, g2⟩, g3⟩, g4⟩, g5⟩, g6⟩ := h5
  simp [Cond.before, Cond.holds, Cond.value, h1, h2, h3, h4, g1, g2, g3, g4, g5, g6]
def isCode : Jvm.Cond → Bool
  | .code _ _ _ _ => true
  | _ => false
theorem all_split {L : List Jvm.Cond} {P : Jvm.Cond → Bool} (h1 : L.all (fun c => isCode c || P c) = true) (h2 : ∀ c ∈ L.filter isCode, P c = true) : L.all P = true := by
  refine List.all_eq_true.mpr fun c hc => ?_
  have h := List.all_eq_true.mp h1 c hc
  rcases Bool.eq_false_or_eq_true (isCode c) with hi | hi
  · exact h2 c (List.mem_filter.mpr ⟨hc, hi⟩)
  · simpa [hi] using h
set_option maxRecDepth 65536 in
theorem w_c0 : (Jvm.Cond.code x code maxLocals ret).before args0 about1 = true := code_word (m := ⟨1, 2⟩) (meth := k1m2) (c := k1c2) (by decide +kernel) rfl rfl rfl (by decide +kernel)
set_option maxRecDepth 65536 in
theorem w_c1 : (Jvm.Cond.code ({ cls := "com/example/vigilant_crawler/vigilantcrawler/model/WordSpanEqualsPinLaw", name := "below", desc := "(IJ)I" } : Jvm.MethodName) method_2_code (3 : Nat) (Option.some Jvm.ClassFile.FieldType.int)).before args0 about1 = true := code_word (m := ⟨1, 1⟩) (meth := k1m1) (c := k1c1) (by decide +kernel) rfl rfl rfl (by decide +kernel)
set_option maxRecDepth 65536 in
theorem w_c2 : (Jvm.Cond.code ({ cls := "com/example/vigilant_crawler/vigilantcrawler/model/WordSpan", name := "<init>", desc := "(II)V" } : Jvm.MethodName) prog_26_method_1_code (3 : Nat) (Option.none : Option Jvm.ClassFile.FieldType)).before args0 about1 = true := code_word (m := ⟨2, 0⟩) (meth := k2m0) (c := k2c0) (by decide +kernel) rfl rfl rfl (by decide +kernel)
set_option maxRecDepth 65536 in
theorem w_c3 : (Jvm.Cond.code ({ cls := "java/lang/Object", name := "<init>", desc := "()V" } : Jvm.MethodName) object_method_1_code (1 : Nat) (Option.none : Option Jvm.ClassFile.FieldType)).before args0 about1 = true := code_word (m := ⟨0, 0⟩) (meth := k0m0) (c := k0c0) (by decide +kernel) rfl rfl rfl (by decide +kernel)
set_option maxRecDepth 65536 in
theorem w_c4 : (Jvm.Cond.code ({ cls := "com/example/vigilant_crawler/vigilantcrawler/model/WordSpan", name := "equals", desc := "(Ljava/lang/Object;)Z" } : Jvm.MethodName) prog_26_method_5_code (2 : Nat) (Option.some Jvm.ClassFile.FieldType.boolean)).before args0 about1 = true := code_word (m := ⟨2, 1⟩) (meth := k2m1) (c := k2c1) (by decide +kernel) rfl rfl rfl (by decide +kernel)
set_option maxRecDepth 65536 in
theorem w_c5 : (Jvm.Cond.code ({ cls := "java/lang/String", name := "valueOf", desc := "(C)Ljava/lang/String;" } : Jvm.MethodName) jdk_42_method_139_code (1 : Nat) (Option.some (Jvm.ClassFile.FieldType.object "java/lang/String"))).before args0 about1 = true := code_word (m := ⟨8, 1⟩) (meth := k8m1) (c := k8c1) (by decide +kernel) rfl rfl rfl (by decide +kernel)
set_option maxRecDepth 65536 in
theorem w_c6 : (Jvm.Cond.code ({ cls := "java/lang/StringLatin1", name := "canEncode", desc := "(C)Z" } : Jvm.MethodName) jdk_43_method_3_code (1 : Nat) (Option.some Jvm.ClassFile.FieldType.boolean)).before args0 about1 = true := code_word (m := ⟨9, 1⟩) (meth := k9m1) (c := k9c1) (by decide +kernel) rfl rfl rfl (by decide +kernel)
set_option maxRecDepth 65536 in
theorem w_c7 : (Jvm.Cond.code ({ cls := "java/lang/StringLatin1", name := "toBytes", desc := "(C)[B" } : Jvm.MethodName) jdk_43_method_46_code (1 : Nat) (Option.some (Jvm.ClassFile.FieldType.array Jvm.ClassFile.FieldType.byte))).before args0 about1 = true := code_word (m := ⟨9, 2⟩) (meth := k9m2) (c := k9c2) (by decide +kernel) rfl rfl rfl (by decide +kernel)
set_option maxRecDepth 65536 in
theorem w_c8 : (Jvm.Cond.code ({ cls := "java/lang/String", name := "<init>", desc := "([BB)V" } : Jvm.MethodName) jdk_42_method_151_code (3 : Nat) (Option.none : Option Jvm.ClassFile.FieldType)).before args0 about1 = true := code_word (m := ⟨8, 2⟩) (meth := k8m2) (c := k8c2) (by decide +kernel) rfl rfl rfl (by decide +kernel)
set_option maxRecDepth 65536 in
theorem w_c9 : (Jvm.Cond.code ({ cls := "java/lang/Integer", name := "valueOf", desc := "(I)Ljava/lang/Integer;" } : Jvm.MethodName) jdk_33_method_22_code (1 : Nat) (Option.some (Jvm.ClassFile.FieldType.object "java/lang/Integer"))).before args0 about1 = true := code_word (m := ⟨11, 0⟩) (meth := k11m0) (c := k11c0) (by decide +kernel) rfl rfl rfl (by decide +kernel)
set_option maxRecDepth 65536 in
theorem w_c10 : (Jvm.Cond.code ({ cls := "java/lang/Integer", name := "<init>", desc := "(I)V" } : Jvm.MethodName) jdk_33_method_23_code (2 : Nat) (Option.none : Option Jvm.ClassFile.FieldType)).before args0 about1 = true := code_word (m := ⟨11, 1⟩) (meth := k11m1) (c := k11c1) (by decide +kernel) rfl rfl rfl (by decide +kernel)
set_option maxRecDepth 65536 in
theorem w_c11 : (Jvm.Cond.code ({ cls := "java/lang/Number", name := "<init>", desc := "()V" } : Jvm.MethodName) jdk_18_method_1_code (1 : Nat) (Option.none : Option Jvm.ClassFile.FieldType)).before args0 about1 = true := code_word (m := ⟨10, 0⟩) (meth := k10m0) (c := k10c0) (by decide +kernel) rfl rfl rfl (by decide +kernel)
def codes1 : List Jvm.Cond := [Jvm.Cond.code x code maxLocals ret, Jvm.Cond.code ({ cls := "com/example/vigilant_crawler/vigilantcrawler/model/WordSpanEqualsPinLaw", name := "below", desc := "(IJ)I" } : Jvm.MethodName) method_2_code (3 : Nat) (Option.some Jvm.ClassFile.FieldType.int), Jvm.Cond.code ({ cls := "com/example/vigilant_crawler/vigilantcrawler/model/WordSpan", name := "<init>", desc := "(II)V" } : Jvm.MethodName) prog_26_method_1_code (3 : Nat) (Option.none : Option Jvm.ClassFile.FieldType), Jvm.Cond.code ({ cls := "java/lang/Object", name := "<init>", desc := "()V" } : Jvm.MethodName) object_method_1_code (1 : Nat) (Option.none : Option Jvm.ClassFile.FieldType), Jvm.Cond.code ({ cls := "com/example/vigilant_crawler/vigilantcrawler/model/WordSpan", name := "equals", desc := "(Ljava/lang/Object;)Z" } : Jvm.MethodName) prog_26_method_5_code (2 : Nat) (Option.some Jvm.ClassFile.FieldType.boolean), Jvm.Cond.code ({ cls := "java/lang/String", name := "valueOf", desc := "(C)Ljava/lang/String;" } : Jvm.MethodName) jdk_42_method_139_code (1 : Nat) (Option.some (Jvm.ClassFile.FieldType.object "java/lang/String")), Jvm.Cond.code ({ cls := "java/lang/StringLatin1", name := "canEncode", desc := "(C)Z" } : Jvm.MethodName) jdk_43_method_3_code (1 : Nat) (Option.some Jvm.ClassFile.FieldType.boolean), Jvm.Cond.code ({ cls := "java/lang/StringLatin1", name := "toBytes", desc := "(C)[B" } : Jvm.MethodName) jdk_43_method_46_code (1 : Nat) (Option.some (Jvm.ClassFile.FieldType.array Jvm.ClassFile.FieldType.byte)), Jvm.Cond.code ({ cls := "java/lang/String", name := "<init>", desc := "([BB)V" } : Jvm.MethodName) jdk_42_method_151_code (3 : Nat) (Option.none : Option Jvm.ClassFile.FieldType), Jvm.Cond.code ({ cls := "java/lang/Integer", name := "valueOf", desc := "(I)Ljava/lang/Integer;" } : Jvm.MethodName) jdk_33_method_22_code (1 : Nat) (Option.some (Jvm.ClassFile.FieldType.object "java/lang/Integer")), Jvm.Cond.code ({ cls := "java/lang/Integer", name := "<init>", desc := "(I)V" } : Jvm.MethodName) jdk_33_method_23_code (2 : Nat) (Option.none : Option Jvm.ClassFile.FieldType), Jvm.Cond.code ({ cls := "java/lang/Number", name := "<init>", desc := "()V" } : Jvm.MethodName) jdk_18_method_1_code (1 : Nat) (Option.none : Option Jvm.ClassFile.FieldType)]
set_option maxRecDepth 65536 in
theorem codes_eq : words1.filter isCode = codes1 := rfl
theorem w_codes : ∀ c ∈ words1.filter isCode, c.before args0 about1 = true := by
  rw [codes_eq]
  intro c hc
  simp only [codes1, List.mem_cons, List.not_mem_nil, or_false] at hc
  rcases hc with rfl | rfl | rfl | rfl | rfl | rfl | rfl | rfl | rfl | rfl | rfl | rfl
  · exact w_c0
  · exact w_c1
  · exact w_c2
  · exact w_c3
  · exact w_c4
  · exact w_c5
  · exact w_c6
  · exact w_c7
  · exact w_c8
  · exact w_c9
  · exact w_c10
  · exact w_c11
set_option maxRecDepth 65536 in
theorem w_t1 : (words1.take 24).all (fun c => isCode c || c.before args0 about1) = true := by decide +kernel
set_option maxRecDepth 65536 in
theorem w_t2 : ((words1.drop 24).take 24).all (fun c => isCode c || c.before args0 about1) = true := by decide +kernel
set_option maxRecDepth 65536 in
theorem w_t3 : (((words1.drop 24).drop 24).take 24).all (fun c => isCode c || c.before args0 about1) = true := by decide +kernel
set_option maxRecDepth 65536 in
theorem w_t4 : (((words1.drop 24).drop 24).drop 24).all (fun c => isCode c || c.before args0 about1) = true := by decide +kernel
theorem w_tables : (allAtoms (Jvm.Cond.code x code maxLocals ret :: tables_1)).before args0 about1 = true := by
  rw [allAtoms_all]
  show words1.all (fun c => c.before args0 about1) = true
  refine all_split ?_ w_codes
  rw [← List.take_append_drop 24 words1, List.all_append, w_t1, ← List.take_append_drop 24 (words1.drop 24), List.all_append, w_t2, ← List.take_append_drop 24 ((words1.drop 24).drop 24), List.all_append, w_t3, w_t4]
  rfl
set_option maxRecDepth 65536 in
theorem w_rest : rest_1_c.before args0 about1 = true := by decide +kernel
set_option maxRecDepth 65536 in
theorem w_case : (Jvm.Cond.and given_1 narrow_1).before args0 about1 = true := by decide +kernel
theorem w_applies : (headSpec (Jvm.Cond.code x code maxLocals ret :: tables_1) room_1).applies x e0.platform about1 = true :=
  (Spec.applies_iff w_frames).mpr ⟨w_running, w_runnable, w_alone, w_named, w_hears, w_ripe, w_room, w_tables⟩
theorem atStart : AtStart classFile x code maxLocals ret World_1 tables_1 room_1 Calls_1 rest_1 Pre_1 launch0 p0 e0 about1 theMethod args0 below0 :=
  ⟨lists_1, trivial, launch0.admits_env _ _ _, launch0.least_env, fairChoices_fair.cas, fairChoices_fair.clock, w_frames, w_args, w_heap, w_applies, trivial, w_rest, w_case⟩
end start1
theorem witness_1 : WitnessClaimed_1 := ⟨start1.p0, start1.e0, start1.about1, start1.theMethod, start1.args0, start1.below0, start1.atStart⟩
end Jvm.Pilot.@@N@@
