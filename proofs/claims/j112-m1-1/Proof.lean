import JvmDerived
import JvmDerived.Pilot.@@N@@Statement
import JvmDerived.Pilot.@@N@@Code
set_option linter.unusedVariables false
set_option linter.unusedSimpArgs false
@@BLOCK:NumsL.lean.txt@@
namespace Jvm.RoadKit
open Sem ClassFile Op Lib Jvm.Stand Jvm.Free Jvm.LawKit
/-- from the frame f over T the run ends as R says -/
def Go (p : Program) (e : Env) (below : List Frame) (R : State → Outcome → Prop) (T : State) (f : JFrame) : Prop := ∃ s₂ o, Steps p.tables e below (T.setTop f) s₂ ∧ s₂.status = .running ∧ Ended s₂ below o ∧ R s₂ o
section New
variable {p : Program} {l : Launch} {e : Env} {R : Room} {s : State} {m : MethodId} {args : Array Value} {below : List Frame} {meth : Method} {c : Code} {T T' : State} {locs : List Loc} {cells slots : Nat} {K : State → Outcome → Prop} {f f' : JFrame}
theorem Go.start (q : f = f') (k : Go p e below K T f') : ∃ s₂ o, Steps p.tables e below (T.setTop f) s₂ ∧ s₂.status = .running ∧ Ended s₂ below o ∧ K s₂ o := q ▸ k
theorem Go.step (h : ∀ t, Steps p.tables e below (T'.setTop f') t → Steps p.tables e below (T.setTop f) t) (k : Go p e below K T' f') : Go p e below K T f := by
  obtain ⟨s₂, o, h1, h2⟩ := k
  exact ⟨s₂, o, h _ h1, h2⟩
theorem Go.fin {S2 : State} {o : Outcome} (hs : Steps p.tables e below (T.setTop f) S2) (h1 : S2.status = .running) (h2 : Ended S2 below o) (h3 : K S2 o) : Go p e below K T f := ⟨_, _, hs, h1, h2, h3⟩
theorem retI (X : Stand p l e R s m args below meth c T locs cells slots) (hx : p.tables.exec = Jvm.exec) {pc : Nat} {Ls : Array Slot} {z : Int32} {rest : List Value} (hret : meth.sig.returnType = some .int) (hd : decode c.code pc = .ok (.ireturn, 1)) {fs : List Frame}
    (hl : ∀ (f : JFrame) (acts : List Action), f.method = m → f.locked = none → f.entered = [] → (doReturn e (T.setTop f) acts (some (.int z))).1 = T.setFrames fs) : Steps p.tables e below (T.setTop (mkF m pc Ls (.int z :: rest))) (T.setFrames fs) := by
  have hm' : T.vm.method? m = some meth := X.method'
  have hn : narrow .int (.int z) = .int z := rfl
  show Steps p.tables e below (T.setTop { method := m, pc := pc, locals := Ls, stack := _ :: rest, locked := none }) _
  jvm_step X.here [X.here.top, hx, hd, hm', hret, hn]
  first | (intro acts; rw [hl _ acts rfl rfl rfl]) | rw [hl _ _ rfl rfl rfl]
  exact Steps.refl _
theorem own_retA (X : Stand p l e R s m args below meth c T locs cells slots) (hx : p.tables.exec = Jvm.exec) {pc : Nat} {Ls : Array Slot} {z : Value} {t : FieldType} {rest : List Value} (hz : z.isRef = true) (hret : meth.sig.returnType = some t) (ht : t.isReference = true) (hd : decode c.code pc = .ok (.areturn, 1)) {fs : List Frame}
    (hl : ∀ (f : JFrame) (acts : List Action), f.method = m → f.locked = none → f.entered = [] → (doReturn e (T.setTop f) acts (some z)).1 = T.setFrames fs) : Steps p.tables e below (T.setTop (mkF m pc Ls (z :: rest))) (T.setFrames fs) := by
  have hm' : T.vm.method? m = some meth := X.method'
  show Steps p.tables e below (T.setTop { method := m, pc := pc, locals := Ls, stack := _ :: rest, locked := none }) _
  jvm_step X.here [X.here.top, hx, hd, hm', hret, hz, ht]
  first | (intro acts; rw [hl _ acts rfl rfl rfl]) | rw [hl _ _ rfl rfl rfl]
  exact Steps.refl _
end New
end Jvm.RoadKit
namespace Jvm.Pilot.@@N@@
open Jvm Jvm.ClassFile Sem Op Lib Jvm.Free Jvm.Stand Jvm.LawKit Jvm.RoadKit Bundle Jvm.Pilot.@@N@@.Jvm.D
def own_exp (k n c0 c1 c2 p0 p1 p2 lp : Int32) : Int32 := if n < (3 : Int32) then (if n < (2 : Int32) then (if n < (1 : Int32) then lp else if c0 = k then p0 else lp) else if c1 = k then p1 else (if n < (1 : Int32) then lp else if c0 = k then p0 else lp)) else if c2 = k then p2 else (if n < (2 : Int32) then (if n < (1 : Int32) then lp else if c0 = k then p0 else lp) else if c1 = k then p1 else (if n < (1 : Int32) then lp else if c0 = k then p0 else lp))
def own_pts : List (Int32 × Int32) → List Int32 → List Int32 → List Int32
  | [], _, r => r
  | (c, p) :: q, u, r => if u.getD c.toNatClampNeg 0 = 0 then own_pts q (u.set c.toNatClampNeg 1) (r.set c.toNatClampNeg p) else own_pts q u r
def own_vs (u : List Int32) : List Value := u.map Value.int
theorem own_getD (u : List Int32) (i : Nat) : (own_vs u).getD i (.int (0 : Int32)) = .int (u.getD i 0) := by
  simp only [own_vs, List.getD_eq_getElem?_getD, List.getElem?_map]
  cases u[i]? <;> rfl
theorem own_set (u : List Int32) (i : Nat) (x : Int32) : (own_vs u).set i (.int x) = own_vs (u.set i x) := by simp [own_vs, List.map_set]
theorem own_vlen (u : List Int32) : (own_vs u).length = u.length := by simp [own_vs]
theorem own_ptslen : ∀ (q : List (Int32 × Int32)) (u r : List Int32), (own_pts q u r).length = r.length
  | [], _, _ => rfl
  | (c, p) :: q, u, r => by
    unfold own_pts
    split
    · rw [own_ptslen q, List.length_set]
    · exact own_ptslen q u r
theorem own_c3 (x : Int32) : ((x &&& (3 : Int32)) % (3 : Int32)) = 0 ∨ ((x &&& (3 : Int32)) % (3 : Int32)) = 1 ∨ ((x &&& (3 : Int32)) % (3 : Int32)) = 2 := by
  have e := Jvm.Kit.i32_mask x 3 (k := 2) (by decide) (by decide)
  have e3 : (3 : Int32).toInt = 3 := by decide
  have f : ((x &&& (3 : Int32)) % (3 : Int32)).toInt = (x &&& (3 : Int32)).toInt % 3 := by rw [Jvm.Kit.i32_rem_nonneg (by omega), e3]
  have e0 : (0 : Int32).toInt = 0 := by decide
  have e1 : (1 : Int32).toInt = 1 := by decide
  have e2 : (2 : Int32).toInt = 2 := by decide
  simp only [← Int32.toInt_inj, e0, e1, e2, f]; omega
theorem own_k3 (x : Int32) : (x &&& (3 : Int32)) = 0 ∨ (x &&& (3 : Int32)) = 1 ∨ (x &&& (3 : Int32)) = 2 ∨ (x &&& (3 : Int32)) = 3 := by
  have e := Jvm.Kit.i32_mask x 3 (k := 2) (by decide) (by decide)
  have e0 : (0 : Int32).toInt = 0 := by decide
  have e1 : (1 : Int32).toInt = 1 := by decide
  have e2 : (2 : Int32).toInt = 2 := by decide
  have e3 : (3 : Int32).toInt = 3 := by decide
  simp only [← Int32.toInt_inj, e0, e1, e2, e3]; omega
def own_in3 (c : Int32) : Prop := ¬ c < 0 ∧ c < 3
theorem own_in3_of {c : Int32} (h : c = 0 ∨ c = 1 ∨ c = 2) : own_in3 c := by rcases h with rfl | rfl | rfl <;> exact ⟨by decide, by decide⟩
set_option maxHeartbeats 4000000 in
theorem own_same (n c0 c1 c2 p0 p1 p2 l0 l1 l2 : Int32) (hn : n = 0 ∨ n = 1 ∨ n = 2 ∨ n = 3) (h0 : c0 = 0 ∨ c0 = 1 ∨ c0 = 2) (h1 : c1 = 0 ∨ c1 = 1 ∨ c1 = 2) (h2 : c2 = 0 ∨ c2 = 1 ∨ c2 = 2) (q : List (Int32 × Int32))
    (hq : q = if n = 0 then [] else if n = 1 then [(c0, p0)] else if n = 2 then [(c1, p1), (c0, p0)] else [(c2, p2), (c1, p1), (c0, p0)]) :
    own_pts q [0, 0, 0] [l0, l1, l2] = [own_exp 0 n c0 c1 c2 p0 p1 p2 l0, own_exp 1 n c0 c1 c2 p0 p1 p2 l1, own_exp 2 n c0 c1 c2 p0 p1 p2 l2] := by
  have t0 : Int32.toNatClampNeg 0 = 0 := by decide
  have t1 : Int32.toNatClampNeg 1 = 1 := by decide
  have t2 : Int32.toNatClampNeg 2 = 2 := by decide
  subst hq
  rcases hn with rfl | rfl | rfl | rfl
  · simp [own_pts, own_exp]
  · rcases h0 with rfl | rfl | rfl <;> simp [own_pts, own_exp, t0, t1, t2]
  · rcases h0 with rfl | rfl | rfl <;> rcases h1 with rfl | rfl | rfl <;> simp [own_pts, own_exp, t0, t1, t2]
  · rcases h0 with rfl | rfl | rfl <;> rcases h1 with rfl | rfl | rfl <;> rcases h2 with rfl | rfl | rfl <;> simp [own_pts, own_exp, t0, t1, t2]

def own_chn (Z : State) (h : Heap) : List (Int32 × Int32) → Value → Prop
  | [], v => v = .null
  | (c, p) :: q, v => ∃ (a : Addr) (w : Value), v = .ref a ∧ Fld Z h a "com/example/bidkeel/bidkeel/Knapsack$Change" "cls" "I" (.int c) ∧ Fld Z h a "com/example/bidkeel/bidkeel/Knapsack$Change" "point" "I" (.int p) ∧ Fld Z h a "com/example/bidkeel/bidkeel/Knapsack$Change" "previous" "Lcom/example/bidkeel/bidkeel/Knapsack$Change;" w ∧ own_chn Z h q w
theorem own_chn_ref {Z : State} {h : Heap} : ∀ {q : List (Int32 × Int32)} {v : Value}, own_chn Z h q v → v.isRef = true
  | [], _, e => by rw [show _ = Value.null from e]; rfl
  | (_, _) :: _, _, ⟨a, w, e, _⟩ => by rw [e]; rfl
theorem own_chn_keep {Z : State} {h h' : Heap} (K : Keep h h' []) : ∀ {q : List (Int32 × Int32)} {v : Value}, own_chn Z h q v → own_chn Z h' q v
  | [], _, e => e
  | (_, _) :: _, _, ⟨a, w, e, f1, f2, f3, r⟩ => ⟨a, w, e, f1.keep K nin0, f2.keep K nin0, f3.keep K nin0, own_chn_keep K r⟩

theorem own_f0 : decode prog_31_method_1_code 0 = .ok (.aload_n 0, 1) := by decide +kernel
theorem own_f1 : decode prog_31_method_1_code 1 = .ok (.invokespecial 1, 3) := by decide +kernel
theorem own_f2 : decode prog_31_method_1_code 4 = .ok (.aload_n 0, 1) := by decide +kernel
theorem own_f3 : decode prog_31_method_1_code 5 = .ok (.iload_n 1, 1) := by decide +kernel
theorem own_f4 : decode prog_31_method_1_code 6 = .ok (.putfield 7, 3) := by decide +kernel
theorem own_f5 : decode prog_31_method_1_code 9 = .ok (.aload_n 0, 1) := by decide +kernel
theorem own_f6 : decode prog_31_method_1_code 10 = .ok (.iload_n 2, 1) := by decide +kernel
theorem own_f7 : decode prog_31_method_1_code 11 = .ok (.putfield 13, 3) := by decide +kernel
theorem own_f8 : decode prog_31_method_1_code 14 = .ok (.aload_n 0, 1) := by decide +kernel
theorem own_f9 : decode prog_31_method_1_code 15 = .ok (.aload_n 3, 1) := by decide +kernel
theorem own_f10 : decode prog_31_method_1_code 16 = .ok (.putfield 16, 3) := by decide +kernel
theorem own_f11 : decode prog_31_method_1_code 19 = .ok (.return_, 1) := by decide +kernel
theorem own_f12 : plainName "com/example/bidkeel/bidkeel/Knapsack$Change" = true := by first | (simp [plainName, overriddenIn]; done) | decide +kernel
theorem own_ef_CN (m : MethodId) (a1 : Addr) (p1 : Int32) (p2 : Int32) : entryFrame m #[(.ref a1), (.int p1), (.int p2), .null] 4 = mkF m 0 #[.val (.ref a1), .val (.int p1), .val (.int p2), .val .null] [] := by first | (simp [entryFrame, mkF, argsToLocals, Value.category]; done) | rfl
def QCN (Z : State) (a1 : Addr) (p1 : Int32) (p2 : Int32) (h0 : Heap) (n0 : Nat) (v : Option Value) (h : Heap) (L : List Loc) : Prop := v = none ∧ Fr n0 L ∧ Keep h0 h [a1] ∧ Fld Z h a1 "com/example/bidkeel/bidkeel/Knapsack$Change" "cls" "I" (.int p1) ∧ Fld Z h a1 "com/example/bidkeel/bidkeel/Knapsack$Change" "point" "I" (.int p2) ∧ Fld Z h a1 "com/example/bidkeel/bidkeel/Knapsack$Change" "previous" "Lcom/example/bidkeel/bidkeel/Knapsack$Change;" .null
set_option maxRecDepth 65536 in
set_option maxHeartbeats 40000000 in
theorem rmCN (l : Launch) (Z : State) (a0 : Array Value) (hw : ∀ d ∈ tables_1, d.before a0 Z = true) (ws : List Jvm.Cond) (a1 : Addr) (p1 : Int32) (p2 : Int32) (h0 : Heap) (n0 : Nat) (Z0 : n0 ≤ h0.size) (E_a1 : Exa Z h0 a1 "com/example/bidkeel/bidkeel/Knapsack$Change") (F_cls_a1 : Fld Z h0 a1 "com/example/bidkeel/bidkeel/Knapsack$Change" "cls" "I" (.int (0 : Int32))) (F_point_a1 : Fld Z h0 a1 "com/example/bidkeel/bidkeel/Knapsack$Change" "point" "I" (.int (0 : Int32))) (F_previous_a1 : Fld Z h0 a1 "com/example/bidkeel/bidkeel/Knapsack$Change" "previous" "Lcom/example/bidkeel/bidkeel/Knapsack$Change;" .null) (g_a1 : n0 ≤ a1) :
    MetFree l (⟨"com/example/bidkeel/bidkeel/Knapsack$Change", "<init>", "(IILcom/example/bidkeel/bidkeel/Knapsack$Change;)V"⟩ : MethodName) (head1 (Jvm.Cond.code (⟨"com/example/bidkeel/bidkeel/Knapsack$Change", "<init>", "(IILcom/example/bidkeel/bidkeel/Knapsack$Change;)V"⟩ : MethodName) prog_31_method_1_code 4 none :: ws) ({ frames := 1, cells := 0, slots := 0, locals := 12 } : Room)) (fun a U => a = #[(.ref a1), (.int p1), (.int p2), .null] ∧ Z.Warmed39 U.vm ∧ U.heap = h0) (fun _ _ _ _ _ => True) (fun _ U o U' => ∃ v L, o = .returned v ∧ QCN Z a1 p1 p2 h0 n0 v U'.heap L ∧ FrameEnd U o U' L ({ frames := 1, cells := 0, slots := 0, locals := 12 } : Room).cells ({ frames := 1, cells := 0, slots := 0, locals := 12 } : Room).slots) := by
  refine MetFree.of_bodySF (plainFor_of_name own_f12) hisR ?_
  intro p e s m args below meth c s₁ Bd hml0 hP hK
  obtain ⟨rfl, hZ, hh⟩ := hP
  have hx := Bd.exec
  have hby := Bd.bytes
  have hml : c.maxLocals = 4 := hml0
  have hown : s.vm.findClass "com/example/bidkeel/bidkeel/Knapsack$Change" = some m.cls := findClass_of_methodNamed Bd.named
  have hnm := (name_of_methodNamed Bd.named Bd.method).1
  have X0 : Stand p l e ({ frames := 1, cells := 0, slots := 0, locals := 12 } : Room) s m #[(.ref a1), (.int p1), (.int p2), .null] below meth c s₁ [] 0 0 := Stand.of_body Bd
  have e0 : s₁.heap = h0 := by rw [← hh, Bd.state]; rfl
  have N0 := Fr.nil n0
  refine Go.start (own_ef_CN m a1 p1 p2) ?_
  show Go p e below _ s₁ (mkF m 0 #[.val (.ref a1), .val (.int p1), .val (.int p2), .val .null] [])
  have Zn := Z0
  have K0 : Keep h0 h0 [a1] := Keep.refl h0 _
  refine Go.step (fun _ k => XS.aloadN X0.here hx rfl (hb hby own_f0) rfl rfl k) ?_
  show Go p e below _ s₁ (mkF m 1 #[.val (.ref a1), .val (.int p1), .val (.int p2), .val .null] [(.ref a1)])
  obtain ⟨T1, X1, e1, st1⟩ := initO X0 hx hZ hown (hw _ (List.mem_of_getElem? (i := 7) rfl)) (hw _ (List.mem_of_getElem? (i := 8) rfl)) (hw _ (List.mem_of_getElem? (i := 9) rfl)) e0 (g := (mkF m 1 #[.val (.ref a1), .val (.int p1), .val (.int p2), .val .null] [(.ref a1)])) rfl (by rw [hml]; rfl) rfl (hb hby own_f1) (by decide) (W := 0) (by show 2 * 0 + _ ≤ _; exact Nat.le_of_eq rfl) (by decide)
  refine Go.step st1 ?_
  show Go p e below _ T1 (mkF m 4 #[.val (.ref a1), .val (.int p1), .val (.int p2), .val .null] [])
  refine Go.step (fun _ k => XS.aloadN X1.here hx rfl (hb hby own_f2) rfl rfl k) ?_
  show Go p e below _ T1 (mkF m 5 #[.val (.ref a1), .val (.int p1), .val (.int p2), .val .null] [(.ref a1)])
  refine Go.step (fun _ k => XS.iloadN X1.here hx rfl (hb hby own_f3) rfl k) ?_
  show Go p e below _ T1 (mkF m 6 #[.val (.ref a1), .val (.int p1), .val (.int p2), .val .null] [(.int p1), (.ref a1)])
  obtain ⟨T2, h2, X2, e2, W2, st2⟩ := putF X1 hx hZ hown (host := "") (Or.inl (hw _ (List.mem_of_getElem? (i := 10) rfl))) Via.refl e1 F_cls_a1 E_a1 (Or.inr ⟨(hw _ (List.mem_of_getElem? (i := 11) rfl)), rfl, hnm⟩) (hw _ (List.mem_of_getElem? (i := 2) rfl)) (ty := .int) (by decide) rfl rfl (g := (mkF m 6 #[.val (.ref a1), .val (.int p1), .val (.int p2), .val .null] [(.int p1), (.ref a1)])) rfl rfl (hb hby own_f4)
  have Fw2 := F_cls_a1.same W2
  replace E_a1 := E_a1.wr W2
  replace F_point_a1 := F_point_a1.other W2 (Or.inr (slot_ne (Or.inr (hw _ (List.mem_of_getElem? (i := 13) rfl))) (Or.inr (hw _ (List.mem_of_getElem? (i := 11) rfl))) (by decide) (t := .int) (t' := .int) (by decide) (by decide)))
  replace F_previous_a1 := F_previous_a1.other W2 (Or.inr (slot_ne (Or.inr (hw _ (List.mem_of_getElem? (i := 15) rfl))) (Or.inr (hw _ (List.mem_of_getElem? (i := 11) rfl))) (by decide) (t := (.object "com/example/bidkeel/bidkeel/Knapsack$Change")) (t' := .int) (by decide) (by decide)))
  replace F_cls_a1 := Fw2
  replace K0 := K0.wr W2 (Or.inl (List.mem_of_getElem? (i := 0) rfl))
  replace Zn := Nat.le_trans Zn (Nat.le_of_eq W2.size.symm)
  have N2 := Fr.snoc X2 N0 g_a1
  refine Go.step st2 ?_
  show Go p e below _ T2 (mkF m 9 #[.val (.ref a1), .val (.int p1), .val (.int p2), .val .null] [])
  refine Go.step (fun _ k => XS.aloadN X2.here hx rfl (hb hby own_f5) rfl rfl k) ?_
  show Go p e below _ T2 (mkF m 10 #[.val (.ref a1), .val (.int p1), .val (.int p2), .val .null] [(.ref a1)])
  refine Go.step (fun _ k => XS.iloadN X2.here hx rfl (hb hby own_f6) rfl k) ?_
  show Go p e below _ T2 (mkF m 11 #[.val (.ref a1), .val (.int p1), .val (.int p2), .val .null] [(.int p2), (.ref a1)])
  obtain ⟨T3, h3, X3, e3, W3, st3⟩ := putF X2 hx hZ hown (host := "") (Or.inl (hw _ (List.mem_of_getElem? (i := 12) rfl))) Via.refl e2 F_point_a1 E_a1 (Or.inr ⟨(hw _ (List.mem_of_getElem? (i := 13) rfl)), rfl, hnm⟩) (hw _ (List.mem_of_getElem? (i := 2) rfl)) (ty := .int) (by decide) rfl rfl (g := (mkF m 11 #[.val (.ref a1), .val (.int p1), .val (.int p2), .val .null] [(.int p2), (.ref a1)])) rfl rfl (hb hby own_f7)
  have Fw3 := F_point_a1.same W3
  replace E_a1 := E_a1.wr W3
  replace F_previous_a1 := F_previous_a1.other W3 (Or.inr (slot_ne (Or.inr (hw _ (List.mem_of_getElem? (i := 15) rfl))) (Or.inr (hw _ (List.mem_of_getElem? (i := 13) rfl))) (by decide) (t := (.object "com/example/bidkeel/bidkeel/Knapsack$Change")) (t' := .int) (by decide) (by decide)))
  replace F_cls_a1 := F_cls_a1.other W3 (Or.inr (slot_ne (Or.inr (hw _ (List.mem_of_getElem? (i := 11) rfl))) (Or.inr (hw _ (List.mem_of_getElem? (i := 13) rfl))) (by decide) (t := .int) (t' := .int) (by decide) (by decide)))
  replace F_point_a1 := Fw3
  replace K0 := K0.wr W3 (Or.inl (List.mem_of_getElem? (i := 0) rfl))
  replace Zn := Nat.le_trans Zn (Nat.le_of_eq W3.size.symm)
  have N3 := Fr.snoc X3 N2 g_a1
  refine Go.step st3 ?_
  show Go p e below _ T3 (mkF m 14 #[.val (.ref a1), .val (.int p1), .val (.int p2), .val .null] [])
  refine Go.step (fun _ k => XS.aloadN X3.here hx rfl (hb hby own_f8) rfl rfl k) ?_
  show Go p e below _ T3 (mkF m 15 #[.val (.ref a1), .val (.int p1), .val (.int p2), .val .null] [(.ref a1)])
  refine Go.step (fun _ k => XS.aloadN X3.here hx rfl (hb hby own_f9) rfl rfl k) ?_
  show Go p e below _ T3 (mkF m 16 #[.val (.ref a1), .val (.int p1), .val (.int p2), .val .null] [.null, (.ref a1)])
  obtain ⟨T4, h4, X4, e4, W4, st4⟩ := putF X3 hx hZ hown (host := "") (Or.inl (hw _ (List.mem_of_getElem? (i := 14) rfl))) Via.refl e3 F_previous_a1 E_a1 (Or.inr ⟨(hw _ (List.mem_of_getElem? (i := 15) rfl)), rfl, hnm⟩) (hw _ (List.mem_of_getElem? (i := 2) rfl)) (ty := (.object "com/example/bidkeel/bidkeel/Knapsack$Change")) (by decide) rfl rfl (g := (mkF m 16 #[.val (.ref a1), .val (.int p1), .val (.int p2), .val .null] [.null, (.ref a1)])) rfl rfl (hb hby own_f10)
  have Fw4 := F_previous_a1.same W4
  replace E_a1 := E_a1.wr W4
  replace F_cls_a1 := F_cls_a1.other W4 (Or.inr (slot_ne (Or.inr (hw _ (List.mem_of_getElem? (i := 11) rfl))) (Or.inr (hw _ (List.mem_of_getElem? (i := 15) rfl))) (by decide) (t := .int) (t' := (.object "com/example/bidkeel/bidkeel/Knapsack$Change")) (by decide) (by decide)))
  replace F_point_a1 := F_point_a1.other W4 (Or.inr (slot_ne (Or.inr (hw _ (List.mem_of_getElem? (i := 13) rfl))) (Or.inr (hw _ (List.mem_of_getElem? (i := 15) rfl))) (by decide) (t := .int) (t' := (.object "com/example/bidkeel/bidkeel/Knapsack$Change")) (by decide) (by decide)))
  replace F_previous_a1 := Fw4
  replace K0 := K0.wr W4 (Or.inl (List.mem_of_getElem? (i := 0) rfl))
  replace Zn := Nat.le_trans Zn (Nat.le_of_eq W4.size.symm)
  have N4 := Fr.snoc X4 N3 g_a1
  refine Go.step st4 ?_
  show Go p e below _ T4 (mkF m 19 #[.val (.ref a1), .val (.int p1), .val (.int p2), .val .null] [])
  obtain ⟨fs, hr, hrun, hended, hW, hsame⟩ := X4.leave (v := none) (fun _ => rfl)
  refine Go.fin (X4.returnOut hx Bd.returns (hb hby own_f11) hr) hrun hended ?_
  refine ⟨_, _, rfl, ?_, ⟨_, rfl⟩, hW, hsame.mono (by decide) (by decide)⟩
  show QCN Z a1 p1 p2 h0 n0 _ T4.heap _
  rw [e4]
  exact ⟨rfl, N4, K0, F_cls_a1, F_point_a1, F_previous_a1⟩
theorem own_ef_CR (m : MethodId) (a1 : Addr) (p1 : Int32) (p2 : Int32) (a2 : Addr) : entryFrame m #[(.ref a1), (.int p1), (.int p2), (.ref a2)] 4 = mkF m 0 #[.val (.ref a1), .val (.int p1), .val (.int p2), .val (.ref a2)] [] := by first | (simp [entryFrame, mkF, argsToLocals, Value.category]; done) | rfl
def QCR (Z : State) (a1 : Addr) (p1 : Int32) (p2 : Int32) (a2 : Addr) (h0 : Heap) (n0 : Nat) (v : Option Value) (h : Heap) (L : List Loc) : Prop := v = none ∧ Fr n0 L ∧ Keep h0 h [a1] ∧ Fld Z h a1 "com/example/bidkeel/bidkeel/Knapsack$Change" "cls" "I" (.int p1) ∧ Fld Z h a1 "com/example/bidkeel/bidkeel/Knapsack$Change" "point" "I" (.int p2) ∧ Fld Z h a1 "com/example/bidkeel/bidkeel/Knapsack$Change" "previous" "Lcom/example/bidkeel/bidkeel/Knapsack$Change;" (.ref a2)
set_option maxRecDepth 65536 in
set_option maxHeartbeats 40000000 in
theorem rmCR (l : Launch) (Z : State) (a0 : Array Value) (hw : ∀ d ∈ tables_1, d.before a0 Z = true) (ws : List Jvm.Cond) (a1 : Addr) (p1 : Int32) (p2 : Int32) (a2 : Addr) (h0 : Heap) (n0 : Nat) (Z0 : n0 ≤ h0.size) (E_a1 : Exa Z h0 a1 "com/example/bidkeel/bidkeel/Knapsack$Change") (F_cls_a1 : Fld Z h0 a1 "com/example/bidkeel/bidkeel/Knapsack$Change" "cls" "I" (.int (0 : Int32))) (F_point_a1 : Fld Z h0 a1 "com/example/bidkeel/bidkeel/Knapsack$Change" "point" "I" (.int (0 : Int32))) (F_previous_a1 : Fld Z h0 a1 "com/example/bidkeel/bidkeel/Knapsack$Change" "previous" "Lcom/example/bidkeel/bidkeel/Knapsack$Change;" .null) (g_a1 : n0 ≤ a1) :
    MetFree l (⟨"com/example/bidkeel/bidkeel/Knapsack$Change", "<init>", "(IILcom/example/bidkeel/bidkeel/Knapsack$Change;)V"⟩ : MethodName) (head1 (Jvm.Cond.code (⟨"com/example/bidkeel/bidkeel/Knapsack$Change", "<init>", "(IILcom/example/bidkeel/bidkeel/Knapsack$Change;)V"⟩ : MethodName) prog_31_method_1_code 4 none :: ws) ({ frames := 1, cells := 0, slots := 0, locals := 12 } : Room)) (fun a U => a = #[(.ref a1), (.int p1), (.int p2), (.ref a2)] ∧ Z.Warmed39 U.vm ∧ U.heap = h0) (fun _ _ _ _ _ => True) (fun _ U o U' => ∃ v L, o = .returned v ∧ QCR Z a1 p1 p2 a2 h0 n0 v U'.heap L ∧ FrameEnd U o U' L ({ frames := 1, cells := 0, slots := 0, locals := 12 } : Room).cells ({ frames := 1, cells := 0, slots := 0, locals := 12 } : Room).slots) := by
  refine MetFree.of_bodySF (plainFor_of_name own_f12) hisR ?_
  intro p e s m args below meth c s₁ Bd hml0 hP hK
  obtain ⟨rfl, hZ, hh⟩ := hP
  have hx := Bd.exec
  have hby := Bd.bytes
  have hml : c.maxLocals = 4 := hml0
  have hown : s.vm.findClass "com/example/bidkeel/bidkeel/Knapsack$Change" = some m.cls := findClass_of_methodNamed Bd.named
  have hnm := (name_of_methodNamed Bd.named Bd.method).1
  have X0 : Stand p l e ({ frames := 1, cells := 0, slots := 0, locals := 12 } : Room) s m #[(.ref a1), (.int p1), (.int p2), (.ref a2)] below meth c s₁ [] 0 0 := Stand.of_body Bd
  have e0 : s₁.heap = h0 := by rw [← hh, Bd.state]; rfl
  have N0 := Fr.nil n0
  refine Go.start (own_ef_CR m a1 p1 p2 a2) ?_
  show Go p e below _ s₁ (mkF m 0 #[.val (.ref a1), .val (.int p1), .val (.int p2), .val (.ref a2)] [])
  have Zn := Z0
  have K0 : Keep h0 h0 [a1] := Keep.refl h0 _
  refine Go.step (fun _ k => XS.aloadN X0.here hx rfl (hb hby own_f0) rfl rfl k) ?_
  show Go p e below _ s₁ (mkF m 1 #[.val (.ref a1), .val (.int p1), .val (.int p2), .val (.ref a2)] [(.ref a1)])
  obtain ⟨T5, X5, e5, st5⟩ := initO X0 hx hZ hown (hw _ (List.mem_of_getElem? (i := 7) rfl)) (hw _ (List.mem_of_getElem? (i := 8) rfl)) (hw _ (List.mem_of_getElem? (i := 9) rfl)) e0 (g := (mkF m 1 #[.val (.ref a1), .val (.int p1), .val (.int p2), .val (.ref a2)] [(.ref a1)])) rfl (by rw [hml]; rfl) rfl (hb hby own_f1) (by decide) (W := 0) (by show 2 * 0 + _ ≤ _; exact Nat.le_of_eq rfl) (by decide)
  refine Go.step st5 ?_
  show Go p e below _ T5 (mkF m 4 #[.val (.ref a1), .val (.int p1), .val (.int p2), .val (.ref a2)] [])
  refine Go.step (fun _ k => XS.aloadN X5.here hx rfl (hb hby own_f2) rfl rfl k) ?_
  show Go p e below _ T5 (mkF m 5 #[.val (.ref a1), .val (.int p1), .val (.int p2), .val (.ref a2)] [(.ref a1)])
  refine Go.step (fun _ k => XS.iloadN X5.here hx rfl (hb hby own_f3) rfl k) ?_
  show Go p e below _ T5 (mkF m 6 #[.val (.ref a1), .val (.int p1), .val (.int p2), .val (.ref a2)] [(.int p1), (.ref a1)])
  obtain ⟨T6, h6, X6, e6, W6, st6⟩ := putF X5 hx hZ hown (host := "") (Or.inl (hw _ (List.mem_of_getElem? (i := 10) rfl))) Via.refl e5 F_cls_a1 E_a1 (Or.inr ⟨(hw _ (List.mem_of_getElem? (i := 11) rfl)), rfl, hnm⟩) (hw _ (List.mem_of_getElem? (i := 2) rfl)) (ty := .int) (by decide) rfl rfl (g := (mkF m 6 #[.val (.ref a1), .val (.int p1), .val (.int p2), .val (.ref a2)] [(.int p1), (.ref a1)])) rfl rfl (hb hby own_f4)
  have Fw6 := F_cls_a1.same W6
  replace E_a1 := E_a1.wr W6
  replace F_point_a1 := F_point_a1.other W6 (Or.inr (slot_ne (Or.inr (hw _ (List.mem_of_getElem? (i := 13) rfl))) (Or.inr (hw _ (List.mem_of_getElem? (i := 11) rfl))) (by decide) (t := .int) (t' := .int) (by decide) (by decide)))
  replace F_previous_a1 := F_previous_a1.other W6 (Or.inr (slot_ne (Or.inr (hw _ (List.mem_of_getElem? (i := 15) rfl))) (Or.inr (hw _ (List.mem_of_getElem? (i := 11) rfl))) (by decide) (t := (.object "com/example/bidkeel/bidkeel/Knapsack$Change")) (t' := .int) (by decide) (by decide)))
  replace F_cls_a1 := Fw6
  replace K0 := K0.wr W6 (Or.inl (List.mem_of_getElem? (i := 0) rfl))
  replace Zn := Nat.le_trans Zn (Nat.le_of_eq W6.size.symm)
  have N6 := Fr.snoc X6 N0 g_a1
  refine Go.step st6 ?_
  show Go p e below _ T6 (mkF m 9 #[.val (.ref a1), .val (.int p1), .val (.int p2), .val (.ref a2)] [])
  refine Go.step (fun _ k => XS.aloadN X6.here hx rfl (hb hby own_f5) rfl rfl k) ?_
  show Go p e below _ T6 (mkF m 10 #[.val (.ref a1), .val (.int p1), .val (.int p2), .val (.ref a2)] [(.ref a1)])
  refine Go.step (fun _ k => XS.iloadN X6.here hx rfl (hb hby own_f6) rfl k) ?_
  show Go p e below _ T6 (mkF m 11 #[.val (.ref a1), .val (.int p1), .val (.int p2), .val (.ref a2)] [(.int p2), (.ref a1)])
  obtain ⟨T7, h7, X7, e7, W7, st7⟩ := putF X6 hx hZ hown (host := "") (Or.inl (hw _ (List.mem_of_getElem? (i := 12) rfl))) Via.refl e6 F_point_a1 E_a1 (Or.inr ⟨(hw _ (List.mem_of_getElem? (i := 13) rfl)), rfl, hnm⟩) (hw _ (List.mem_of_getElem? (i := 2) rfl)) (ty := .int) (by decide) rfl rfl (g := (mkF m 11 #[.val (.ref a1), .val (.int p1), .val (.int p2), .val (.ref a2)] [(.int p2), (.ref a1)])) rfl rfl (hb hby own_f7)
  have Fw7 := F_point_a1.same W7
  replace E_a1 := E_a1.wr W7
  replace F_previous_a1 := F_previous_a1.other W7 (Or.inr (slot_ne (Or.inr (hw _ (List.mem_of_getElem? (i := 15) rfl))) (Or.inr (hw _ (List.mem_of_getElem? (i := 13) rfl))) (by decide) (t := (.object "com/example/bidkeel/bidkeel/Knapsack$Change")) (t' := .int) (by decide) (by decide)))
  replace F_cls_a1 := F_cls_a1.other W7 (Or.inr (slot_ne (Or.inr (hw _ (List.mem_of_getElem? (i := 11) rfl))) (Or.inr (hw _ (List.mem_of_getElem? (i := 13) rfl))) (by decide) (t := .int) (t' := .int) (by decide) (by decide)))
  replace F_point_a1 := Fw7
  replace K0 := K0.wr W7 (Or.inl (List.mem_of_getElem? (i := 0) rfl))
  replace Zn := Nat.le_trans Zn (Nat.le_of_eq W7.size.symm)
  have N7 := Fr.snoc X7 N6 g_a1
  refine Go.step st7 ?_
  show Go p e below _ T7 (mkF m 14 #[.val (.ref a1), .val (.int p1), .val (.int p2), .val (.ref a2)] [])
  refine Go.step (fun _ k => XS.aloadN X7.here hx rfl (hb hby own_f8) rfl rfl k) ?_
  show Go p e below _ T7 (mkF m 15 #[.val (.ref a1), .val (.int p1), .val (.int p2), .val (.ref a2)] [(.ref a1)])
  refine Go.step (fun _ k => XS.aloadN X7.here hx rfl (hb hby own_f9) rfl rfl k) ?_
  show Go p e below _ T7 (mkF m 16 #[.val (.ref a1), .val (.int p1), .val (.int p2), .val (.ref a2)] [(.ref a2), (.ref a1)])
  obtain ⟨T8, h8, X8, e8, W8, st8⟩ := putF X7 hx hZ hown (host := "") (Or.inl (hw _ (List.mem_of_getElem? (i := 14) rfl))) Via.refl e7 F_previous_a1 E_a1 (Or.inr ⟨(hw _ (List.mem_of_getElem? (i := 15) rfl)), rfl, hnm⟩) (hw _ (List.mem_of_getElem? (i := 2) rfl)) (ty := (.object "com/example/bidkeel/bidkeel/Knapsack$Change")) (by decide) rfl rfl (g := (mkF m 16 #[.val (.ref a1), .val (.int p1), .val (.int p2), .val (.ref a2)] [(.ref a2), (.ref a1)])) rfl rfl (hb hby own_f10)
  have Fw8 := F_previous_a1.same W8
  replace E_a1 := E_a1.wr W8
  replace F_cls_a1 := F_cls_a1.other W8 (Or.inr (slot_ne (Or.inr (hw _ (List.mem_of_getElem? (i := 11) rfl))) (Or.inr (hw _ (List.mem_of_getElem? (i := 15) rfl))) (by decide) (t := .int) (t' := (.object "com/example/bidkeel/bidkeel/Knapsack$Change")) (by decide) (by decide)))
  replace F_point_a1 := F_point_a1.other W8 (Or.inr (slot_ne (Or.inr (hw _ (List.mem_of_getElem? (i := 13) rfl))) (Or.inr (hw _ (List.mem_of_getElem? (i := 15) rfl))) (by decide) (t := .int) (t' := (.object "com/example/bidkeel/bidkeel/Knapsack$Change")) (by decide) (by decide)))
  replace F_previous_a1 := Fw8
  replace K0 := K0.wr W8 (Or.inl (List.mem_of_getElem? (i := 0) rfl))
  replace Zn := Nat.le_trans Zn (Nat.le_of_eq W8.size.symm)
  have N8 := Fr.snoc X8 N7 g_a1
  refine Go.step st8 ?_
  show Go p e below _ T8 (mkF m 19 #[.val (.ref a1), .val (.int p1), .val (.int p2), .val (.ref a2)] [])
  obtain ⟨fs, hr, hrun, hended, hW, hsame⟩ := X8.leave (v := none) (fun _ => rfl)
  refine Go.fin (X8.returnOut hx Bd.returns (hb hby own_f11) hr) hrun hended ?_
  refine ⟨_, _, rfl, ?_, ⟨_, rfl⟩, hW, hsame.mono (by decide) (by decide)⟩
  show QCR Z a1 p1 p2 a2 h0 n0 _ T8.heap _
  rw [e8]
  exact ⟨rfl, N8, K0, F_cls_a1, F_point_a1, F_previous_a1⟩
theorem own_f13 : decode prog_29_method_1_code 0 = .ok (.aload_n 0, 1) := by decide +kernel
theorem own_f14 : decode prog_29_method_1_code 1 = .ok (.invokespecial 1, 3) := by decide +kernel
theorem own_f15 : decode prog_29_method_1_code 4 = .ok (.return_, 1) := by decide +kernel
theorem own_f16 : plainName "com/example/bidkeel/bidkeel/Knapsack$Best" = true := by first | (simp [plainName, overriddenIn]; done) | decide +kernel
theorem own_ef_B (m : MethodId) (a1 : Addr) : entryFrame m #[(.ref a1)] 1 = mkF m 0 #[.val (.ref a1)] [] := by first | (simp [entryFrame, mkF, argsToLocals, Value.category]; done) | rfl
def QB (Z : State) (a1 : Addr) (h0 : Heap) (n0 : Nat) (v : Option Value) (h : Heap) (L : List Loc) : Prop := v = none ∧ Fr n0 L ∧ h = h0
set_option maxRecDepth 65536 in
set_option maxHeartbeats 40000000 in
theorem rmB (l : Launch) (Z : State) (a0 : Array Value) (hw : ∀ d ∈ tables_1, d.before a0 Z = true) (ws : List Jvm.Cond) (a1 : Addr) (h0 : Heap) (n0 : Nat) (Z0 : n0 ≤ h0.size)  :
    MetFree l (⟨"com/example/bidkeel/bidkeel/Knapsack$Best", "<init>", "()V"⟩ : MethodName) (head1 (Jvm.Cond.code (⟨"com/example/bidkeel/bidkeel/Knapsack$Best", "<init>", "()V"⟩ : MethodName) prog_29_method_1_code 1 none :: ws) ({ frames := 1, cells := 0, slots := 0, locals := 12 } : Room)) (fun a U => a = #[(.ref a1)] ∧ Z.Warmed39 U.vm ∧ U.heap = h0) (fun _ _ _ _ _ => True) (fun _ U o U' => ∃ v L, o = .returned v ∧ QB Z a1 h0 n0 v U'.heap L ∧ FrameEnd U o U' L ({ frames := 1, cells := 0, slots := 0, locals := 12 } : Room).cells ({ frames := 1, cells := 0, slots := 0, locals := 12 } : Room).slots) := by
  refine MetFree.of_bodySF (plainFor_of_name own_f16) hisR ?_
  intro p e s m args below meth c s₁ Bd hml0 hP hK
  obtain ⟨rfl, hZ, hh⟩ := hP
  have hx := Bd.exec
  have hby := Bd.bytes
  have hml : c.maxLocals = 1 := hml0
  have hown : s.vm.findClass "com/example/bidkeel/bidkeel/Knapsack$Best" = some m.cls := findClass_of_methodNamed Bd.named
  have hnm := (name_of_methodNamed Bd.named Bd.method).1
  have X0 : Stand p l e ({ frames := 1, cells := 0, slots := 0, locals := 12 } : Room) s m #[(.ref a1)] below meth c s₁ [] 0 0 := Stand.of_body Bd
  have e0 : s₁.heap = h0 := by rw [← hh, Bd.state]; rfl
  have N0 := Fr.nil n0
  refine Go.start (own_ef_B m a1) ?_
  show Go p e below _ s₁ (mkF m 0 #[.val (.ref a1)] [])
  refine Go.step (fun _ k => XS.aloadN X0.here hx rfl (hb hby own_f13) rfl rfl k) ?_
  show Go p e below _ s₁ (mkF m 1 #[.val (.ref a1)] [(.ref a1)])
  obtain ⟨T9, X9, e9, st9⟩ := initO X0 hx hZ hown (hw _ (List.mem_of_getElem? (i := 22) rfl)) (hw _ (List.mem_of_getElem? (i := 8) rfl)) (hw _ (List.mem_of_getElem? (i := 9) rfl)) e0 (g := (mkF m 1 #[.val (.ref a1)] [(.ref a1)])) rfl (by rw [hml]; rfl) rfl (hb hby own_f14) (by decide) (W := 0) (by show 2 * 0 + _ ≤ _; exact Nat.le_of_eq rfl) (by decide)
  refine Go.step st9 ?_
  show Go p e below _ T9 (mkF m 4 #[.val (.ref a1)] [])
  obtain ⟨fs, hr, hrun, hended, hW, hsame⟩ := X9.leave (v := none) (fun _ => rfl)
  refine Go.fin (X9.returnOut hx Bd.returns (hb hby own_f15) hr) hrun hended ?_
  refine ⟨_, _, rfl, ?_, ⟨_, rfl⟩, hW, hsame.mono (by decide) (by decide)⟩
  show QB Z a1 h0 n0 _ T9.heap _
  rw [e9]
  exact ⟨rfl, N0, rfl⟩
theorem own_f17 : decode prog_29_method_2_code 0 = .ok (.aload_n 0, 1) := by decide +kernel
theorem own_f18 : decode prog_29_method_2_code 1 = .ok (.aload_n 1, 1) := by decide +kernel
theorem own_f19 : decode prog_29_method_2_code 2 = .ok (.putfield 7, 3) := by decide +kernel
theorem own_f20 : decode prog_29_method_2_code 5 = .ok (.aload_n 0, 1) := by decide +kernel
theorem own_f21 : decode prog_29_method_2_code 6 = .ok (.dload_n 2, 1) := by decide +kernel
theorem own_f22 : decode prog_29_method_2_code 7 = .ok (.putfield 13, 3) := by decide +kernel
theorem own_f23 : decode prog_29_method_2_code 10 = .ok (.aload_n 0, 1) := by decide +kernel
theorem own_f24 : decode prog_29_method_2_code 11 = .ok (.dload 4, 2) := by decide +kernel
theorem own_f25 : decode prog_29_method_2_code 13 = .ok (.putfield 17, 3) := by decide +kernel
theorem own_f26 : decode prog_29_method_2_code 16 = .ok (.aload_n 0, 1) := by decide +kernel
theorem own_f27 : decode prog_29_method_2_code 17 = .ok (.lload 6, 2) := by decide +kernel
theorem own_f28 : decode prog_29_method_2_code 19 = .ok (.putfield 20, 3) := by decide +kernel
theorem own_f29 : decode prog_29_method_2_code 22 = .ok (.return_, 1) := by decide +kernel
theorem own_ef_TN (m : MethodId) (a1 : Addr) (d1 : UInt64) (d2 : UInt64) (q1 : Int64) : entryFrame m #[(.ref a1), .null, (.double d1), (.double d2), (.long q1)] 8 = mkF m 0 #[.val (.ref a1), .val .null, .val (.double d1), .second, .val (.double d2), .second, .val (.long q1), .second] [] := by first | (simp [entryFrame, mkF, argsToLocals, Value.category]; done) | rfl
def QTN (Z : State) (a1 : Addr) (d1 : UInt64) (d2 : UInt64) (q1 : Int64) (h0 : Heap) (n0 : Nat) (v : Option Value) (h : Heap) (L : List Loc) : Prop := v = none ∧ Fr n0 L ∧ Keep h0 h [a1] ∧ Fld Z h a1 "com/example/bidkeel/bidkeel/Knapsack$Best" "changes" "Lcom/example/bidkeel/bidkeel/Knapsack$Change;" .null
set_option maxRecDepth 65536 in
set_option maxHeartbeats 40000000 in
theorem rmTN (l : Launch) (Z : State) (a0 : Array Value) (hw : ∀ d ∈ tables_1, d.before a0 Z = true) (ws : List Jvm.Cond) (a1 : Addr) (d1 : UInt64) (d2 : UInt64) (q1 : Int64) (h0 : Heap) (n0 : Nat) (Z0 : n0 ≤ h0.size) (E_a1 : Exa Z h0 a1 "com/example/bidkeel/bidkeel/Knapsack$Best") (F_changes_a1 : Fld Z h0 a1 "com/example/bidkeel/bidkeel/Knapsack$Best" "changes" "Lcom/example/bidkeel/bidkeel/Knapsack$Change;" .null) (F_profit_a1 : Fld Z h0 a1 "com/example/bidkeel/bidkeel/Knapsack$Best" "profit" "D" (.double 0)) (F_units_a1 : Fld Z h0 a1 "com/example/bidkeel/bidkeel/Knapsack$Best" "units" "D" (.double 0)) (F_steps_a1 : Fld Z h0 a1 "com/example/bidkeel/bidkeel/Knapsack$Best" "steps" "J" (.long (0 : Int64))) (g_a1 : n0 ≤ a1) :
    MetFree l (⟨"com/example/bidkeel/bidkeel/Knapsack$Best", "take", "(Lcom/example/bidkeel/bidkeel/Knapsack$Change;DDJ)V"⟩ : MethodName) (head1 (Jvm.Cond.code (⟨"com/example/bidkeel/bidkeel/Knapsack$Best", "take", "(Lcom/example/bidkeel/bidkeel/Knapsack$Change;DDJ)V"⟩ : MethodName) prog_29_method_2_code 8 none :: ws) ({ frames := 0, cells := 0, slots := 0, locals := 0 } : Room)) (fun a U => a = #[(.ref a1), .null, (.double d1), (.double d2), (.long q1)] ∧ Z.Warmed39 U.vm ∧ U.heap = h0) (fun _ _ _ _ _ => True) (fun _ U o U' => ∃ v L, o = .returned v ∧ QTN Z a1 d1 d2 q1 h0 n0 v U'.heap L ∧ FrameEnd U o U' L ({ frames := 0, cells := 0, slots := 0, locals := 0 } : Room).cells ({ frames := 0, cells := 0, slots := 0, locals := 0 } : Room).slots) := by
  refine MetFree.of_bodySF (plainFor_of_name own_f16) hisR ?_
  intro p e s m args below meth c s₁ Bd hml0 hP hK
  obtain ⟨rfl, hZ, hh⟩ := hP
  have hx := Bd.exec
  have hby := Bd.bytes
  have hml : c.maxLocals = 8 := hml0
  have hown : s.vm.findClass "com/example/bidkeel/bidkeel/Knapsack$Best" = some m.cls := findClass_of_methodNamed Bd.named
  have hnm := (name_of_methodNamed Bd.named Bd.method).1
  have X0 : Stand p l e ({ frames := 0, cells := 0, slots := 0, locals := 0 } : Room) s m #[(.ref a1), .null, (.double d1), (.double d2), (.long q1)] below meth c s₁ [] 0 0 := Stand.of_body Bd
  have e0 : s₁.heap = h0 := by rw [← hh, Bd.state]; rfl
  have N0 := Fr.nil n0
  refine Go.start (own_ef_TN m a1 d1 d2 q1) ?_
  show Go p e below _ s₁ (mkF m 0 #[.val (.ref a1), .val .null, .val (.double d1), .second, .val (.double d2), .second, .val (.long q1), .second] [])
  have Zn := Z0
  have K0 : Keep h0 h0 [a1] := Keep.refl h0 _
  refine Go.step (fun _ k => XS.aloadN X0.here hx rfl (hb hby own_f17) rfl rfl k) ?_
  show Go p e below _ s₁ (mkF m 1 #[.val (.ref a1), .val .null, .val (.double d1), .second, .val (.double d2), .second, .val (.long q1), .second] [(.ref a1)])
  refine Go.step (fun _ k => XS.aloadN X0.here hx rfl (hb hby own_f18) rfl rfl k) ?_
  show Go p e below _ s₁ (mkF m 2 #[.val (.ref a1), .val .null, .val (.double d1), .second, .val (.double d2), .second, .val (.long q1), .second] [.null, (.ref a1)])
  obtain ⟨T10, h10, X10, e10, W10, st10⟩ := putF X0 hx hZ hown (host := "") (Or.inl (hw _ (List.mem_of_getElem? (i := 28) rfl))) Via.refl e0 F_changes_a1 E_a1 (Or.inl (hw _ (List.mem_of_getElem? (i := 29) rfl))) (hw _ (List.mem_of_getElem? (i := 17) rfl)) (ty := (.object "com/example/bidkeel/bidkeel/Knapsack$Change")) (by decide) rfl rfl (g := (mkF m 2 #[.val (.ref a1), .val .null, .val (.double d1), .second, .val (.double d2), .second, .val (.long q1), .second] [.null, (.ref a1)])) rfl rfl (hb hby own_f19)
  have Fw10 := F_changes_a1.same W10
  replace E_a1 := E_a1.wr W10
  replace F_profit_a1 := F_profit_a1.other W10 (Or.inr (slot_ne (Or.inl (hw _ (List.mem_of_getElem? (i := 31) rfl))) (Or.inl (hw _ (List.mem_of_getElem? (i := 29) rfl))) (by decide) (t := .double) (t' := (.object "com/example/bidkeel/bidkeel/Knapsack$Change")) (by decide) (by decide)))
  replace F_units_a1 := F_units_a1.other W10 (Or.inr (slot_ne (Or.inl (hw _ (List.mem_of_getElem? (i := 33) rfl))) (Or.inl (hw _ (List.mem_of_getElem? (i := 29) rfl))) (by decide) (t := .double) (t' := (.object "com/example/bidkeel/bidkeel/Knapsack$Change")) (by decide) (by decide)))
  replace F_steps_a1 := F_steps_a1.other W10 (Or.inr (slot_ne (Or.inl (hw _ (List.mem_of_getElem? (i := 35) rfl))) (Or.inl (hw _ (List.mem_of_getElem? (i := 29) rfl))) (by decide) (t := .long) (t' := (.object "com/example/bidkeel/bidkeel/Knapsack$Change")) (by decide) (by decide)))
  replace F_changes_a1 := Fw10
  replace K0 := K0.wr W10 (Or.inl (List.mem_of_getElem? (i := 0) rfl))
  replace Zn := Nat.le_trans Zn (Nat.le_of_eq W10.size.symm)
  have N10 := Fr.snoc X10 N0 g_a1
  refine Go.step st10 ?_
  show Go p e below _ T10 (mkF m 5 #[.val (.ref a1), .val .null, .val (.double d1), .second, .val (.double d2), .second, .val (.long q1), .second] [])
  refine Go.step (fun _ k => XS.aloadN X10.here hx rfl (hb hby own_f20) rfl rfl k) ?_
  show Go p e below _ T10 (mkF m 6 #[.val (.ref a1), .val .null, .val (.double d1), .second, .val (.double d2), .second, .val (.long q1), .second] [(.ref a1)])
  refine Go.step (fun _ k => XS.dloadN X10.here hx rfl (hb hby own_f21) rfl k) ?_
  show Go p e below _ T10 (mkF m 7 #[.val (.ref a1), .val .null, .val (.double d1), .second, .val (.double d2), .second, .val (.long q1), .second] [(.double d1), (.ref a1)])
  obtain ⟨T11, h11, X11, e11, W11, st11⟩ := putF X10 hx hZ hown (host := "") (Or.inl (hw _ (List.mem_of_getElem? (i := 30) rfl))) Via.refl e10 F_profit_a1 E_a1 (Or.inl (hw _ (List.mem_of_getElem? (i := 31) rfl))) (hw _ (List.mem_of_getElem? (i := 17) rfl)) (ty := .double) (by decide) rfl rfl (g := (mkF m 7 #[.val (.ref a1), .val .null, .val (.double d1), .second, .val (.double d2), .second, .val (.long q1), .second] [(.double d1), (.ref a1)])) rfl rfl (hb hby own_f22)
  have Fw11 := F_profit_a1.same W11
  replace E_a1 := E_a1.wr W11
  replace F_units_a1 := F_units_a1.other W11 (Or.inr (slot_ne (Or.inl (hw _ (List.mem_of_getElem? (i := 33) rfl))) (Or.inl (hw _ (List.mem_of_getElem? (i := 31) rfl))) (by decide) (t := .double) (t' := .double) (by decide) (by decide)))
  replace F_steps_a1 := F_steps_a1.other W11 (Or.inr (slot_ne (Or.inl (hw _ (List.mem_of_getElem? (i := 35) rfl))) (Or.inl (hw _ (List.mem_of_getElem? (i := 31) rfl))) (by decide) (t := .long) (t' := .double) (by decide) (by decide)))
  replace F_changes_a1 := F_changes_a1.other W11 (Or.inr (slot_ne (Or.inl (hw _ (List.mem_of_getElem? (i := 29) rfl))) (Or.inl (hw _ (List.mem_of_getElem? (i := 31) rfl))) (by decide) (t := (.object "com/example/bidkeel/bidkeel/Knapsack$Change")) (t' := .double) (by decide) (by decide)))
  replace F_profit_a1 := Fw11
  replace K0 := K0.wr W11 (Or.inl (List.mem_of_getElem? (i := 0) rfl))
  replace Zn := Nat.le_trans Zn (Nat.le_of_eq W11.size.symm)
  have N11 := Fr.snoc X11 N10 g_a1
  refine Go.step st11 ?_
  show Go p e below _ T11 (mkF m 10 #[.val (.ref a1), .val .null, .val (.double d1), .second, .val (.double d2), .second, .val (.long q1), .second] [])
  refine Go.step (fun _ k => XS.aloadN X11.here hx rfl (hb hby own_f23) rfl rfl k) ?_
  show Go p e below _ T11 (mkF m 11 #[.val (.ref a1), .val .null, .val (.double d1), .second, .val (.double d2), .second, .val (.long q1), .second] [(.ref a1)])
  refine Go.step (fun _ k => XS.dload X11.here hx rfl (hb hby own_f24) rfl k) ?_
  show Go p e below _ T11 (mkF m 13 #[.val (.ref a1), .val .null, .val (.double d1), .second, .val (.double d2), .second, .val (.long q1), .second] [(.double d2), (.ref a1)])
  obtain ⟨T12, h12, X12, e12, W12, st12⟩ := putF X11 hx hZ hown (host := "") (Or.inl (hw _ (List.mem_of_getElem? (i := 32) rfl))) Via.refl e11 F_units_a1 E_a1 (Or.inl (hw _ (List.mem_of_getElem? (i := 33) rfl))) (hw _ (List.mem_of_getElem? (i := 17) rfl)) (ty := .double) (by decide) rfl rfl (g := (mkF m 13 #[.val (.ref a1), .val .null, .val (.double d1), .second, .val (.double d2), .second, .val (.long q1), .second] [(.double d2), (.ref a1)])) rfl rfl (hb hby own_f25)
  have Fw12 := F_units_a1.same W12
  replace E_a1 := E_a1.wr W12
  replace F_steps_a1 := F_steps_a1.other W12 (Or.inr (slot_ne (Or.inl (hw _ (List.mem_of_getElem? (i := 35) rfl))) (Or.inl (hw _ (List.mem_of_getElem? (i := 33) rfl))) (by decide) (t := .long) (t' := .double) (by decide) (by decide)))
  replace F_changes_a1 := F_changes_a1.other W12 (Or.inr (slot_ne (Or.inl (hw _ (List.mem_of_getElem? (i := 29) rfl))) (Or.inl (hw _ (List.mem_of_getElem? (i := 33) rfl))) (by decide) (t := (.object "com/example/bidkeel/bidkeel/Knapsack$Change")) (t' := .double) (by decide) (by decide)))
  replace F_profit_a1 := F_profit_a1.other W12 (Or.inr (slot_ne (Or.inl (hw _ (List.mem_of_getElem? (i := 31) rfl))) (Or.inl (hw _ (List.mem_of_getElem? (i := 33) rfl))) (by decide) (t := .double) (t' := .double) (by decide) (by decide)))
  replace F_units_a1 := Fw12
  replace K0 := K0.wr W12 (Or.inl (List.mem_of_getElem? (i := 0) rfl))
  replace Zn := Nat.le_trans Zn (Nat.le_of_eq W12.size.symm)
  have N12 := Fr.snoc X12 N11 g_a1
  refine Go.step st12 ?_
  show Go p e below _ T12 (mkF m 16 #[.val (.ref a1), .val .null, .val (.double d1), .second, .val (.double d2), .second, .val (.long q1), .second] [])
  refine Go.step (fun _ k => XS.aloadN X12.here hx rfl (hb hby own_f26) rfl rfl k) ?_
  show Go p e below _ T12 (mkF m 17 #[.val (.ref a1), .val .null, .val (.double d1), .second, .val (.double d2), .second, .val (.long q1), .second] [(.ref a1)])
  refine Go.step (fun _ k => XS.lload X12.here hx rfl (hb hby own_f27) rfl k) ?_
  show Go p e below _ T12 (mkF m 19 #[.val (.ref a1), .val .null, .val (.double d1), .second, .val (.double d2), .second, .val (.long q1), .second] [(.long q1), (.ref a1)])
  obtain ⟨T13, h13, X13, e13, W13, st13⟩ := putF X12 hx hZ hown (host := "") (Or.inl (hw _ (List.mem_of_getElem? (i := 34) rfl))) Via.refl e12 F_steps_a1 E_a1 (Or.inl (hw _ (List.mem_of_getElem? (i := 35) rfl))) (hw _ (List.mem_of_getElem? (i := 17) rfl)) (ty := .long) (by decide) rfl rfl (g := (mkF m 19 #[.val (.ref a1), .val .null, .val (.double d1), .second, .val (.double d2), .second, .val (.long q1), .second] [(.long q1), (.ref a1)])) rfl rfl (hb hby own_f28)
  have Fw13 := F_steps_a1.same W13
  replace E_a1 := E_a1.wr W13
  replace F_changes_a1 := F_changes_a1.other W13 (Or.inr (slot_ne (Or.inl (hw _ (List.mem_of_getElem? (i := 29) rfl))) (Or.inl (hw _ (List.mem_of_getElem? (i := 35) rfl))) (by decide) (t := (.object "com/example/bidkeel/bidkeel/Knapsack$Change")) (t' := .long) (by decide) (by decide)))
  replace F_profit_a1 := F_profit_a1.other W13 (Or.inr (slot_ne (Or.inl (hw _ (List.mem_of_getElem? (i := 31) rfl))) (Or.inl (hw _ (List.mem_of_getElem? (i := 35) rfl))) (by decide) (t := .double) (t' := .long) (by decide) (by decide)))
  replace F_units_a1 := F_units_a1.other W13 (Or.inr (slot_ne (Or.inl (hw _ (List.mem_of_getElem? (i := 33) rfl))) (Or.inl (hw _ (List.mem_of_getElem? (i := 35) rfl))) (by decide) (t := .double) (t' := .long) (by decide) (by decide)))
  replace F_steps_a1 := Fw13
  replace K0 := K0.wr W13 (Or.inl (List.mem_of_getElem? (i := 0) rfl))
  replace Zn := Nat.le_trans Zn (Nat.le_of_eq W13.size.symm)
  have N13 := Fr.snoc X13 N12 g_a1
  refine Go.step st13 ?_
  show Go p e below _ T13 (mkF m 22 #[.val (.ref a1), .val .null, .val (.double d1), .second, .val (.double d2), .second, .val (.long q1), .second] [])
  obtain ⟨fs, hr, hrun, hended, hW, hsame⟩ := X13.leave (v := none) (fun _ => rfl)
  refine Go.fin (X13.returnOut hx Bd.returns (hb hby own_f29) hr) hrun hended ?_
  refine ⟨_, _, rfl, ?_, ⟨_, rfl⟩, hW, hsame.mono (by decide) (by decide)⟩
  show QTN Z a1 d1 d2 q1 h0 n0 _ T13.heap _
  rw [e13]
  exact ⟨rfl, N13, K0, F_changes_a1⟩
theorem own_ef_TR (m : MethodId) (a1 : Addr) (a2 : Addr) (d1 : UInt64) (d2 : UInt64) (q1 : Int64) : entryFrame m #[(.ref a1), (.ref a2), (.double d1), (.double d2), (.long q1)] 8 = mkF m 0 #[.val (.ref a1), .val (.ref a2), .val (.double d1), .second, .val (.double d2), .second, .val (.long q1), .second] [] := by first | (simp [entryFrame, mkF, argsToLocals, Value.category]; done) | rfl
def QTR (Z : State) (a1 : Addr) (a2 : Addr) (d1 : UInt64) (d2 : UInt64) (q1 : Int64) (h0 : Heap) (n0 : Nat) (v : Option Value) (h : Heap) (L : List Loc) : Prop := v = none ∧ Fr n0 L ∧ Keep h0 h [a1] ∧ Fld Z h a1 "com/example/bidkeel/bidkeel/Knapsack$Best" "changes" "Lcom/example/bidkeel/bidkeel/Knapsack$Change;" (.ref a2)
set_option maxRecDepth 65536 in
set_option maxHeartbeats 40000000 in
theorem rmTR (l : Launch) (Z : State) (a0 : Array Value) (hw : ∀ d ∈ tables_1, d.before a0 Z = true) (ws : List Jvm.Cond) (a1 : Addr) (a2 : Addr) (d1 : UInt64) (d2 : UInt64) (q1 : Int64) (h0 : Heap) (n0 : Nat) (Z0 : n0 ≤ h0.size) (E_a1 : Exa Z h0 a1 "com/example/bidkeel/bidkeel/Knapsack$Best") (F_changes_a1 : Fld Z h0 a1 "com/example/bidkeel/bidkeel/Knapsack$Best" "changes" "Lcom/example/bidkeel/bidkeel/Knapsack$Change;" .null) (F_profit_a1 : Fld Z h0 a1 "com/example/bidkeel/bidkeel/Knapsack$Best" "profit" "D" (.double 0)) (F_units_a1 : Fld Z h0 a1 "com/example/bidkeel/bidkeel/Knapsack$Best" "units" "D" (.double 0)) (F_steps_a1 : Fld Z h0 a1 "com/example/bidkeel/bidkeel/Knapsack$Best" "steps" "J" (.long (0 : Int64))) (g_a1 : n0 ≤ a1) :
    MetFree l (⟨"com/example/bidkeel/bidkeel/Knapsack$Best", "take", "(Lcom/example/bidkeel/bidkeel/Knapsack$Change;DDJ)V"⟩ : MethodName) (head1 (Jvm.Cond.code (⟨"com/example/bidkeel/bidkeel/Knapsack$Best", "take", "(Lcom/example/bidkeel/bidkeel/Knapsack$Change;DDJ)V"⟩ : MethodName) prog_29_method_2_code 8 none :: ws) ({ frames := 0, cells := 0, slots := 0, locals := 0 } : Room)) (fun a U => a = #[(.ref a1), (.ref a2), (.double d1), (.double d2), (.long q1)] ∧ Z.Warmed39 U.vm ∧ U.heap = h0) (fun _ _ _ _ _ => True) (fun _ U o U' => ∃ v L, o = .returned v ∧ QTR Z a1 a2 d1 d2 q1 h0 n0 v U'.heap L ∧ FrameEnd U o U' L ({ frames := 0, cells := 0, slots := 0, locals := 0 } : Room).cells ({ frames := 0, cells := 0, slots := 0, locals := 0 } : Room).slots) := by
  refine MetFree.of_bodySF (plainFor_of_name own_f16) hisR ?_
  intro p e s m args below meth c s₁ Bd hml0 hP hK
  obtain ⟨rfl, hZ, hh⟩ := hP
  have hx := Bd.exec
  have hby := Bd.bytes
  have hml : c.maxLocals = 8 := hml0
  have hown : s.vm.findClass "com/example/bidkeel/bidkeel/Knapsack$Best" = some m.cls := findClass_of_methodNamed Bd.named
  have hnm := (name_of_methodNamed Bd.named Bd.method).1
  have X0 : Stand p l e ({ frames := 0, cells := 0, slots := 0, locals := 0 } : Room) s m #[(.ref a1), (.ref a2), (.double d1), (.double d2), (.long q1)] below meth c s₁ [] 0 0 := Stand.of_body Bd
  have e0 : s₁.heap = h0 := by rw [← hh, Bd.state]; rfl
  have N0 := Fr.nil n0
  refine Go.start (own_ef_TR m a1 a2 d1 d2 q1) ?_
  show Go p e below _ s₁ (mkF m 0 #[.val (.ref a1), .val (.ref a2), .val (.double d1), .second, .val (.double d2), .second, .val (.long q1), .second] [])
  have Zn := Z0
  have K0 : Keep h0 h0 [a1] := Keep.refl h0 _
  refine Go.step (fun _ k => XS.aloadN X0.here hx rfl (hb hby own_f17) rfl rfl k) ?_
  show Go p e below _ s₁ (mkF m 1 #[.val (.ref a1), .val (.ref a2), .val (.double d1), .second, .val (.double d2), .second, .val (.long q1), .second] [(.ref a1)])
  refine Go.step (fun _ k => XS.aloadN X0.here hx rfl (hb hby own_f18) rfl rfl k) ?_
  show Go p e below _ s₁ (mkF m 2 #[.val (.ref a1), .val (.ref a2), .val (.double d1), .second, .val (.double d2), .second, .val (.long q1), .second] [(.ref a2), (.ref a1)])
  obtain ⟨T14, h14, X14, e14, W14, st14⟩ := putF X0 hx hZ hown (host := "") (Or.inl (hw _ (List.mem_of_getElem? (i := 28) rfl))) Via.refl e0 F_changes_a1 E_a1 (Or.inl (hw _ (List.mem_of_getElem? (i := 29) rfl))) (hw _ (List.mem_of_getElem? (i := 17) rfl)) (ty := (.object "com/example/bidkeel/bidkeel/Knapsack$Change")) (by decide) rfl rfl (g := (mkF m 2 #[.val (.ref a1), .val (.ref a2), .val (.double d1), .second, .val (.double d2), .second, .val (.long q1), .second] [(.ref a2), (.ref a1)])) rfl rfl (hb hby own_f19)
  have Fw14 := F_changes_a1.same W14
  replace E_a1 := E_a1.wr W14
  replace F_profit_a1 := F_profit_a1.other W14 (Or.inr (slot_ne (Or.inl (hw _ (List.mem_of_getElem? (i := 31) rfl))) (Or.inl (hw _ (List.mem_of_getElem? (i := 29) rfl))) (by decide) (t := .double) (t' := (.object "com/example/bidkeel/bidkeel/Knapsack$Change")) (by decide) (by decide)))
  replace F_units_a1 := F_units_a1.other W14 (Or.inr (slot_ne (Or.inl (hw _ (List.mem_of_getElem? (i := 33) rfl))) (Or.inl (hw _ (List.mem_of_getElem? (i := 29) rfl))) (by decide) (t := .double) (t' := (.object "com/example/bidkeel/bidkeel/Knapsack$Change")) (by decide) (by decide)))
  replace F_steps_a1 := F_steps_a1.other W14 (Or.inr (slot_ne (Or.inl (hw _ (List.mem_of_getElem? (i := 35) rfl))) (Or.inl (hw _ (List.mem_of_getElem? (i := 29) rfl))) (by decide) (t := .long) (t' := (.object "com/example/bidkeel/bidkeel/Knapsack$Change")) (by decide) (by decide)))
  replace F_changes_a1 := Fw14
  replace K0 := K0.wr W14 (Or.inl (List.mem_of_getElem? (i := 0) rfl))
  replace Zn := Nat.le_trans Zn (Nat.le_of_eq W14.size.symm)
  have N14 := Fr.snoc X14 N0 g_a1
  refine Go.step st14 ?_
  show Go p e below _ T14 (mkF m 5 #[.val (.ref a1), .val (.ref a2), .val (.double d1), .second, .val (.double d2), .second, .val (.long q1), .second] [])
  refine Go.step (fun _ k => XS.aloadN X14.here hx rfl (hb hby own_f20) rfl rfl k) ?_
  show Go p e below _ T14 (mkF m 6 #[.val (.ref a1), .val (.ref a2), .val (.double d1), .second, .val (.double d2), .second, .val (.long q1), .second] [(.ref a1)])
  refine Go.step (fun _ k => XS.dloadN X14.here hx rfl (hb hby own_f21) rfl k) ?_
  show Go p e below _ T14 (mkF m 7 #[.val (.ref a1), .val (.ref a2), .val (.double d1), .second, .val (.double d2), .second, .val (.long q1), .second] [(.double d1), (.ref a1)])
  obtain ⟨T15, h15, X15, e15, W15, st15⟩ := putF X14 hx hZ hown (host := "") (Or.inl (hw _ (List.mem_of_getElem? (i := 30) rfl))) Via.refl e14 F_profit_a1 E_a1 (Or.inl (hw _ (List.mem_of_getElem? (i := 31) rfl))) (hw _ (List.mem_of_getElem? (i := 17) rfl)) (ty := .double) (by decide) rfl rfl (g := (mkF m 7 #[.val (.ref a1), .val (.ref a2), .val (.double d1), .second, .val (.double d2), .second, .val (.long q1), .second] [(.double d1), (.ref a1)])) rfl rfl (hb hby own_f22)
  have Fw15 := F_profit_a1.same W15
  replace E_a1 := E_a1.wr W15
  replace F_units_a1 := F_units_a1.other W15 (Or.inr (slot_ne (Or.inl (hw _ (List.mem_of_getElem? (i := 33) rfl))) (Or.inl (hw _ (List.mem_of_getElem? (i := 31) rfl))) (by decide) (t := .double) (t' := .double) (by decide) (by decide)))
  replace F_steps_a1 := F_steps_a1.other W15 (Or.inr (slot_ne (Or.inl (hw _ (List.mem_of_getElem? (i := 35) rfl))) (Or.inl (hw _ (List.mem_of_getElem? (i := 31) rfl))) (by decide) (t := .long) (t' := .double) (by decide) (by decide)))
  replace F_changes_a1 := F_changes_a1.other W15 (Or.inr (slot_ne (Or.inl (hw _ (List.mem_of_getElem? (i := 29) rfl))) (Or.inl (hw _ (List.mem_of_getElem? (i := 31) rfl))) (by decide) (t := (.object "com/example/bidkeel/bidkeel/Knapsack$Change")) (t' := .double) (by decide) (by decide)))
  replace F_profit_a1 := Fw15
  replace K0 := K0.wr W15 (Or.inl (List.mem_of_getElem? (i := 0) rfl))
  replace Zn := Nat.le_trans Zn (Nat.le_of_eq W15.size.symm)
  have N15 := Fr.snoc X15 N14 g_a1
  refine Go.step st15 ?_
  show Go p e below _ T15 (mkF m 10 #[.val (.ref a1), .val (.ref a2), .val (.double d1), .second, .val (.double d2), .second, .val (.long q1), .second] [])
  refine Go.step (fun _ k => XS.aloadN X15.here hx rfl (hb hby own_f23) rfl rfl k) ?_
  show Go p e below _ T15 (mkF m 11 #[.val (.ref a1), .val (.ref a2), .val (.double d1), .second, .val (.double d2), .second, .val (.long q1), .second] [(.ref a1)])
  refine Go.step (fun _ k => XS.dload X15.here hx rfl (hb hby own_f24) rfl k) ?_
  show Go p e below _ T15 (mkF m 13 #[.val (.ref a1), .val (.ref a2), .val (.double d1), .second, .val (.double d2), .second, .val (.long q1), .second] [(.double d2), (.ref a1)])
  obtain ⟨T16, h16, X16, e16, W16, st16⟩ := putF X15 hx hZ hown (host := "") (Or.inl (hw _ (List.mem_of_getElem? (i := 32) rfl))) Via.refl e15 F_units_a1 E_a1 (Or.inl (hw _ (List.mem_of_getElem? (i := 33) rfl))) (hw _ (List.mem_of_getElem? (i := 17) rfl)) (ty := .double) (by decide) rfl rfl (g := (mkF m 13 #[.val (.ref a1), .val (.ref a2), .val (.double d1), .second, .val (.double d2), .second, .val (.long q1), .second] [(.double d2), (.ref a1)])) rfl rfl (hb hby own_f25)
  have Fw16 := F_units_a1.same W16
  replace E_a1 := E_a1.wr W16
  replace F_steps_a1 := F_steps_a1.other W16 (Or.inr (slot_ne (Or.inl (hw _ (List.mem_of_getElem? (i := 35) rfl))) (Or.inl (hw _ (List.mem_of_getElem? (i := 33) rfl))) (by decide) (t := .long) (t' := .double) (by decide) (by decide)))
  replace F_changes_a1 := F_changes_a1.other W16 (Or.inr (slot_ne (Or.inl (hw _ (List.mem_of_getElem? (i := 29) rfl))) (Or.inl (hw _ (List.mem_of_getElem? (i := 33) rfl))) (by decide) (t := (.object "com/example/bidkeel/bidkeel/Knapsack$Change")) (t' := .double) (by decide) (by decide)))
  replace F_profit_a1 := F_profit_a1.other W16 (Or.inr (slot_ne (Or.inl (hw _ (List.mem_of_getElem? (i := 31) rfl))) (Or.inl (hw _ (List.mem_of_getElem? (i := 33) rfl))) (by decide) (t := .double) (t' := .double) (by decide) (by decide)))
  replace F_units_a1 := Fw16
  replace K0 := K0.wr W16 (Or.inl (List.mem_of_getElem? (i := 0) rfl))
  replace Zn := Nat.le_trans Zn (Nat.le_of_eq W16.size.symm)
  have N16 := Fr.snoc X16 N15 g_a1
  refine Go.step st16 ?_
  show Go p e below _ T16 (mkF m 16 #[.val (.ref a1), .val (.ref a2), .val (.double d1), .second, .val (.double d2), .second, .val (.long q1), .second] [])
  refine Go.step (fun _ k => XS.aloadN X16.here hx rfl (hb hby own_f26) rfl rfl k) ?_
  show Go p e below _ T16 (mkF m 17 #[.val (.ref a1), .val (.ref a2), .val (.double d1), .second, .val (.double d2), .second, .val (.long q1), .second] [(.ref a1)])
  refine Go.step (fun _ k => XS.lload X16.here hx rfl (hb hby own_f27) rfl k) ?_
  show Go p e below _ T16 (mkF m 19 #[.val (.ref a1), .val (.ref a2), .val (.double d1), .second, .val (.double d2), .second, .val (.long q1), .second] [(.long q1), (.ref a1)])
  obtain ⟨T17, h17, X17, e17, W17, st17⟩ := putF X16 hx hZ hown (host := "") (Or.inl (hw _ (List.mem_of_getElem? (i := 34) rfl))) Via.refl e16 F_steps_a1 E_a1 (Or.inl (hw _ (List.mem_of_getElem? (i := 35) rfl))) (hw _ (List.mem_of_getElem? (i := 17) rfl)) (ty := .long) (by decide) rfl rfl (g := (mkF m 19 #[.val (.ref a1), .val (.ref a2), .val (.double d1), .second, .val (.double d2), .second, .val (.long q1), .second] [(.long q1), (.ref a1)])) rfl rfl (hb hby own_f28)
  have Fw17 := F_steps_a1.same W17
  replace E_a1 := E_a1.wr W17
  replace F_changes_a1 := F_changes_a1.other W17 (Or.inr (slot_ne (Or.inl (hw _ (List.mem_of_getElem? (i := 29) rfl))) (Or.inl (hw _ (List.mem_of_getElem? (i := 35) rfl))) (by decide) (t := (.object "com/example/bidkeel/bidkeel/Knapsack$Change")) (t' := .long) (by decide) (by decide)))
  replace F_profit_a1 := F_profit_a1.other W17 (Or.inr (slot_ne (Or.inl (hw _ (List.mem_of_getElem? (i := 31) rfl))) (Or.inl (hw _ (List.mem_of_getElem? (i := 35) rfl))) (by decide) (t := .double) (t' := .long) (by decide) (by decide)))
  replace F_units_a1 := F_units_a1.other W17 (Or.inr (slot_ne (Or.inl (hw _ (List.mem_of_getElem? (i := 33) rfl))) (Or.inl (hw _ (List.mem_of_getElem? (i := 35) rfl))) (by decide) (t := .double) (t' := .long) (by decide) (by decide)))
  replace F_steps_a1 := Fw17
  replace K0 := K0.wr W17 (Or.inl (List.mem_of_getElem? (i := 0) rfl))
  replace Zn := Nat.le_trans Zn (Nat.le_of_eq W17.size.symm)
  have N17 := Fr.snoc X17 N16 g_a1
  refine Go.step st17 ?_
  show Go p e below _ T17 (mkF m 22 #[.val (.ref a1), .val (.ref a2), .val (.double d1), .second, .val (.double d2), .second, .val (.long q1), .second] [])
  obtain ⟨fs, hr, hrun, hended, hW, hsame⟩ := X17.leave (v := none) (fun _ => rfl)
  refine Go.fin (X17.returnOut hx Bd.returns (hb hby own_f29) hr) hrun hended ?_
  refine ⟨_, _, rfl, ?_, ⟨_, rfl⟩, hW, hsame.mono (by decide) (by decide)⟩
  show QTR Z a1 a2 d1 d2 q1 h0 n0 _ T17.heap _
  rw [e17]
  exact ⟨rfl, N17, K0, F_changes_a1⟩
theorem own_f30 : decode method_2_code 0 = .ok (.iload_n 1, 1) := by decide +kernel
theorem own_f31 : decode method_2_code 1 = .ok (.iconst 3, 1) := by decide +kernel
theorem own_f32 : decode method_2_code 2 = .ok (.if_icmp .lt 12, 3) := by decide +kernel
theorem own_f33 : decode method_2_code 14 = .ok (.iload_n 1, 1) := by decide +kernel
theorem own_f34 : decode method_2_code 15 = .ok (.iconst 2, 1) := by decide +kernel
theorem own_f35 : decode method_2_code 16 = .ok (.if_icmp .lt 11, 3) := by decide +kernel
theorem own_f36 : decode method_2_code 27 = .ok (.iload_n 1, 1) := by decide +kernel
theorem own_f37 : decode method_2_code 28 = .ok (.iconst 1, 1) := by decide +kernel
theorem own_f38 : decode method_2_code 29 = .ok (.if_icmp .lt 11, 3) := by decide +kernel
theorem own_f39 : decode method_2_code 40 = .ok (.iload 8, 2) := by decide +kernel
theorem own_f40 : decode method_2_code 42 = .ok (.ireturn, 1) := by decide +kernel
theorem own_f41 : decode method_2_code 32 = .ok (.iload_n 2, 1) := by decide +kernel
theorem own_f42 : decode method_2_code 33 = .ok (.iload_n 0, 1) := by decide +kernel
theorem own_f43 : decode method_2_code 34 = .ok (.if_icmp .ne 6, 3) := by decide +kernel
theorem own_f44 : decode method_2_code 37 = .ok (.iload 5, 2) := by decide +kernel
theorem own_f45 : decode method_2_code 39 = .ok (.ireturn, 1) := by decide +kernel
theorem own_f46 : decode method_2_code 19 = .ok (.iload_n 3, 1) := by decide +kernel
theorem own_f47 : decode method_2_code 20 = .ok (.iload_n 0, 1) := by decide +kernel
theorem own_f48 : decode method_2_code 21 = .ok (.if_icmp .ne 6, 3) := by decide +kernel
theorem own_f49 : decode method_2_code 24 = .ok (.iload 6, 2) := by decide +kernel
theorem own_f50 : decode method_2_code 26 = .ok (.ireturn, 1) := by decide +kernel
theorem own_f51 : decode method_2_code 5 = .ok (.iload 4, 2) := by decide +kernel
theorem own_f52 : decode method_2_code 7 = .ok (.iload_n 0, 1) := by decide +kernel
theorem own_f53 : decode method_2_code 8 = .ok (.if_icmp .ne 6, 3) := by decide +kernel
theorem own_f54 : decode method_2_code 11 = .ok (.iload 7, 2) := by decide +kernel
theorem own_f55 : decode method_2_code 13 = .ok (.ireturn, 1) := by decide +kernel
theorem own_f56 : plainName "com/example/bidkeel/bidkeel/BestPointsPinLaw" = true := by first | (simp [plainName, overriddenIn]; done) | decide +kernel
theorem own_ef_X (m : MethodId) (k : Int32) (n : Int32) (c0 : Int32) (c1 : Int32) (c2 : Int32) (p0 : Int32) (p1 : Int32) (p2 : Int32) (lp : Int32) : entryFrame m #[(.int k), (.int n), (.int c0), (.int c1), (.int c2), (.int p0), (.int p1), (.int p2), (.int lp)] 9 = mkF m 0 #[.val (.int k), .val (.int n), .val (.int c0), .val (.int c1), .val (.int c2), .val (.int p0), .val (.int p1), .val (.int p2), .val (.int lp)] [] := by first | (simp [entryFrame, mkF, argsToLocals, Value.category]; done) | rfl
def QX (Z : State) (k : Int32) (n : Int32) (c0 : Int32) (c1 : Int32) (c2 : Int32) (p0 : Int32) (p1 : Int32) (p2 : Int32) (lp : Int32) (h0 : Heap) (n0 : Nat) (v : Option Value) (h : Heap) (L : List Loc) : Prop := v = some (.int (own_exp k n c0 c1 c2 p0 p1 p2 lp)) ∧ Fr n0 L ∧ h = h0
set_option maxRecDepth 65536 in
set_option maxHeartbeats 40000000 in
theorem rmX (l : Launch) (Z : State) (a0 : Array Value) (hw : ∀ d ∈ tables_1, d.before a0 Z = true) (ws : List Jvm.Cond) (k : Int32) (n : Int32) (c0 : Int32) (c1 : Int32) (c2 : Int32) (p0 : Int32) (p1 : Int32) (p2 : Int32) (lp : Int32) (h0 : Heap) (n0 : Nat) (Z0 : n0 ≤ h0.size)  :
    MetFree l (⟨"com/example/bidkeel/bidkeel/BestPointsPinLaw", "expected", "(IIIIIIIII)I"⟩ : MethodName) (head1 (Jvm.Cond.code (⟨"com/example/bidkeel/bidkeel/BestPointsPinLaw", "expected", "(IIIIIIIII)I"⟩ : MethodName) method_2_code 9 (some .int) :: ws) ({ frames := 0, cells := 0, slots := 0, locals := 0 } : Room)) (fun a U => a = #[(.int k), (.int n), (.int c0), (.int c1), (.int c2), (.int p0), (.int p1), (.int p2), (.int lp)] ∧ Z.Warmed39 U.vm ∧ U.heap = h0) (fun _ _ _ _ _ => True) (fun _ U o U' => ∃ v L, o = .returned v ∧ QX Z k n c0 c1 c2 p0 p1 p2 lp h0 n0 v U'.heap L ∧ FrameEnd U o U' L ({ frames := 0, cells := 0, slots := 0, locals := 0 } : Room).cells ({ frames := 0, cells := 0, slots := 0, locals := 0 } : Room).slots) := by
  refine MetFree.of_bodySF (plainFor_of_name own_f56) hisR ?_
  intro p e s m args below meth c s₁ Bd hml0 hP hK
  obtain ⟨rfl, hZ, hh⟩ := hP
  have hx := Bd.exec
  have hby := Bd.bytes
  have hml : c.maxLocals = 9 := hml0
  have hown : s.vm.findClass "com/example/bidkeel/bidkeel/BestPointsPinLaw" = some m.cls := findClass_of_methodNamed Bd.named
  have hnm := (name_of_methodNamed Bd.named Bd.method).1
  have X0 : Stand p l e ({ frames := 0, cells := 0, slots := 0, locals := 0 } : Room) s m #[(.int k), (.int n), (.int c0), (.int c1), (.int c2), (.int p0), (.int p1), (.int p2), (.int lp)] below meth c s₁ [] 0 0 := Stand.of_body Bd
  have e0 : s₁.heap = h0 := by rw [← hh, Bd.state]; rfl
  have N0 := Fr.nil n0
  refine Go.start (own_ef_X m k n c0 c1 c2 p0 p1 p2 lp) ?_
  show Go p e below _ s₁ (mkF m 0 #[.val (.int k), .val (.int n), .val (.int c0), .val (.int c1), .val (.int c2), .val (.int p0), .val (.int p1), .val (.int p2), .val (.int lp)] [])
  refine Go.step (fun _ k => XS.iloadN X0.here hx rfl (hb hby own_f30) rfl k) ?_
  show Go p e below _ s₁ (mkF m 1 #[.val (.int k), .val (.int n), .val (.int c0), .val (.int c1), .val (.int c2), .val (.int p0), .val (.int p1), .val (.int p2), .val (.int lp)] [(.int n)])
  refine Go.step (fun _ k => XS.iconst X0.here hx rfl (hb hby own_f31) k) ?_
  show Go p e below _ s₁ (mkF m 2 #[.val (.int k), .val (.int n), .val (.int c0), .val (.int c1), .val (.int c2), .val (.int p0), .val (.int p1), .val (.int p2), .val (.int lp)] [(.int (3 : Int32)), (.int n)])
  by_cases hc2_18 : n < (3 : Int32)
  · show Go p e below _ s₁ (mkF m 2 #[.val (.int k), .val (.int n), .val (.int c0), .val (.int c1), .val (.int c2), .val (.int p0), .val (.int p1), .val (.int p2), .val (.int lp)] [(.int (3 : Int32)), (.int n)])
    refine Go.step (fun _ k => XS.icmpYes X0.here hx rfl (pc0 := 2) (pc' := 14) rfl (hb hby own_f32) rfl (tlt hc2_18).1 (by decide) (by decide) k) ?_
    show Go p e below _ s₁ (mkF m 14 #[.val (.int k), .val (.int n), .val (.int c0), .val (.int c1), .val (.int c2), .val (.int p0), .val (.int p1), .val (.int p2), .val (.int lp)] [])
    refine Go.step (fun _ k => XS.iloadN X0.here hx rfl (hb hby own_f33) rfl k) ?_
    show Go p e below _ s₁ (mkF m 15 #[.val (.int k), .val (.int n), .val (.int c0), .val (.int c1), .val (.int c2), .val (.int p0), .val (.int p1), .val (.int p2), .val (.int lp)] [(.int n)])
    refine Go.step (fun _ k => XS.iconst X0.here hx rfl (hb hby own_f34) k) ?_
    show Go p e below _ s₁ (mkF m 16 #[.val (.int k), .val (.int n), .val (.int c0), .val (.int c1), .val (.int c2), .val (.int p0), .val (.int p1), .val (.int p2), .val (.int lp)] [(.int (2 : Int32)), (.int n)])
    by_cases hc16_19 : n < (2 : Int32)
    · show Go p e below _ s₁ (mkF m 16 #[.val (.int k), .val (.int n), .val (.int c0), .val (.int c1), .val (.int c2), .val (.int p0), .val (.int p1), .val (.int p2), .val (.int lp)] [(.int (2 : Int32)), (.int n)])
      refine Go.step (fun _ k => XS.icmpYes X0.here hx rfl (pc0 := 16) (pc' := 27) rfl (hb hby own_f35) rfl (tlt hc16_19).1 (by decide) (by decide) k) ?_
      show Go p e below _ s₁ (mkF m 27 #[.val (.int k), .val (.int n), .val (.int c0), .val (.int c1), .val (.int c2), .val (.int p0), .val (.int p1), .val (.int p2), .val (.int lp)] [])
      refine Go.step (fun _ k => XS.iloadN X0.here hx rfl (hb hby own_f36) rfl k) ?_
      show Go p e below _ s₁ (mkF m 28 #[.val (.int k), .val (.int n), .val (.int c0), .val (.int c1), .val (.int c2), .val (.int p0), .val (.int p1), .val (.int p2), .val (.int lp)] [(.int n)])
      refine Go.step (fun _ k => XS.iconst X0.here hx rfl (hb hby own_f37) k) ?_
      show Go p e below _ s₁ (mkF m 29 #[.val (.int k), .val (.int n), .val (.int c0), .val (.int c1), .val (.int c2), .val (.int p0), .val (.int p1), .val (.int p2), .val (.int lp)] [(.int (1 : Int32)), (.int n)])
      by_cases hc29_20 : n < (1 : Int32)
      · show Go p e below _ s₁ (mkF m 29 #[.val (.int k), .val (.int n), .val (.int c0), .val (.int c1), .val (.int c2), .val (.int p0), .val (.int p1), .val (.int p2), .val (.int lp)] [(.int (1 : Int32)), (.int n)])
        refine Go.step (fun _ k => XS.icmpYes X0.here hx rfl (pc0 := 29) (pc' := 40) rfl (hb hby own_f38) rfl (tlt hc29_20).1 (by decide) (by decide) k) ?_
        show Go p e below _ s₁ (mkF m 40 #[.val (.int k), .val (.int n), .val (.int c0), .val (.int c1), .val (.int c2), .val (.int p0), .val (.int p1), .val (.int p2), .val (.int lp)] [])
        refine Go.step (fun _ k => XS.iload X0.here hx rfl (hb hby own_f39) rfl k) ?_
        show Go p e below _ s₁ (mkF m 42 #[.val (.int k), .val (.int n), .val (.int c0), .val (.int c1), .val (.int c2), .val (.int p0), .val (.int p1), .val (.int p2), .val (.int lp)] [(.int lp)])
        have er : (own_exp k n c0 c1 c2 p0 p1 p2 lp) = lp := by simp [own_exp, hc2_18, hc16_19, hc29_20]
        obtain ⟨fs, hr, hrun, hended, hW, hsame⟩ := X0.leave (v := some (.int lp)) (fun h => by rw [Bd.returns] at h; cases h)
        refine Go.fin (retI X0 hx Bd.returns (hb hby own_f40) hr) hrun hended ?_
        refine ⟨_, _, rfl, ?_, ⟨_, rfl⟩, hW, hsame.mono (by decide) (by decide)⟩
        show QX Z k n c0 c1 c2 p0 p1 p2 lp h0 n0 _ s₁.heap _
        rw [e0]
        exact ⟨by rw [er], N0, rfl⟩
      · show Go p e below _ s₁ (mkF m 29 #[.val (.int k), .val (.int n), .val (.int c0), .val (.int c1), .val (.int c2), .val (.int p0), .val (.int p1), .val (.int p2), .val (.int lp)] [(.int (1 : Int32)), (.int n)])
        refine Go.step (fun _ k => XS.icmpNo X0.here hx rfl (hb hby own_f38) rfl (flt hc29_20).1 k) ?_
        show Go p e below _ s₁ (mkF m 32 #[.val (.int k), .val (.int n), .val (.int c0), .val (.int c1), .val (.int c2), .val (.int p0), .val (.int p1), .val (.int p2), .val (.int lp)] [])
        refine Go.step (fun _ k => XS.iloadN X0.here hx rfl (hb hby own_f41) rfl k) ?_
        show Go p e below _ s₁ (mkF m 33 #[.val (.int k), .val (.int n), .val (.int c0), .val (.int c1), .val (.int c2), .val (.int p0), .val (.int p1), .val (.int p2), .val (.int lp)] [(.int c0)])
        refine Go.step (fun _ k => XS.iloadN X0.here hx rfl (hb hby own_f42) rfl k) ?_
        show Go p e below _ s₁ (mkF m 34 #[.val (.int k), .val (.int n), .val (.int c0), .val (.int c1), .val (.int c2), .val (.int p0), .val (.int p1), .val (.int p2), .val (.int lp)] [(.int k), (.int c0)])
        by_cases hc34_21 : c0 = k
        · show Go p e below _ s₁ (mkF m 34 #[.val (.int k), .val (.int n), .val (.int c0), .val (.int c1), .val (.int c2), .val (.int p0), .val (.int p1), .val (.int p2), .val (.int lp)] [(.int k), (.int c0)])
          refine Go.step (fun _ k => XS.icmpNo X0.here hx rfl (hb hby own_f43) rfl (teq hc34_21).2 k) ?_
          show Go p e below _ s₁ (mkF m 37 #[.val (.int k), .val (.int n), .val (.int c0), .val (.int c1), .val (.int c2), .val (.int p0), .val (.int p1), .val (.int p2), .val (.int lp)] [])
          refine Go.step (fun _ k => XS.iload X0.here hx rfl (hb hby own_f44) rfl k) ?_
          show Go p e below _ s₁ (mkF m 39 #[.val (.int k), .val (.int n), .val (.int c0), .val (.int c1), .val (.int c2), .val (.int p0), .val (.int p1), .val (.int p2), .val (.int lp)] [(.int p0)])
          have er : (own_exp k n c0 c1 c2 p0 p1 p2 lp) = p0 := by simp [own_exp, hc2_18, hc16_19, hc29_20, hc34_21]
          obtain ⟨fs, hr, hrun, hended, hW, hsame⟩ := X0.leave (v := some (.int p0)) (fun h => by rw [Bd.returns] at h; cases h)
          refine Go.fin (retI X0 hx Bd.returns (hb hby own_f45) hr) hrun hended ?_
          refine ⟨_, _, rfl, ?_, ⟨_, rfl⟩, hW, hsame.mono (by decide) (by decide)⟩
          show QX Z k n c0 c1 c2 p0 p1 p2 lp h0 n0 _ s₁.heap _
          rw [e0]
          exact ⟨by rw [er], N0, rfl⟩
        · show Go p e below _ s₁ (mkF m 34 #[.val (.int k), .val (.int n), .val (.int c0), .val (.int c1), .val (.int c2), .val (.int p0), .val (.int p1), .val (.int p2), .val (.int lp)] [(.int k), (.int c0)])
          refine Go.step (fun _ k => XS.icmpYes X0.here hx rfl (pc0 := 34) (pc' := 40) rfl (hb hby own_f43) rfl (feq hc34_21).2 (by decide) (by decide) k) ?_
          show Go p e below _ s₁ (mkF m 40 #[.val (.int k), .val (.int n), .val (.int c0), .val (.int c1), .val (.int c2), .val (.int p0), .val (.int p1), .val (.int p2), .val (.int lp)] [])
          refine Go.step (fun _ k => XS.iload X0.here hx rfl (hb hby own_f39) rfl k) ?_
          show Go p e below _ s₁ (mkF m 42 #[.val (.int k), .val (.int n), .val (.int c0), .val (.int c1), .val (.int c2), .val (.int p0), .val (.int p1), .val (.int p2), .val (.int lp)] [(.int lp)])
          have er : (own_exp k n c0 c1 c2 p0 p1 p2 lp) = lp := by simp [own_exp, hc2_18, hc16_19, hc29_20, hc34_21]
          obtain ⟨fs, hr, hrun, hended, hW, hsame⟩ := X0.leave (v := some (.int lp)) (fun h => by rw [Bd.returns] at h; cases h)
          refine Go.fin (retI X0 hx Bd.returns (hb hby own_f40) hr) hrun hended ?_
          refine ⟨_, _, rfl, ?_, ⟨_, rfl⟩, hW, hsame.mono (by decide) (by decide)⟩
          show QX Z k n c0 c1 c2 p0 p1 p2 lp h0 n0 _ s₁.heap _
          rw [e0]
          exact ⟨by rw [er], N0, rfl⟩
    · show Go p e below _ s₁ (mkF m 16 #[.val (.int k), .val (.int n), .val (.int c0), .val (.int c1), .val (.int c2), .val (.int p0), .val (.int p1), .val (.int p2), .val (.int lp)] [(.int (2 : Int32)), (.int n)])
      refine Go.step (fun _ k => XS.icmpNo X0.here hx rfl (hb hby own_f35) rfl (flt hc16_19).1 k) ?_
      show Go p e below _ s₁ (mkF m 19 #[.val (.int k), .val (.int n), .val (.int c0), .val (.int c1), .val (.int c2), .val (.int p0), .val (.int p1), .val (.int p2), .val (.int lp)] [])
      refine Go.step (fun _ k => XS.iloadN X0.here hx rfl (hb hby own_f46) rfl k) ?_
      show Go p e below _ s₁ (mkF m 20 #[.val (.int k), .val (.int n), .val (.int c0), .val (.int c1), .val (.int c2), .val (.int p0), .val (.int p1), .val (.int p2), .val (.int lp)] [(.int c1)])
      refine Go.step (fun _ k => XS.iloadN X0.here hx rfl (hb hby own_f47) rfl k) ?_
      show Go p e below _ s₁ (mkF m 21 #[.val (.int k), .val (.int n), .val (.int c0), .val (.int c1), .val (.int c2), .val (.int p0), .val (.int p1), .val (.int p2), .val (.int lp)] [(.int k), (.int c1)])
      by_cases hc21_22 : c1 = k
      · show Go p e below _ s₁ (mkF m 21 #[.val (.int k), .val (.int n), .val (.int c0), .val (.int c1), .val (.int c2), .val (.int p0), .val (.int p1), .val (.int p2), .val (.int lp)] [(.int k), (.int c1)])
        refine Go.step (fun _ k => XS.icmpNo X0.here hx rfl (hb hby own_f48) rfl (teq hc21_22).2 k) ?_
        show Go p e below _ s₁ (mkF m 24 #[.val (.int k), .val (.int n), .val (.int c0), .val (.int c1), .val (.int c2), .val (.int p0), .val (.int p1), .val (.int p2), .val (.int lp)] [])
        refine Go.step (fun _ k => XS.iload X0.here hx rfl (hb hby own_f49) rfl k) ?_
        show Go p e below _ s₁ (mkF m 26 #[.val (.int k), .val (.int n), .val (.int c0), .val (.int c1), .val (.int c2), .val (.int p0), .val (.int p1), .val (.int p2), .val (.int lp)] [(.int p1)])
        have er : (own_exp k n c0 c1 c2 p0 p1 p2 lp) = p1 := by simp [own_exp, hc2_18, hc16_19, hc21_22]
        obtain ⟨fs, hr, hrun, hended, hW, hsame⟩ := X0.leave (v := some (.int p1)) (fun h => by rw [Bd.returns] at h; cases h)
        refine Go.fin (retI X0 hx Bd.returns (hb hby own_f50) hr) hrun hended ?_
        refine ⟨_, _, rfl, ?_, ⟨_, rfl⟩, hW, hsame.mono (by decide) (by decide)⟩
        show QX Z k n c0 c1 c2 p0 p1 p2 lp h0 n0 _ s₁.heap _
        rw [e0]
        exact ⟨by rw [er], N0, rfl⟩
      · show Go p e below _ s₁ (mkF m 21 #[.val (.int k), .val (.int n), .val (.int c0), .val (.int c1), .val (.int c2), .val (.int p0), .val (.int p1), .val (.int p2), .val (.int lp)] [(.int k), (.int c1)])
        refine Go.step (fun _ k => XS.icmpYes X0.here hx rfl (pc0 := 21) (pc' := 27) rfl (hb hby own_f48) rfl (feq hc21_22).2 (by decide) (by decide) k) ?_
        show Go p e below _ s₁ (mkF m 27 #[.val (.int k), .val (.int n), .val (.int c0), .val (.int c1), .val (.int c2), .val (.int p0), .val (.int p1), .val (.int p2), .val (.int lp)] [])
        refine Go.step (fun _ k => XS.iloadN X0.here hx rfl (hb hby own_f36) rfl k) ?_
        show Go p e below _ s₁ (mkF m 28 #[.val (.int k), .val (.int n), .val (.int c0), .val (.int c1), .val (.int c2), .val (.int p0), .val (.int p1), .val (.int p2), .val (.int lp)] [(.int n)])
        refine Go.step (fun _ k => XS.iconst X0.here hx rfl (hb hby own_f37) k) ?_
        show Go p e below _ s₁ (mkF m 29 #[.val (.int k), .val (.int n), .val (.int c0), .val (.int c1), .val (.int c2), .val (.int p0), .val (.int p1), .val (.int p2), .val (.int lp)] [(.int (1 : Int32)), (.int n)])
        by_cases hc29_23 : n < (1 : Int32)
        · show Go p e below _ s₁ (mkF m 29 #[.val (.int k), .val (.int n), .val (.int c0), .val (.int c1), .val (.int c2), .val (.int p0), .val (.int p1), .val (.int p2), .val (.int lp)] [(.int (1 : Int32)), (.int n)])
          refine Go.step (fun _ k => XS.icmpYes X0.here hx rfl (pc0 := 29) (pc' := 40) rfl (hb hby own_f38) rfl (tlt hc29_23).1 (by decide) (by decide) k) ?_
          show Go p e below _ s₁ (mkF m 40 #[.val (.int k), .val (.int n), .val (.int c0), .val (.int c1), .val (.int c2), .val (.int p0), .val (.int p1), .val (.int p2), .val (.int lp)] [])
          refine Go.step (fun _ k => XS.iload X0.here hx rfl (hb hby own_f39) rfl k) ?_
          show Go p e below _ s₁ (mkF m 42 #[.val (.int k), .val (.int n), .val (.int c0), .val (.int c1), .val (.int c2), .val (.int p0), .val (.int p1), .val (.int p2), .val (.int lp)] [(.int lp)])
          have er : (own_exp k n c0 c1 c2 p0 p1 p2 lp) = lp := by simp [own_exp, hc2_18, hc16_19, hc21_22, hc29_23]
          obtain ⟨fs, hr, hrun, hended, hW, hsame⟩ := X0.leave (v := some (.int lp)) (fun h => by rw [Bd.returns] at h; cases h)
          refine Go.fin (retI X0 hx Bd.returns (hb hby own_f40) hr) hrun hended ?_
          refine ⟨_, _, rfl, ?_, ⟨_, rfl⟩, hW, hsame.mono (by decide) (by decide)⟩
          show QX Z k n c0 c1 c2 p0 p1 p2 lp h0 n0 _ s₁.heap _
          rw [e0]
          exact ⟨by rw [er], N0, rfl⟩
        · show Go p e below _ s₁ (mkF m 29 #[.val (.int k), .val (.int n), .val (.int c0), .val (.int c1), .val (.int c2), .val (.int p0), .val (.int p1), .val (.int p2), .val (.int lp)] [(.int (1 : Int32)), (.int n)])
          refine Go.step (fun _ k => XS.icmpNo X0.here hx rfl (hb hby own_f38) rfl (flt hc29_23).1 k) ?_
          show Go p e below _ s₁ (mkF m 32 #[.val (.int k), .val (.int n), .val (.int c0), .val (.int c1), .val (.int c2), .val (.int p0), .val (.int p1), .val (.int p2), .val (.int lp)] [])
          refine Go.step (fun _ k => XS.iloadN X0.here hx rfl (hb hby own_f41) rfl k) ?_
          show Go p e below _ s₁ (mkF m 33 #[.val (.int k), .val (.int n), .val (.int c0), .val (.int c1), .val (.int c2), .val (.int p0), .val (.int p1), .val (.int p2), .val (.int lp)] [(.int c0)])
          refine Go.step (fun _ k => XS.iloadN X0.here hx rfl (hb hby own_f42) rfl k) ?_
          show Go p e below _ s₁ (mkF m 34 #[.val (.int k), .val (.int n), .val (.int c0), .val (.int c1), .val (.int c2), .val (.int p0), .val (.int p1), .val (.int p2), .val (.int lp)] [(.int k), (.int c0)])
          by_cases hc34_24 : c0 = k
          · show Go p e below _ s₁ (mkF m 34 #[.val (.int k), .val (.int n), .val (.int c0), .val (.int c1), .val (.int c2), .val (.int p0), .val (.int p1), .val (.int p2), .val (.int lp)] [(.int k), (.int c0)])
            refine Go.step (fun _ k => XS.icmpNo X0.here hx rfl (hb hby own_f43) rfl (teq hc34_24).2 k) ?_
            show Go p e below _ s₁ (mkF m 37 #[.val (.int k), .val (.int n), .val (.int c0), .val (.int c1), .val (.int c2), .val (.int p0), .val (.int p1), .val (.int p2), .val (.int lp)] [])
            refine Go.step (fun _ k => XS.iload X0.here hx rfl (hb hby own_f44) rfl k) ?_
            show Go p e below _ s₁ (mkF m 39 #[.val (.int k), .val (.int n), .val (.int c0), .val (.int c1), .val (.int c2), .val (.int p0), .val (.int p1), .val (.int p2), .val (.int lp)] [(.int p0)])
            have er : (own_exp k n c0 c1 c2 p0 p1 p2 lp) = p0 := by simp [own_exp, hc2_18, hc16_19, hc21_22, hc29_23, hc34_24]
            obtain ⟨fs, hr, hrun, hended, hW, hsame⟩ := X0.leave (v := some (.int p0)) (fun h => by rw [Bd.returns] at h; cases h)
            refine Go.fin (retI X0 hx Bd.returns (hb hby own_f45) hr) hrun hended ?_
            refine ⟨_, _, rfl, ?_, ⟨_, rfl⟩, hW, hsame.mono (by decide) (by decide)⟩
            show QX Z k n c0 c1 c2 p0 p1 p2 lp h0 n0 _ s₁.heap _
            rw [e0]
            exact ⟨by rw [er], N0, rfl⟩
          · show Go p e below _ s₁ (mkF m 34 #[.val (.int k), .val (.int n), .val (.int c0), .val (.int c1), .val (.int c2), .val (.int p0), .val (.int p1), .val (.int p2), .val (.int lp)] [(.int k), (.int c0)])
            refine Go.step (fun _ k => XS.icmpYes X0.here hx rfl (pc0 := 34) (pc' := 40) rfl (hb hby own_f43) rfl (feq hc34_24).2 (by decide) (by decide) k) ?_
            show Go p e below _ s₁ (mkF m 40 #[.val (.int k), .val (.int n), .val (.int c0), .val (.int c1), .val (.int c2), .val (.int p0), .val (.int p1), .val (.int p2), .val (.int lp)] [])
            refine Go.step (fun _ k => XS.iload X0.here hx rfl (hb hby own_f39) rfl k) ?_
            show Go p e below _ s₁ (mkF m 42 #[.val (.int k), .val (.int n), .val (.int c0), .val (.int c1), .val (.int c2), .val (.int p0), .val (.int p1), .val (.int p2), .val (.int lp)] [(.int lp)])
            have er : (own_exp k n c0 c1 c2 p0 p1 p2 lp) = lp := by simp [own_exp, hc2_18, hc16_19, hc21_22, hc29_23, hc34_24]
            obtain ⟨fs, hr, hrun, hended, hW, hsame⟩ := X0.leave (v := some (.int lp)) (fun h => by rw [Bd.returns] at h; cases h)
            refine Go.fin (retI X0 hx Bd.returns (hb hby own_f40) hr) hrun hended ?_
            refine ⟨_, _, rfl, ?_, ⟨_, rfl⟩, hW, hsame.mono (by decide) (by decide)⟩
            show QX Z k n c0 c1 c2 p0 p1 p2 lp h0 n0 _ s₁.heap _
            rw [e0]
            exact ⟨by rw [er], N0, rfl⟩
  · show Go p e below _ s₁ (mkF m 2 #[.val (.int k), .val (.int n), .val (.int c0), .val (.int c1), .val (.int c2), .val (.int p0), .val (.int p1), .val (.int p2), .val (.int lp)] [(.int (3 : Int32)), (.int n)])
    refine Go.step (fun _ k => XS.icmpNo X0.here hx rfl (hb hby own_f32) rfl (flt hc2_18).1 k) ?_
    show Go p e below _ s₁ (mkF m 5 #[.val (.int k), .val (.int n), .val (.int c0), .val (.int c1), .val (.int c2), .val (.int p0), .val (.int p1), .val (.int p2), .val (.int lp)] [])
    refine Go.step (fun _ k => XS.iload X0.here hx rfl (hb hby own_f51) rfl k) ?_
    show Go p e below _ s₁ (mkF m 7 #[.val (.int k), .val (.int n), .val (.int c0), .val (.int c1), .val (.int c2), .val (.int p0), .val (.int p1), .val (.int p2), .val (.int lp)] [(.int c2)])
    refine Go.step (fun _ k => XS.iloadN X0.here hx rfl (hb hby own_f52) rfl k) ?_
    show Go p e below _ s₁ (mkF m 8 #[.val (.int k), .val (.int n), .val (.int c0), .val (.int c1), .val (.int c2), .val (.int p0), .val (.int p1), .val (.int p2), .val (.int lp)] [(.int k), (.int c2)])
    by_cases hc8_25 : c2 = k
    · show Go p e below _ s₁ (mkF m 8 #[.val (.int k), .val (.int n), .val (.int c0), .val (.int c1), .val (.int c2), .val (.int p0), .val (.int p1), .val (.int p2), .val (.int lp)] [(.int k), (.int c2)])
      refine Go.step (fun _ k => XS.icmpNo X0.here hx rfl (hb hby own_f53) rfl (teq hc8_25).2 k) ?_
      show Go p e below _ s₁ (mkF m 11 #[.val (.int k), .val (.int n), .val (.int c0), .val (.int c1), .val (.int c2), .val (.int p0), .val (.int p1), .val (.int p2), .val (.int lp)] [])
      refine Go.step (fun _ k => XS.iload X0.here hx rfl (hb hby own_f54) rfl k) ?_
      show Go p e below _ s₁ (mkF m 13 #[.val (.int k), .val (.int n), .val (.int c0), .val (.int c1), .val (.int c2), .val (.int p0), .val (.int p1), .val (.int p2), .val (.int lp)] [(.int p2)])
      have er : (own_exp k n c0 c1 c2 p0 p1 p2 lp) = p2 := by simp [own_exp, hc2_18, hc8_25]
      obtain ⟨fs, hr, hrun, hended, hW, hsame⟩ := X0.leave (v := some (.int p2)) (fun h => by rw [Bd.returns] at h; cases h)
      refine Go.fin (retI X0 hx Bd.returns (hb hby own_f55) hr) hrun hended ?_
      refine ⟨_, _, rfl, ?_, ⟨_, rfl⟩, hW, hsame.mono (by decide) (by decide)⟩
      show QX Z k n c0 c1 c2 p0 p1 p2 lp h0 n0 _ s₁.heap _
      rw [e0]
      exact ⟨by rw [er], N0, rfl⟩
    · show Go p e below _ s₁ (mkF m 8 #[.val (.int k), .val (.int n), .val (.int c0), .val (.int c1), .val (.int c2), .val (.int p0), .val (.int p1), .val (.int p2), .val (.int lp)] [(.int k), (.int c2)])
      refine Go.step (fun _ k => XS.icmpYes X0.here hx rfl (pc0 := 8) (pc' := 14) rfl (hb hby own_f53) rfl (feq hc8_25).2 (by decide) (by decide) k) ?_
      show Go p e below _ s₁ (mkF m 14 #[.val (.int k), .val (.int n), .val (.int c0), .val (.int c1), .val (.int c2), .val (.int p0), .val (.int p1), .val (.int p2), .val (.int lp)] [])
      refine Go.step (fun _ k => XS.iloadN X0.here hx rfl (hb hby own_f33) rfl k) ?_
      show Go p e below _ s₁ (mkF m 15 #[.val (.int k), .val (.int n), .val (.int c0), .val (.int c1), .val (.int c2), .val (.int p0), .val (.int p1), .val (.int p2), .val (.int lp)] [(.int n)])
      refine Go.step (fun _ k => XS.iconst X0.here hx rfl (hb hby own_f34) k) ?_
      show Go p e below _ s₁ (mkF m 16 #[.val (.int k), .val (.int n), .val (.int c0), .val (.int c1), .val (.int c2), .val (.int p0), .val (.int p1), .val (.int p2), .val (.int lp)] [(.int (2 : Int32)), (.int n)])
      by_cases hc16_26 : n < (2 : Int32)
      · show Go p e below _ s₁ (mkF m 16 #[.val (.int k), .val (.int n), .val (.int c0), .val (.int c1), .val (.int c2), .val (.int p0), .val (.int p1), .val (.int p2), .val (.int lp)] [(.int (2 : Int32)), (.int n)])
        refine Go.step (fun _ k => XS.icmpYes X0.here hx rfl (pc0 := 16) (pc' := 27) rfl (hb hby own_f35) rfl (tlt hc16_26).1 (by decide) (by decide) k) ?_
        show Go p e below _ s₁ (mkF m 27 #[.val (.int k), .val (.int n), .val (.int c0), .val (.int c1), .val (.int c2), .val (.int p0), .val (.int p1), .val (.int p2), .val (.int lp)] [])
        refine Go.step (fun _ k => XS.iloadN X0.here hx rfl (hb hby own_f36) rfl k) ?_
        show Go p e below _ s₁ (mkF m 28 #[.val (.int k), .val (.int n), .val (.int c0), .val (.int c1), .val (.int c2), .val (.int p0), .val (.int p1), .val (.int p2), .val (.int lp)] [(.int n)])
        refine Go.step (fun _ k => XS.iconst X0.here hx rfl (hb hby own_f37) k) ?_
        show Go p e below _ s₁ (mkF m 29 #[.val (.int k), .val (.int n), .val (.int c0), .val (.int c1), .val (.int c2), .val (.int p0), .val (.int p1), .val (.int p2), .val (.int lp)] [(.int (1 : Int32)), (.int n)])
        by_cases hc29_27 : n < (1 : Int32)
        · show Go p e below _ s₁ (mkF m 29 #[.val (.int k), .val (.int n), .val (.int c0), .val (.int c1), .val (.int c2), .val (.int p0), .val (.int p1), .val (.int p2), .val (.int lp)] [(.int (1 : Int32)), (.int n)])
          refine Go.step (fun _ k => XS.icmpYes X0.here hx rfl (pc0 := 29) (pc' := 40) rfl (hb hby own_f38) rfl (tlt hc29_27).1 (by decide) (by decide) k) ?_
          show Go p e below _ s₁ (mkF m 40 #[.val (.int k), .val (.int n), .val (.int c0), .val (.int c1), .val (.int c2), .val (.int p0), .val (.int p1), .val (.int p2), .val (.int lp)] [])
          refine Go.step (fun _ k => XS.iload X0.here hx rfl (hb hby own_f39) rfl k) ?_
          show Go p e below _ s₁ (mkF m 42 #[.val (.int k), .val (.int n), .val (.int c0), .val (.int c1), .val (.int c2), .val (.int p0), .val (.int p1), .val (.int p2), .val (.int lp)] [(.int lp)])
          have er : (own_exp k n c0 c1 c2 p0 p1 p2 lp) = lp := by simp [own_exp, hc2_18, hc8_25, hc16_26, hc29_27]
          obtain ⟨fs, hr, hrun, hended, hW, hsame⟩ := X0.leave (v := some (.int lp)) (fun h => by rw [Bd.returns] at h; cases h)
          refine Go.fin (retI X0 hx Bd.returns (hb hby own_f40) hr) hrun hended ?_
          refine ⟨_, _, rfl, ?_, ⟨_, rfl⟩, hW, hsame.mono (by decide) (by decide)⟩
          show QX Z k n c0 c1 c2 p0 p1 p2 lp h0 n0 _ s₁.heap _
          rw [e0]
          exact ⟨by rw [er], N0, rfl⟩
        · show Go p e below _ s₁ (mkF m 29 #[.val (.int k), .val (.int n), .val (.int c0), .val (.int c1), .val (.int c2), .val (.int p0), .val (.int p1), .val (.int p2), .val (.int lp)] [(.int (1 : Int32)), (.int n)])
          refine Go.step (fun _ k => XS.icmpNo X0.here hx rfl (hb hby own_f38) rfl (flt hc29_27).1 k) ?_
          show Go p e below _ s₁ (mkF m 32 #[.val (.int k), .val (.int n), .val (.int c0), .val (.int c1), .val (.int c2), .val (.int p0), .val (.int p1), .val (.int p2), .val (.int lp)] [])
          refine Go.step (fun _ k => XS.iloadN X0.here hx rfl (hb hby own_f41) rfl k) ?_
          show Go p e below _ s₁ (mkF m 33 #[.val (.int k), .val (.int n), .val (.int c0), .val (.int c1), .val (.int c2), .val (.int p0), .val (.int p1), .val (.int p2), .val (.int lp)] [(.int c0)])
          refine Go.step (fun _ k => XS.iloadN X0.here hx rfl (hb hby own_f42) rfl k) ?_
          show Go p e below _ s₁ (mkF m 34 #[.val (.int k), .val (.int n), .val (.int c0), .val (.int c1), .val (.int c2), .val (.int p0), .val (.int p1), .val (.int p2), .val (.int lp)] [(.int k), (.int c0)])
          by_cases hc34_28 : c0 = k
          · show Go p e below _ s₁ (mkF m 34 #[.val (.int k), .val (.int n), .val (.int c0), .val (.int c1), .val (.int c2), .val (.int p0), .val (.int p1), .val (.int p2), .val (.int lp)] [(.int k), (.int c0)])
            refine Go.step (fun _ k => XS.icmpNo X0.here hx rfl (hb hby own_f43) rfl (teq hc34_28).2 k) ?_
            show Go p e below _ s₁ (mkF m 37 #[.val (.int k), .val (.int n), .val (.int c0), .val (.int c1), .val (.int c2), .val (.int p0), .val (.int p1), .val (.int p2), .val (.int lp)] [])
            refine Go.step (fun _ k => XS.iload X0.here hx rfl (hb hby own_f44) rfl k) ?_
            show Go p e below _ s₁ (mkF m 39 #[.val (.int k), .val (.int n), .val (.int c0), .val (.int c1), .val (.int c2), .val (.int p0), .val (.int p1), .val (.int p2), .val (.int lp)] [(.int p0)])
            have er : (own_exp k n c0 c1 c2 p0 p1 p2 lp) = p0 := by simp [own_exp, hc2_18, hc8_25, hc16_26, hc29_27, hc34_28]
            obtain ⟨fs, hr, hrun, hended, hW, hsame⟩ := X0.leave (v := some (.int p0)) (fun h => by rw [Bd.returns] at h; cases h)
            refine Go.fin (retI X0 hx Bd.returns (hb hby own_f45) hr) hrun hended ?_
            refine ⟨_, _, rfl, ?_, ⟨_, rfl⟩, hW, hsame.mono (by decide) (by decide)⟩
            show QX Z k n c0 c1 c2 p0 p1 p2 lp h0 n0 _ s₁.heap _
            rw [e0]
            exact ⟨by rw [er], N0, rfl⟩
          · show Go p e below _ s₁ (mkF m 34 #[.val (.int k), .val (.int n), .val (.int c0), .val (.int c1), .val (.int c2), .val (.int p0), .val (.int p1), .val (.int p2), .val (.int lp)] [(.int k), (.int c0)])
            refine Go.step (fun _ k => XS.icmpYes X0.here hx rfl (pc0 := 34) (pc' := 40) rfl (hb hby own_f43) rfl (feq hc34_28).2 (by decide) (by decide) k) ?_
            show Go p e below _ s₁ (mkF m 40 #[.val (.int k), .val (.int n), .val (.int c0), .val (.int c1), .val (.int c2), .val (.int p0), .val (.int p1), .val (.int p2), .val (.int lp)] [])
            refine Go.step (fun _ k => XS.iload X0.here hx rfl (hb hby own_f39) rfl k) ?_
            show Go p e below _ s₁ (mkF m 42 #[.val (.int k), .val (.int n), .val (.int c0), .val (.int c1), .val (.int c2), .val (.int p0), .val (.int p1), .val (.int p2), .val (.int lp)] [(.int lp)])
            have er : (own_exp k n c0 c1 c2 p0 p1 p2 lp) = lp := by simp [own_exp, hc2_18, hc8_25, hc16_26, hc29_27, hc34_28]
            obtain ⟨fs, hr, hrun, hended, hW, hsame⟩ := X0.leave (v := some (.int lp)) (fun h => by rw [Bd.returns] at h; cases h)
            refine Go.fin (retI X0 hx Bd.returns (hb hby own_f40) hr) hrun hended ?_
            refine ⟨_, _, rfl, ?_, ⟨_, rfl⟩, hW, hsame.mono (by decide) (by decide)⟩
            show QX Z k n c0 c1 c2 p0 p1 p2 lp h0 n0 _ s₁.heap _
            rw [e0]
            exact ⟨by rw [er], N0, rfl⟩
      · show Go p e below _ s₁ (mkF m 16 #[.val (.int k), .val (.int n), .val (.int c0), .val (.int c1), .val (.int c2), .val (.int p0), .val (.int p1), .val (.int p2), .val (.int lp)] [(.int (2 : Int32)), (.int n)])
        refine Go.step (fun _ k => XS.icmpNo X0.here hx rfl (hb hby own_f35) rfl (flt hc16_26).1 k) ?_
        show Go p e below _ s₁ (mkF m 19 #[.val (.int k), .val (.int n), .val (.int c0), .val (.int c1), .val (.int c2), .val (.int p0), .val (.int p1), .val (.int p2), .val (.int lp)] [])
        refine Go.step (fun _ k => XS.iloadN X0.here hx rfl (hb hby own_f46) rfl k) ?_
        show Go p e below _ s₁ (mkF m 20 #[.val (.int k), .val (.int n), .val (.int c0), .val (.int c1), .val (.int c2), .val (.int p0), .val (.int p1), .val (.int p2), .val (.int lp)] [(.int c1)])
        refine Go.step (fun _ k => XS.iloadN X0.here hx rfl (hb hby own_f47) rfl k) ?_
        show Go p e below _ s₁ (mkF m 21 #[.val (.int k), .val (.int n), .val (.int c0), .val (.int c1), .val (.int c2), .val (.int p0), .val (.int p1), .val (.int p2), .val (.int lp)] [(.int k), (.int c1)])
        by_cases hc21_29 : c1 = k
        · show Go p e below _ s₁ (mkF m 21 #[.val (.int k), .val (.int n), .val (.int c0), .val (.int c1), .val (.int c2), .val (.int p0), .val (.int p1), .val (.int p2), .val (.int lp)] [(.int k), (.int c1)])
          refine Go.step (fun _ k => XS.icmpNo X0.here hx rfl (hb hby own_f48) rfl (teq hc21_29).2 k) ?_
          show Go p e below _ s₁ (mkF m 24 #[.val (.int k), .val (.int n), .val (.int c0), .val (.int c1), .val (.int c2), .val (.int p0), .val (.int p1), .val (.int p2), .val (.int lp)] [])
          refine Go.step (fun _ k => XS.iload X0.here hx rfl (hb hby own_f49) rfl k) ?_
          show Go p e below _ s₁ (mkF m 26 #[.val (.int k), .val (.int n), .val (.int c0), .val (.int c1), .val (.int c2), .val (.int p0), .val (.int p1), .val (.int p2), .val (.int lp)] [(.int p1)])
          have er : (own_exp k n c0 c1 c2 p0 p1 p2 lp) = p1 := by simp [own_exp, hc2_18, hc8_25, hc16_26, hc21_29]
          obtain ⟨fs, hr, hrun, hended, hW, hsame⟩ := X0.leave (v := some (.int p1)) (fun h => by rw [Bd.returns] at h; cases h)
          refine Go.fin (retI X0 hx Bd.returns (hb hby own_f50) hr) hrun hended ?_
          refine ⟨_, _, rfl, ?_, ⟨_, rfl⟩, hW, hsame.mono (by decide) (by decide)⟩
          show QX Z k n c0 c1 c2 p0 p1 p2 lp h0 n0 _ s₁.heap _
          rw [e0]
          exact ⟨by rw [er], N0, rfl⟩
        · show Go p e below _ s₁ (mkF m 21 #[.val (.int k), .val (.int n), .val (.int c0), .val (.int c1), .val (.int c2), .val (.int p0), .val (.int p1), .val (.int p2), .val (.int lp)] [(.int k), (.int c1)])
          refine Go.step (fun _ k => XS.icmpYes X0.here hx rfl (pc0 := 21) (pc' := 27) rfl (hb hby own_f48) rfl (feq hc21_29).2 (by decide) (by decide) k) ?_
          show Go p e below _ s₁ (mkF m 27 #[.val (.int k), .val (.int n), .val (.int c0), .val (.int c1), .val (.int c2), .val (.int p0), .val (.int p1), .val (.int p2), .val (.int lp)] [])
          refine Go.step (fun _ k => XS.iloadN X0.here hx rfl (hb hby own_f36) rfl k) ?_
          show Go p e below _ s₁ (mkF m 28 #[.val (.int k), .val (.int n), .val (.int c0), .val (.int c1), .val (.int c2), .val (.int p0), .val (.int p1), .val (.int p2), .val (.int lp)] [(.int n)])
          refine Go.step (fun _ k => XS.iconst X0.here hx rfl (hb hby own_f37) k) ?_
          show Go p e below _ s₁ (mkF m 29 #[.val (.int k), .val (.int n), .val (.int c0), .val (.int c1), .val (.int c2), .val (.int p0), .val (.int p1), .val (.int p2), .val (.int lp)] [(.int (1 : Int32)), (.int n)])
          by_cases hc29_30 : n < (1 : Int32)
          · show Go p e below _ s₁ (mkF m 29 #[.val (.int k), .val (.int n), .val (.int c0), .val (.int c1), .val (.int c2), .val (.int p0), .val (.int p1), .val (.int p2), .val (.int lp)] [(.int (1 : Int32)), (.int n)])
            refine Go.step (fun _ k => XS.icmpYes X0.here hx rfl (pc0 := 29) (pc' := 40) rfl (hb hby own_f38) rfl (tlt hc29_30).1 (by decide) (by decide) k) ?_
            show Go p e below _ s₁ (mkF m 40 #[.val (.int k), .val (.int n), .val (.int c0), .val (.int c1), .val (.int c2), .val (.int p0), .val (.int p1), .val (.int p2), .val (.int lp)] [])
            refine Go.step (fun _ k => XS.iload X0.here hx rfl (hb hby own_f39) rfl k) ?_
            show Go p e below _ s₁ (mkF m 42 #[.val (.int k), .val (.int n), .val (.int c0), .val (.int c1), .val (.int c2), .val (.int p0), .val (.int p1), .val (.int p2), .val (.int lp)] [(.int lp)])
            have er : (own_exp k n c0 c1 c2 p0 p1 p2 lp) = lp := by simp [own_exp, hc2_18, hc8_25, hc16_26, hc21_29, hc29_30]
            obtain ⟨fs, hr, hrun, hended, hW, hsame⟩ := X0.leave (v := some (.int lp)) (fun h => by rw [Bd.returns] at h; cases h)
            refine Go.fin (retI X0 hx Bd.returns (hb hby own_f40) hr) hrun hended ?_
            refine ⟨_, _, rfl, ?_, ⟨_, rfl⟩, hW, hsame.mono (by decide) (by decide)⟩
            show QX Z k n c0 c1 c2 p0 p1 p2 lp h0 n0 _ s₁.heap _
            rw [e0]
            exact ⟨by rw [er], N0, rfl⟩
          · show Go p e below _ s₁ (mkF m 29 #[.val (.int k), .val (.int n), .val (.int c0), .val (.int c1), .val (.int c2), .val (.int p0), .val (.int p1), .val (.int p2), .val (.int lp)] [(.int (1 : Int32)), (.int n)])
            refine Go.step (fun _ k => XS.icmpNo X0.here hx rfl (hb hby own_f38) rfl (flt hc29_30).1 k) ?_
            show Go p e below _ s₁ (mkF m 32 #[.val (.int k), .val (.int n), .val (.int c0), .val (.int c1), .val (.int c2), .val (.int p0), .val (.int p1), .val (.int p2), .val (.int lp)] [])
            refine Go.step (fun _ k => XS.iloadN X0.here hx rfl (hb hby own_f41) rfl k) ?_
            show Go p e below _ s₁ (mkF m 33 #[.val (.int k), .val (.int n), .val (.int c0), .val (.int c1), .val (.int c2), .val (.int p0), .val (.int p1), .val (.int p2), .val (.int lp)] [(.int c0)])
            refine Go.step (fun _ k => XS.iloadN X0.here hx rfl (hb hby own_f42) rfl k) ?_
            show Go p e below _ s₁ (mkF m 34 #[.val (.int k), .val (.int n), .val (.int c0), .val (.int c1), .val (.int c2), .val (.int p0), .val (.int p1), .val (.int p2), .val (.int lp)] [(.int k), (.int c0)])
            by_cases hc34_31 : c0 = k
            · show Go p e below _ s₁ (mkF m 34 #[.val (.int k), .val (.int n), .val (.int c0), .val (.int c1), .val (.int c2), .val (.int p0), .val (.int p1), .val (.int p2), .val (.int lp)] [(.int k), (.int c0)])
              refine Go.step (fun _ k => XS.icmpNo X0.here hx rfl (hb hby own_f43) rfl (teq hc34_31).2 k) ?_
              show Go p e below _ s₁ (mkF m 37 #[.val (.int k), .val (.int n), .val (.int c0), .val (.int c1), .val (.int c2), .val (.int p0), .val (.int p1), .val (.int p2), .val (.int lp)] [])
              refine Go.step (fun _ k => XS.iload X0.here hx rfl (hb hby own_f44) rfl k) ?_
              show Go p e below _ s₁ (mkF m 39 #[.val (.int k), .val (.int n), .val (.int c0), .val (.int c1), .val (.int c2), .val (.int p0), .val (.int p1), .val (.int p2), .val (.int lp)] [(.int p0)])
              have er : (own_exp k n c0 c1 c2 p0 p1 p2 lp) = p0 := by simp [own_exp, hc2_18, hc8_25, hc16_26, hc21_29, hc29_30, hc34_31]
              obtain ⟨fs, hr, hrun, hended, hW, hsame⟩ := X0.leave (v := some (.int p0)) (fun h => by rw [Bd.returns] at h; cases h)
              refine Go.fin (retI X0 hx Bd.returns (hb hby own_f45) hr) hrun hended ?_
              refine ⟨_, _, rfl, ?_, ⟨_, rfl⟩, hW, hsame.mono (by decide) (by decide)⟩
              show QX Z k n c0 c1 c2 p0 p1 p2 lp h0 n0 _ s₁.heap _
              rw [e0]
              exact ⟨by rw [er], N0, rfl⟩
            · show Go p e below _ s₁ (mkF m 34 #[.val (.int k), .val (.int n), .val (.int c0), .val (.int c1), .val (.int c2), .val (.int p0), .val (.int p1), .val (.int p2), .val (.int lp)] [(.int k), (.int c0)])
              refine Go.step (fun _ k => XS.icmpYes X0.here hx rfl (pc0 := 34) (pc' := 40) rfl (hb hby own_f43) rfl (feq hc34_31).2 (by decide) (by decide) k) ?_
              show Go p e below _ s₁ (mkF m 40 #[.val (.int k), .val (.int n), .val (.int c0), .val (.int c1), .val (.int c2), .val (.int p0), .val (.int p1), .val (.int p2), .val (.int lp)] [])
              refine Go.step (fun _ k => XS.iload X0.here hx rfl (hb hby own_f39) rfl k) ?_
              show Go p e below _ s₁ (mkF m 42 #[.val (.int k), .val (.int n), .val (.int c0), .val (.int c1), .val (.int c2), .val (.int p0), .val (.int p1), .val (.int p2), .val (.int lp)] [(.int lp)])
              have er : (own_exp k n c0 c1 c2 p0 p1 p2 lp) = lp := by simp [own_exp, hc2_18, hc8_25, hc16_26, hc21_29, hc29_30, hc34_31]
              obtain ⟨fs, hr, hrun, hended, hW, hsame⟩ := X0.leave (v := some (.int lp)) (fun h => by rw [Bd.returns] at h; cases h)
              refine Go.fin (retI X0 hx Bd.returns (hb hby own_f40) hr) hrun hended ?_
              refine ⟨_, _, rfl, ?_, ⟨_, rfl⟩, hW, hsame.mono (by decide) (by decide)⟩
              show QX Z k n c0 c1 c2 p0 p1 p2 lp h0 n0 _ s₁.heap _
              rw [e0]
              exact ⟨by rw [er], N0, rfl⟩
theorem own_f57 : decode prog_29_method_3_code 19 = .ok (.aload 4, 2) := by decide +kernel
theorem own_f58 : decode prog_29_method_3_code 21 = .ok (.ifnull 43, 3) := by decide +kernel
theorem own_f59 : decode prog_29_method_3_code 24 = .ok (.aload_n 3, 1) := by decide +kernel
theorem own_f60 : decode prog_29_method_3_code 25 = .ok (.aload 4, 2) := by decide +kernel
theorem own_f61 : decode prog_29_method_3_code 27 = .ok (.getfield 30, 3) := by decide +kernel
theorem own_f62 : decode prog_29_method_3_code 30 = .ok (.baload, 1) := by decide +kernel
theorem own_f63 : decode prog_29_method_3_code 31 = .ok (.ifCond .ne 23, 3) := by decide +kernel
theorem own_f64 : decode prog_29_method_3_code 34 = .ok (.aload_n 3, 1) := by decide +kernel
theorem own_f65 : decode prog_29_method_3_code 35 = .ok (.aload 4, 2) := by decide +kernel
theorem own_f66 : decode prog_29_method_3_code 37 = .ok (.getfield 30, 3) := by decide +kernel
theorem own_f67 : decode prog_29_method_3_code 40 = .ok (.iconst 1, 1) := by decide +kernel
theorem own_f68 : decode prog_29_method_3_code 41 = .ok (.bastore, 1) := by decide +kernel
theorem own_f69 : decode prog_29_method_3_code 42 = .ok (.aload_n 2, 1) := by decide +kernel
theorem own_f70 : decode prog_29_method_3_code 43 = .ok (.aload 4, 2) := by decide +kernel
theorem own_f71 : decode prog_29_method_3_code 45 = .ok (.getfield 30, 3) := by decide +kernel
theorem own_f72 : decode prog_29_method_3_code 48 = .ok (.aload 4, 2) := by decide +kernel
theorem own_f73 : decode prog_29_method_3_code 50 = .ok (.getfield 36, 3) := by decide +kernel
theorem own_f74 : decode prog_29_method_3_code 53 = .ok (.iastore, 1) := by decide +kernel
theorem own_f75 : decode prog_29_method_3_code 54 = .ok (.aload 4, 2) := by decide +kernel
theorem own_f76 : decode prog_29_method_3_code 56 = .ok (.getfield 39, 3) := by decide +kernel
theorem own_f77 : decode prog_29_method_3_code 59 = .ok (.astore 4, 2) := by decide +kernel
theorem own_f78 : decode prog_29_method_3_code 61 = .ok (.goto (-42), 3) := by decide +kernel
set_option maxRecDepth 65536 in
set_option maxHeartbeats 40000000 in
theorem own_loop {p : Program} {l : Launch} {e : Env} {R : Room} {s : State} {m : MethodId} {args : Array Value} {below : List Frame} {meth : Method} {c : Code} {cells slots : Nat} {Z : State} {a0 : Array Value} {h0 : Heap} {n0 : Nat} {K : State → Outcome → Prop} {a1 a2 br bu : Addr} {kr ku : ClassId}
    (hx : p.tables.exec = Jvm.exec) (hZ : Z.Warmed39 s.vm) (hw : ∀ d ∈ tables_1, d.before a0 Z = true) (hby : c.code = prog_29_method_3_code) (hml : c.maxLocals = 5) (hown : s.vm.findClass "com/example/bidkeel/bidkeel/Knapsack$Best" = some m.cls)
    (g_bu : n0 ≤ bu) (g_br : n0 ≤ br) (sz_bu : h0.size ≤ bu) (sz_br : h0.size ≤ br) (ne_br_bu : br ≠ bu) : ∀ (q : List (Int32 × Int32)) (T : State) (h : Heap) (locs : List Loc) (v : Value) (us rs : List Int32),
    Stand p l e R s m args below meth c T locs cells slots → T.heap = h → Fr n0 locs → Keep h0 h [] → Arv Z h bu ku .boolean (3 : Int32) (own_vs us) (.int (0 : Int32)) → Arv Z h br kr .int (3 : Int32) (own_vs rs) (.int (0 : Int32)) → us.length = 3 → rs.length = 3 → own_chn Z h0 q v → (∀ x ∈ q, own_in3 x.1) →
    (∀ (T' : State) (h' : Heap) (locs' : List Loc), Stand p l e R s m args below meth c T' locs' cells slots → T'.heap = h' → Fr n0 locs' → Keep h0 h' [] → Arv Z h' br kr .int (3 : Int32) (own_vs (own_pts q us rs)) (.int (0 : Int32)) → Go p e below K T' (mkF m 64 #[.val (.ref a1), .val (.ref a2), .val (.ref br), .val (.ref bu), .val .null] [])) →
    Go p e below K T (mkF m 19 #[.val (.ref a1), .val (.ref a2), .val (.ref br), .val (.ref bu), .val v] [])
  | [], T, h, locs, v, us, rs, X0, e0, N0, K0, V_bu, V_br, lu, lr, hq, hin, kt => by
    obtain rfl : v = .null := hq
    show Go p e below _ T (mkF m 19 #[.val (.ref a1), .val (.ref a2), .val (.ref br), .val (.ref bu), .val .null] [])
    refine Go.step (fun _ k => XS.aload X0.here hx rfl (hb hby own_f57) rfl rfl k) ?_
    show Go p e below _ T (mkF m 21 #[.val (.ref a1), .val (.ref a2), .val (.ref br), .val (.ref bu), .val .null] [.null])
    refine Go.step (fun _ k => XS.ifnullYes X0.here hx rfl (pc0 := 21) (pc' := 64) rfl (hb hby own_f58) rfl (by decide) (by decide) k) ?_
    show Go p e below _ T (mkF m 64 #[.val (.ref a1), .val (.ref a2), .val (.ref br), .val (.ref bu), .val .null] [])
    exact kt _ _ _ X0 e0 N0 K0 V_br
  | (cc, pp) :: q, T, h, locs, v, us, rs, X0, e0, N0, K0, V_bu, V_br, lu, lr, hq, hin, kt => by
    obtain ⟨a, nx, rfl, f1, f2, f3, hq'⟩ := hq
    have hc := hin (cc, pp) (List.mem_cons_self ..)
    have hin' : ∀ x ∈ q, own_in3 x.1 := fun x hx => hin x (List.mem_cons_of_mem _ hx)
    have F_cls_a := f1.keep K0 nin0
    have F_point_a := f2.keep K0 nin0
    have F_previous_a := f3.keep K0 nin0
    have hnx : nx.isRef = true := own_chn_ref hq'
    have ne_a_bu : a ≠ bu := Nat.ne_of_lt (Nat.lt_of_lt_of_le f1.lt sz_bu)
    have ne_a_br : a ≠ br := Nat.ne_of_lt (Nat.lt_of_lt_of_le f1.lt sz_br)
    have ic : cc.toNatClampNeg < 3 := by have h1 := hc.1; have h2 := hc.2; simp only [Int32.lt_iff_toInt_lt, show (0 : Int32).toInt = 0 by decide, show (3 : Int32).toInt = 3 by decide] at h1 h2; unfold Int32.toNatClampNeg; omega
    show Go p e below _ T (mkF m 19 #[.val (.ref a1), .val (.ref a2), .val (.ref br), .val (.ref bu), .val (.ref a)] [])
    refine Go.step (fun _ k => XS.aload X0.here hx rfl (hb hby own_f57) rfl rfl k) ?_
    show Go p e below _ T (mkF m 21 #[.val (.ref a1), .val (.ref a2), .val (.ref br), .val (.ref bu), .val (.ref a)] [(.ref a)])
    refine Go.step (fun _ k => XS.ifnullNo X0.here hx rfl (hb hby own_f58) rfl k) ?_
    show Go p e below _ T (mkF m 24 #[.val (.ref a1), .val (.ref a2), .val (.ref br), .val (.ref bu), .val (.ref a)] [])
    refine Go.step (fun _ k => XS.aloadN X0.here hx rfl (hb hby own_f59) rfl rfl k) ?_
    show Go p e below _ T (mkF m 25 #[.val (.ref a1), .val (.ref a2), .val (.ref br), .val (.ref bu), .val (.ref a)] [(.ref bu)])
    refine Go.step (fun _ k => XS.aload X0.here hx rfl (hb hby own_f60) rfl rfl k) ?_
    show Go p e below _ T (mkF m 27 #[.val (.ref a1), .val (.ref a2), .val (.ref br), .val (.ref bu), .val (.ref a)] [(.ref a), (.ref bu)])
    obtain ⟨T32, X32, e32, st32⟩ := getF X0 hx hZ hown (host := "") (Or.inl (hw _ (List.mem_of_getElem? (i := 51) rfl))) Via.refl e0 F_cls_a (g := (mkF m 27 #[.val (.ref a1), .val (.ref a2), .val (.ref br), .val (.ref bu), .val (.ref a)] [(.ref a), (.ref bu)])) rfl rfl (hb hby own_f61)
    refine Go.step st32 ?_
    show Go p e below _ T32 (mkF m 30 #[.val (.ref a1), .val (.ref a2), .val (.ref br), .val (.ref bu), .val (.ref a)] [(.int cc), (.ref bu)])
    obtain ⟨cl33, Ar33, q33, S33, Nn33, H33, G33⟩ := V_bu
    have V_bu : Arv Z h bu ku .boolean (3 : Int32) (own_vs us) (.int (0 : Int32)) := ⟨cl33, Ar33, q33, S33, Nn33, H33, G33⟩
    have hin33 : ¬ (cc < 0 ∨ cl33.slots.size ≤ (cc).toNatClampNeg) := inb_of S33 hc
    have hat33 : cl33.slots[(cc).toNatClampNeg]? = some (.int (us.getD cc.toNatClampNeg 0)) := Has.at H33 hin33 (own_getD us _)
    refine Go.step (X32.baloadBooleans hx (j := cc) (v := (.int (us.getD cc.toNatClampNeg 0))) (by rw [e32]; exact Ar33.1) (State.isArrayOf_alike hZ.alike Ar33.2.1) Ar33.2.2 hin33 hat33 (g := (mkF m 30 #[.val (.ref a1), .val (.ref a2), .val (.ref br), .val (.ref bu), .val (.ref a)] [(.int cc), (.ref bu)])) rfl rfl (hb hby own_f62)) ?_
    show Go p e below _ T32 (mkF m 31 #[.val (.ref a1), .val (.ref a2), .val (.ref br), .val (.ref bu), .val (.ref a)] [(.int (us.getD cc.toNatClampNeg 0))])
    by_cases hc31_34 : (us.getD cc.toNatClampNeg 0) = (0 : Int32)
    · show Go p e below _ T32 (mkF m 31 #[.val (.ref a1), .val (.ref a2), .val (.ref br), .val (.ref bu), .val (.ref a)] [(.int (us.getD cc.toNatClampNeg 0))])
      refine Go.step (fun _ k => XS.ifNo X32.here hx rfl (hb hby own_f63) rfl ((if0 _ _).trans (teq hc31_34).2) k) ?_
      show Go p e below _ T32 (mkF m 34 #[.val (.ref a1), .val (.ref a2), .val (.ref br), .val (.ref bu), .val (.ref a)] [])
      refine Go.step (fun _ k => XS.aloadN X32.here hx rfl (hb hby own_f64) rfl rfl k) ?_
      show Go p e below _ T32 (mkF m 35 #[.val (.ref a1), .val (.ref a2), .val (.ref br), .val (.ref bu), .val (.ref a)] [(.ref bu)])
      refine Go.step (fun _ k => XS.aload X32.here hx rfl (hb hby own_f65) rfl rfl k) ?_
      show Go p e below _ T32 (mkF m 37 #[.val (.ref a1), .val (.ref a2), .val (.ref br), .val (.ref bu), .val (.ref a)] [(.ref a), (.ref bu)])
      obtain ⟨T35, X35, e35, st35⟩ := getF X32 hx hZ hown (host := "") (Or.inl (hw _ (List.mem_of_getElem? (i := 51) rfl))) Via.refl e32 F_cls_a (g := (mkF m 37 #[.val (.ref a1), .val (.ref a2), .val (.ref br), .val (.ref bu), .val (.ref a)] [(.ref a), (.ref bu)])) rfl rfl (hb hby own_f66)
      refine Go.step st35 ?_
      show Go p e below _ T35 (mkF m 40 #[.val (.ref a1), .val (.ref a2), .val (.ref br), .val (.ref bu), .val (.ref a)] [(.int cc), (.ref bu)])
      refine Go.step (fun _ k => XS.iconst X35.here hx rfl (hb hby own_f67) k) ?_
      show Go p e below _ T35 (mkF m 41 #[.val (.ref a1), .val (.ref a2), .val (.ref br), .val (.ref bu), .val (.ref a)] [(.int (1 : Int32)), (.int cc), (.ref bu)])
      obtain ⟨cl36, Ar36, q36, S36, Nn36, H36, G36⟩ := V_bu
      have hin36 : ¬ (cc < 0 ∨ cl36.slots.size ≤ (cc).toNatClampNeg) := inb_of S36 hc
      obtain ⟨T36, h36, X36, e36, W36, st36⟩ := stZ X35 hx hZ e35 Ar36 (j := cc) hin36 (g := (mkF m 41 #[.val (.ref a1), .val (.ref a2), .val (.ref br), .val (.ref bu), .val (.ref a)] [(.int (1 : Int32)), (.int cc), (.ref bu)])) rfl rfl (hb hby own_f68)
      have Vw36 : Arv Z h36 bu ku .boolean (3 : Int32) (own_vs (us.set cc.toNatClampNeg (1 : Int32))) (.int (0 : Int32)) := by
        have q := Arv.set Ar36 q36 S36 Nn36 H36 G36 (fits_nar_bool _) W36 cc.toNatClampNeg rfl (by rw [own_vlen, lu]; exact ic)
        rw [← own_set]; exact q
      replace F_cls_a := F_cls_a.other W36 (Or.inl ne_a_bu)
      replace F_point_a := F_point_a.other W36 (Or.inl ne_a_bu)
      replace F_previous_a := F_previous_a.other W36 (Or.inl ne_a_bu)
      replace V_br := V_br.other W36 ne_br_bu
      have V_bu := Vw36
      replace K0 := K0.wr W36 (Or.inr sz_bu)
      have N36 := Fr.snoc X36 N0 g_bu
      refine Go.step st36 ?_
      show Go p e below _ T36 (mkF m 42 #[.val (.ref a1), .val (.ref a2), .val (.ref br), .val (.ref bu), .val (.ref a)] [])
      refine Go.step (fun _ k => XS.aloadN X36.here hx rfl (hb hby own_f69) rfl rfl k) ?_
      show Go p e below _ T36 (mkF m 43 #[.val (.ref a1), .val (.ref a2), .val (.ref br), .val (.ref bu), .val (.ref a)] [(.ref br)])
      refine Go.step (fun _ k => XS.aload X36.here hx rfl (hb hby own_f70) rfl rfl k) ?_
      show Go p e below _ T36 (mkF m 45 #[.val (.ref a1), .val (.ref a2), .val (.ref br), .val (.ref bu), .val (.ref a)] [(.ref a), (.ref br)])
      obtain ⟨T37, X37, e37, st37⟩ := getF X36 hx hZ hown (host := "") (Or.inl (hw _ (List.mem_of_getElem? (i := 51) rfl))) Via.refl e36 F_cls_a (g := (mkF m 45 #[.val (.ref a1), .val (.ref a2), .val (.ref br), .val (.ref bu), .val (.ref a)] [(.ref a), (.ref br)])) rfl rfl (hb hby own_f71)
      refine Go.step st37 ?_
      show Go p e below _ T37 (mkF m 48 #[.val (.ref a1), .val (.ref a2), .val (.ref br), .val (.ref bu), .val (.ref a)] [(.int cc), (.ref br)])
      refine Go.step (fun _ k => XS.aload X37.here hx rfl (hb hby own_f72) rfl rfl k) ?_
      show Go p e below _ T37 (mkF m 50 #[.val (.ref a1), .val (.ref a2), .val (.ref br), .val (.ref bu), .val (.ref a)] [(.ref a), (.int cc), (.ref br)])
      obtain ⟨T38, X38, e38, st38⟩ := getF X37 hx hZ hown (host := "") (Or.inl (hw _ (List.mem_of_getElem? (i := 52) rfl))) Via.refl e37 F_point_a (g := (mkF m 50 #[.val (.ref a1), .val (.ref a2), .val (.ref br), .val (.ref bu), .val (.ref a)] [(.ref a), (.int cc), (.ref br)])) rfl rfl (hb hby own_f73)
      refine Go.step st38 ?_
      show Go p e below _ T38 (mkF m 53 #[.val (.ref a1), .val (.ref a2), .val (.ref br), .val (.ref bu), .val (.ref a)] [(.int pp), (.int cc), (.ref br)])
      obtain ⟨cl39, Ar39, q39, S39, Nn39, H39, G39⟩ := V_br
      have hin39 : ¬ (cc < 0 ∨ cl39.slots.size ≤ (cc).toNatClampNeg) := inb_of S39 hc
      obtain ⟨T39, h39, X39, e39, W39, st39⟩ := stI X38 hx hZ e38 Ar39 (j := cc) hin39 (g := (mkF m 53 #[.val (.ref a1), .val (.ref a2), .val (.ref br), .val (.ref bu), .val (.ref a)] [(.int pp), (.int cc), (.ref br)])) rfl rfl (hb hby own_f74)
      have Vw39 : Arv Z h39 br kr .int (3 : Int32) (own_vs (rs.set cc.toNatClampNeg pp)) (.int (0 : Int32)) := by
        have q := Arv.set Ar39 q39 S39 Nn39 H39 G39 rfl W39 cc.toNatClampNeg rfl (by rw [own_vlen, lr]; exact ic)
        rw [← own_set]; exact q
      replace F_cls_a := F_cls_a.other W39 (Or.inl ne_a_br)
      replace F_point_a := F_point_a.other W39 (Or.inl ne_a_br)
      replace F_previous_a := F_previous_a.other W39 (Or.inl ne_a_br)
      replace V_bu := V_bu.other W39 (Ne.symm ne_br_bu)
      have V_br := Vw39
      replace K0 := K0.wr W39 (Or.inr sz_br)
      have N39 := Fr.snoc X39 N36 g_br
      refine Go.step st39 ?_
      show Go p e below _ T39 (mkF m 54 #[.val (.ref a1), .val (.ref a2), .val (.ref br), .val (.ref bu), .val (.ref a)] [])
      refine Go.step (fun _ k => XS.aload X39.here hx rfl (hb hby own_f75) rfl rfl k) ?_
      show Go p e below _ T39 (mkF m 56 #[.val (.ref a1), .val (.ref a2), .val (.ref br), .val (.ref bu), .val (.ref a)] [(.ref a)])
      obtain ⟨T40, X40, e40, st40⟩ := getF X39 hx hZ hown (host := "") (Or.inl (hw _ (List.mem_of_getElem? (i := 53) rfl))) Via.refl e39 F_previous_a (g := (mkF m 56 #[.val (.ref a1), .val (.ref a2), .val (.ref br), .val (.ref bu), .val (.ref a)] [(.ref a)])) rfl rfl (hb hby own_f76)
      refine Go.step st40 ?_
      show Go p e below _ T40 (mkF m 59 #[.val (.ref a1), .val (.ref a2), .val (.ref br), .val (.ref bu), .val (.ref a)] [nx])
      rcases ref_cases hnx with rfl | ⟨an41, rfl⟩
      · show Go p e below _ T40 (mkF m 59 #[.val (.ref a1), .val (.ref a2), .val (.ref br), .val (.ref bu), .val (.ref a)] [.null])
        refine Go.step (fun _ k => XS.astore X40.here hx rfl (hb hby own_f77) rfl rfl (l' := #[.val (.ref a1), .val (.ref a2), .val (.ref br), .val (.ref bu), .val .null]) rfl k) ?_
        show Go p e below _ T40 (mkF m 61 #[.val (.ref a1), .val (.ref a2), .val (.ref br), .val (.ref bu), .val .null] [])
        refine Go.step (fun _ k => XS.goto X40.here hx rfl (pc0 := 61) (pc' := 19) rfl (hb hby own_f78) (by decide) (by decide) k) ?_
        show Go p e below _ T40 (mkF m 19 #[.val (.ref a1), .val (.ref a2), .val (.ref br), .val (.ref bu), .val .null] [])
        have ek : own_pts ((cc, pp) :: q) us rs = own_pts q (us.set cc.toNatClampNeg 1) (rs.set cc.toNatClampNeg pp) := by rw [own_pts, if_pos hc31_34]
        rw [ek] at kt
        exact own_loop hx hZ hw hby hml hown g_bu g_br sz_bu sz_br ne_br_bu q _ _ _ _ (us.set cc.toNatClampNeg 1) (rs.set cc.toNatClampNeg pp) X40 e40 N39 K0 V_bu V_br (by rw [List.length_set]; exact lu) (by rw [List.length_set]; exact lr) hq' hin' kt
      · show Go p e below _ T40 (mkF m 59 #[.val (.ref a1), .val (.ref a2), .val (.ref br), .val (.ref bu), .val (.ref a)] [(.ref an41)])
        refine Go.step (fun _ k => XS.astore X40.here hx rfl (hb hby own_f77) rfl rfl (l' := #[.val (.ref a1), .val (.ref a2), .val (.ref br), .val (.ref bu), .val (.ref an41)]) rfl k) ?_
        show Go p e below _ T40 (mkF m 61 #[.val (.ref a1), .val (.ref a2), .val (.ref br), .val (.ref bu), .val (.ref an41)] [])
        refine Go.step (fun _ k => XS.goto X40.here hx rfl (pc0 := 61) (pc' := 19) rfl (hb hby own_f78) (by decide) (by decide) k) ?_
        show Go p e below _ T40 (mkF m 19 #[.val (.ref a1), .val (.ref a2), .val (.ref br), .val (.ref bu), .val (.ref an41)] [])
        have ek : own_pts ((cc, pp) :: q) us rs = own_pts q (us.set cc.toNatClampNeg 1) (rs.set cc.toNatClampNeg pp) := by rw [own_pts, if_pos hc31_34]
        rw [ek] at kt
        exact own_loop hx hZ hw hby hml hown g_bu g_br sz_bu sz_br ne_br_bu q _ _ _ _ (us.set cc.toNatClampNeg 1) (rs.set cc.toNatClampNeg pp) X40 e40 N39 K0 V_bu V_br (by rw [List.length_set]; exact lu) (by rw [List.length_set]; exact lr) hq' hin' kt
    · show Go p e below _ T32 (mkF m 31 #[.val (.ref a1), .val (.ref a2), .val (.ref br), .val (.ref bu), .val (.ref a)] [(.int (us.getD cc.toNatClampNeg 0))])
      refine Go.step (fun _ k => XS.ifYes X32.here hx rfl (pc0 := 31) (pc' := 54) rfl (hb hby own_f63) rfl ((if0 _ _).trans (feq hc31_34).2) (by decide) (by decide) k) ?_
      show Go p e below _ T32 (mkF m 54 #[.val (.ref a1), .val (.ref a2), .val (.ref br), .val (.ref bu), .val (.ref a)] [])
      refine Go.step (fun _ k => XS.aload X32.here hx rfl (hb hby own_f75) rfl rfl k) ?_
      show Go p e below _ T32 (mkF m 56 #[.val (.ref a1), .val (.ref a2), .val (.ref br), .val (.ref bu), .val (.ref a)] [(.ref a)])
      obtain ⟨T42, X42, e42, st42⟩ := getF X32 hx hZ hown (host := "") (Or.inl (hw _ (List.mem_of_getElem? (i := 53) rfl))) Via.refl e32 F_previous_a (g := (mkF m 56 #[.val (.ref a1), .val (.ref a2), .val (.ref br), .val (.ref bu), .val (.ref a)] [(.ref a)])) rfl rfl (hb hby own_f76)
      refine Go.step st42 ?_
      show Go p e below _ T42 (mkF m 59 #[.val (.ref a1), .val (.ref a2), .val (.ref br), .val (.ref bu), .val (.ref a)] [nx])
      rcases ref_cases hnx with rfl | ⟨an43, rfl⟩
      · show Go p e below _ T42 (mkF m 59 #[.val (.ref a1), .val (.ref a2), .val (.ref br), .val (.ref bu), .val (.ref a)] [.null])
        refine Go.step (fun _ k => XS.astore X42.here hx rfl (hb hby own_f77) rfl rfl (l' := #[.val (.ref a1), .val (.ref a2), .val (.ref br), .val (.ref bu), .val .null]) rfl k) ?_
        show Go p e below _ T42 (mkF m 61 #[.val (.ref a1), .val (.ref a2), .val (.ref br), .val (.ref bu), .val .null] [])
        refine Go.step (fun _ k => XS.goto X42.here hx rfl (pc0 := 61) (pc' := 19) rfl (hb hby own_f78) (by decide) (by decide) k) ?_
        show Go p e below _ T42 (mkF m 19 #[.val (.ref a1), .val (.ref a2), .val (.ref br), .val (.ref bu), .val .null] [])
        have ek : own_pts ((cc, pp) :: q) us rs = own_pts q us rs := by rw [own_pts, if_neg hc31_34]
        rw [ek] at kt
        exact own_loop hx hZ hw hby hml hown g_bu g_br sz_bu sz_br ne_br_bu q _ _ _ _ us rs X42 e42 N0 K0 V_bu V_br lu lr hq' hin' kt
      · show Go p e below _ T42 (mkF m 59 #[.val (.ref a1), .val (.ref a2), .val (.ref br), .val (.ref bu), .val (.ref a)] [(.ref an43)])
        refine Go.step (fun _ k => XS.astore X42.here hx rfl (hb hby own_f77) rfl rfl (l' := #[.val (.ref a1), .val (.ref a2), .val (.ref br), .val (.ref bu), .val (.ref an43)]) rfl k) ?_
        show Go p e below _ T42 (mkF m 61 #[.val (.ref a1), .val (.ref a2), .val (.ref br), .val (.ref bu), .val (.ref an43)] [])
        refine Go.step (fun _ k => XS.goto X42.here hx rfl (pc0 := 61) (pc' := 19) rfl (hb hby own_f78) (by decide) (by decide) k) ?_
        show Go p e below _ T42 (mkF m 19 #[.val (.ref a1), .val (.ref a2), .val (.ref br), .val (.ref bu), .val (.ref an43)] [])
        have ek : own_pts ((cc, pp) :: q) us rs = own_pts q us rs := by rw [own_pts, if_neg hc31_34]
        rw [ek] at kt
        exact own_loop hx hZ hw hby hml hown g_bu g_br sz_bu sz_br ne_br_bu q _ _ _ _ us rs X42 e42 N0 K0 V_bu V_br lu lr hq' hin' kt
theorem own_f79 : decode prog_29_method_3_code 0 = .ok (.aload_n 1, 1) := by decide +kernel
theorem own_f80 : decode prog_29_method_3_code 1 = .ok (.invokevirtual 24, 3) := by decide +kernel
theorem own_f81 : decode prog_29_method_3_code 4 = .ok (.checkcast 25, 3) := by decide +kernel
theorem own_f82 : decode prog_29_method_3_code 7 = .ok (.astore_n 2, 1) := by decide +kernel
theorem own_f83 : decode prog_29_method_3_code 8 = .ok (.aload_n 2, 1) := by decide +kernel
theorem own_f84 : decode prog_29_method_3_code 9 = .ok (.arraylength, 1) := by decide +kernel
theorem own_f85 : decode prog_29_method_3_code 10 = .ok (.newarray .boolean, 2) := by decide +kernel
theorem own_f86 : decode prog_29_method_3_code 12 = .ok (.astore_n 3, 1) := by decide +kernel
theorem own_f87 : decode prog_29_method_3_code 13 = .ok (.aload_n 0, 1) := by decide +kernel
theorem own_f88 : decode prog_29_method_3_code 14 = .ok (.getfield 7, 3) := by decide +kernel
theorem own_f89 : decode prog_29_method_3_code 17 = .ok (.astore 4, 2) := by decide +kernel
theorem own_f90 : decode prog_29_method_3_code 64 = .ok (.aload_n 2, 1) := by decide +kernel
theorem own_f91 : decode prog_29_method_3_code 65 = .ok (.areturn, 1) := by decide +kernel
theorem own_ef_P (m : MethodId) (a1 : Addr) (a2 : Addr) : entryFrame m #[(.ref a1), (.ref a2)] 5 = mkF m 0 #[.val (.ref a1), .val (.ref a2), .unset, .unset, .unset] [] := by first | (simp [entryFrame, mkF, argsToLocals, Value.category]; done) | rfl
def QP (Z : State) (a1 : Addr) (a2 : Addr) (cv : Value) (q : List (Int32 × Int32)) (u0 u1 u2 : Int32) (ka : ClassId) (h0 : Heap) (n0 : Nat) (v : Option Value) (h : Heap) (L : List Loc) : Prop := ∃ (b : Addr) (k : ClassId), v = some (.ref b) ∧ Fr n0 L ∧ Keep h0 h [] ∧ Arv Z h b k .int (3 : Int32) (own_vs (own_pts q [0, 0, 0] [u0, u1, u2])) (.int (0 : Int32))
set_option maxRecDepth 65536 in
set_option maxHeartbeats 40000000 in
theorem rmP (l : Launch) (Z : State) (a0 : Array Value) (hw : ∀ d ∈ tables_1, d.before a0 Z = true) (ws : List Jvm.Cond) (a1 : Addr) (a2 : Addr) (cv : Value) (q : List (Int32 × Int32)) (u0 u1 u2 : Int32) (ka : ClassId) (h0 : Heap) (n0 : Nat) (Z0 : n0 ≤ h0.size) (F_changes_a1 : Fld Z h0 a1 "com/example/bidkeel/bidkeel/Knapsack$Best" "changes" "Lcom/example/bidkeel/bidkeel/Knapsack$Change;" cv) (hcv : own_chn Z h0 q cv) (hin : ∀ x ∈ q, own_in3 x.1) (V_a2 : Arv Z h0 a2 ka .int (3 : Int32) [(.int u0), (.int u1), (.int u2)] (.int (0 : Int32))) (E_a2 : Exa Z h0 a2 "[I") :
    MetFree l (⟨"com/example/bidkeel/bidkeel/Knapsack$Best", "points", "([I)[I"⟩ : MethodName) (head1 (Jvm.Cond.code (⟨"com/example/bidkeel/bidkeel/Knapsack$Best", "points", "([I)[I"⟩ : MethodName) prog_29_method_3_code 5 (some (.array .int)) :: ws) ({ frames := 1, cells := 2, slots := 6, locals := 14 } : Room)) (fun a U => a = #[(.ref a1), (.ref a2)] ∧ Z.Warmed39 U.vm ∧ U.heap = h0) (fun _ _ _ _ _ => True) (fun _ U o U' => ∃ v L, o = .returned v ∧ QP Z a1 a2 cv q u0 u1 u2 ka h0 n0 v U'.heap L ∧ FrameEnd U o U' L ({ frames := 1, cells := 2, slots := 6, locals := 14 } : Room).cells ({ frames := 1, cells := 2, slots := 6, locals := 14 } : Room).slots) := by
  refine MetFree.of_bodySF (plainFor_of_name own_f16) hisR ?_
  intro p e s m args below meth c s₁ Bd hml0 hP hK
  obtain ⟨rfl, hZ, hh⟩ := hP
  have hx := Bd.exec
  have hby := Bd.bytes
  have hml : c.maxLocals = 5 := hml0
  have hown : s.vm.findClass "com/example/bidkeel/bidkeel/Knapsack$Best" = some m.cls := findClass_of_methodNamed Bd.named
  have hnm := (name_of_methodNamed Bd.named Bd.method).1
  have X0 : Stand p l e ({ frames := 1, cells := 2, slots := 6, locals := 14 } : Room) s m #[(.ref a1), (.ref a2)] below meth c s₁ [] 0 0 := Stand.of_body Bd
  have e0 : s₁.heap = h0 := by rw [← hh, Bd.state]; rfl
  have N0 := Fr.nil n0
  refine Go.start (own_ef_P m a1 a2) ?_
  show Go p e below _ s₁ (mkF m 0 #[.val (.ref a1), .val (.ref a2), .unset, .unset, .unset] [])
  have Zn := Z0
  have K0 : Keep h0 h0 [] := Keep.refl h0 _
  have hcr := own_chn_ref hcv
  refine Go.step (fun _ k => XS.aloadN X0.here hx rfl (hb hby own_f79) rfl rfl k) ?_
  show Go p e below _ s₁ (mkF m 1 #[.val (.ref a1), .val (.ref a2), .unset, .unset, .unset] [(.ref a2)])
  obtain ⟨T44, h44, X44, e44, E44, A44, Ex44, st44⟩ := cloneH X0 hx hZ hown (hw _ (List.mem_of_getElem? (i := 41) rfl)) (hw _ (List.mem_of_getElem? (i := 42) rfl)) (hw _ (List.mem_of_getElem? (i := 46) rfl)) (hw _ (List.mem_of_getElem? (i := 44) rfl)) (hw _ (List.mem_of_getElem? (i := 45) rfl)) (hw _ (List.mem_of_getElem? (i := 47) rfl)) e0 (Arv.arh V_a2) E_a2 (g := (mkF m 1 #[.val (.ref a1), .val (.ref a2), .unset, .unset, .unset] [(.ref a2)])) rfl (by rw [hml]; rfl) rfl (hb hby own_f80) (by decide) (W := 0) (cap := 3) (by show 2 * 0 + _ ≤ _; exact Nat.le_of_eq rfl) (by decide) (by decide) (by decide) (by decide)
  obtain ⟨br, g44⟩ : ∃ z, z = h0.size := ⟨_, rfl⟩
  rw [← g44] at A44 Ex44 st44
  have ne_a1_br : a1 ≠ br := Nat.ne_of_lt (Nat.lt_of_lt_of_le F_changes_a1.lt (Nat.le_of_eq g44.symm))
  have ne_a2_br : a2 ≠ br := Nat.ne_of_lt (Nat.lt_of_lt_of_le V_a2.lt (Nat.le_of_eq g44.symm))
  have g_br : n0 ≤ br := Nat.le_trans Zn (Nat.le_of_eq g44.symm)
  have sz_br : h0.size ≤ br := Nat.le_trans K0.1 (Nat.le_of_eq g44.symm)
  replace F_changes_a1 := F_changes_a1.ext E44
  replace V_a2 := V_a2.ext E44
  replace E_a2 := E_a2.ext E44
  replace Zn := Nat.le_trans Zn E44.1
  replace K0 := K0.ext E44
  have V_br : Arv Z h44 br ka .int (3 : Int32) [(.int u0), (.int u1), (.int u2)] (.int (0 : Int32)) := A44
  have E_br := Ex44
  refine Go.step st44 ?_
  show Go p e below _ T44 (mkF m 4 #[.val (.ref a1), .val (.ref a2), .unset, .unset, .unset] [(.ref br)])
  obtain ⟨T45, X45, e45, st45⟩ := castY X44 hx hZ hown (hw _ (List.mem_of_getElem? (i := 48) rfl)) e44 (Ins.self E_br) (g := (mkF m 4 #[.val (.ref a1), .val (.ref a2), .unset, .unset, .unset] [(.ref br)])) rfl rfl (hb hby own_f81)
  refine Go.step st45 ?_
  show Go p e below _ T45 (mkF m 7 #[.val (.ref a1), .val (.ref a2), .unset, .unset, .unset] [(.ref br)])
  refine Go.step (fun _ k => XS.astoreN X45.here hx rfl (hb hby own_f82) rfl rfl (l' := #[.val (.ref a1), .val (.ref a2), .val (.ref br), .unset, .unset]) rfl k) ?_
  show Go p e below _ T45 (mkF m 8 #[.val (.ref a1), .val (.ref a2), .val (.ref br), .unset, .unset] [])
  refine Go.step (fun _ k => XS.aloadN X45.here hx rfl (hb hby own_f83) rfl rfl k) ?_
  show Go p e below _ T45 (mkF m 9 #[.val (.ref a1), .val (.ref a2), .val (.ref br), .unset, .unset] [(.ref br)])
  obtain ⟨cl46, Ar46, q46, S46, Nn46, H46, G46⟩ := V_br
  have V_br : Arv Z h44 br ka .int (3 : Int32) [(.int u0), (.int u1), (.int u2)] (.int (0 : Int32)) := ⟨cl46, Ar46, q46, S46, Nn46, H46, G46⟩
  refine Go.step (X45.arraylength hx (by rw [e45]; exact Ar46.1) (State.isArrayOf_alike hZ.alike Ar46.2.1) (g := (mkF m 9 #[.val (.ref a1), .val (.ref a2), .val (.ref br), .unset, .unset] [(.ref br)])) rfl rfl (hb hby own_f84)) ?_
  rw [len_of S46 Nn46]
  show Go p e below _ T45 (mkF m 10 #[.val (.ref a1), .val (.ref a2), .val (.ref br), .unset, .unset] [(.int (3 : Int32))])
  obtain ⟨T47, h47, k47, X47, e47, E47, A47, st47⟩ := newP X45 hx hZ (hw _ (List.mem_of_getElem? (i := 50) rfl)) e45 (g := (mkF m 10 #[.val (.ref a1), .val (.ref a2), .val (.ref br), .unset, .unset] [(.int (3 : Int32))])) rfl (hb hby own_f85) rfl (by decide) (cap := 3) (by decide) (by decide) (by decide) (by decide)
  obtain ⟨bu, g47⟩ : ∃ z, z = h44.size := ⟨_, rfl⟩
  rw [← g47] at A47 st47
  have ne_a1_bu : a1 ≠ bu := Nat.ne_of_lt (Nat.lt_of_lt_of_le F_changes_a1.lt (Nat.le_of_eq g47.symm))
  have ne_a2_bu : a2 ≠ bu := Nat.ne_of_lt (Nat.lt_of_lt_of_le V_a2.lt (Nat.le_of_eq g47.symm))
  have ne_br_bu : br ≠ bu := Nat.ne_of_lt (Nat.lt_of_lt_of_le V_br.lt (Nat.le_of_eq g47.symm))
  have g_bu : n0 ≤ bu := Nat.le_trans Zn (Nat.le_of_eq g47.symm)
  have sz_bu : h0.size ≤ bu := Nat.le_trans K0.1 (Nat.le_of_eq g47.symm)
  replace F_changes_a1 := F_changes_a1.ext E47
  replace V_a2 := V_a2.ext E47
  replace E_a2 := E_a2.ext E47
  replace V_br := V_br.ext E47
  replace E_br := E_br.ext E47
  replace Zn := Nat.le_trans Zn E47.1
  replace K0 := K0.ext E47
  have V_bu : Arv Z h47 bu k47 .boolean (3 : Int32) [(.int (0 : Int32)), (.int (0 : Int32)), (.int (0 : Int32))] (.int (0 : Int32)) := (Arv.new A47 (by decide)).pad (pad_rep [] (.int (0 : Int32)) 3)
  refine Go.step st47 ?_
  show Go p e below _ T47 (mkF m 12 #[.val (.ref a1), .val (.ref a2), .val (.ref br), .unset, .unset] [(.ref bu)])
  refine Go.step (fun _ k => XS.astoreN X47.here hx rfl (hb hby own_f86) rfl rfl (l' := #[.val (.ref a1), .val (.ref a2), .val (.ref br), .val (.ref bu), .unset]) rfl k) ?_
  show Go p e below _ T47 (mkF m 13 #[.val (.ref a1), .val (.ref a2), .val (.ref br), .val (.ref bu), .unset] [])
  refine Go.step (fun _ k => XS.aloadN X47.here hx rfl (hb hby own_f87) rfl rfl k) ?_
  show Go p e below _ T47 (mkF m 14 #[.val (.ref a1), .val (.ref a2), .val (.ref br), .val (.ref bu), .unset] [(.ref a1)])
  obtain ⟨T48, X48, e48, st48⟩ := getF X47 hx hZ hown (host := "") (Or.inl (hw _ (List.mem_of_getElem? (i := 28) rfl))) Via.refl e47 F_changes_a1 (g := (mkF m 14 #[.val (.ref a1), .val (.ref a2), .val (.ref br), .val (.ref bu), .unset] [(.ref a1)])) rfl rfl (hb hby own_f88)
  refine Go.step st48 ?_
  show Go p e below _ T48 (mkF m 17 #[.val (.ref a1), .val (.ref a2), .val (.ref br), .val (.ref bu), .unset] [cv])
  rcases ref_cases hcr with rfl | ⟨an49, rfl⟩
  · show Go p e below _ T48 (mkF m 17 #[.val (.ref a1), .val (.ref a2), .val (.ref br), .val (.ref bu), .unset] [.null])
    refine Go.step (fun _ k => XS.astore X48.here hx rfl (hb hby own_f89) rfl rfl (l' := #[.val (.ref a1), .val (.ref a2), .val (.ref br), .val (.ref bu), .val .null]) rfl k) ?_
    show Go p e below _ T48 (mkF m 19 #[.val (.ref a1), .val (.ref a2), .val (.ref br), .val (.ref bu), .val .null] [])
    refine own_loop hx hZ hw hby hml hown g_bu g_br sz_bu sz_br ne_br_bu q _ _ _ _ [0, 0, 0] [u0, u1, u2] X48 e48 N0 K0 V_bu V_br rfl rfl hcv hin ?_
    intro T' h' locs' X' e' N' K' V'
    show Go p e below _ T' (mkF m 64 #[.val (.ref a1), .val (.ref a2), .val (.ref br), .val (.ref bu), .val .null] [])
    refine Go.step (fun _ k => XS.aloadN X'.here hx rfl (hb hby own_f90) rfl rfl k) ?_
    show Go p e below _ T' (mkF m 65 #[.val (.ref a1), .val (.ref a2), .val (.ref br), .val (.ref bu), .val .null] [(.ref br)])
    obtain ⟨fs, hr, hrun, hended, hW, hsame⟩ := X'.leave (v := some (.ref br)) (fun h => by rw [Bd.returns] at h; cases h)
    refine Go.fin (own_retA X' hx rfl Bd.returns rfl (hb hby own_f91) hr) hrun hended ?_
    refine ⟨_, _, rfl, ?_, ⟨_, rfl⟩, hW, hsame.mono (by decide) (by decide)⟩
    show QP Z a1 a2 .null q u0 u1 u2 ka h0 n0 _ T'.heap _
    rw [e']
    exact ⟨br, _, rfl, N', K', V'⟩
  · show Go p e below _ T48 (mkF m 17 #[.val (.ref a1), .val (.ref a2), .val (.ref br), .val (.ref bu), .unset] [(.ref an49)])
    refine Go.step (fun _ k => XS.astore X48.here hx rfl (hb hby own_f89) rfl rfl (l' := #[.val (.ref a1), .val (.ref a2), .val (.ref br), .val (.ref bu), .val (.ref an49)]) rfl k) ?_
    show Go p e below _ T48 (mkF m 19 #[.val (.ref a1), .val (.ref a2), .val (.ref br), .val (.ref bu), .val (.ref an49)] [])
    refine own_loop hx hZ hw hby hml hown g_bu g_br sz_bu sz_br ne_br_bu q _ _ _ _ [0, 0, 0] [u0, u1, u2] X48 e48 N0 K0 V_bu V_br rfl rfl hcv hin ?_
    intro T' h' locs' X' e' N' K' V'
    show Go p e below _ T' (mkF m 64 #[.val (.ref a1), .val (.ref a2), .val (.ref br), .val (.ref bu), .val .null] [])
    refine Go.step (fun _ k => XS.aloadN X'.here hx rfl (hb hby own_f90) rfl rfl k) ?_
    show Go p e below _ T' (mkF m 65 #[.val (.ref a1), .val (.ref a2), .val (.ref br), .val (.ref bu), .val .null] [(.ref br)])
    obtain ⟨fs, hr, hrun, hended, hW, hsame⟩ := X'.leave (v := some (.ref br)) (fun h => by rw [Bd.returns] at h; cases h)
    refine Go.fin (own_retA X' hx rfl Bd.returns rfl (hb hby own_f91) hr) hrun hended ?_
    refine ⟨_, _, rfl, ?_, ⟨_, rfl⟩, hW, hsame.mono (by decide) (by decide)⟩
    show QP Z a1 a2 (.ref an49) q u0 u1 u2 ka h0 n0 _ T'.heap _
    rw [e']
    exact ⟨br, _, rfl, N', K', V'⟩
theorem own_f92 : parseMethodDescriptor "()V" = some ⟨[], none⟩ := by decide +kernel
theorem own_f93 : parseMethodDescriptor "(Lcom/example/bidkeel/bidkeel/Knapsack$Change;DDJ)V" = some ⟨[(.object "com/example/bidkeel/bidkeel/Knapsack$Change"), .double, .double, .long], none⟩ := by decide +kernel
theorem own_f94 : parseMethodDescriptor "([I)[I" = some ⟨[(.array .int)], some (.array .int)⟩ := by decide +kernel
theorem own_f95 : parseMethodDescriptor "(IIIIIIIII)I" = some ⟨[.int, .int, .int, .int, .int, .int, .int, .int, .int], some .int⟩ := by decide +kernel
theorem own_f96 : parseMethodDescriptor "(IILcom/example/bidkeel/bidkeel/Knapsack$Change;)V" = some ⟨[.int, .int, (.object "com/example/bidkeel/bidkeel/Knapsack$Change")], none⟩ := by decide +kernel
theorem own_ef_0 (m : MethodId) (i0 : Int64) (i1 : Int64) (i2 : Int64) (i3 : Int32) : entryFrame m #[(.long i0), (.long i1), (.long i2), (.int i3)] maxLocals = mkF m 0 #[.val (.long i0), .second, .val (.long i1), .second, .val (.long i2), .second, .val (.int i3), .unset, .unset, .unset, .unset, .unset, .unset, .unset, .unset, .unset, .unset, .unset, .unset, .unset, .unset] [] := by first | (simp [entryFrame, mkF, argsToLocals, Value.category, maxLocals]; done) | rfl
def Q0 (Z : State) (i0 : Int64) (i1 : Int64) (i2 : Int64) (i3 : Int32) (h0 : Heap) (n0 : Nat) (v : Option Value) (h : Heap) (L : List Loc) : Prop := v = some (.int 1) ∧ Fr n0 L
set_option maxRecDepth 65536 in
set_option maxHeartbeats 40000000 in
theorem rm0 (l : Launch) (Z : State) (a0 : Array Value) (hw : ∀ d ∈ tables_1, d.before a0 Z = true) (ws : List Jvm.Cond) (i0 : Int64) (i1 : Int64) (i2 : Int64) (i3 : Int32) (h0 : Heap) (n0 : Nat) (Z0 : n0 ≤ h0.size)  :
    MetFree l x (head1 (Jvm.Cond.code x code maxLocals ret :: ws) room_1) (fun a U => a = #[(.long i0), (.long i1), (.long i2), (.int i3)] ∧ Z.Warmed39 U.vm ∧ U.heap = h0) (fun _ _ _ _ _ => True) (fun _ U o U' => ∃ v L, o = .returned v ∧ Q0 Z i0 i1 i2 i3 h0 n0 v U'.heap L ∧ FrameEnd U o U' L 8 32) := by
  refine MetFree.of_bodySF (plainFor_of_name own_f56) hisR ?_
  intro p e s m args below meth c s₁ Bd hml0 hP hK
  obtain ⟨rfl, hZ, hh⟩ := hP
  have hx := Bd.exec
  have hby := Bd.bytes
  have hml : c.maxLocals = 21 := hml0
  have hown : s.vm.findClass "com/example/bidkeel/bidkeel/BestPointsPinLaw" = some m.cls := findClass_of_methodNamed Bd.named
  have hnm := (name_of_methodNamed Bd.named Bd.method).1
  have X0 : Stand p l e room_1 s m #[(.long i0), (.long i1), (.long i2), (.int i3)] below meth c s₁ [] 0 0 := Stand.of_body Bd
  have e0 : s₁.heap = h0 := by rw [← hh, Bd.state]; rfl
  have N0 := Fr.nil n0
  refine Go.start (own_ef_0 m i0 i1 i2 i3) ?_
  show Go p e below _ s₁ (mkF m 0 #[.val (.long i0), .second, .val (.long i1), .second, .val (.long i2), .second, .val (.int i3), .unset, .unset, .unset, .unset, .unset, .unset, .unset, .unset, .unset, .unset, .unset, .unset, .unset, .unset] [])
  have Zn := Z0
  have K0 : Keep h0 h0 [] := Keep.refl h0 _
  refine Go.step (fun _ k => XS.lloadN X0.here hx rfl (hb hby at_0) rfl k) ?_
  show Go p e below _ s₁ (mkF m 1 #[.val (.long i0), .second, .val (.long i1), .second, .val (.long i2), .second, .val (.int i3), .unset, .unset, .unset, .unset, .unset, .unset, .unset, .unset, .unset, .unset, .unset, .unset, .unset, .unset] [(.long i0)])
  refine Go.step (fun _ k => XS.l2i X0.here hx rfl (hb hby at_1) rfl k) ?_
  show Go p e below _ s₁ (mkF m 2 #[.val (.long i0), .second, .val (.long i1), .second, .val (.long i2), .second, .val (.int i3), .unset, .unset, .unset, .unset, .unset, .unset, .unset, .unset, .unset, .unset, .unset, .unset, .unset, .unset] [(.int (i0.toInt32))])
  obtain ⟨l0, e_l0⟩ : ∃ z : Int32, z = (i0.toInt32) := ⟨_, rfl⟩
  rw [← e_l0]
  show Go p e below _ s₁ (mkF m 2 #[.val (.long i0), .second, .val (.long i1), .second, .val (.long i2), .second, .val (.int i3), .unset, .unset, .unset, .unset, .unset, .unset, .unset, .unset, .unset, .unset, .unset, .unset, .unset, .unset] [(.int l0)])
  refine Go.step (fun _ k => XS.istore X0.here hx rfl (hb hby at_2) rfl (l' := #[.val (.long i0), .second, .val (.long i1), .second, .val (.long i2), .second, .val (.int i3), .val (.int l0), .unset, .unset, .unset, .unset, .unset, .unset, .unset, .unset, .unset, .unset, .unset, .unset, .unset]) rfl k) ?_
  show Go p e below _ s₁ (mkF m 4 #[.val (.long i0), .second, .val (.long i1), .second, .val (.long i2), .second, .val (.int i3), .val (.int l0), .unset, .unset, .unset, .unset, .unset, .unset, .unset, .unset, .unset, .unset, .unset, .unset, .unset] [])
  refine Go.step (fun _ k => XS.lloadN X0.here hx rfl (hb hby at_4) rfl k) ?_
  show Go p e below _ s₁ (mkF m 5 #[.val (.long i0), .second, .val (.long i1), .second, .val (.long i2), .second, .val (.int i3), .val (.int l0), .unset, .unset, .unset, .unset, .unset, .unset, .unset, .unset, .unset, .unset, .unset, .unset, .unset] [(.long i0)])
  refine Go.step (fun _ k => XS.bipush X0.here hx rfl (hb hby at_5) k) ?_
  show Go p e below _ s₁ (mkF m 7 #[.val (.long i0), .second, .val (.long i1), .second, .val (.long i2), .second, .val (.int i3), .val (.int l0), .unset, .unset, .unset, .unset, .unset, .unset, .unset, .unset, .unset, .unset, .unset, .unset, .unset] [(.int (32 : Int32)), (.long i0)])
  refine Go.step (fun _ k => XS.lushr X0.here hx rfl (hb hby at_7) rfl k) ?_
  show Go p e below _ s₁ (mkF m 8 #[.val (.long i0), .second, .val (.long i1), .second, .val (.long i2), .second, .val (.int i3), .val (.int l0), .unset, .unset, .unset, .unset, .unset, .unset, .unset, .unset, .unset, .unset, .unset, .unset, .unset] [(.long ((i0.toUInt64 >>> ((32 : Int32) &&& 0x3f).toInt64.toUInt64).toInt64))])
  refine Go.step (fun _ k => XS.l2i X0.here hx rfl (hb hby at_8) rfl k) ?_
  show Go p e below _ s₁ (mkF m 9 #[.val (.long i0), .second, .val (.long i1), .second, .val (.long i2), .second, .val (.int i3), .val (.int l0), .unset, .unset, .unset, .unset, .unset, .unset, .unset, .unset, .unset, .unset, .unset, .unset, .unset] [(.int (((i0.toUInt64 >>> ((32 : Int32) &&& 0x3f).toInt64.toUInt64).toInt64).toInt32))])
  obtain ⟨l1, e_l1⟩ : ∃ z : Int32, z = (((i0.toUInt64 >>> ((32 : Int32) &&& 0x3f).toInt64.toUInt64).toInt64).toInt32) := ⟨_, rfl⟩
  rw [← e_l1]
  show Go p e below _ s₁ (mkF m 9 #[.val (.long i0), .second, .val (.long i1), .second, .val (.long i2), .second, .val (.int i3), .val (.int l0), .unset, .unset, .unset, .unset, .unset, .unset, .unset, .unset, .unset, .unset, .unset, .unset, .unset] [(.int l1)])
  refine Go.step (fun _ k => XS.istore X0.here hx rfl (hb hby at_9) rfl (l' := #[.val (.long i0), .second, .val (.long i1), .second, .val (.long i2), .second, .val (.int i3), .val (.int l0), .val (.int l1), .unset, .unset, .unset, .unset, .unset, .unset, .unset, .unset, .unset, .unset, .unset, .unset]) rfl k) ?_
  show Go p e below _ s₁ (mkF m 11 #[.val (.long i0), .second, .val (.long i1), .second, .val (.long i2), .second, .val (.int i3), .val (.int l0), .val (.int l1), .unset, .unset, .unset, .unset, .unset, .unset, .unset, .unset, .unset, .unset, .unset, .unset] [])
  refine Go.step (fun _ k => XS.lloadN X0.here hx rfl (hb hby at_11) rfl k) ?_
  show Go p e below _ s₁ (mkF m 12 #[.val (.long i0), .second, .val (.long i1), .second, .val (.long i2), .second, .val (.int i3), .val (.int l0), .val (.int l1), .unset, .unset, .unset, .unset, .unset, .unset, .unset, .unset, .unset, .unset, .unset, .unset] [(.long i1)])
  refine Go.step (fun _ k => XS.l2i X0.here hx rfl (hb hby at_12) rfl k) ?_
  show Go p e below _ s₁ (mkF m 13 #[.val (.long i0), .second, .val (.long i1), .second, .val (.long i2), .second, .val (.int i3), .val (.int l0), .val (.int l1), .unset, .unset, .unset, .unset, .unset, .unset, .unset, .unset, .unset, .unset, .unset, .unset] [(.int (i1.toInt32))])
  obtain ⟨l2, e_l2⟩ : ∃ z : Int32, z = (i1.toInt32) := ⟨_, rfl⟩
  rw [← e_l2]
  show Go p e below _ s₁ (mkF m 13 #[.val (.long i0), .second, .val (.long i1), .second, .val (.long i2), .second, .val (.int i3), .val (.int l0), .val (.int l1), .unset, .unset, .unset, .unset, .unset, .unset, .unset, .unset, .unset, .unset, .unset, .unset] [(.int l2)])
  refine Go.step (fun _ k => XS.istore X0.here hx rfl (hb hby at_13) rfl (l' := #[.val (.long i0), .second, .val (.long i1), .second, .val (.long i2), .second, .val (.int i3), .val (.int l0), .val (.int l1), .val (.int l2), .unset, .unset, .unset, .unset, .unset, .unset, .unset, .unset, .unset, .unset, .unset]) rfl k) ?_
  show Go p e below _ s₁ (mkF m 15 #[.val (.long i0), .second, .val (.long i1), .second, .val (.long i2), .second, .val (.int i3), .val (.int l0), .val (.int l1), .val (.int l2), .unset, .unset, .unset, .unset, .unset, .unset, .unset, .unset, .unset, .unset, .unset] [])
  refine Go.step (fun _ k => XS.lloadN X0.here hx rfl (hb hby at_15) rfl k) ?_
  show Go p e below _ s₁ (mkF m 16 #[.val (.long i0), .second, .val (.long i1), .second, .val (.long i2), .second, .val (.int i3), .val (.int l0), .val (.int l1), .val (.int l2), .unset, .unset, .unset, .unset, .unset, .unset, .unset, .unset, .unset, .unset, .unset] [(.long i1)])
  refine Go.step (fun _ k => XS.bipush X0.here hx rfl (hb hby at_16) k) ?_
  show Go p e below _ s₁ (mkF m 18 #[.val (.long i0), .second, .val (.long i1), .second, .val (.long i2), .second, .val (.int i3), .val (.int l0), .val (.int l1), .val (.int l2), .unset, .unset, .unset, .unset, .unset, .unset, .unset, .unset, .unset, .unset, .unset] [(.int (32 : Int32)), (.long i1)])
  refine Go.step (fun _ k => XS.lushr X0.here hx rfl (hb hby at_18) rfl k) ?_
  show Go p e below _ s₁ (mkF m 19 #[.val (.long i0), .second, .val (.long i1), .second, .val (.long i2), .second, .val (.int i3), .val (.int l0), .val (.int l1), .val (.int l2), .unset, .unset, .unset, .unset, .unset, .unset, .unset, .unset, .unset, .unset, .unset] [(.long ((i1.toUInt64 >>> ((32 : Int32) &&& 0x3f).toInt64.toUInt64).toInt64))])
  refine Go.step (fun _ k => XS.l2i X0.here hx rfl (hb hby at_19) rfl k) ?_
  show Go p e below _ s₁ (mkF m 20 #[.val (.long i0), .second, .val (.long i1), .second, .val (.long i2), .second, .val (.int i3), .val (.int l0), .val (.int l1), .val (.int l2), .unset, .unset, .unset, .unset, .unset, .unset, .unset, .unset, .unset, .unset, .unset] [(.int (((i1.toUInt64 >>> ((32 : Int32) &&& 0x3f).toInt64.toUInt64).toInt64).toInt32))])
  obtain ⟨p0, e_p0⟩ : ∃ z : Int32, z = (((i1.toUInt64 >>> ((32 : Int32) &&& 0x3f).toInt64.toUInt64).toInt64).toInt32) := ⟨_, rfl⟩
  rw [← e_p0]
  show Go p e below _ s₁ (mkF m 20 #[.val (.long i0), .second, .val (.long i1), .second, .val (.long i2), .second, .val (.int i3), .val (.int l0), .val (.int l1), .val (.int l2), .unset, .unset, .unset, .unset, .unset, .unset, .unset, .unset, .unset, .unset, .unset] [(.int p0)])
  refine Go.step (fun _ k => XS.istore X0.here hx rfl (hb hby at_20) rfl (l' := #[.val (.long i0), .second, .val (.long i1), .second, .val (.long i2), .second, .val (.int i3), .val (.int l0), .val (.int l1), .val (.int l2), .val (.int p0), .unset, .unset, .unset, .unset, .unset, .unset, .unset, .unset, .unset, .unset]) rfl k) ?_
  show Go p e below _ s₁ (mkF m 22 #[.val (.long i0), .second, .val (.long i1), .second, .val (.long i2), .second, .val (.int i3), .val (.int l0), .val (.int l1), .val (.int l2), .val (.int p0), .unset, .unset, .unset, .unset, .unset, .unset, .unset, .unset, .unset, .unset] [])
  refine Go.step (fun _ k => XS.lload X0.here hx rfl (hb hby at_22) rfl k) ?_
  show Go p e below _ s₁ (mkF m 24 #[.val (.long i0), .second, .val (.long i1), .second, .val (.long i2), .second, .val (.int i3), .val (.int l0), .val (.int l1), .val (.int l2), .val (.int p0), .unset, .unset, .unset, .unset, .unset, .unset, .unset, .unset, .unset, .unset] [(.long i2)])
  refine Go.step (fun _ k => XS.l2i X0.here hx rfl (hb hby at_24) rfl k) ?_
  show Go p e below _ s₁ (mkF m 25 #[.val (.long i0), .second, .val (.long i1), .second, .val (.long i2), .second, .val (.int i3), .val (.int l0), .val (.int l1), .val (.int l2), .val (.int p0), .unset, .unset, .unset, .unset, .unset, .unset, .unset, .unset, .unset, .unset] [(.int (i2.toInt32))])
  obtain ⟨p1, e_p1⟩ : ∃ z : Int32, z = (i2.toInt32) := ⟨_, rfl⟩
  rw [← e_p1]
  show Go p e below _ s₁ (mkF m 25 #[.val (.long i0), .second, .val (.long i1), .second, .val (.long i2), .second, .val (.int i3), .val (.int l0), .val (.int l1), .val (.int l2), .val (.int p0), .unset, .unset, .unset, .unset, .unset, .unset, .unset, .unset, .unset, .unset] [(.int p1)])
  refine Go.step (fun _ k => XS.istore X0.here hx rfl (hb hby at_25) rfl (l' := #[.val (.long i0), .second, .val (.long i1), .second, .val (.long i2), .second, .val (.int i3), .val (.int l0), .val (.int l1), .val (.int l2), .val (.int p0), .val (.int p1), .unset, .unset, .unset, .unset, .unset, .unset, .unset, .unset, .unset]) rfl k) ?_
  show Go p e below _ s₁ (mkF m 27 #[.val (.long i0), .second, .val (.long i1), .second, .val (.long i2), .second, .val (.int i3), .val (.int l0), .val (.int l1), .val (.int l2), .val (.int p0), .val (.int p1), .unset, .unset, .unset, .unset, .unset, .unset, .unset, .unset, .unset] [])
  refine Go.step (fun _ k => XS.lload X0.here hx rfl (hb hby at_27) rfl k) ?_
  show Go p e below _ s₁ (mkF m 29 #[.val (.long i0), .second, .val (.long i1), .second, .val (.long i2), .second, .val (.int i3), .val (.int l0), .val (.int l1), .val (.int l2), .val (.int p0), .val (.int p1), .unset, .unset, .unset, .unset, .unset, .unset, .unset, .unset, .unset] [(.long i2)])
  refine Go.step (fun _ k => XS.bipush X0.here hx rfl (hb hby at_29) k) ?_
  show Go p e below _ s₁ (mkF m 31 #[.val (.long i0), .second, .val (.long i1), .second, .val (.long i2), .second, .val (.int i3), .val (.int l0), .val (.int l1), .val (.int l2), .val (.int p0), .val (.int p1), .unset, .unset, .unset, .unset, .unset, .unset, .unset, .unset, .unset] [(.int (32 : Int32)), (.long i2)])
  refine Go.step (fun _ k => XS.lushr X0.here hx rfl (hb hby at_31) rfl k) ?_
  show Go p e below _ s₁ (mkF m 32 #[.val (.long i0), .second, .val (.long i1), .second, .val (.long i2), .second, .val (.int i3), .val (.int l0), .val (.int l1), .val (.int l2), .val (.int p0), .val (.int p1), .unset, .unset, .unset, .unset, .unset, .unset, .unset, .unset, .unset] [(.long ((i2.toUInt64 >>> ((32 : Int32) &&& 0x3f).toInt64.toUInt64).toInt64))])
  refine Go.step (fun _ k => XS.l2i X0.here hx rfl (hb hby at_32) rfl k) ?_
  show Go p e below _ s₁ (mkF m 33 #[.val (.long i0), .second, .val (.long i1), .second, .val (.long i2), .second, .val (.int i3), .val (.int l0), .val (.int l1), .val (.int l2), .val (.int p0), .val (.int p1), .unset, .unset, .unset, .unset, .unset, .unset, .unset, .unset, .unset] [(.int (((i2.toUInt64 >>> ((32 : Int32) &&& 0x3f).toInt64.toUInt64).toInt64).toInt32))])
  obtain ⟨p2, e_p2⟩ : ∃ z : Int32, z = (((i2.toUInt64 >>> ((32 : Int32) &&& 0x3f).toInt64.toUInt64).toInt64).toInt32) := ⟨_, rfl⟩
  rw [← e_p2]
  show Go p e below _ s₁ (mkF m 33 #[.val (.long i0), .second, .val (.long i1), .second, .val (.long i2), .second, .val (.int i3), .val (.int l0), .val (.int l1), .val (.int l2), .val (.int p0), .val (.int p1), .unset, .unset, .unset, .unset, .unset, .unset, .unset, .unset, .unset] [(.int p2)])
  refine Go.step (fun _ k => XS.istore X0.here hx rfl (hb hby at_33) rfl (l' := #[.val (.long i0), .second, .val (.long i1), .second, .val (.long i2), .second, .val (.int i3), .val (.int l0), .val (.int l1), .val (.int l2), .val (.int p0), .val (.int p1), .val (.int p2), .unset, .unset, .unset, .unset, .unset, .unset, .unset, .unset]) rfl k) ?_
  show Go p e below _ s₁ (mkF m 35 #[.val (.long i0), .second, .val (.long i1), .second, .val (.long i2), .second, .val (.int i3), .val (.int l0), .val (.int l1), .val (.int l2), .val (.int p0), .val (.int p1), .val (.int p2), .unset, .unset, .unset, .unset, .unset, .unset, .unset, .unset] [])
  refine Go.step (fun _ k => XS.iload X0.here hx rfl (hb hby at_35) rfl k) ?_
  show Go p e below _ s₁ (mkF m 37 #[.val (.long i0), .second, .val (.long i1), .second, .val (.long i2), .second, .val (.int i3), .val (.int l0), .val (.int l1), .val (.int l2), .val (.int p0), .val (.int p1), .val (.int p2), .unset, .unset, .unset, .unset, .unset, .unset, .unset, .unset] [(.int i3)])
  refine Go.step (fun _ k => XS.iconst X0.here hx rfl (hb hby at_37) k) ?_
  show Go p e below _ s₁ (mkF m 38 #[.val (.long i0), .second, .val (.long i1), .second, .val (.long i2), .second, .val (.int i3), .val (.int l0), .val (.int l1), .val (.int l2), .val (.int p0), .val (.int p1), .val (.int p2), .unset, .unset, .unset, .unset, .unset, .unset, .unset, .unset] [(.int (3 : Int32)), (.int i3)])
  refine Go.step (fun _ k => XS.iand X0.here hx rfl (hb hby at_38) rfl k) ?_
  show Go p e below _ s₁ (mkF m 39 #[.val (.long i0), .second, .val (.long i1), .second, .val (.long i2), .second, .val (.int i3), .val (.int l0), .val (.int l1), .val (.int l2), .val (.int p0), .val (.int p1), .val (.int p2), .unset, .unset, .unset, .unset, .unset, .unset, .unset, .unset] [(.int (i3 &&& (3 : Int32)))])
  obtain ⟨n, e_n⟩ : ∃ z : Int32, z = (i3 &&& (3 : Int32)) := ⟨_, rfl⟩
  rw [← e_n]
  show Go p e below _ s₁ (mkF m 39 #[.val (.long i0), .second, .val (.long i1), .second, .val (.long i2), .second, .val (.int i3), .val (.int l0), .val (.int l1), .val (.int l2), .val (.int p0), .val (.int p1), .val (.int p2), .unset, .unset, .unset, .unset, .unset, .unset, .unset, .unset] [(.int n)])
  refine Go.step (fun _ k => XS.istore X0.here hx rfl (hb hby at_39) rfl (l' := #[.val (.long i0), .second, .val (.long i1), .second, .val (.long i2), .second, .val (.int i3), .val (.int l0), .val (.int l1), .val (.int l2), .val (.int p0), .val (.int p1), .val (.int p2), .val (.int n), .unset, .unset, .unset, .unset, .unset, .unset, .unset]) rfl k) ?_
  show Go p e below _ s₁ (mkF m 41 #[.val (.long i0), .second, .val (.long i1), .second, .val (.long i2), .second, .val (.int i3), .val (.int l0), .val (.int l1), .val (.int l2), .val (.int p0), .val (.int p1), .val (.int p2), .val (.int n), .unset, .unset, .unset, .unset, .unset, .unset, .unset] [])
  refine Go.step (fun _ k => XS.iload X0.here hx rfl (hb hby at_41) rfl k) ?_
  show Go p e below _ s₁ (mkF m 43 #[.val (.long i0), .second, .val (.long i1), .second, .val (.long i2), .second, .val (.int i3), .val (.int l0), .val (.int l1), .val (.int l2), .val (.int p0), .val (.int p1), .val (.int p2), .val (.int n), .unset, .unset, .unset, .unset, .unset, .unset, .unset] [(.int i3)])
  refine Go.step (fun _ k => XS.iconst X0.here hx rfl (hb hby at_43) k) ?_
  show Go p e below _ s₁ (mkF m 44 #[.val (.long i0), .second, .val (.long i1), .second, .val (.long i2), .second, .val (.int i3), .val (.int l0), .val (.int l1), .val (.int l2), .val (.int p0), .val (.int p1), .val (.int p2), .val (.int n), .unset, .unset, .unset, .unset, .unset, .unset, .unset] [(.int (2 : Int32)), (.int i3)])
  refine Go.step (fun _ k => XS.iushr X0.here hx rfl (hb hby at_44) rfl k) ?_
  show Go p e below _ s₁ (mkF m 45 #[.val (.long i0), .second, .val (.long i1), .second, .val (.long i2), .second, .val (.int i3), .val (.int l0), .val (.int l1), .val (.int l2), .val (.int p0), .val (.int p1), .val (.int p2), .val (.int n), .unset, .unset, .unset, .unset, .unset, .unset, .unset] [(.int ((i3.toUInt32 >>> ((2 : Int32) &&& 31).toUInt32).toInt32))])
  refine Go.step (fun _ k => XS.iconst X0.here hx rfl (hb hby at_45) k) ?_
  show Go p e below _ s₁ (mkF m 46 #[.val (.long i0), .second, .val (.long i1), .second, .val (.long i2), .second, .val (.int i3), .val (.int l0), .val (.int l1), .val (.int l2), .val (.int p0), .val (.int p1), .val (.int p2), .val (.int n), .unset, .unset, .unset, .unset, .unset, .unset, .unset] [(.int (3 : Int32)), (.int ((i3.toUInt32 >>> ((2 : Int32) &&& 31).toUInt32).toInt32))])
  refine Go.step (fun _ k => XS.iand X0.here hx rfl (hb hby at_46) rfl k) ?_
  show Go p e below _ s₁ (mkF m 47 #[.val (.long i0), .second, .val (.long i1), .second, .val (.long i2), .second, .val (.int i3), .val (.int l0), .val (.int l1), .val (.int l2), .val (.int p0), .val (.int p1), .val (.int p2), .val (.int n), .unset, .unset, .unset, .unset, .unset, .unset, .unset] [(.int (((i3.toUInt32 >>> ((2 : Int32) &&& 31).toUInt32).toInt32) &&& (3 : Int32)))])
  refine Go.step (fun _ k => XS.iconst X0.here hx rfl (hb hby at_47) k) ?_
  show Go p e below _ s₁ (mkF m 48 #[.val (.long i0), .second, .val (.long i1), .second, .val (.long i2), .second, .val (.int i3), .val (.int l0), .val (.int l1), .val (.int l2), .val (.int p0), .val (.int p1), .val (.int p2), .val (.int n), .unset, .unset, .unset, .unset, .unset, .unset, .unset] [(.int (3 : Int32)), (.int (((i3.toUInt32 >>> ((2 : Int32) &&& 31).toUInt32).toInt32) &&& (3 : Int32)))])
  refine Go.step (fun _ k => iremM X0 hx rfl (hb hby at_48) rfl (by decide) k) ?_
  show Go p e below _ s₁ (mkF m 49 #[.val (.long i0), .second, .val (.long i1), .second, .val (.long i2), .second, .val (.int i3), .val (.int l0), .val (.int l1), .val (.int l2), .val (.int p0), .val (.int p1), .val (.int p2), .val (.int n), .unset, .unset, .unset, .unset, .unset, .unset, .unset] [(.int ((((i3.toUInt32 >>> ((2 : Int32) &&& 31).toUInt32).toInt32) &&& (3 : Int32)) % (3 : Int32)))])
  obtain ⟨c0, e_c0⟩ : ∃ z : Int32, z = ((((i3.toUInt32 >>> ((2 : Int32) &&& 31).toUInt32).toInt32) &&& (3 : Int32)) % (3 : Int32)) := ⟨_, rfl⟩
  rw [← e_c0]
  show Go p e below _ s₁ (mkF m 49 #[.val (.long i0), .second, .val (.long i1), .second, .val (.long i2), .second, .val (.int i3), .val (.int l0), .val (.int l1), .val (.int l2), .val (.int p0), .val (.int p1), .val (.int p2), .val (.int n), .unset, .unset, .unset, .unset, .unset, .unset, .unset] [(.int c0)])
  refine Go.step (fun _ k => XS.istore X0.here hx rfl (hb hby at_49) rfl (l' := #[.val (.long i0), .second, .val (.long i1), .second, .val (.long i2), .second, .val (.int i3), .val (.int l0), .val (.int l1), .val (.int l2), .val (.int p0), .val (.int p1), .val (.int p2), .val (.int n), .val (.int c0), .unset, .unset, .unset, .unset, .unset, .unset]) rfl k) ?_
  show Go p e below _ s₁ (mkF m 51 #[.val (.long i0), .second, .val (.long i1), .second, .val (.long i2), .second, .val (.int i3), .val (.int l0), .val (.int l1), .val (.int l2), .val (.int p0), .val (.int p1), .val (.int p2), .val (.int n), .val (.int c0), .unset, .unset, .unset, .unset, .unset, .unset] [])
  refine Go.step (fun _ k => XS.iload X0.here hx rfl (hb hby at_51) rfl k) ?_
  show Go p e below _ s₁ (mkF m 53 #[.val (.long i0), .second, .val (.long i1), .second, .val (.long i2), .second, .val (.int i3), .val (.int l0), .val (.int l1), .val (.int l2), .val (.int p0), .val (.int p1), .val (.int p2), .val (.int n), .val (.int c0), .unset, .unset, .unset, .unset, .unset, .unset] [(.int i3)])
  refine Go.step (fun _ k => XS.iconst X0.here hx rfl (hb hby at_53) k) ?_
  show Go p e below _ s₁ (mkF m 54 #[.val (.long i0), .second, .val (.long i1), .second, .val (.long i2), .second, .val (.int i3), .val (.int l0), .val (.int l1), .val (.int l2), .val (.int p0), .val (.int p1), .val (.int p2), .val (.int n), .val (.int c0), .unset, .unset, .unset, .unset, .unset, .unset] [(.int (4 : Int32)), (.int i3)])
  refine Go.step (fun _ k => XS.iushr X0.here hx rfl (hb hby at_54) rfl k) ?_
  show Go p e below _ s₁ (mkF m 55 #[.val (.long i0), .second, .val (.long i1), .second, .val (.long i2), .second, .val (.int i3), .val (.int l0), .val (.int l1), .val (.int l2), .val (.int p0), .val (.int p1), .val (.int p2), .val (.int n), .val (.int c0), .unset, .unset, .unset, .unset, .unset, .unset] [(.int ((i3.toUInt32 >>> ((4 : Int32) &&& 31).toUInt32).toInt32))])
  refine Go.step (fun _ k => XS.iconst X0.here hx rfl (hb hby at_55) k) ?_
  show Go p e below _ s₁ (mkF m 56 #[.val (.long i0), .second, .val (.long i1), .second, .val (.long i2), .second, .val (.int i3), .val (.int l0), .val (.int l1), .val (.int l2), .val (.int p0), .val (.int p1), .val (.int p2), .val (.int n), .val (.int c0), .unset, .unset, .unset, .unset, .unset, .unset] [(.int (3 : Int32)), (.int ((i3.toUInt32 >>> ((4 : Int32) &&& 31).toUInt32).toInt32))])
  refine Go.step (fun _ k => XS.iand X0.here hx rfl (hb hby at_56) rfl k) ?_
  show Go p e below _ s₁ (mkF m 57 #[.val (.long i0), .second, .val (.long i1), .second, .val (.long i2), .second, .val (.int i3), .val (.int l0), .val (.int l1), .val (.int l2), .val (.int p0), .val (.int p1), .val (.int p2), .val (.int n), .val (.int c0), .unset, .unset, .unset, .unset, .unset, .unset] [(.int (((i3.toUInt32 >>> ((4 : Int32) &&& 31).toUInt32).toInt32) &&& (3 : Int32)))])
  refine Go.step (fun _ k => XS.iconst X0.here hx rfl (hb hby at_57) k) ?_
  show Go p e below _ s₁ (mkF m 58 #[.val (.long i0), .second, .val (.long i1), .second, .val (.long i2), .second, .val (.int i3), .val (.int l0), .val (.int l1), .val (.int l2), .val (.int p0), .val (.int p1), .val (.int p2), .val (.int n), .val (.int c0), .unset, .unset, .unset, .unset, .unset, .unset] [(.int (3 : Int32)), (.int (((i3.toUInt32 >>> ((4 : Int32) &&& 31).toUInt32).toInt32) &&& (3 : Int32)))])
  refine Go.step (fun _ k => iremM X0 hx rfl (hb hby at_58) rfl (by decide) k) ?_
  show Go p e below _ s₁ (mkF m 59 #[.val (.long i0), .second, .val (.long i1), .second, .val (.long i2), .second, .val (.int i3), .val (.int l0), .val (.int l1), .val (.int l2), .val (.int p0), .val (.int p1), .val (.int p2), .val (.int n), .val (.int c0), .unset, .unset, .unset, .unset, .unset, .unset] [(.int ((((i3.toUInt32 >>> ((4 : Int32) &&& 31).toUInt32).toInt32) &&& (3 : Int32)) % (3 : Int32)))])
  obtain ⟨c1, e_c1⟩ : ∃ z : Int32, z = ((((i3.toUInt32 >>> ((4 : Int32) &&& 31).toUInt32).toInt32) &&& (3 : Int32)) % (3 : Int32)) := ⟨_, rfl⟩
  rw [← e_c1]
  show Go p e below _ s₁ (mkF m 59 #[.val (.long i0), .second, .val (.long i1), .second, .val (.long i2), .second, .val (.int i3), .val (.int l0), .val (.int l1), .val (.int l2), .val (.int p0), .val (.int p1), .val (.int p2), .val (.int n), .val (.int c0), .unset, .unset, .unset, .unset, .unset, .unset] [(.int c1)])
  refine Go.step (fun _ k => XS.istore X0.here hx rfl (hb hby at_59) rfl (l' := #[.val (.long i0), .second, .val (.long i1), .second, .val (.long i2), .second, .val (.int i3), .val (.int l0), .val (.int l1), .val (.int l2), .val (.int p0), .val (.int p1), .val (.int p2), .val (.int n), .val (.int c0), .val (.int c1), .unset, .unset, .unset, .unset, .unset]) rfl k) ?_
  show Go p e below _ s₁ (mkF m 61 #[.val (.long i0), .second, .val (.long i1), .second, .val (.long i2), .second, .val (.int i3), .val (.int l0), .val (.int l1), .val (.int l2), .val (.int p0), .val (.int p1), .val (.int p2), .val (.int n), .val (.int c0), .val (.int c1), .unset, .unset, .unset, .unset, .unset] [])
  refine Go.step (fun _ k => XS.iload X0.here hx rfl (hb hby at_61) rfl k) ?_
  show Go p e below _ s₁ (mkF m 63 #[.val (.long i0), .second, .val (.long i1), .second, .val (.long i2), .second, .val (.int i3), .val (.int l0), .val (.int l1), .val (.int l2), .val (.int p0), .val (.int p1), .val (.int p2), .val (.int n), .val (.int c0), .val (.int c1), .unset, .unset, .unset, .unset, .unset] [(.int i3)])
  refine Go.step (fun _ k => XS.bipush X0.here hx rfl (hb hby at_63) k) ?_
  show Go p e below _ s₁ (mkF m 65 #[.val (.long i0), .second, .val (.long i1), .second, .val (.long i2), .second, .val (.int i3), .val (.int l0), .val (.int l1), .val (.int l2), .val (.int p0), .val (.int p1), .val (.int p2), .val (.int n), .val (.int c0), .val (.int c1), .unset, .unset, .unset, .unset, .unset] [(.int (6 : Int32)), (.int i3)])
  refine Go.step (fun _ k => XS.iushr X0.here hx rfl (hb hby at_65) rfl k) ?_
  show Go p e below _ s₁ (mkF m 66 #[.val (.long i0), .second, .val (.long i1), .second, .val (.long i2), .second, .val (.int i3), .val (.int l0), .val (.int l1), .val (.int l2), .val (.int p0), .val (.int p1), .val (.int p2), .val (.int n), .val (.int c0), .val (.int c1), .unset, .unset, .unset, .unset, .unset] [(.int ((i3.toUInt32 >>> ((6 : Int32) &&& 31).toUInt32).toInt32))])
  refine Go.step (fun _ k => XS.iconst X0.here hx rfl (hb hby at_66) k) ?_
  show Go p e below _ s₁ (mkF m 67 #[.val (.long i0), .second, .val (.long i1), .second, .val (.long i2), .second, .val (.int i3), .val (.int l0), .val (.int l1), .val (.int l2), .val (.int p0), .val (.int p1), .val (.int p2), .val (.int n), .val (.int c0), .val (.int c1), .unset, .unset, .unset, .unset, .unset] [(.int (3 : Int32)), (.int ((i3.toUInt32 >>> ((6 : Int32) &&& 31).toUInt32).toInt32))])
  refine Go.step (fun _ k => XS.iand X0.here hx rfl (hb hby at_67) rfl k) ?_
  show Go p e below _ s₁ (mkF m 68 #[.val (.long i0), .second, .val (.long i1), .second, .val (.long i2), .second, .val (.int i3), .val (.int l0), .val (.int l1), .val (.int l2), .val (.int p0), .val (.int p1), .val (.int p2), .val (.int n), .val (.int c0), .val (.int c1), .unset, .unset, .unset, .unset, .unset] [(.int (((i3.toUInt32 >>> ((6 : Int32) &&& 31).toUInt32).toInt32) &&& (3 : Int32)))])
  refine Go.step (fun _ k => XS.iconst X0.here hx rfl (hb hby at_68) k) ?_
  show Go p e below _ s₁ (mkF m 69 #[.val (.long i0), .second, .val (.long i1), .second, .val (.long i2), .second, .val (.int i3), .val (.int l0), .val (.int l1), .val (.int l2), .val (.int p0), .val (.int p1), .val (.int p2), .val (.int n), .val (.int c0), .val (.int c1), .unset, .unset, .unset, .unset, .unset] [(.int (3 : Int32)), (.int (((i3.toUInt32 >>> ((6 : Int32) &&& 31).toUInt32).toInt32) &&& (3 : Int32)))])
  refine Go.step (fun _ k => iremM X0 hx rfl (hb hby at_69) rfl (by decide) k) ?_
  show Go p e below _ s₁ (mkF m 70 #[.val (.long i0), .second, .val (.long i1), .second, .val (.long i2), .second, .val (.int i3), .val (.int l0), .val (.int l1), .val (.int l2), .val (.int p0), .val (.int p1), .val (.int p2), .val (.int n), .val (.int c0), .val (.int c1), .unset, .unset, .unset, .unset, .unset] [(.int ((((i3.toUInt32 >>> ((6 : Int32) &&& 31).toUInt32).toInt32) &&& (3 : Int32)) % (3 : Int32)))])
  obtain ⟨c2, e_c2⟩ : ∃ z : Int32, z = ((((i3.toUInt32 >>> ((6 : Int32) &&& 31).toUInt32).toInt32) &&& (3 : Int32)) % (3 : Int32)) := ⟨_, rfl⟩
  rw [← e_c2]
  show Go p e below _ s₁ (mkF m 70 #[.val (.long i0), .second, .val (.long i1), .second, .val (.long i2), .second, .val (.int i3), .val (.int l0), .val (.int l1), .val (.int l2), .val (.int p0), .val (.int p1), .val (.int p2), .val (.int n), .val (.int c0), .val (.int c1), .unset, .unset, .unset, .unset, .unset] [(.int c2)])
  have hn := own_k3 i3
  rw [← e_n] at hn
  have hc0 : c0 = 0 ∨ c0 = 1 ∨ c0 = 2 := by rw [e_c0]; exact own_c3 _
  have hc1 : c1 = 0 ∨ c1 = 1 ∨ c1 = 2 := by rw [e_c1]; exact own_c3 _
  have hc2 : c2 = 0 ∨ c2 = 1 ∨ c2 = 2 := by rw [e_c2]; exact own_c3 _
  refine Go.step (fun _ k => XS.istore X0.here hx rfl (hb hby at_70) rfl (l' := #[.val (.long i0), .second, .val (.long i1), .second, .val (.long i2), .second, .val (.int i3), .val (.int l0), .val (.int l1), .val (.int l2), .val (.int p0), .val (.int p1), .val (.int p2), .val (.int n), .val (.int c0), .val (.int c1), .val (.int c2), .unset, .unset, .unset, .unset]) rfl k) ?_
  show Go p e below _ s₁ (mkF m 72 #[.val (.long i0), .second, .val (.long i1), .second, .val (.long i2), .second, .val (.int i3), .val (.int l0), .val (.int l1), .val (.int l2), .val (.int p0), .val (.int p1), .val (.int p2), .val (.int n), .val (.int c0), .val (.int c1), .val (.int c2), .unset, .unset, .unset, .unset] [])
  refine Go.step (fun _ k => XS.iconst X0.here hx rfl (hb hby at_72) k) ?_
  show Go p e below _ s₁ (mkF m 73 #[.val (.long i0), .second, .val (.long i1), .second, .val (.long i2), .second, .val (.int i3), .val (.int l0), .val (.int l1), .val (.int l2), .val (.int p0), .val (.int p1), .val (.int p2), .val (.int n), .val (.int c0), .val (.int c1), .val (.int c2), .unset, .unset, .unset, .unset] [(.int (3 : Int32))])
  obtain ⟨T50, h50, k50, X50, e50, E50, A50, Ex50, st50⟩ := newPE X0 hx hZ (hw _ (List.mem_of_getElem? (i := 0) rfl)) e0 (g := (mkF m 73 #[.val (.long i0), .second, .val (.long i1), .second, .val (.long i2), .second, .val (.int i3), .val (.int l0), .val (.int l1), .val (.int l2), .val (.int p0), .val (.int p1), .val (.int p2), .val (.int n), .val (.int c0), .val (.int c1), .val (.int c2), .unset, .unset, .unset, .unset] [(.int (3 : Int32))])) rfl (hb hby at_73) rfl (by decide) (cap := 3) (by decide) (by decide) (by decide) (by decide) (ad := "[I") rfl
  obtain ⟨lp, g50⟩ : ∃ z, z = h0.size := ⟨_, rfl⟩
  rw [← g50] at A50 Ex50 st50
  have g_lp : n0 ≤ lp := Nat.le_trans Zn (Nat.le_of_eq g50.symm)
  have sz_lp : h0.size ≤ lp := Nat.le_trans K0.1 (Nat.le_of_eq g50.symm)
  replace Zn := Nat.le_trans Zn E50.1
  replace K0 := K0.ext E50
  have V_lp : Arv Z h50 lp k50 .int (3 : Int32) [(.int (0 : Int32)), (.int (0 : Int32)), (.int (0 : Int32))] (.int (0 : Int32)) := (Arv.new A50 (by decide)).pad (pad_rep [] (.int (0 : Int32)) 3)
  have E_lp := Ex50
  refine Go.step st50 ?_
  show Go p e below _ T50 (mkF m 75 #[.val (.long i0), .second, .val (.long i1), .second, .val (.long i2), .second, .val (.int i3), .val (.int l0), .val (.int l1), .val (.int l2), .val (.int p0), .val (.int p1), .val (.int p2), .val (.int n), .val (.int c0), .val (.int c1), .val (.int c2), .unset, .unset, .unset, .unset] [(.ref lp)])
  refine Go.step (fun _ k => XS.astore X50.here hx rfl (hb hby at_75) rfl rfl (l' := #[.val (.long i0), .second, .val (.long i1), .second, .val (.long i2), .second, .val (.int i3), .val (.int l0), .val (.int l1), .val (.int l2), .val (.int p0), .val (.int p1), .val (.int p2), .val (.int n), .val (.int c0), .val (.int c1), .val (.int c2), .val (.ref lp), .unset, .unset, .unset]) rfl k) ?_
  show Go p e below _ T50 (mkF m 77 #[.val (.long i0), .second, .val (.long i1), .second, .val (.long i2), .second, .val (.int i3), .val (.int l0), .val (.int l1), .val (.int l2), .val (.int p0), .val (.int p1), .val (.int p2), .val (.int n), .val (.int c0), .val (.int c1), .val (.int c2), .val (.ref lp), .unset, .unset, .unset] [])
  refine Go.step (fun _ k => XS.aload X50.here hx rfl (hb hby at_77) rfl rfl k) ?_
  show Go p e below _ T50 (mkF m 79 #[.val (.long i0), .second, .val (.long i1), .second, .val (.long i2), .second, .val (.int i3), .val (.int l0), .val (.int l1), .val (.int l2), .val (.int p0), .val (.int p1), .val (.int p2), .val (.int n), .val (.int c0), .val (.int c1), .val (.int c2), .val (.ref lp), .unset, .unset, .unset] [(.ref lp)])
  refine Go.step (fun _ k => XS.iconst X50.here hx rfl (hb hby at_79) k) ?_
  show Go p e below _ T50 (mkF m 80 #[.val (.long i0), .second, .val (.long i1), .second, .val (.long i2), .second, .val (.int i3), .val (.int l0), .val (.int l1), .val (.int l2), .val (.int p0), .val (.int p1), .val (.int p2), .val (.int n), .val (.int c0), .val (.int c1), .val (.int c2), .val (.ref lp), .unset, .unset, .unset] [(.int (0 : Int32)), (.ref lp)])
  refine Go.step (fun _ k => XS.iload X50.here hx rfl (hb hby at_80) rfl k) ?_
  show Go p e below _ T50 (mkF m 82 #[.val (.long i0), .second, .val (.long i1), .second, .val (.long i2), .second, .val (.int i3), .val (.int l0), .val (.int l1), .val (.int l2), .val (.int p0), .val (.int p1), .val (.int p2), .val (.int n), .val (.int c0), .val (.int c1), .val (.int c2), .val (.ref lp), .unset, .unset, .unset] [(.int l0), (.int (0 : Int32)), (.ref lp)])
  obtain ⟨cl51, Ar51, q51, S51, Nn51, H51, G51⟩ := V_lp
  have hin51 : ¬ ((0 : Int32) < 0 ∨ cl51.slots.size ≤ ((0 : Int32)).toNatClampNeg) := inb_of S51 ⟨by decide, by decide⟩
  obtain ⟨T51, h51, X51, e51, W51, st51⟩ := stI X50 hx hZ e50 Ar51 (j := (0 : Int32)) hin51 (g := (mkF m 82 #[.val (.long i0), .second, .val (.long i1), .second, .val (.long i2), .second, .val (.int i3), .val (.int l0), .val (.int l1), .val (.int l2), .val (.int p0), .val (.int p1), .val (.int p2), .val (.int n), .val (.int c0), .val (.int c1), .val (.int c2), .val (.ref lp), .unset, .unset, .unset] [(.int l0), (.int (0 : Int32)), (.ref lp)])) rfl rfl (hb hby at_82)
  have Vw51 : Arv Z h51 lp k50 .int (3 : Int32) [(.int l0), (.int (0 : Int32)), (.int (0 : Int32))] (.int (0 : Int32)) := Arv.set Ar51 q51 S51 Nn51 H51 G51 rfl W51 0 rfl (Nat.le_of_ble_eq_true rfl)
  replace E_lp := E_lp.wr W51
  have V_lp := Vw51
  replace K0 := K0.wr W51 (Or.inr sz_lp)
  replace Zn := Nat.le_trans Zn (Nat.le_of_eq W51.size.symm)
  have N51 := Fr.snoc X51 N0 g_lp
  refine Go.step st51 ?_
  show Go p e below _ T51 (mkF m 83 #[.val (.long i0), .second, .val (.long i1), .second, .val (.long i2), .second, .val (.int i3), .val (.int l0), .val (.int l1), .val (.int l2), .val (.int p0), .val (.int p1), .val (.int p2), .val (.int n), .val (.int c0), .val (.int c1), .val (.int c2), .val (.ref lp), .unset, .unset, .unset] [])
  refine Go.step (fun _ k => XS.aload X51.here hx rfl (hb hby at_83) rfl rfl k) ?_
  show Go p e below _ T51 (mkF m 85 #[.val (.long i0), .second, .val (.long i1), .second, .val (.long i2), .second, .val (.int i3), .val (.int l0), .val (.int l1), .val (.int l2), .val (.int p0), .val (.int p1), .val (.int p2), .val (.int n), .val (.int c0), .val (.int c1), .val (.int c2), .val (.ref lp), .unset, .unset, .unset] [(.ref lp)])
  refine Go.step (fun _ k => XS.iconst X51.here hx rfl (hb hby at_85) k) ?_
  show Go p e below _ T51 (mkF m 86 #[.val (.long i0), .second, .val (.long i1), .second, .val (.long i2), .second, .val (.int i3), .val (.int l0), .val (.int l1), .val (.int l2), .val (.int p0), .val (.int p1), .val (.int p2), .val (.int n), .val (.int c0), .val (.int c1), .val (.int c2), .val (.ref lp), .unset, .unset, .unset] [(.int (1 : Int32)), (.ref lp)])
  refine Go.step (fun _ k => XS.iload X51.here hx rfl (hb hby at_86) rfl k) ?_
  show Go p e below _ T51 (mkF m 88 #[.val (.long i0), .second, .val (.long i1), .second, .val (.long i2), .second, .val (.int i3), .val (.int l0), .val (.int l1), .val (.int l2), .val (.int p0), .val (.int p1), .val (.int p2), .val (.int n), .val (.int c0), .val (.int c1), .val (.int c2), .val (.ref lp), .unset, .unset, .unset] [(.int l1), (.int (1 : Int32)), (.ref lp)])
  obtain ⟨cl52, Ar52, q52, S52, Nn52, H52, G52⟩ := V_lp
  have hin52 : ¬ ((1 : Int32) < 0 ∨ cl52.slots.size ≤ ((1 : Int32)).toNatClampNeg) := inb_of S52 ⟨by decide, by decide⟩
  obtain ⟨T52, h52, X52, e52, W52, st52⟩ := stI X51 hx hZ e51 Ar52 (j := (1 : Int32)) hin52 (g := (mkF m 88 #[.val (.long i0), .second, .val (.long i1), .second, .val (.long i2), .second, .val (.int i3), .val (.int l0), .val (.int l1), .val (.int l2), .val (.int p0), .val (.int p1), .val (.int p2), .val (.int n), .val (.int c0), .val (.int c1), .val (.int c2), .val (.ref lp), .unset, .unset, .unset] [(.int l1), (.int (1 : Int32)), (.ref lp)])) rfl rfl (hb hby at_88)
  have Vw52 : Arv Z h52 lp k50 .int (3 : Int32) [(.int l0), (.int l1), (.int (0 : Int32))] (.int (0 : Int32)) := Arv.set Ar52 q52 S52 Nn52 H52 G52 rfl W52 1 rfl (Nat.le_of_ble_eq_true rfl)
  replace E_lp := E_lp.wr W52
  have V_lp := Vw52
  replace K0 := K0.wr W52 (Or.inr sz_lp)
  replace Zn := Nat.le_trans Zn (Nat.le_of_eq W52.size.symm)
  have N52 := Fr.snoc X52 N51 g_lp
  refine Go.step st52 ?_
  show Go p e below _ T52 (mkF m 89 #[.val (.long i0), .second, .val (.long i1), .second, .val (.long i2), .second, .val (.int i3), .val (.int l0), .val (.int l1), .val (.int l2), .val (.int p0), .val (.int p1), .val (.int p2), .val (.int n), .val (.int c0), .val (.int c1), .val (.int c2), .val (.ref lp), .unset, .unset, .unset] [])
  refine Go.step (fun _ k => XS.aload X52.here hx rfl (hb hby at_89) rfl rfl k) ?_
  show Go p e below _ T52 (mkF m 91 #[.val (.long i0), .second, .val (.long i1), .second, .val (.long i2), .second, .val (.int i3), .val (.int l0), .val (.int l1), .val (.int l2), .val (.int p0), .val (.int p1), .val (.int p2), .val (.int n), .val (.int c0), .val (.int c1), .val (.int c2), .val (.ref lp), .unset, .unset, .unset] [(.ref lp)])
  refine Go.step (fun _ k => XS.iconst X52.here hx rfl (hb hby at_91) k) ?_
  show Go p e below _ T52 (mkF m 92 #[.val (.long i0), .second, .val (.long i1), .second, .val (.long i2), .second, .val (.int i3), .val (.int l0), .val (.int l1), .val (.int l2), .val (.int p0), .val (.int p1), .val (.int p2), .val (.int n), .val (.int c0), .val (.int c1), .val (.int c2), .val (.ref lp), .unset, .unset, .unset] [(.int (2 : Int32)), (.ref lp)])
  refine Go.step (fun _ k => XS.iload X52.here hx rfl (hb hby at_92) rfl k) ?_
  show Go p e below _ T52 (mkF m 94 #[.val (.long i0), .second, .val (.long i1), .second, .val (.long i2), .second, .val (.int i3), .val (.int l0), .val (.int l1), .val (.int l2), .val (.int p0), .val (.int p1), .val (.int p2), .val (.int n), .val (.int c0), .val (.int c1), .val (.int c2), .val (.ref lp), .unset, .unset, .unset] [(.int l2), (.int (2 : Int32)), (.ref lp)])
  obtain ⟨cl53, Ar53, q53, S53, Nn53, H53, G53⟩ := V_lp
  have hin53 : ¬ ((2 : Int32) < 0 ∨ cl53.slots.size ≤ ((2 : Int32)).toNatClampNeg) := inb_of S53 ⟨by decide, by decide⟩
  obtain ⟨T53, h53, X53, e53, W53, st53⟩ := stI X52 hx hZ e52 Ar53 (j := (2 : Int32)) hin53 (g := (mkF m 94 #[.val (.long i0), .second, .val (.long i1), .second, .val (.long i2), .second, .val (.int i3), .val (.int l0), .val (.int l1), .val (.int l2), .val (.int p0), .val (.int p1), .val (.int p2), .val (.int n), .val (.int c0), .val (.int c1), .val (.int c2), .val (.ref lp), .unset, .unset, .unset] [(.int l2), (.int (2 : Int32)), (.ref lp)])) rfl rfl (hb hby at_94)
  have Vw53 : Arv Z h53 lp k50 .int (3 : Int32) [(.int l0), (.int l1), (.int l2)] (.int (0 : Int32)) := Arv.set Ar53 q53 S53 Nn53 H53 G53 rfl W53 2 rfl (Nat.le_of_ble_eq_true rfl)
  replace E_lp := E_lp.wr W53
  have V_lp := Vw53
  replace K0 := K0.wr W53 (Or.inr sz_lp)
  replace Zn := Nat.le_trans Zn (Nat.le_of_eq W53.size.symm)
  have N53 := Fr.snoc X53 N52 g_lp
  refine Go.step st53 ?_
  show Go p e below _ T53 (mkF m 95 #[.val (.long i0), .second, .val (.long i1), .second, .val (.long i2), .second, .val (.int i3), .val (.int l0), .val (.int l1), .val (.int l2), .val (.int p0), .val (.int p1), .val (.int p2), .val (.int n), .val (.int c0), .val (.int c1), .val (.int c2), .val (.ref lp), .unset, .unset, .unset] [])
  refine Go.step (fun _ k => XS.aconstNull X53.here hx rfl (hb hby at_95) k) ?_
  show Go p e below _ T53 (mkF m 96 #[.val (.long i0), .second, .val (.long i1), .second, .val (.long i2), .second, .val (.int i3), .val (.int l0), .val (.int l1), .val (.int l2), .val (.int p0), .val (.int p1), .val (.int p2), .val (.int n), .val (.int c0), .val (.int c1), .val (.int c2), .val (.ref lp), .unset, .unset, .unset] [.null])
  refine Go.step (fun _ k => XS.astore X53.here hx rfl (hb hby at_96) rfl rfl (l' := #[.val (.long i0), .second, .val (.long i1), .second, .val (.long i2), .second, .val (.int i3), .val (.int l0), .val (.int l1), .val (.int l2), .val (.int p0), .val (.int p1), .val (.int p2), .val (.int n), .val (.int c0), .val (.int c1), .val (.int c2), .val (.ref lp), .val .null, .unset, .unset]) rfl k) ?_
  show Go p e below _ T53 (mkF m 98 #[.val (.long i0), .second, .val (.long i1), .second, .val (.long i2), .second, .val (.int i3), .val (.int l0), .val (.int l1), .val (.int l2), .val (.int p0), .val (.int p1), .val (.int p2), .val (.int n), .val (.int c0), .val (.int c1), .val (.int c2), .val (.ref lp), .val .null, .unset, .unset] [])
  refine Go.step (fun _ k => XS.iload X53.here hx rfl (hb hby at_98) rfl k) ?_
  show Go p e below _ T53 (mkF m 100 #[.val (.long i0), .second, .val (.long i1), .second, .val (.long i2), .second, .val (.int i3), .val (.int l0), .val (.int l1), .val (.int l2), .val (.int p0), .val (.int p1), .val (.int p2), .val (.int n), .val (.int c0), .val (.int c1), .val (.int c2), .val (.ref lp), .val .null, .unset, .unset] [(.int n)])
  refine Go.step (fun _ k => XS.iconst X53.here hx rfl (hb hby at_100) k) ?_
  show Go p e below _ T53 (mkF m 101 #[.val (.long i0), .second, .val (.long i1), .second, .val (.long i2), .second, .val (.int i3), .val (.int l0), .val (.int l1), .val (.int l2), .val (.int p0), .val (.int p1), .val (.int p2), .val (.int n), .val (.int c0), .val (.int c1), .val (.int c2), .val (.ref lp), .val .null, .unset, .unset] [(.int (1 : Int32)), (.int n)])
  rcases hn with hk0 | hk0 | hk0 | hk0
  · have hn : n = 0 ∨ n = 1 ∨ n = 2 ∨ n = 3 := by simp [hk0]
    show Go p e below _ T53 (mkF m 101 #[.val (.long i0), .second, .val (.long i1), .second, .val (.long i2), .second, .val (.int i3), .val (.int l0), .val (.int l1), .val (.int l2), .val (.int p0), .val (.int p1), .val (.int p2), .val (.int n), .val (.int c0), .val (.int c1), .val (.int c2), .val (.ref lp), .val .null, .unset, .unset] [(.int (1 : Int32)), (.int n)])
    refine Go.step (fun _ k => XS.icmpYes X53.here hx rfl (pc0 := 101) (pc' := 119) rfl (hb hby at_101) rfl (tlt (by rw [hk0]; decide)).1 (by decide) (by decide) k) ?_
    show Go p e below _ T53 (mkF m 119 #[.val (.long i0), .second, .val (.long i1), .second, .val (.long i2), .second, .val (.int i3), .val (.int l0), .val (.int l1), .val (.int l2), .val (.int p0), .val (.int p1), .val (.int p2), .val (.int n), .val (.int c0), .val (.int c1), .val (.int c2), .val (.ref lp), .val .null, .unset, .unset] [])
    refine Go.step (fun _ k => XS.iload X53.here hx rfl (hb hby at_119) rfl k) ?_
    show Go p e below _ T53 (mkF m 121 #[.val (.long i0), .second, .val (.long i1), .second, .val (.long i2), .second, .val (.int i3), .val (.int l0), .val (.int l1), .val (.int l2), .val (.int p0), .val (.int p1), .val (.int p2), .val (.int n), .val (.int c0), .val (.int c1), .val (.int c2), .val (.ref lp), .val .null, .unset, .unset] [(.int n)])
    refine Go.step (fun _ k => XS.iconst X53.here hx rfl (hb hby at_121) k) ?_
    show Go p e below _ T53 (mkF m 122 #[.val (.long i0), .second, .val (.long i1), .second, .val (.long i2), .second, .val (.int i3), .val (.int l0), .val (.int l1), .val (.int l2), .val (.int p0), .val (.int p1), .val (.int p2), .val (.int n), .val (.int c0), .val (.int c1), .val (.int c2), .val (.ref lp), .val .null, .unset, .unset] [(.int (2 : Int32)), (.int n)])
    refine Go.step (fun _ k => XS.icmpYes X53.here hx rfl (pc0 := 122) (pc' := 140) rfl (hb hby at_122) rfl (tlt (by rw [hk0]; decide)).1 (by decide) (by decide) k) ?_
    show Go p e below _ T53 (mkF m 140 #[.val (.long i0), .second, .val (.long i1), .second, .val (.long i2), .second, .val (.int i3), .val (.int l0), .val (.int l1), .val (.int l2), .val (.int p0), .val (.int p1), .val (.int p2), .val (.int n), .val (.int c0), .val (.int c1), .val (.int c2), .val (.ref lp), .val .null, .unset, .unset] [])
    refine Go.step (fun _ k => XS.iload X53.here hx rfl (hb hby at_140) rfl k) ?_
    show Go p e below _ T53 (mkF m 142 #[.val (.long i0), .second, .val (.long i1), .second, .val (.long i2), .second, .val (.int i3), .val (.int l0), .val (.int l1), .val (.int l2), .val (.int p0), .val (.int p1), .val (.int p2), .val (.int n), .val (.int c0), .val (.int c1), .val (.int c2), .val (.ref lp), .val .null, .unset, .unset] [(.int n)])
    refine Go.step (fun _ k => XS.iconst X53.here hx rfl (hb hby at_142) k) ?_
    show Go p e below _ T53 (mkF m 143 #[.val (.long i0), .second, .val (.long i1), .second, .val (.long i2), .second, .val (.int i3), .val (.int l0), .val (.int l1), .val (.int l2), .val (.int p0), .val (.int p1), .val (.int p2), .val (.int n), .val (.int c0), .val (.int c1), .val (.int c2), .val (.ref lp), .val .null, .unset, .unset] [(.int (3 : Int32)), (.int n)])
    refine Go.step (fun _ k => XS.icmpYes X53.here hx rfl (pc0 := 143) (pc' := 161) rfl (hb hby at_143) rfl (tlt (by rw [hk0]; decide)).1 (by decide) (by decide) k) ?_
    show Go p e below _ T53 (mkF m 161 #[.val (.long i0), .second, .val (.long i1), .second, .val (.long i2), .second, .val (.int i3), .val (.int l0), .val (.int l1), .val (.int l2), .val (.int p0), .val (.int p1), .val (.int p2), .val (.int n), .val (.int c0), .val (.int c1), .val (.int c2), .val (.ref lp), .val .null, .unset, .unset] [])
    obtain ⟨T54, h54, X54, e54, E54, A54, D54, U54, st54⟩ := newO X53 hx hZ hown (hw _ (List.mem_of_getElem? (i := 16) rfl)) (hw _ (List.mem_of_getElem? (i := 17) rfl)) (hw _ (List.mem_of_getElem? (i := 18) rfl)) e53 (g := (mkF m 161 #[.val (.long i0), .second, .val (.long i1), .second, .val (.long i2), .second, .val (.int i3), .val (.int l0), .val (.int l1), .val (.int l2), .val (.int p0), .val (.int p1), .val (.int p2), .val (.int n), .val (.int c0), .val (.int c1), .val (.int c2), .val (.ref lp), .val .null, .unset, .unset] [])) rfl (hb hby at_161) (by decide) (by decide)
    obtain ⟨bb, g54⟩ : ∃ z, z = h53.size := ⟨_, rfl⟩
    rw [← g54] at A54 D54 U54 st54
    have ne_lp_bb : lp ≠ bb := Nat.ne_of_lt (Nat.lt_of_lt_of_le E_lp.lt (Nat.le_of_eq g54.symm))
    have g_bb : n0 ≤ bb := Nat.le_trans Zn (Nat.le_of_eq g54.symm)
    have sz_bb : h0.size ≤ bb := Nat.le_trans K0.1 (Nat.le_of_eq g54.symm)
    replace E_lp := E_lp.ext E54
    replace V_lp := V_lp.ext E54
    replace Zn := Nat.le_trans Zn E54.1
    replace K0 := K0.ext E54
    have E_bb := A54
    have F_changes_bb : Fld Z h54 bb "com/example/bidkeel/bidkeel/Knapsack$Best" "changes" "Lcom/example/bidkeel/bidkeel/Knapsack$Change;" .null := D54 (Or.inl (hw _ (List.mem_of_getElem? (i := 29) rfl))) (ty := (.object "com/example/bidkeel/bidkeel/Knapsack$Change")) (by decide)
    have F_profit_bb : Fld Z h54 bb "com/example/bidkeel/bidkeel/Knapsack$Best" "profit" "D" (.double 0) := D54 (Or.inl (hw _ (List.mem_of_getElem? (i := 31) rfl))) (ty := .double) (by decide)
    have F_units_bb : Fld Z h54 bb "com/example/bidkeel/bidkeel/Knapsack$Best" "units" "D" (.double 0) := D54 (Or.inl (hw _ (List.mem_of_getElem? (i := 33) rfl))) (ty := .double) (by decide)
    have F_steps_bb : Fld Z h54 bb "com/example/bidkeel/bidkeel/Knapsack$Best" "steps" "J" (.long (0 : Int64)) := D54 (Or.inl (hw _ (List.mem_of_getElem? (i := 35) rfl))) (ty := .long) (by decide)
    refine Go.step st54 ?_
    show Go p e below _ T54 (mkF m 164 #[.val (.long i0), .second, .val (.long i1), .second, .val (.long i2), .second, .val (.int i3), .val (.int l0), .val (.int l1), .val (.int l2), .val (.int p0), .val (.int p1), .val (.int p2), .val (.int n), .val (.int c0), .val (.int c1), .val (.int c2), .val (.ref lp), .val .null, .unset, .unset] [(.ref bb)])
    refine Go.step (fun _ k => XS.dup X54.here hx rfl (hb hby at_164) rfl rfl k) ?_
    show Go p e below _ T54 (mkF m 165 #[.val (.long i0), .second, .val (.long i1), .second, .val (.long i2), .second, .val (.int i3), .val (.int l0), .val (.int l1), .val (.int l2), .val (.int p0), .val (.int p1), .val (.int p2), .val (.int n), .val (.int c0), .val (.int c1), .val (.int c2), .val (.ref lp), .val .null, .unset, .unset] [(.ref bb), (.ref bb)])
    obtain ⟨_, _, ⟨T55, L55, k55, n55⟩, -, X55, ⟨Lc55, hQ55, l55, y55, z55⟩, st55⟩ := X54.specialBack hx (y := (⟨"com/example/bidkeel/bidkeel/Knapsack$Best", "<init>", "()V"⟩ : MethodName)) rfl hown (mvT hZ (hw _ (List.mem_of_getElem? (i := 19) rfl))) (mvT hZ (hw _ (List.mem_of_getElem? (i := 20) rfl))) (mvT hZ (hw _ (List.mem_of_getElem? (i := 21) rfl))) (by decide) (backOf (W := 1) (rmB l Z a0 hw [] bb h54 n0 Zn) hZ (hw _ (List.mem_of_getElem? (i := 21) rfl)) (hw _ (List.mem_of_getElem? (i := 18) rfl)) (by decide) (by decide)) (g := (mkF m 165 #[.val (.long i0), .second, .val (.long i1), .second, .val (.long i2), .second, .val (.int i3), .val (.int l0), .val (.int l1), .val (.int l2), .val (.int p0), .val (.int p1), .val (.int p2), .val (.int n), .val (.int c0), .val (.int c1), .val (.int c2), .val (.ref lp), .val .null, .unset, .unset] [(.ref bb), (.ref bb)])) rfl (by rw [hml]; rfl) (Steps.refl _) (a := bb) (argsL := []) (rest := [(.ref bb)]) (lenOf own_f92 rfl) rfl (by show 2 * 0 + _ ≤ _; exact Nat.le_of_eq rfl) (hb hby at_165) (fun _ _ => ⟨rfl, e54, (by dsimp only [Pt.cells, Pt.slots]; decide), (by dsimp only [Pt.cells, Pt.slots]; decide)⟩)
    dsimp only [Pt.U, Pt.locs, Pt.cells, Pt.slots] at X55 l55 y55 z55 st55 hQ55
    subst l55 y55 z55
    obtain ⟨rfl, N55q, e55⟩ := hQ55
    have N55 := Fr.app N53 N55q
    refine Go.step (fun _ k => st55.trans k) ?_
    show Go p e below _ T55 (mkF m 168 #[.val (.long i0), .second, .val (.long i1), .second, .val (.long i2), .second, .val (.int i3), .val (.int l0), .val (.int l1), .val (.int l2), .val (.int p0), .val (.int p1), .val (.int p2), .val (.int n), .val (.int c0), .val (.int c1), .val (.int c2), .val (.ref lp), .val .null, .unset, .unset] [(.ref bb)])
    refine Go.step (fun _ k => XS.astore X55.here hx rfl (hb hby at_168) rfl rfl (l' := #[.val (.long i0), .second, .val (.long i1), .second, .val (.long i2), .second, .val (.int i3), .val (.int l0), .val (.int l1), .val (.int l2), .val (.int p0), .val (.int p1), .val (.int p2), .val (.int n), .val (.int c0), .val (.int c1), .val (.int c2), .val (.ref lp), .val .null, .val (.ref bb), .unset]) rfl k) ?_
    show Go p e below _ T55 (mkF m 170 #[.val (.long i0), .second, .val (.long i1), .second, .val (.long i2), .second, .val (.int i3), .val (.int l0), .val (.int l1), .val (.int l2), .val (.int p0), .val (.int p1), .val (.int p2), .val (.int n), .val (.int c0), .val (.int c1), .val (.int c2), .val (.ref lp), .val .null, .val (.ref bb), .unset] [])
    refine Go.step (fun _ k => XS.aload X55.here hx rfl (hb hby at_170) rfl rfl k) ?_
    show Go p e below _ T55 (mkF m 172 #[.val (.long i0), .second, .val (.long i1), .second, .val (.long i2), .second, .val (.int i3), .val (.int l0), .val (.int l1), .val (.int l2), .val (.int p0), .val (.int p1), .val (.int p2), .val (.int n), .val (.int c0), .val (.int c1), .val (.int c2), .val (.ref lp), .val .null, .val (.ref bb), .unset] [(.ref bb)])
    refine Go.step (fun _ k => XS.aload X55.here hx rfl (hb hby at_172) rfl rfl k) ?_
    show Go p e below _ T55 (mkF m 174 #[.val (.long i0), .second, .val (.long i1), .second, .val (.long i2), .second, .val (.int i3), .val (.int l0), .val (.int l1), .val (.int l2), .val (.int p0), .val (.int p1), .val (.int p2), .val (.int n), .val (.int c0), .val (.int c1), .val (.int c2), .val (.ref lp), .val .null, .val (.ref bb), .unset] [.null, (.ref bb)])
    refine Go.step (fun _ k => XS.dconst0 X55.here hx rfl (hb hby at_174) rfl k) ?_
    show Go p e below _ T55 (mkF m 175 #[.val (.long i0), .second, .val (.long i1), .second, .val (.long i2), .second, .val (.int i3), .val (.int l0), .val (.int l1), .val (.int l2), .val (.int p0), .val (.int p1), .val (.int p2), .val (.int n), .val (.int c0), .val (.int c1), .val (.int c2), .val (.ref lp), .val .null, .val (.ref bb), .unset] [(.double FP.dconst0), .null, (.ref bb)])
    refine Go.step (fun _ k => XS.dconst0 X55.here hx rfl (hb hby at_175) rfl k) ?_
    show Go p e below _ T55 (mkF m 176 #[.val (.long i0), .second, .val (.long i1), .second, .val (.long i2), .second, .val (.int i3), .val (.int l0), .val (.int l1), .val (.int l2), .val (.int p0), .val (.int p1), .val (.int p2), .val (.int n), .val (.int c0), .val (.int c1), .val (.int c2), .val (.ref lp), .val .null, .val (.ref bb), .unset] [(.double FP.dconst0), (.double FP.dconst0), .null, (.ref bb)])
    refine Go.step (fun _ k => XS.lconst X55.here hx rfl (hb hby at_176) k) ?_
    show Go p e below _ T55 (mkF m 177 #[.val (.long i0), .second, .val (.long i1), .second, .val (.long i2), .second, .val (.int i3), .val (.int l0), .val (.int l1), .val (.int l2), .val (.int p0), .val (.int p1), .val (.int p2), .val (.int n), .val (.int c0), .val (.int c1), .val (.int c2), .val (.ref lp), .val .null, .val (.ref bb), .unset] [(.long (0 : Int64)), (.double FP.dconst0), (.double FP.dconst0), .null, (.ref bb)])
    obtain ⟨cq56, kq56, q56a, q56b, q56c⟩ := isOf hZ e55 E_bb
    obtain ⟨_, _, ⟨T56, L56, k56, n56⟩, -, X56, ⟨Lc56, hQ56, l56, y56, z56⟩, st56⟩ := X55.virtualBack hx (y := (⟨"com/example/bidkeel/bidkeel/Knapsack$Best", "take", "(Lcom/example/bidkeel/bidkeel/Knapsack$Change;DDJ)V"⟩ : MethodName)) (z := (⟨"com/example/bidkeel/bidkeel/Knapsack$Best", "take", "(Lcom/example/bidkeel/bidkeel/Knapsack$Change;DDJ)V"⟩ : MethodName)) hown (mvT hZ (hw _ (List.mem_of_getElem? (i := 23) rfl))) (mvT hZ (hw _ (List.mem_of_getElem? (i := 24) rfl))) (notFace_of_selects (args := #[]) (mvT hZ (hw _ (List.mem_of_getElem? (i := 26) rfl)))) (mvT hZ (hw _ (List.mem_of_getElem? (i := 26) rfl))) (mvT hZ (hw _ (List.mem_of_getElem? (i := 25) rfl))) (by decide) (backOf (W := 0) (rmTN l Z a0 hw [] bb FP.dconst0 FP.dconst0 (0 : Int64) h54 n0 Zn E_bb F_changes_bb F_profit_bb F_units_bb F_steps_bb g_bb) hZ (hw _ (List.mem_of_getElem? (i := 27) rfl)) (hw _ (List.mem_of_getElem? (i := 18) rfl)) (by decide) (by decide)) q56a q56c (g := (mkF m 177 #[.val (.long i0), .second, .val (.long i1), .second, .val (.long i2), .second, .val (.int i3), .val (.int l0), .val (.int l1), .val (.int l2), .val (.int p0), .val (.int p1), .val (.int p2), .val (.int n), .val (.int c0), .val (.int c1), .val (.int c2), .val (.ref lp), .val .null, .val (.ref bb), .unset] [(.long (0 : Int64)), (.double FP.dconst0), (.double FP.dconst0), .null, (.ref bb)])) rfl (by rw [hml]; rfl) (Steps.refl _) (argsL := [.null, (.double FP.dconst0), (.double FP.dconst0), (.long (0 : Int64))]) (rest := []) (lenOf own_f93 rfl) rfl (by show 2 * 0 + _ ≤ _; exact Nat.le_of_eq rfl) (hb hby at_177) (fun _ _ => ⟨rfl, e55, (by dsimp only [Pt.cells, Pt.slots]; decide), (by dsimp only [Pt.cells, Pt.slots]; decide)⟩)
    dsimp only [Pt.U, Pt.locs, Pt.cells, Pt.slots] at X56 l56 y56 z56 st56 hQ56
    subst l56 y56 z56
    obtain ⟨rfl, N56q, K56, F_changes_bb⟩ := hQ56
    have N56 := Fr.app N55 N56q
    refine Go.step (fun _ k => st56.trans k) ?_
    replace E_lp := E_lp.keep K56
    replace V_lp := V_lp.keep K56 (ninS ne_lp_bb nin0)
    replace E_bb := E_bb.keep K56
    replace K0 := K0.trans K56 (allS (Or.inr sz_bb) (all0))
    replace Zn := Nat.le_trans Zn K56.1
    show Go p e below _ T56 (mkF m 180 #[.val (.long i0), .second, .val (.long i1), .second, .val (.long i2), .second, .val (.int i3), .val (.int l0), .val (.int l1), .val (.int l2), .val (.int p0), .val (.int p1), .val (.int p2), .val (.int n), .val (.int c0), .val (.int c1), .val (.int c2), .val (.ref lp), .val .null, .val (.ref bb), .unset] [])
    refine Go.step (fun _ k => XS.aload X56.here hx rfl (hb hby at_180) rfl rfl k) ?_
    show Go p e below _ T56 (mkF m 182 #[.val (.long i0), .second, .val (.long i1), .second, .val (.long i2), .second, .val (.int i3), .val (.int l0), .val (.int l1), .val (.int l2), .val (.int p0), .val (.int p1), .val (.int p2), .val (.int n), .val (.int c0), .val (.int c1), .val (.int c2), .val (.ref lp), .val .null, .val (.ref bb), .unset] [(.ref bb)])
    refine Go.step (fun _ k => XS.aload X56.here hx rfl (hb hby at_182) rfl rfl k) ?_
    show Go p e below _ T56 (mkF m 184 #[.val (.long i0), .second, .val (.long i1), .second, .val (.long i2), .second, .val (.int i3), .val (.int l0), .val (.int l1), .val (.int l2), .val (.int p0), .val (.int p1), .val (.int p2), .val (.int n), .val (.int c0), .val (.int c1), .val (.int c2), .val (.ref lp), .val .null, .val (.ref bb), .unset] [(.ref lp), (.ref bb)])
    have hch : own_chn Z T56.heap [] .null := rfl
    have hi3 : ∀ x ∈ ([] : List (Int32 × Int32)), own_in3 x.1 := fun _ hx => nomatch hx
    obtain ⟨cq57, kq57, q57a, q57b, q57c⟩ := isOf hZ rfl E_bb
    obtain ⟨_, _, ⟨T57, L57, k57, n57⟩, -, X57, ⟨Lc57, hQ57, l57, y57, z57⟩, st57⟩ := X56.virtualBack hx (y := (⟨"com/example/bidkeel/bidkeel/Knapsack$Best", "points", "([I)[I"⟩ : MethodName)) (z := (⟨"com/example/bidkeel/bidkeel/Knapsack$Best", "points", "([I)[I"⟩ : MethodName)) hown (mvT hZ (hw _ (List.mem_of_getElem? (i := 36) rfl))) (mvT hZ (hw _ (List.mem_of_getElem? (i := 37) rfl))) (notFace_of_selects (args := #[]) (mvT hZ (hw _ (List.mem_of_getElem? (i := 39) rfl)))) (mvT hZ (hw _ (List.mem_of_getElem? (i := 39) rfl))) (mvT hZ (hw _ (List.mem_of_getElem? (i := 38) rfl))) (by decide) (backOf (W := 0) (rmP l Z a0 hw [] bb lp .null [] l0 l1 l2 k50 T56.heap n0 Zn F_changes_bb hch hi3 V_lp E_lp) hZ (hw _ (List.mem_of_getElem? (i := 40) rfl)) (hw _ (List.mem_of_getElem? (i := 18) rfl)) (by decide) (by decide)) q57a q57c (g := (mkF m 184 #[.val (.long i0), .second, .val (.long i1), .second, .val (.long i2), .second, .val (.int i3), .val (.int l0), .val (.int l1), .val (.int l2), .val (.int p0), .val (.int p1), .val (.int p2), .val (.int n), .val (.int c0), .val (.int c1), .val (.int c2), .val (.ref lp), .val .null, .val (.ref bb), .unset] [(.ref lp), (.ref bb)])) rfl (by rw [hml]; rfl) (Steps.refl _) (argsL := [(.ref lp)]) (rest := []) (lenOf own_f94 rfl) rfl (by show 2 * 0 + _ ≤ _; exact Nat.le_of_eq rfl) (hb hby at_184) (fun _ _ => ⟨rfl, rfl, (by dsimp only [Pt.cells, Pt.slots]; decide), (by dsimp only [Pt.cells, Pt.slots]; decide)⟩)
    dsimp only [Pt.U, Pt.locs, Pt.cells, Pt.slots] at X57 l57 y57 z57 st57 hQ57
    subst l57 y57 z57
    obtain ⟨rr, kr, rfl, N57q, K57, V_rr⟩ := hQ57
    have N57 := Fr.app N56 N57q
    refine Go.step (fun _ k => st57.trans k) ?_
    replace E_lp := E_lp.keep K57
    replace V_lp := V_lp.keep K57 nin0
    replace E_bb := E_bb.keep K57
    replace F_changes_bb := F_changes_bb.keep K57 nin0
    replace K0 := K0.trans K57 (all0)
    replace Zn := Nat.le_trans Zn K57.1
    show Go p e below _ T57 (mkF m 187 #[.val (.long i0), .second, .val (.long i1), .second, .val (.long i2), .second, .val (.int i3), .val (.int l0), .val (.int l1), .val (.int l2), .val (.int p0), .val (.int p1), .val (.int p2), .val (.int n), .val (.int c0), .val (.int c1), .val (.int c2), .val (.ref lp), .val .null, .val (.ref bb), .unset] [(.ref rr)])
    have hsame := own_same n c0 c1 c2 p0 p1 p2 l0 l1 l2 hn hc0 hc1 hc2 [] (by rw [hk0]; rfl)
    rw [hsame] at V_rr
    have V_rr : Arv Z T57.heap rr kr .int (3 : Int32) [(.int (own_exp 0 n c0 c1 c2 p0 p1 p2 l0)), (.int (own_exp 1 n c0 c1 c2 p0 p1 p2 l1)), (.int (own_exp 2 n c0 c1 c2 p0 p1 p2 l2))] (.int (0 : Int32)) := V_rr
    refine Go.step (fun _ k => XS.astore X57.here hx rfl (hb hby at_187) rfl rfl (l' := #[.val (.long i0), .second, .val (.long i1), .second, .val (.long i2), .second, .val (.int i3), .val (.int l0), .val (.int l1), .val (.int l2), .val (.int p0), .val (.int p1), .val (.int p2), .val (.int n), .val (.int c0), .val (.int c1), .val (.int c2), .val (.ref lp), .val .null, .val (.ref bb), .val (.ref rr)]) rfl k) ?_
    show Go p e below _ T57 (mkF m 189 #[.val (.long i0), .second, .val (.long i1), .second, .val (.long i2), .second, .val (.int i3), .val (.int l0), .val (.int l1), .val (.int l2), .val (.int p0), .val (.int p1), .val (.int p2), .val (.int n), .val (.int c0), .val (.int c1), .val (.int c2), .val (.ref lp), .val .null, .val (.ref bb), .val (.ref rr)] [])
    refine Go.step (fun _ k => XS.aload X57.here hx rfl (hb hby at_189) rfl rfl k) ?_
    show Go p e below _ T57 (mkF m 191 #[.val (.long i0), .second, .val (.long i1), .second, .val (.long i2), .second, .val (.int i3), .val (.int l0), .val (.int l1), .val (.int l2), .val (.int p0), .val (.int p1), .val (.int p2), .val (.int n), .val (.int c0), .val (.int c1), .val (.int c2), .val (.ref lp), .val .null, .val (.ref bb), .val (.ref rr)] [(.ref rr)])
    refine Go.step (fun _ k => XS.ifnullNo X57.here hx rfl (hb hby at_191) rfl k) ?_
    show Go p e below _ T57 (mkF m 194 #[.val (.long i0), .second, .val (.long i1), .second, .val (.long i2), .second, .val (.int i3), .val (.int l0), .val (.int l1), .val (.int l2), .val (.int p0), .val (.int p1), .val (.int p2), .val (.int n), .val (.int c0), .val (.int c1), .val (.int c2), .val (.ref lp), .val .null, .val (.ref bb), .val (.ref rr)] [])
    refine Go.step (fun _ k => XS.aload X57.here hx rfl (hb hby at_194) rfl rfl k) ?_
    show Go p e below _ T57 (mkF m 196 #[.val (.long i0), .second, .val (.long i1), .second, .val (.long i2), .second, .val (.int i3), .val (.int l0), .val (.int l1), .val (.int l2), .val (.int p0), .val (.int p1), .val (.int p2), .val (.int n), .val (.int c0), .val (.int c1), .val (.int c2), .val (.ref lp), .val .null, .val (.ref bb), .val (.ref rr)] [(.ref rr)])
    obtain ⟨cl58, Ar58, q58, S58, Nn58, H58, G58⟩ := V_rr
    have V_rr : Arv Z T57.heap rr kr .int (3 : Int32) [(.int (own_exp 0 n c0 c1 c2 p0 p1 p2 l0)), (.int (own_exp 1 n c0 c1 c2 p0 p1 p2 l1)), (.int (own_exp 2 n c0 c1 c2 p0 p1 p2 l2))] (.int (0 : Int32)) := ⟨cl58, Ar58, q58, S58, Nn58, H58, G58⟩
    refine Go.step (X57.arraylength hx Ar58.1 (State.isArrayOf_alike hZ.alike Ar58.2.1) (g := (mkF m 196 #[.val (.long i0), .second, .val (.long i1), .second, .val (.long i2), .second, .val (.int i3), .val (.int l0), .val (.int l1), .val (.int l2), .val (.int p0), .val (.int p1), .val (.int p2), .val (.int n), .val (.int c0), .val (.int c1), .val (.int c2), .val (.ref lp), .val .null, .val (.ref bb), .val (.ref rr)] [(.ref rr)])) rfl rfl (hb hby at_196)) ?_
    rw [len_of S58 Nn58]
    show Go p e below _ T57 (mkF m 197 #[.val (.long i0), .second, .val (.long i1), .second, .val (.long i2), .second, .val (.int i3), .val (.int l0), .val (.int l1), .val (.int l2), .val (.int p0), .val (.int p1), .val (.int p2), .val (.int n), .val (.int c0), .val (.int c1), .val (.int c2), .val (.ref lp), .val .null, .val (.ref bb), .val (.ref rr)] [(.int (3 : Int32))])
    refine Go.step (fun _ k => XS.iconst X57.here hx rfl (hb hby at_197) k) ?_
    show Go p e below _ T57 (mkF m 198 #[.val (.long i0), .second, .val (.long i1), .second, .val (.long i2), .second, .val (.int i3), .val (.int l0), .val (.int l1), .val (.int l2), .val (.int p0), .val (.int p1), .val (.int p2), .val (.int n), .val (.int c0), .val (.int c1), .val (.int c2), .val (.ref lp), .val .null, .val (.ref bb), .val (.ref rr)] [(.int (3 : Int32)), (.int (3 : Int32))])
    refine Go.step (fun _ k => XS.icmpYes X57.here hx rfl (pc0 := 198) (pc' := 203) rfl (hb hby at_198) rfl (teq rfl).1 (by decide) (by decide) k) ?_
    show Go p e below _ T57 (mkF m 203 #[.val (.long i0), .second, .val (.long i1), .second, .val (.long i2), .second, .val (.int i3), .val (.int l0), .val (.int l1), .val (.int l2), .val (.int p0), .val (.int p1), .val (.int p2), .val (.int n), .val (.int c0), .val (.int c1), .val (.int c2), .val (.ref lp), .val .null, .val (.ref bb), .val (.ref rr)] [])
    refine Go.step (fun _ k => XS.aload X57.here hx rfl (hb hby at_203) rfl rfl k) ?_
    show Go p e below _ T57 (mkF m 205 #[.val (.long i0), .second, .val (.long i1), .second, .val (.long i2), .second, .val (.int i3), .val (.int l0), .val (.int l1), .val (.int l2), .val (.int p0), .val (.int p1), .val (.int p2), .val (.int n), .val (.int c0), .val (.int c1), .val (.int c2), .val (.ref lp), .val .null, .val (.ref bb), .val (.ref rr)] [(.ref lp)])
    refine Go.step (fun _ k => XS.iconst X57.here hx rfl (hb hby at_205) k) ?_
    show Go p e below _ T57 (mkF m 206 #[.val (.long i0), .second, .val (.long i1), .second, .val (.long i2), .second, .val (.int i3), .val (.int l0), .val (.int l1), .val (.int l2), .val (.int p0), .val (.int p1), .val (.int p2), .val (.int n), .val (.int c0), .val (.int c1), .val (.int c2), .val (.ref lp), .val .null, .val (.ref bb), .val (.ref rr)] [(.int (0 : Int32)), (.ref lp)])
    obtain ⟨cl59, Ar59, q59, S59, Nn59, H59, G59⟩ := V_lp
    have V_lp : Arv Z T57.heap lp k50 .int (3 : Int32) [(.int l0), (.int l1), (.int l2)] (.int (0 : Int32)) := ⟨cl59, Ar59, q59, S59, Nn59, H59, G59⟩
    have hin59 : ¬ ((0 : Int32) < 0 ∨ cl59.slots.size ≤ ((0 : Int32)).toNatClampNeg) := inb_of S59 ⟨by decide, by decide⟩
    have hat59 : cl59.slots[((0 : Int32)).toNatClampNeg]? = some (.int l0) := Has.at H59 hin59 rfl
    refine Go.step (X57.iaload hx (j := (0 : Int32)) (v := (.int l0)) Ar59.1 (State.isArrayOf_alike hZ.alike Ar59.2.1) Ar59.2.2 hin59 hat59 (g := (mkF m 206 #[.val (.long i0), .second, .val (.long i1), .second, .val (.long i2), .second, .val (.int i3), .val (.int l0), .val (.int l1), .val (.int l2), .val (.int p0), .val (.int p1), .val (.int p2), .val (.int n), .val (.int c0), .val (.int c1), .val (.int c2), .val (.ref lp), .val .null, .val (.ref bb), .val (.ref rr)] [(.int (0 : Int32)), (.ref lp)])) rfl rfl (hb hby at_206)) ?_
    show Go p e below _ T57 (mkF m 207 #[.val (.long i0), .second, .val (.long i1), .second, .val (.long i2), .second, .val (.int i3), .val (.int l0), .val (.int l1), .val (.int l2), .val (.int p0), .val (.int p1), .val (.int p2), .val (.int n), .val (.int c0), .val (.int c1), .val (.int c2), .val (.ref lp), .val .null, .val (.ref bb), .val (.ref rr)] [(.int l0)])
    refine Go.step (fun _ k => XS.iload X57.here hx rfl (hb hby at_207) rfl k) ?_
    show Go p e below _ T57 (mkF m 209 #[.val (.long i0), .second, .val (.long i1), .second, .val (.long i2), .second, .val (.int i3), .val (.int l0), .val (.int l1), .val (.int l2), .val (.int p0), .val (.int p1), .val (.int p2), .val (.int n), .val (.int c0), .val (.int c1), .val (.int c2), .val (.ref lp), .val .null, .val (.ref bb), .val (.ref rr)] [(.int l0), (.int l0)])
    refine Go.step (fun _ k => XS.icmpNo X57.here hx rfl (hb hby at_209) rfl (teq rfl).2 k) ?_
    show Go p e below _ T57 (mkF m 212 #[.val (.long i0), .second, .val (.long i1), .second, .val (.long i2), .second, .val (.int i3), .val (.int l0), .val (.int l1), .val (.int l2), .val (.int p0), .val (.int p1), .val (.int p2), .val (.int n), .val (.int c0), .val (.int c1), .val (.int c2), .val (.ref lp), .val .null, .val (.ref bb), .val (.ref rr)] [])
    refine Go.step (fun _ k => XS.aload X57.here hx rfl (hb hby at_212) rfl rfl k) ?_
    show Go p e below _ T57 (mkF m 214 #[.val (.long i0), .second, .val (.long i1), .second, .val (.long i2), .second, .val (.int i3), .val (.int l0), .val (.int l1), .val (.int l2), .val (.int p0), .val (.int p1), .val (.int p2), .val (.int n), .val (.int c0), .val (.int c1), .val (.int c2), .val (.ref lp), .val .null, .val (.ref bb), .val (.ref rr)] [(.ref lp)])
    refine Go.step (fun _ k => XS.iconst X57.here hx rfl (hb hby at_214) k) ?_
    show Go p e below _ T57 (mkF m 215 #[.val (.long i0), .second, .val (.long i1), .second, .val (.long i2), .second, .val (.int i3), .val (.int l0), .val (.int l1), .val (.int l2), .val (.int p0), .val (.int p1), .val (.int p2), .val (.int n), .val (.int c0), .val (.int c1), .val (.int c2), .val (.ref lp), .val .null, .val (.ref bb), .val (.ref rr)] [(.int (1 : Int32)), (.ref lp)])
    obtain ⟨cl60, Ar60, q60, S60, Nn60, H60, G60⟩ := V_lp
    have V_lp : Arv Z T57.heap lp k50 .int (3 : Int32) [(.int l0), (.int l1), (.int l2)] (.int (0 : Int32)) := ⟨cl60, Ar60, q60, S60, Nn60, H60, G60⟩
    have hin60 : ¬ ((1 : Int32) < 0 ∨ cl60.slots.size ≤ ((1 : Int32)).toNatClampNeg) := inb_of S60 ⟨by decide, by decide⟩
    have hat60 : cl60.slots[((1 : Int32)).toNatClampNeg]? = some (.int l1) := Has.at H60 hin60 rfl
    refine Go.step (X57.iaload hx (j := (1 : Int32)) (v := (.int l1)) Ar60.1 (State.isArrayOf_alike hZ.alike Ar60.2.1) Ar60.2.2 hin60 hat60 (g := (mkF m 215 #[.val (.long i0), .second, .val (.long i1), .second, .val (.long i2), .second, .val (.int i3), .val (.int l0), .val (.int l1), .val (.int l2), .val (.int p0), .val (.int p1), .val (.int p2), .val (.int n), .val (.int c0), .val (.int c1), .val (.int c2), .val (.ref lp), .val .null, .val (.ref bb), .val (.ref rr)] [(.int (1 : Int32)), (.ref lp)])) rfl rfl (hb hby at_215)) ?_
    show Go p e below _ T57 (mkF m 216 #[.val (.long i0), .second, .val (.long i1), .second, .val (.long i2), .second, .val (.int i3), .val (.int l0), .val (.int l1), .val (.int l2), .val (.int p0), .val (.int p1), .val (.int p2), .val (.int n), .val (.int c0), .val (.int c1), .val (.int c2), .val (.ref lp), .val .null, .val (.ref bb), .val (.ref rr)] [(.int l1)])
    refine Go.step (fun _ k => XS.iload X57.here hx rfl (hb hby at_216) rfl k) ?_
    show Go p e below _ T57 (mkF m 218 #[.val (.long i0), .second, .val (.long i1), .second, .val (.long i2), .second, .val (.int i3), .val (.int l0), .val (.int l1), .val (.int l2), .val (.int p0), .val (.int p1), .val (.int p2), .val (.int n), .val (.int c0), .val (.int c1), .val (.int c2), .val (.ref lp), .val .null, .val (.ref bb), .val (.ref rr)] [(.int l1), (.int l1)])
    refine Go.step (fun _ k => XS.icmpNo X57.here hx rfl (hb hby at_218) rfl (teq rfl).2 k) ?_
    show Go p e below _ T57 (mkF m 221 #[.val (.long i0), .second, .val (.long i1), .second, .val (.long i2), .second, .val (.int i3), .val (.int l0), .val (.int l1), .val (.int l2), .val (.int p0), .val (.int p1), .val (.int p2), .val (.int n), .val (.int c0), .val (.int c1), .val (.int c2), .val (.ref lp), .val .null, .val (.ref bb), .val (.ref rr)] [])
    refine Go.step (fun _ k => XS.aload X57.here hx rfl (hb hby at_221) rfl rfl k) ?_
    show Go p e below _ T57 (mkF m 223 #[.val (.long i0), .second, .val (.long i1), .second, .val (.long i2), .second, .val (.int i3), .val (.int l0), .val (.int l1), .val (.int l2), .val (.int p0), .val (.int p1), .val (.int p2), .val (.int n), .val (.int c0), .val (.int c1), .val (.int c2), .val (.ref lp), .val .null, .val (.ref bb), .val (.ref rr)] [(.ref lp)])
    refine Go.step (fun _ k => XS.iconst X57.here hx rfl (hb hby at_223) k) ?_
    show Go p e below _ T57 (mkF m 224 #[.val (.long i0), .second, .val (.long i1), .second, .val (.long i2), .second, .val (.int i3), .val (.int l0), .val (.int l1), .val (.int l2), .val (.int p0), .val (.int p1), .val (.int p2), .val (.int n), .val (.int c0), .val (.int c1), .val (.int c2), .val (.ref lp), .val .null, .val (.ref bb), .val (.ref rr)] [(.int (2 : Int32)), (.ref lp)])
    obtain ⟨cl61, Ar61, q61, S61, Nn61, H61, G61⟩ := V_lp
    have V_lp : Arv Z T57.heap lp k50 .int (3 : Int32) [(.int l0), (.int l1), (.int l2)] (.int (0 : Int32)) := ⟨cl61, Ar61, q61, S61, Nn61, H61, G61⟩
    have hin61 : ¬ ((2 : Int32) < 0 ∨ cl61.slots.size ≤ ((2 : Int32)).toNatClampNeg) := inb_of S61 ⟨by decide, by decide⟩
    have hat61 : cl61.slots[((2 : Int32)).toNatClampNeg]? = some (.int l2) := Has.at H61 hin61 rfl
    refine Go.step (X57.iaload hx (j := (2 : Int32)) (v := (.int l2)) Ar61.1 (State.isArrayOf_alike hZ.alike Ar61.2.1) Ar61.2.2 hin61 hat61 (g := (mkF m 224 #[.val (.long i0), .second, .val (.long i1), .second, .val (.long i2), .second, .val (.int i3), .val (.int l0), .val (.int l1), .val (.int l2), .val (.int p0), .val (.int p1), .val (.int p2), .val (.int n), .val (.int c0), .val (.int c1), .val (.int c2), .val (.ref lp), .val .null, .val (.ref bb), .val (.ref rr)] [(.int (2 : Int32)), (.ref lp)])) rfl rfl (hb hby at_224)) ?_
    show Go p e below _ T57 (mkF m 225 #[.val (.long i0), .second, .val (.long i1), .second, .val (.long i2), .second, .val (.int i3), .val (.int l0), .val (.int l1), .val (.int l2), .val (.int p0), .val (.int p1), .val (.int p2), .val (.int n), .val (.int c0), .val (.int c1), .val (.int c2), .val (.ref lp), .val .null, .val (.ref bb), .val (.ref rr)] [(.int l2)])
    refine Go.step (fun _ k => XS.iload X57.here hx rfl (hb hby at_225) rfl k) ?_
    show Go p e below _ T57 (mkF m 227 #[.val (.long i0), .second, .val (.long i1), .second, .val (.long i2), .second, .val (.int i3), .val (.int l0), .val (.int l1), .val (.int l2), .val (.int p0), .val (.int p1), .val (.int p2), .val (.int n), .val (.int c0), .val (.int c1), .val (.int c2), .val (.ref lp), .val .null, .val (.ref bb), .val (.ref rr)] [(.int l2), (.int l2)])
    refine Go.step (fun _ k => XS.icmpYes X57.here hx rfl (pc0 := 227) (pc' := 232) rfl (hb hby at_227) rfl (teq rfl).1 (by decide) (by decide) k) ?_
    show Go p e below _ T57 (mkF m 232 #[.val (.long i0), .second, .val (.long i1), .second, .val (.long i2), .second, .val (.int i3), .val (.int l0), .val (.int l1), .val (.int l2), .val (.int p0), .val (.int p1), .val (.int p2), .val (.int n), .val (.int c0), .val (.int c1), .val (.int c2), .val (.ref lp), .val .null, .val (.ref bb), .val (.ref rr)] [])
    refine Go.step (fun _ k => XS.aload X57.here hx rfl (hb hby at_232) rfl rfl k) ?_
    show Go p e below _ T57 (mkF m 234 #[.val (.long i0), .second, .val (.long i1), .second, .val (.long i2), .second, .val (.int i3), .val (.int l0), .val (.int l1), .val (.int l2), .val (.int p0), .val (.int p1), .val (.int p2), .val (.int n), .val (.int c0), .val (.int c1), .val (.int c2), .val (.ref lp), .val .null, .val (.ref bb), .val (.ref rr)] [(.ref rr)])
    refine Go.step (fun _ k => XS.iconst X57.here hx rfl (hb hby at_234) k) ?_
    show Go p e below _ T57 (mkF m 235 #[.val (.long i0), .second, .val (.long i1), .second, .val (.long i2), .second, .val (.int i3), .val (.int l0), .val (.int l1), .val (.int l2), .val (.int p0), .val (.int p1), .val (.int p2), .val (.int n), .val (.int c0), .val (.int c1), .val (.int c2), .val (.ref lp), .val .null, .val (.ref bb), .val (.ref rr)] [(.int (0 : Int32)), (.ref rr)])
    obtain ⟨cl62, Ar62, q62, S62, Nn62, H62, G62⟩ := V_rr
    have V_rr : Arv Z T57.heap rr kr .int (3 : Int32) [(.int (own_exp 0 n c0 c1 c2 p0 p1 p2 l0)), (.int (own_exp 1 n c0 c1 c2 p0 p1 p2 l1)), (.int (own_exp 2 n c0 c1 c2 p0 p1 p2 l2))] (.int (0 : Int32)) := ⟨cl62, Ar62, q62, S62, Nn62, H62, G62⟩
    have hin62 : ¬ ((0 : Int32) < 0 ∨ cl62.slots.size ≤ ((0 : Int32)).toNatClampNeg) := inb_of S62 ⟨by decide, by decide⟩
    have hat62 : cl62.slots[((0 : Int32)).toNatClampNeg]? = some (.int (own_exp 0 n c0 c1 c2 p0 p1 p2 l0)) := Has.at H62 hin62 rfl
    refine Go.step (X57.iaload hx (j := (0 : Int32)) (v := (.int (own_exp 0 n c0 c1 c2 p0 p1 p2 l0))) Ar62.1 (State.isArrayOf_alike hZ.alike Ar62.2.1) Ar62.2.2 hin62 hat62 (g := (mkF m 235 #[.val (.long i0), .second, .val (.long i1), .second, .val (.long i2), .second, .val (.int i3), .val (.int l0), .val (.int l1), .val (.int l2), .val (.int p0), .val (.int p1), .val (.int p2), .val (.int n), .val (.int c0), .val (.int c1), .val (.int c2), .val (.ref lp), .val .null, .val (.ref bb), .val (.ref rr)] [(.int (0 : Int32)), (.ref rr)])) rfl rfl (hb hby at_235)) ?_
    show Go p e below _ T57 (mkF m 236 #[.val (.long i0), .second, .val (.long i1), .second, .val (.long i2), .second, .val (.int i3), .val (.int l0), .val (.int l1), .val (.int l2), .val (.int p0), .val (.int p1), .val (.int p2), .val (.int n), .val (.int c0), .val (.int c1), .val (.int c2), .val (.ref lp), .val .null, .val (.ref bb), .val (.ref rr)] [(.int (own_exp 0 n c0 c1 c2 p0 p1 p2 l0))])
    refine Go.step (fun _ k => XS.iconst X57.here hx rfl (hb hby at_236) k) ?_
    show Go p e below _ T57 (mkF m 237 #[.val (.long i0), .second, .val (.long i1), .second, .val (.long i2), .second, .val (.int i3), .val (.int l0), .val (.int l1), .val (.int l2), .val (.int p0), .val (.int p1), .val (.int p2), .val (.int n), .val (.int c0), .val (.int c1), .val (.int c2), .val (.ref lp), .val .null, .val (.ref bb), .val (.ref rr)] [(.int (0 : Int32)), (.int (own_exp 0 n c0 c1 c2 p0 p1 p2 l0))])
    refine Go.step (fun _ k => XS.iload X57.here hx rfl (hb hby at_237) rfl k) ?_
    show Go p e below _ T57 (mkF m 239 #[.val (.long i0), .second, .val (.long i1), .second, .val (.long i2), .second, .val (.int i3), .val (.int l0), .val (.int l1), .val (.int l2), .val (.int p0), .val (.int p1), .val (.int p2), .val (.int n), .val (.int c0), .val (.int c1), .val (.int c2), .val (.ref lp), .val .null, .val (.ref bb), .val (.ref rr)] [(.int n), (.int (0 : Int32)), (.int (own_exp 0 n c0 c1 c2 p0 p1 p2 l0))])
    refine Go.step (fun _ k => XS.iload X57.here hx rfl (hb hby at_239) rfl k) ?_
    show Go p e below _ T57 (mkF m 241 #[.val (.long i0), .second, .val (.long i1), .second, .val (.long i2), .second, .val (.int i3), .val (.int l0), .val (.int l1), .val (.int l2), .val (.int p0), .val (.int p1), .val (.int p2), .val (.int n), .val (.int c0), .val (.int c1), .val (.int c2), .val (.ref lp), .val .null, .val (.ref bb), .val (.ref rr)] [(.int c0), (.int n), (.int (0 : Int32)), (.int (own_exp 0 n c0 c1 c2 p0 p1 p2 l0))])
    refine Go.step (fun _ k => XS.iload X57.here hx rfl (hb hby at_241) rfl k) ?_
    show Go p e below _ T57 (mkF m 243 #[.val (.long i0), .second, .val (.long i1), .second, .val (.long i2), .second, .val (.int i3), .val (.int l0), .val (.int l1), .val (.int l2), .val (.int p0), .val (.int p1), .val (.int p2), .val (.int n), .val (.int c0), .val (.int c1), .val (.int c2), .val (.ref lp), .val .null, .val (.ref bb), .val (.ref rr)] [(.int c1), (.int c0), (.int n), (.int (0 : Int32)), (.int (own_exp 0 n c0 c1 c2 p0 p1 p2 l0))])
    refine Go.step (fun _ k => XS.iload X57.here hx rfl (hb hby at_243) rfl k) ?_
    show Go p e below _ T57 (mkF m 245 #[.val (.long i0), .second, .val (.long i1), .second, .val (.long i2), .second, .val (.int i3), .val (.int l0), .val (.int l1), .val (.int l2), .val (.int p0), .val (.int p1), .val (.int p2), .val (.int n), .val (.int c0), .val (.int c1), .val (.int c2), .val (.ref lp), .val .null, .val (.ref bb), .val (.ref rr)] [(.int c2), (.int c1), (.int c0), (.int n), (.int (0 : Int32)), (.int (own_exp 0 n c0 c1 c2 p0 p1 p2 l0))])
    refine Go.step (fun _ k => XS.iload X57.here hx rfl (hb hby at_245) rfl k) ?_
    show Go p e below _ T57 (mkF m 247 #[.val (.long i0), .second, .val (.long i1), .second, .val (.long i2), .second, .val (.int i3), .val (.int l0), .val (.int l1), .val (.int l2), .val (.int p0), .val (.int p1), .val (.int p2), .val (.int n), .val (.int c0), .val (.int c1), .val (.int c2), .val (.ref lp), .val .null, .val (.ref bb), .val (.ref rr)] [(.int p0), (.int c2), (.int c1), (.int c0), (.int n), (.int (0 : Int32)), (.int (own_exp 0 n c0 c1 c2 p0 p1 p2 l0))])
    refine Go.step (fun _ k => XS.iload X57.here hx rfl (hb hby at_247) rfl k) ?_
    show Go p e below _ T57 (mkF m 249 #[.val (.long i0), .second, .val (.long i1), .second, .val (.long i2), .second, .val (.int i3), .val (.int l0), .val (.int l1), .val (.int l2), .val (.int p0), .val (.int p1), .val (.int p2), .val (.int n), .val (.int c0), .val (.int c1), .val (.int c2), .val (.ref lp), .val .null, .val (.ref bb), .val (.ref rr)] [(.int p1), (.int p0), (.int c2), (.int c1), (.int c0), (.int n), (.int (0 : Int32)), (.int (own_exp 0 n c0 c1 c2 p0 p1 p2 l0))])
    refine Go.step (fun _ k => XS.iload X57.here hx rfl (hb hby at_249) rfl k) ?_
    show Go p e below _ T57 (mkF m 251 #[.val (.long i0), .second, .val (.long i1), .second, .val (.long i2), .second, .val (.int i3), .val (.int l0), .val (.int l1), .val (.int l2), .val (.int p0), .val (.int p1), .val (.int p2), .val (.int n), .val (.int c0), .val (.int c1), .val (.int c2), .val (.ref lp), .val .null, .val (.ref bb), .val (.ref rr)] [(.int p2), (.int p1), (.int p0), (.int c2), (.int c1), (.int c0), (.int n), (.int (0 : Int32)), (.int (own_exp 0 n c0 c1 c2 p0 p1 p2 l0))])
    refine Go.step (fun _ k => XS.iload X57.here hx rfl (hb hby at_251) rfl k) ?_
    show Go p e below _ T57 (mkF m 253 #[.val (.long i0), .second, .val (.long i1), .second, .val (.long i2), .second, .val (.int i3), .val (.int l0), .val (.int l1), .val (.int l2), .val (.int p0), .val (.int p1), .val (.int p2), .val (.int n), .val (.int c0), .val (.int c1), .val (.int c2), .val (.ref lp), .val .null, .val (.ref bb), .val (.ref rr)] [(.int l0), (.int p2), (.int p1), (.int p0), (.int c2), (.int c1), (.int c0), (.int n), (.int (0 : Int32)), (.int (own_exp 0 n c0 c1 c2 p0 p1 p2 l0))])
    obtain ⟨_, _, ⟨T63, L63, k63, n63⟩, -, X63, ⟨Lc63, hQ63, l63, y63, z63⟩, st63⟩ := Jvm.LawKit.callS X57 hx (y := (⟨"com/example/bidkeel/bidkeel/BestPointsPinLaw", "expected", "(IIIIIIIII)I"⟩ : MethodName)) hown (mvT hZ (hw _ (List.mem_of_getElem? (i := 54) rfl))) (mvT hZ (hw _ (List.mem_of_getElem? (i := 55) rfl))) (mvT hZ (hw _ (List.mem_of_getElem? (i := 56) rfl))) (mvT hZ (hw _ (List.mem_of_getElem? (i := 57) rfl))) (by decide) (backOf (W := 1) (rmX l Z a0 hw [] (0 : Int32) n c0 c1 c2 p0 p1 p2 l0 T57.heap n0 Zn) hZ (hw _ (List.mem_of_getElem? (i := 57) rfl)) (hw _ (List.mem_of_getElem? (i := 56) rfl)) (by decide) (by decide)) (g := (mkF m 253 #[.val (.long i0), .second, .val (.long i1), .second, .val (.long i2), .second, .val (.int i3), .val (.int l0), .val (.int l1), .val (.int l2), .val (.int p0), .val (.int p1), .val (.int p2), .val (.int n), .val (.int c0), .val (.int c1), .val (.int c2), .val (.ref lp), .val .null, .val (.ref bb), .val (.ref rr)] [(.int l0), (.int p2), (.int p1), (.int p0), (.int c2), (.int c1), (.int c0), (.int n), (.int (0 : Int32)), (.int (own_exp 0 n c0 c1 c2 p0 p1 p2 l0))])) rfl (by rw [hml]; rfl) (argsL := [(.int (0 : Int32)), (.int n), (.int c0), (.int c1), (.int c2), (.int p0), (.int p1), (.int p2), (.int l0)]) (rest := [(.int (own_exp 0 n c0 c1 c2 p0 p1 p2 l0))]) (lenOf own_f95 rfl) rfl (by show 2 * 0 + _ ≤ _; exact Nat.le_of_eq rfl) (hb hby at_253) (fun _ _ => ⟨rfl, rfl, (by dsimp only [Pt.cells, Pt.slots]; decide), (by dsimp only [Pt.cells, Pt.slots]; decide)⟩)
    dsimp only [Pt.U, Pt.locs, Pt.cells, Pt.slots] at X63 l63 y63 z63 st63 hQ63
    subst l63 y63 z63
    obtain ⟨rfl, N63q, e63⟩ := hQ63
    have N63 := Fr.app N57 N63q
    refine Go.step (st63) ?_
    show Go p e below _ T63 (mkF m 256 #[.val (.long i0), .second, .val (.long i1), .second, .val (.long i2), .second, .val (.int i3), .val (.int l0), .val (.int l1), .val (.int l2), .val (.int p0), .val (.int p1), .val (.int p2), .val (.int n), .val (.int c0), .val (.int c1), .val (.int c2), .val (.ref lp), .val .null, .val (.ref bb), .val (.ref rr)] [(.int (own_exp 0 n c0 c1 c2 p0 p1 p2 l0)), (.int (own_exp 0 n c0 c1 c2 p0 p1 p2 l0))])
    refine Go.step (fun _ k => XS.icmpNo X63.here hx rfl (hb hby at_256) rfl (teq rfl).2 k) ?_
    show Go p e below _ T63 (mkF m 259 #[.val (.long i0), .second, .val (.long i1), .second, .val (.long i2), .second, .val (.int i3), .val (.int l0), .val (.int l1), .val (.int l2), .val (.int p0), .val (.int p1), .val (.int p2), .val (.int n), .val (.int c0), .val (.int c1), .val (.int c2), .val (.ref lp), .val .null, .val (.ref bb), .val (.ref rr)] [])
    refine Go.step (fun _ k => XS.aload X63.here hx rfl (hb hby at_259) rfl rfl k) ?_
    show Go p e below _ T63 (mkF m 261 #[.val (.long i0), .second, .val (.long i1), .second, .val (.long i2), .second, .val (.int i3), .val (.int l0), .val (.int l1), .val (.int l2), .val (.int p0), .val (.int p1), .val (.int p2), .val (.int n), .val (.int c0), .val (.int c1), .val (.int c2), .val (.ref lp), .val .null, .val (.ref bb), .val (.ref rr)] [(.ref rr)])
    refine Go.step (fun _ k => XS.iconst X63.here hx rfl (hb hby at_261) k) ?_
    show Go p e below _ T63 (mkF m 262 #[.val (.long i0), .second, .val (.long i1), .second, .val (.long i2), .second, .val (.int i3), .val (.int l0), .val (.int l1), .val (.int l2), .val (.int p0), .val (.int p1), .val (.int p2), .val (.int n), .val (.int c0), .val (.int c1), .val (.int c2), .val (.ref lp), .val .null, .val (.ref bb), .val (.ref rr)] [(.int (1 : Int32)), (.ref rr)])
    obtain ⟨cl64, Ar64, q64, S64, Nn64, H64, G64⟩ := V_rr
    have V_rr : Arv Z T57.heap rr kr .int (3 : Int32) [(.int (own_exp 0 n c0 c1 c2 p0 p1 p2 l0)), (.int (own_exp 1 n c0 c1 c2 p0 p1 p2 l1)), (.int (own_exp 2 n c0 c1 c2 p0 p1 p2 l2))] (.int (0 : Int32)) := ⟨cl64, Ar64, q64, S64, Nn64, H64, G64⟩
    have hin64 : ¬ ((1 : Int32) < 0 ∨ cl64.slots.size ≤ ((1 : Int32)).toNatClampNeg) := inb_of S64 ⟨by decide, by decide⟩
    have hat64 : cl64.slots[((1 : Int32)).toNatClampNeg]? = some (.int (own_exp 1 n c0 c1 c2 p0 p1 p2 l1)) := Has.at H64 hin64 rfl
    refine Go.step (X63.iaload hx (j := (1 : Int32)) (v := (.int (own_exp 1 n c0 c1 c2 p0 p1 p2 l1))) (by rw [e63]; exact Ar64.1) (State.isArrayOf_alike hZ.alike Ar64.2.1) Ar64.2.2 hin64 hat64 (g := (mkF m 262 #[.val (.long i0), .second, .val (.long i1), .second, .val (.long i2), .second, .val (.int i3), .val (.int l0), .val (.int l1), .val (.int l2), .val (.int p0), .val (.int p1), .val (.int p2), .val (.int n), .val (.int c0), .val (.int c1), .val (.int c2), .val (.ref lp), .val .null, .val (.ref bb), .val (.ref rr)] [(.int (1 : Int32)), (.ref rr)])) rfl rfl (hb hby at_262)) ?_
    show Go p e below _ T63 (mkF m 263 #[.val (.long i0), .second, .val (.long i1), .second, .val (.long i2), .second, .val (.int i3), .val (.int l0), .val (.int l1), .val (.int l2), .val (.int p0), .val (.int p1), .val (.int p2), .val (.int n), .val (.int c0), .val (.int c1), .val (.int c2), .val (.ref lp), .val .null, .val (.ref bb), .val (.ref rr)] [(.int (own_exp 1 n c0 c1 c2 p0 p1 p2 l1))])
    refine Go.step (fun _ k => XS.iconst X63.here hx rfl (hb hby at_263) k) ?_
    show Go p e below _ T63 (mkF m 264 #[.val (.long i0), .second, .val (.long i1), .second, .val (.long i2), .second, .val (.int i3), .val (.int l0), .val (.int l1), .val (.int l2), .val (.int p0), .val (.int p1), .val (.int p2), .val (.int n), .val (.int c0), .val (.int c1), .val (.int c2), .val (.ref lp), .val .null, .val (.ref bb), .val (.ref rr)] [(.int (1 : Int32)), (.int (own_exp 1 n c0 c1 c2 p0 p1 p2 l1))])
    refine Go.step (fun _ k => XS.iload X63.here hx rfl (hb hby at_264) rfl k) ?_
    show Go p e below _ T63 (mkF m 266 #[.val (.long i0), .second, .val (.long i1), .second, .val (.long i2), .second, .val (.int i3), .val (.int l0), .val (.int l1), .val (.int l2), .val (.int p0), .val (.int p1), .val (.int p2), .val (.int n), .val (.int c0), .val (.int c1), .val (.int c2), .val (.ref lp), .val .null, .val (.ref bb), .val (.ref rr)] [(.int n), (.int (1 : Int32)), (.int (own_exp 1 n c0 c1 c2 p0 p1 p2 l1))])
    refine Go.step (fun _ k => XS.iload X63.here hx rfl (hb hby at_266) rfl k) ?_
    show Go p e below _ T63 (mkF m 268 #[.val (.long i0), .second, .val (.long i1), .second, .val (.long i2), .second, .val (.int i3), .val (.int l0), .val (.int l1), .val (.int l2), .val (.int p0), .val (.int p1), .val (.int p2), .val (.int n), .val (.int c0), .val (.int c1), .val (.int c2), .val (.ref lp), .val .null, .val (.ref bb), .val (.ref rr)] [(.int c0), (.int n), (.int (1 : Int32)), (.int (own_exp 1 n c0 c1 c2 p0 p1 p2 l1))])
    refine Go.step (fun _ k => XS.iload X63.here hx rfl (hb hby at_268) rfl k) ?_
    show Go p e below _ T63 (mkF m 270 #[.val (.long i0), .second, .val (.long i1), .second, .val (.long i2), .second, .val (.int i3), .val (.int l0), .val (.int l1), .val (.int l2), .val (.int p0), .val (.int p1), .val (.int p2), .val (.int n), .val (.int c0), .val (.int c1), .val (.int c2), .val (.ref lp), .val .null, .val (.ref bb), .val (.ref rr)] [(.int c1), (.int c0), (.int n), (.int (1 : Int32)), (.int (own_exp 1 n c0 c1 c2 p0 p1 p2 l1))])
    refine Go.step (fun _ k => XS.iload X63.here hx rfl (hb hby at_270) rfl k) ?_
    show Go p e below _ T63 (mkF m 272 #[.val (.long i0), .second, .val (.long i1), .second, .val (.long i2), .second, .val (.int i3), .val (.int l0), .val (.int l1), .val (.int l2), .val (.int p0), .val (.int p1), .val (.int p2), .val (.int n), .val (.int c0), .val (.int c1), .val (.int c2), .val (.ref lp), .val .null, .val (.ref bb), .val (.ref rr)] [(.int c2), (.int c1), (.int c0), (.int n), (.int (1 : Int32)), (.int (own_exp 1 n c0 c1 c2 p0 p1 p2 l1))])
    refine Go.step (fun _ k => XS.iload X63.here hx rfl (hb hby at_272) rfl k) ?_
    show Go p e below _ T63 (mkF m 274 #[.val (.long i0), .second, .val (.long i1), .second, .val (.long i2), .second, .val (.int i3), .val (.int l0), .val (.int l1), .val (.int l2), .val (.int p0), .val (.int p1), .val (.int p2), .val (.int n), .val (.int c0), .val (.int c1), .val (.int c2), .val (.ref lp), .val .null, .val (.ref bb), .val (.ref rr)] [(.int p0), (.int c2), (.int c1), (.int c0), (.int n), (.int (1 : Int32)), (.int (own_exp 1 n c0 c1 c2 p0 p1 p2 l1))])
    refine Go.step (fun _ k => XS.iload X63.here hx rfl (hb hby at_274) rfl k) ?_
    show Go p e below _ T63 (mkF m 276 #[.val (.long i0), .second, .val (.long i1), .second, .val (.long i2), .second, .val (.int i3), .val (.int l0), .val (.int l1), .val (.int l2), .val (.int p0), .val (.int p1), .val (.int p2), .val (.int n), .val (.int c0), .val (.int c1), .val (.int c2), .val (.ref lp), .val .null, .val (.ref bb), .val (.ref rr)] [(.int p1), (.int p0), (.int c2), (.int c1), (.int c0), (.int n), (.int (1 : Int32)), (.int (own_exp 1 n c0 c1 c2 p0 p1 p2 l1))])
    refine Go.step (fun _ k => XS.iload X63.here hx rfl (hb hby at_276) rfl k) ?_
    show Go p e below _ T63 (mkF m 278 #[.val (.long i0), .second, .val (.long i1), .second, .val (.long i2), .second, .val (.int i3), .val (.int l0), .val (.int l1), .val (.int l2), .val (.int p0), .val (.int p1), .val (.int p2), .val (.int n), .val (.int c0), .val (.int c1), .val (.int c2), .val (.ref lp), .val .null, .val (.ref bb), .val (.ref rr)] [(.int p2), (.int p1), (.int p0), (.int c2), (.int c1), (.int c0), (.int n), (.int (1 : Int32)), (.int (own_exp 1 n c0 c1 c2 p0 p1 p2 l1))])
    refine Go.step (fun _ k => XS.iload X63.here hx rfl (hb hby at_278) rfl k) ?_
    show Go p e below _ T63 (mkF m 280 #[.val (.long i0), .second, .val (.long i1), .second, .val (.long i2), .second, .val (.int i3), .val (.int l0), .val (.int l1), .val (.int l2), .val (.int p0), .val (.int p1), .val (.int p2), .val (.int n), .val (.int c0), .val (.int c1), .val (.int c2), .val (.ref lp), .val .null, .val (.ref bb), .val (.ref rr)] [(.int l1), (.int p2), (.int p1), (.int p0), (.int c2), (.int c1), (.int c0), (.int n), (.int (1 : Int32)), (.int (own_exp 1 n c0 c1 c2 p0 p1 p2 l1))])
    obtain ⟨_, _, ⟨T65, L65, k65, n65⟩, -, X65, ⟨Lc65, hQ65, l65, y65, z65⟩, st65⟩ := Jvm.LawKit.callS X63 hx (y := (⟨"com/example/bidkeel/bidkeel/BestPointsPinLaw", "expected", "(IIIIIIIII)I"⟩ : MethodName)) hown (mvT hZ (hw _ (List.mem_of_getElem? (i := 54) rfl))) (mvT hZ (hw _ (List.mem_of_getElem? (i := 55) rfl))) (mvT hZ (hw _ (List.mem_of_getElem? (i := 56) rfl))) (mvT hZ (hw _ (List.mem_of_getElem? (i := 57) rfl))) (by decide) (backOf (W := 1) (rmX l Z a0 hw [] (1 : Int32) n c0 c1 c2 p0 p1 p2 l1 T57.heap n0 Zn) hZ (hw _ (List.mem_of_getElem? (i := 57) rfl)) (hw _ (List.mem_of_getElem? (i := 56) rfl)) (by decide) (by decide)) (g := (mkF m 280 #[.val (.long i0), .second, .val (.long i1), .second, .val (.long i2), .second, .val (.int i3), .val (.int l0), .val (.int l1), .val (.int l2), .val (.int p0), .val (.int p1), .val (.int p2), .val (.int n), .val (.int c0), .val (.int c1), .val (.int c2), .val (.ref lp), .val .null, .val (.ref bb), .val (.ref rr)] [(.int l1), (.int p2), (.int p1), (.int p0), (.int c2), (.int c1), (.int c0), (.int n), (.int (1 : Int32)), (.int (own_exp 1 n c0 c1 c2 p0 p1 p2 l1))])) rfl (by rw [hml]; rfl) (argsL := [(.int (1 : Int32)), (.int n), (.int c0), (.int c1), (.int c2), (.int p0), (.int p1), (.int p2), (.int l1)]) (rest := [(.int (own_exp 1 n c0 c1 c2 p0 p1 p2 l1))]) (lenOf own_f95 rfl) rfl (by show 2 * 0 + _ ≤ _; exact Nat.le_of_eq rfl) (hb hby at_280) (fun _ _ => ⟨rfl, e63, (by dsimp only [Pt.cells, Pt.slots]; decide), (by dsimp only [Pt.cells, Pt.slots]; decide)⟩)
    dsimp only [Pt.U, Pt.locs, Pt.cells, Pt.slots] at X65 l65 y65 z65 st65 hQ65
    subst l65 y65 z65
    obtain ⟨rfl, N65q, e65⟩ := hQ65
    have N65 := Fr.app N63 N65q
    refine Go.step (st65) ?_
    show Go p e below _ T65 (mkF m 283 #[.val (.long i0), .second, .val (.long i1), .second, .val (.long i2), .second, .val (.int i3), .val (.int l0), .val (.int l1), .val (.int l2), .val (.int p0), .val (.int p1), .val (.int p2), .val (.int n), .val (.int c0), .val (.int c1), .val (.int c2), .val (.ref lp), .val .null, .val (.ref bb), .val (.ref rr)] [(.int (own_exp 1 n c0 c1 c2 p0 p1 p2 l1)), (.int (own_exp 1 n c0 c1 c2 p0 p1 p2 l1))])
    refine Go.step (fun _ k => XS.icmpNo X65.here hx rfl (hb hby at_283) rfl (teq rfl).2 k) ?_
    show Go p e below _ T65 (mkF m 286 #[.val (.long i0), .second, .val (.long i1), .second, .val (.long i2), .second, .val (.int i3), .val (.int l0), .val (.int l1), .val (.int l2), .val (.int p0), .val (.int p1), .val (.int p2), .val (.int n), .val (.int c0), .val (.int c1), .val (.int c2), .val (.ref lp), .val .null, .val (.ref bb), .val (.ref rr)] [])
    refine Go.step (fun _ k => XS.aload X65.here hx rfl (hb hby at_286) rfl rfl k) ?_
    show Go p e below _ T65 (mkF m 288 #[.val (.long i0), .second, .val (.long i1), .second, .val (.long i2), .second, .val (.int i3), .val (.int l0), .val (.int l1), .val (.int l2), .val (.int p0), .val (.int p1), .val (.int p2), .val (.int n), .val (.int c0), .val (.int c1), .val (.int c2), .val (.ref lp), .val .null, .val (.ref bb), .val (.ref rr)] [(.ref rr)])
    refine Go.step (fun _ k => XS.iconst X65.here hx rfl (hb hby at_288) k) ?_
    show Go p e below _ T65 (mkF m 289 #[.val (.long i0), .second, .val (.long i1), .second, .val (.long i2), .second, .val (.int i3), .val (.int l0), .val (.int l1), .val (.int l2), .val (.int p0), .val (.int p1), .val (.int p2), .val (.int n), .val (.int c0), .val (.int c1), .val (.int c2), .val (.ref lp), .val .null, .val (.ref bb), .val (.ref rr)] [(.int (2 : Int32)), (.ref rr)])
    obtain ⟨cl66, Ar66, q66, S66, Nn66, H66, G66⟩ := V_rr
    have V_rr : Arv Z T57.heap rr kr .int (3 : Int32) [(.int (own_exp 0 n c0 c1 c2 p0 p1 p2 l0)), (.int (own_exp 1 n c0 c1 c2 p0 p1 p2 l1)), (.int (own_exp 2 n c0 c1 c2 p0 p1 p2 l2))] (.int (0 : Int32)) := ⟨cl66, Ar66, q66, S66, Nn66, H66, G66⟩
    have hin66 : ¬ ((2 : Int32) < 0 ∨ cl66.slots.size ≤ ((2 : Int32)).toNatClampNeg) := inb_of S66 ⟨by decide, by decide⟩
    have hat66 : cl66.slots[((2 : Int32)).toNatClampNeg]? = some (.int (own_exp 2 n c0 c1 c2 p0 p1 p2 l2)) := Has.at H66 hin66 rfl
    refine Go.step (X65.iaload hx (j := (2 : Int32)) (v := (.int (own_exp 2 n c0 c1 c2 p0 p1 p2 l2))) (by rw [e65]; exact Ar66.1) (State.isArrayOf_alike hZ.alike Ar66.2.1) Ar66.2.2 hin66 hat66 (g := (mkF m 289 #[.val (.long i0), .second, .val (.long i1), .second, .val (.long i2), .second, .val (.int i3), .val (.int l0), .val (.int l1), .val (.int l2), .val (.int p0), .val (.int p1), .val (.int p2), .val (.int n), .val (.int c0), .val (.int c1), .val (.int c2), .val (.ref lp), .val .null, .val (.ref bb), .val (.ref rr)] [(.int (2 : Int32)), (.ref rr)])) rfl rfl (hb hby at_289)) ?_
    show Go p e below _ T65 (mkF m 290 #[.val (.long i0), .second, .val (.long i1), .second, .val (.long i2), .second, .val (.int i3), .val (.int l0), .val (.int l1), .val (.int l2), .val (.int p0), .val (.int p1), .val (.int p2), .val (.int n), .val (.int c0), .val (.int c1), .val (.int c2), .val (.ref lp), .val .null, .val (.ref bb), .val (.ref rr)] [(.int (own_exp 2 n c0 c1 c2 p0 p1 p2 l2))])
    refine Go.step (fun _ k => XS.iconst X65.here hx rfl (hb hby at_290) k) ?_
    show Go p e below _ T65 (mkF m 291 #[.val (.long i0), .second, .val (.long i1), .second, .val (.long i2), .second, .val (.int i3), .val (.int l0), .val (.int l1), .val (.int l2), .val (.int p0), .val (.int p1), .val (.int p2), .val (.int n), .val (.int c0), .val (.int c1), .val (.int c2), .val (.ref lp), .val .null, .val (.ref bb), .val (.ref rr)] [(.int (2 : Int32)), (.int (own_exp 2 n c0 c1 c2 p0 p1 p2 l2))])
    refine Go.step (fun _ k => XS.iload X65.here hx rfl (hb hby at_291) rfl k) ?_
    show Go p e below _ T65 (mkF m 293 #[.val (.long i0), .second, .val (.long i1), .second, .val (.long i2), .second, .val (.int i3), .val (.int l0), .val (.int l1), .val (.int l2), .val (.int p0), .val (.int p1), .val (.int p2), .val (.int n), .val (.int c0), .val (.int c1), .val (.int c2), .val (.ref lp), .val .null, .val (.ref bb), .val (.ref rr)] [(.int n), (.int (2 : Int32)), (.int (own_exp 2 n c0 c1 c2 p0 p1 p2 l2))])
    refine Go.step (fun _ k => XS.iload X65.here hx rfl (hb hby at_293) rfl k) ?_
    show Go p e below _ T65 (mkF m 295 #[.val (.long i0), .second, .val (.long i1), .second, .val (.long i2), .second, .val (.int i3), .val (.int l0), .val (.int l1), .val (.int l2), .val (.int p0), .val (.int p1), .val (.int p2), .val (.int n), .val (.int c0), .val (.int c1), .val (.int c2), .val (.ref lp), .val .null, .val (.ref bb), .val (.ref rr)] [(.int c0), (.int n), (.int (2 : Int32)), (.int (own_exp 2 n c0 c1 c2 p0 p1 p2 l2))])
    refine Go.step (fun _ k => XS.iload X65.here hx rfl (hb hby at_295) rfl k) ?_
    show Go p e below _ T65 (mkF m 297 #[.val (.long i0), .second, .val (.long i1), .second, .val (.long i2), .second, .val (.int i3), .val (.int l0), .val (.int l1), .val (.int l2), .val (.int p0), .val (.int p1), .val (.int p2), .val (.int n), .val (.int c0), .val (.int c1), .val (.int c2), .val (.ref lp), .val .null, .val (.ref bb), .val (.ref rr)] [(.int c1), (.int c0), (.int n), (.int (2 : Int32)), (.int (own_exp 2 n c0 c1 c2 p0 p1 p2 l2))])
    refine Go.step (fun _ k => XS.iload X65.here hx rfl (hb hby at_297) rfl k) ?_
    show Go p e below _ T65 (mkF m 299 #[.val (.long i0), .second, .val (.long i1), .second, .val (.long i2), .second, .val (.int i3), .val (.int l0), .val (.int l1), .val (.int l2), .val (.int p0), .val (.int p1), .val (.int p2), .val (.int n), .val (.int c0), .val (.int c1), .val (.int c2), .val (.ref lp), .val .null, .val (.ref bb), .val (.ref rr)] [(.int c2), (.int c1), (.int c0), (.int n), (.int (2 : Int32)), (.int (own_exp 2 n c0 c1 c2 p0 p1 p2 l2))])
    refine Go.step (fun _ k => XS.iload X65.here hx rfl (hb hby at_299) rfl k) ?_
    show Go p e below _ T65 (mkF m 301 #[.val (.long i0), .second, .val (.long i1), .second, .val (.long i2), .second, .val (.int i3), .val (.int l0), .val (.int l1), .val (.int l2), .val (.int p0), .val (.int p1), .val (.int p2), .val (.int n), .val (.int c0), .val (.int c1), .val (.int c2), .val (.ref lp), .val .null, .val (.ref bb), .val (.ref rr)] [(.int p0), (.int c2), (.int c1), (.int c0), (.int n), (.int (2 : Int32)), (.int (own_exp 2 n c0 c1 c2 p0 p1 p2 l2))])
    refine Go.step (fun _ k => XS.iload X65.here hx rfl (hb hby at_301) rfl k) ?_
    show Go p e below _ T65 (mkF m 303 #[.val (.long i0), .second, .val (.long i1), .second, .val (.long i2), .second, .val (.int i3), .val (.int l0), .val (.int l1), .val (.int l2), .val (.int p0), .val (.int p1), .val (.int p2), .val (.int n), .val (.int c0), .val (.int c1), .val (.int c2), .val (.ref lp), .val .null, .val (.ref bb), .val (.ref rr)] [(.int p1), (.int p0), (.int c2), (.int c1), (.int c0), (.int n), (.int (2 : Int32)), (.int (own_exp 2 n c0 c1 c2 p0 p1 p2 l2))])
    refine Go.step (fun _ k => XS.iload X65.here hx rfl (hb hby at_303) rfl k) ?_
    show Go p e below _ T65 (mkF m 305 #[.val (.long i0), .second, .val (.long i1), .second, .val (.long i2), .second, .val (.int i3), .val (.int l0), .val (.int l1), .val (.int l2), .val (.int p0), .val (.int p1), .val (.int p2), .val (.int n), .val (.int c0), .val (.int c1), .val (.int c2), .val (.ref lp), .val .null, .val (.ref bb), .val (.ref rr)] [(.int p2), (.int p1), (.int p0), (.int c2), (.int c1), (.int c0), (.int n), (.int (2 : Int32)), (.int (own_exp 2 n c0 c1 c2 p0 p1 p2 l2))])
    refine Go.step (fun _ k => XS.iload X65.here hx rfl (hb hby at_305) rfl k) ?_
    show Go p e below _ T65 (mkF m 307 #[.val (.long i0), .second, .val (.long i1), .second, .val (.long i2), .second, .val (.int i3), .val (.int l0), .val (.int l1), .val (.int l2), .val (.int p0), .val (.int p1), .val (.int p2), .val (.int n), .val (.int c0), .val (.int c1), .val (.int c2), .val (.ref lp), .val .null, .val (.ref bb), .val (.ref rr)] [(.int l2), (.int p2), (.int p1), (.int p0), (.int c2), (.int c1), (.int c0), (.int n), (.int (2 : Int32)), (.int (own_exp 2 n c0 c1 c2 p0 p1 p2 l2))])
    obtain ⟨_, _, ⟨T67, L67, k67, n67⟩, -, X67, ⟨Lc67, hQ67, l67, y67, z67⟩, st67⟩ := Jvm.LawKit.callS X65 hx (y := (⟨"com/example/bidkeel/bidkeel/BestPointsPinLaw", "expected", "(IIIIIIIII)I"⟩ : MethodName)) hown (mvT hZ (hw _ (List.mem_of_getElem? (i := 54) rfl))) (mvT hZ (hw _ (List.mem_of_getElem? (i := 55) rfl))) (mvT hZ (hw _ (List.mem_of_getElem? (i := 56) rfl))) (mvT hZ (hw _ (List.mem_of_getElem? (i := 57) rfl))) (by decide) (backOf (W := 1) (rmX l Z a0 hw [] (2 : Int32) n c0 c1 c2 p0 p1 p2 l2 T57.heap n0 Zn) hZ (hw _ (List.mem_of_getElem? (i := 57) rfl)) (hw _ (List.mem_of_getElem? (i := 56) rfl)) (by decide) (by decide)) (g := (mkF m 307 #[.val (.long i0), .second, .val (.long i1), .second, .val (.long i2), .second, .val (.int i3), .val (.int l0), .val (.int l1), .val (.int l2), .val (.int p0), .val (.int p1), .val (.int p2), .val (.int n), .val (.int c0), .val (.int c1), .val (.int c2), .val (.ref lp), .val .null, .val (.ref bb), .val (.ref rr)] [(.int l2), (.int p2), (.int p1), (.int p0), (.int c2), (.int c1), (.int c0), (.int n), (.int (2 : Int32)), (.int (own_exp 2 n c0 c1 c2 p0 p1 p2 l2))])) rfl (by rw [hml]; rfl) (argsL := [(.int (2 : Int32)), (.int n), (.int c0), (.int c1), (.int c2), (.int p0), (.int p1), (.int p2), (.int l2)]) (rest := [(.int (own_exp 2 n c0 c1 c2 p0 p1 p2 l2))]) (lenOf own_f95 rfl) rfl (by show 2 * 0 + _ ≤ _; exact Nat.le_of_eq rfl) (hb hby at_307) (fun _ _ => ⟨rfl, e65, (by dsimp only [Pt.cells, Pt.slots]; decide), (by dsimp only [Pt.cells, Pt.slots]; decide)⟩)
    dsimp only [Pt.U, Pt.locs, Pt.cells, Pt.slots] at X67 l67 y67 z67 st67 hQ67
    subst l67 y67 z67
    obtain ⟨rfl, N67q, e67⟩ := hQ67
    have N67 := Fr.app N65 N67q
    refine Go.step (st67) ?_
    show Go p e below _ T67 (mkF m 310 #[.val (.long i0), .second, .val (.long i1), .second, .val (.long i2), .second, .val (.int i3), .val (.int l0), .val (.int l1), .val (.int l2), .val (.int p0), .val (.int p1), .val (.int p2), .val (.int n), .val (.int c0), .val (.int c1), .val (.int c2), .val (.ref lp), .val .null, .val (.ref bb), .val (.ref rr)] [(.int (own_exp 2 n c0 c1 c2 p0 p1 p2 l2)), (.int (own_exp 2 n c0 c1 c2 p0 p1 p2 l2))])
    refine Go.step (fun _ k => XS.icmpNo X67.here hx rfl (hb hby at_310) rfl (teq rfl).2 k) ?_
    show Go p e below _ T67 (mkF m 313 #[.val (.long i0), .second, .val (.long i1), .second, .val (.long i2), .second, .val (.int i3), .val (.int l0), .val (.int l1), .val (.int l2), .val (.int p0), .val (.int p1), .val (.int p2), .val (.int n), .val (.int c0), .val (.int c1), .val (.int c2), .val (.ref lp), .val .null, .val (.ref bb), .val (.ref rr)] [])
    refine Go.step (fun _ k => XS.iconst X67.here hx rfl (hb hby at_313) k) ?_
    show Go p e below _ T67 (mkF m 314 #[.val (.long i0), .second, .val (.long i1), .second, .val (.long i2), .second, .val (.int i3), .val (.int l0), .val (.int l1), .val (.int l2), .val (.int p0), .val (.int p1), .val (.int p2), .val (.int n), .val (.int c0), .val (.int c1), .val (.int c2), .val (.ref lp), .val .null, .val (.ref bb), .val (.ref rr)] [(.int (1 : Int32))])
    refine Go.step (fun _ k => XS.goto X67.here hx rfl (pc0 := 314) (pc' := 318) rfl (hb hby at_314) (by decide) (by decide) k) ?_
    show Go p e below _ T67 (mkF m 318 #[.val (.long i0), .second, .val (.long i1), .second, .val (.long i2), .second, .val (.int i3), .val (.int l0), .val (.int l1), .val (.int l2), .val (.int p0), .val (.int p1), .val (.int p2), .val (.int n), .val (.int c0), .val (.int c1), .val (.int c2), .val (.ref lp), .val .null, .val (.ref bb), .val (.ref rr)] [(.int (1 : Int32))])
    obtain ⟨fs, hr, hrun, hended, hW, hsame⟩ := X67.leave (v := some (.int (1 : Int32))) (fun h => by rw [Bd.returns] at h; cases h)
    refine Go.fin (retN X67 hx (t := .boolean) Bd.returns (by simp) (hb hby at_318) hr) hrun hended ?_
    refine ⟨_, _, rfl, ?_, ⟨_, rfl⟩, hW, hsame.mono (by decide) (by decide)⟩
    show Q0 Z i0 i1 i2 i3 h0 n0 _ T67.heap _
    rw [e67]
    exact ⟨rfl, N67⟩
  · have hn : n = 0 ∨ n = 1 ∨ n = 2 ∨ n = 3 := by simp [hk0]
    show Go p e below _ T53 (mkF m 101 #[.val (.long i0), .second, .val (.long i1), .second, .val (.long i2), .second, .val (.int i3), .val (.int l0), .val (.int l1), .val (.int l2), .val (.int p0), .val (.int p1), .val (.int p2), .val (.int n), .val (.int c0), .val (.int c1), .val (.int c2), .val (.ref lp), .val .null, .unset, .unset] [(.int (1 : Int32)), (.int n)])
    refine Go.step (fun _ k => XS.icmpNo X53.here hx rfl (hb hby at_101) rfl (flt (by rw [hk0]; decide)).1 k) ?_
    show Go p e below _ T53 (mkF m 104 #[.val (.long i0), .second, .val (.long i1), .second, .val (.long i2), .second, .val (.int i3), .val (.int l0), .val (.int l1), .val (.int l2), .val (.int p0), .val (.int p1), .val (.int p2), .val (.int n), .val (.int c0), .val (.int c1), .val (.int c2), .val (.ref lp), .val .null, .unset, .unset] [])
    obtain ⟨T68, h68, X68, e68, E68, A68, D68, U68, st68⟩ := newO X53 hx hZ hown (hw _ (List.mem_of_getElem? (i := 1) rfl)) (hw _ (List.mem_of_getElem? (i := 2) rfl)) (hw _ (List.mem_of_getElem? (i := 3) rfl)) e53 (g := (mkF m 104 #[.val (.long i0), .second, .val (.long i1), .second, .val (.long i2), .second, .val (.int i3), .val (.int l0), .val (.int l1), .val (.int l2), .val (.int p0), .val (.int p1), .val (.int p2), .val (.int n), .val (.int c0), .val (.int c1), .val (.int c2), .val (.ref lp), .val .null, .unset, .unset] [])) rfl (hb hby at_104) (by decide) (by decide)
    obtain ⟨o0, g68⟩ : ∃ z, z = h53.size := ⟨_, rfl⟩
    rw [← g68] at A68 D68 U68 st68
    have ne_lp_o0 : lp ≠ o0 := Nat.ne_of_lt (Nat.lt_of_lt_of_le E_lp.lt (Nat.le_of_eq g68.symm))
    have g_o0 : n0 ≤ o0 := Nat.le_trans Zn (Nat.le_of_eq g68.symm)
    have sz_o0 : h0.size ≤ o0 := Nat.le_trans K0.1 (Nat.le_of_eq g68.symm)
    replace E_lp := E_lp.ext E68
    replace V_lp := V_lp.ext E68
    replace Zn := Nat.le_trans Zn E68.1
    replace K0 := K0.ext E68
    have E_o0 := A68
    have F_cls_o0 : Fld Z h68 o0 "com/example/bidkeel/bidkeel/Knapsack$Change" "cls" "I" (.int (0 : Int32)) := D68 (Or.inr (hw _ (List.mem_of_getElem? (i := 11) rfl))) (ty := .int) (by decide)
    have F_point_o0 : Fld Z h68 o0 "com/example/bidkeel/bidkeel/Knapsack$Change" "point" "I" (.int (0 : Int32)) := D68 (Or.inr (hw _ (List.mem_of_getElem? (i := 13) rfl))) (ty := .int) (by decide)
    have F_previous_o0 : Fld Z h68 o0 "com/example/bidkeel/bidkeel/Knapsack$Change" "previous" "Lcom/example/bidkeel/bidkeel/Knapsack$Change;" .null := D68 (Or.inr (hw _ (List.mem_of_getElem? (i := 15) rfl))) (ty := (.object "com/example/bidkeel/bidkeel/Knapsack$Change")) (by decide)
    refine Go.step st68 ?_
    show Go p e below _ T68 (mkF m 107 #[.val (.long i0), .second, .val (.long i1), .second, .val (.long i2), .second, .val (.int i3), .val (.int l0), .val (.int l1), .val (.int l2), .val (.int p0), .val (.int p1), .val (.int p2), .val (.int n), .val (.int c0), .val (.int c1), .val (.int c2), .val (.ref lp), .val .null, .unset, .unset] [(.ref o0)])
    refine Go.step (fun _ k => XS.dup X68.here hx rfl (hb hby at_107) rfl rfl k) ?_
    show Go p e below _ T68 (mkF m 108 #[.val (.long i0), .second, .val (.long i1), .second, .val (.long i2), .second, .val (.int i3), .val (.int l0), .val (.int l1), .val (.int l2), .val (.int p0), .val (.int p1), .val (.int p2), .val (.int n), .val (.int c0), .val (.int c1), .val (.int c2), .val (.ref lp), .val .null, .unset, .unset] [(.ref o0), (.ref o0)])
    refine Go.step (fun _ k => XS.iload X68.here hx rfl (hb hby at_108) rfl k) ?_
    show Go p e below _ T68 (mkF m 110 #[.val (.long i0), .second, .val (.long i1), .second, .val (.long i2), .second, .val (.int i3), .val (.int l0), .val (.int l1), .val (.int l2), .val (.int p0), .val (.int p1), .val (.int p2), .val (.int n), .val (.int c0), .val (.int c1), .val (.int c2), .val (.ref lp), .val .null, .unset, .unset] [(.int c0), (.ref o0), (.ref o0)])
    refine Go.step (fun _ k => XS.iload X68.here hx rfl (hb hby at_110) rfl k) ?_
    show Go p e below _ T68 (mkF m 112 #[.val (.long i0), .second, .val (.long i1), .second, .val (.long i2), .second, .val (.int i3), .val (.int l0), .val (.int l1), .val (.int l2), .val (.int p0), .val (.int p1), .val (.int p2), .val (.int n), .val (.int c0), .val (.int c1), .val (.int c2), .val (.ref lp), .val .null, .unset, .unset] [(.int p0), (.int c0), (.ref o0), (.ref o0)])
    refine Go.step (fun _ k => XS.aload X68.here hx rfl (hb hby at_112) rfl rfl k) ?_
    show Go p e below _ T68 (mkF m 114 #[.val (.long i0), .second, .val (.long i1), .second, .val (.long i2), .second, .val (.int i3), .val (.int l0), .val (.int l1), .val (.int l2), .val (.int p0), .val (.int p1), .val (.int p2), .val (.int n), .val (.int c0), .val (.int c1), .val (.int c2), .val (.ref lp), .val .null, .unset, .unset] [.null, (.int p0), (.int c0), (.ref o0), (.ref o0)])
    obtain ⟨_, _, ⟨T69, L69, k69, n69⟩, -, X69, ⟨Lc69, hQ69, l69, y69, z69⟩, st69⟩ := X68.specialBack hx (y := (⟨"com/example/bidkeel/bidkeel/Knapsack$Change", "<init>", "(IILcom/example/bidkeel/bidkeel/Knapsack$Change;)V"⟩ : MethodName)) rfl hown (mvT hZ (hw _ (List.mem_of_getElem? (i := 4) rfl))) (mvT hZ (hw _ (List.mem_of_getElem? (i := 5) rfl))) (mvT hZ (hw _ (List.mem_of_getElem? (i := 6) rfl))) (by decide) (backOf (W := 1) (rmCN l Z a0 hw [] o0 c0 p0 h68 n0 Zn E_o0 F_cls_o0 F_point_o0 F_previous_o0 g_o0) hZ (hw _ (List.mem_of_getElem? (i := 6) rfl)) (hw _ (List.mem_of_getElem? (i := 3) rfl)) (by decide) (by decide)) (g := (mkF m 114 #[.val (.long i0), .second, .val (.long i1), .second, .val (.long i2), .second, .val (.int i3), .val (.int l0), .val (.int l1), .val (.int l2), .val (.int p0), .val (.int p1), .val (.int p2), .val (.int n), .val (.int c0), .val (.int c1), .val (.int c2), .val (.ref lp), .val .null, .unset, .unset] [.null, (.int p0), (.int c0), (.ref o0), (.ref o0)])) rfl (by rw [hml]; rfl) (Steps.refl _) (a := o0) (argsL := [(.int c0), (.int p0), .null]) (rest := [(.ref o0)]) (lenOf own_f96 rfl) rfl (by show 2 * 0 + _ ≤ _; exact Nat.le_of_eq rfl) (hb hby at_114) (fun _ _ => ⟨rfl, e68, (by dsimp only [Pt.cells, Pt.slots]; decide), (by dsimp only [Pt.cells, Pt.slots]; decide)⟩)
    dsimp only [Pt.U, Pt.locs, Pt.cells, Pt.slots] at X69 l69 y69 z69 st69 hQ69
    subst l69 y69 z69
    obtain ⟨rfl, N69q, K69, F_cls_o0, F_point_o0, F_previous_o0⟩ := hQ69
    have N69 := Fr.app N53 N69q
    refine Go.step (fun _ k => st69.trans k) ?_
    replace E_lp := E_lp.keep K69
    replace V_lp := V_lp.keep K69 (ninS ne_lp_o0 nin0)
    replace E_o0 := E_o0.keep K69
    replace K0 := K0.trans K69 (allS (Or.inr sz_o0) (all0))
    replace Zn := Nat.le_trans Zn K69.1
    show Go p e below _ T69 (mkF m 117 #[.val (.long i0), .second, .val (.long i1), .second, .val (.long i2), .second, .val (.int i3), .val (.int l0), .val (.int l1), .val (.int l2), .val (.int p0), .val (.int p1), .val (.int p2), .val (.int n), .val (.int c0), .val (.int c1), .val (.int c2), .val (.ref lp), .val .null, .unset, .unset] [(.ref o0)])
    refine Go.step (fun _ k => XS.astore X69.here hx rfl (hb hby at_117) rfl rfl (l' := #[.val (.long i0), .second, .val (.long i1), .second, .val (.long i2), .second, .val (.int i3), .val (.int l0), .val (.int l1), .val (.int l2), .val (.int p0), .val (.int p1), .val (.int p2), .val (.int n), .val (.int c0), .val (.int c1), .val (.int c2), .val (.ref lp), .val (.ref o0), .unset, .unset]) rfl k) ?_
    show Go p e below _ T69 (mkF m 119 #[.val (.long i0), .second, .val (.long i1), .second, .val (.long i2), .second, .val (.int i3), .val (.int l0), .val (.int l1), .val (.int l2), .val (.int p0), .val (.int p1), .val (.int p2), .val (.int n), .val (.int c0), .val (.int c1), .val (.int c2), .val (.ref lp), .val (.ref o0), .unset, .unset] [])
    refine Go.step (fun _ k => XS.iload X69.here hx rfl (hb hby at_119) rfl k) ?_
    show Go p e below _ T69 (mkF m 121 #[.val (.long i0), .second, .val (.long i1), .second, .val (.long i2), .second, .val (.int i3), .val (.int l0), .val (.int l1), .val (.int l2), .val (.int p0), .val (.int p1), .val (.int p2), .val (.int n), .val (.int c0), .val (.int c1), .val (.int c2), .val (.ref lp), .val (.ref o0), .unset, .unset] [(.int n)])
    refine Go.step (fun _ k => XS.iconst X69.here hx rfl (hb hby at_121) k) ?_
    show Go p e below _ T69 (mkF m 122 #[.val (.long i0), .second, .val (.long i1), .second, .val (.long i2), .second, .val (.int i3), .val (.int l0), .val (.int l1), .val (.int l2), .val (.int p0), .val (.int p1), .val (.int p2), .val (.int n), .val (.int c0), .val (.int c1), .val (.int c2), .val (.ref lp), .val (.ref o0), .unset, .unset] [(.int (2 : Int32)), (.int n)])
    refine Go.step (fun _ k => XS.icmpYes X69.here hx rfl (pc0 := 122) (pc' := 140) rfl (hb hby at_122) rfl (tlt (by rw [hk0]; decide)).1 (by decide) (by decide) k) ?_
    show Go p e below _ T69 (mkF m 140 #[.val (.long i0), .second, .val (.long i1), .second, .val (.long i2), .second, .val (.int i3), .val (.int l0), .val (.int l1), .val (.int l2), .val (.int p0), .val (.int p1), .val (.int p2), .val (.int n), .val (.int c0), .val (.int c1), .val (.int c2), .val (.ref lp), .val (.ref o0), .unset, .unset] [])
    refine Go.step (fun _ k => XS.iload X69.here hx rfl (hb hby at_140) rfl k) ?_
    show Go p e below _ T69 (mkF m 142 #[.val (.long i0), .second, .val (.long i1), .second, .val (.long i2), .second, .val (.int i3), .val (.int l0), .val (.int l1), .val (.int l2), .val (.int p0), .val (.int p1), .val (.int p2), .val (.int n), .val (.int c0), .val (.int c1), .val (.int c2), .val (.ref lp), .val (.ref o0), .unset, .unset] [(.int n)])
    refine Go.step (fun _ k => XS.iconst X69.here hx rfl (hb hby at_142) k) ?_
    show Go p e below _ T69 (mkF m 143 #[.val (.long i0), .second, .val (.long i1), .second, .val (.long i2), .second, .val (.int i3), .val (.int l0), .val (.int l1), .val (.int l2), .val (.int p0), .val (.int p1), .val (.int p2), .val (.int n), .val (.int c0), .val (.int c1), .val (.int c2), .val (.ref lp), .val (.ref o0), .unset, .unset] [(.int (3 : Int32)), (.int n)])
    refine Go.step (fun _ k => XS.icmpYes X69.here hx rfl (pc0 := 143) (pc' := 161) rfl (hb hby at_143) rfl (tlt (by rw [hk0]; decide)).1 (by decide) (by decide) k) ?_
    show Go p e below _ T69 (mkF m 161 #[.val (.long i0), .second, .val (.long i1), .second, .val (.long i2), .second, .val (.int i3), .val (.int l0), .val (.int l1), .val (.int l2), .val (.int p0), .val (.int p1), .val (.int p2), .val (.int n), .val (.int c0), .val (.int c1), .val (.int c2), .val (.ref lp), .val (.ref o0), .unset, .unset] [])
    obtain ⟨T70, h70, X70, e70, E70, A70, D70, U70, st70⟩ := newO X69 hx hZ hown (hw _ (List.mem_of_getElem? (i := 16) rfl)) (hw _ (List.mem_of_getElem? (i := 17) rfl)) (hw _ (List.mem_of_getElem? (i := 18) rfl)) rfl (g := (mkF m 161 #[.val (.long i0), .second, .val (.long i1), .second, .val (.long i2), .second, .val (.int i3), .val (.int l0), .val (.int l1), .val (.int l2), .val (.int p0), .val (.int p1), .val (.int p2), .val (.int n), .val (.int c0), .val (.int c1), .val (.int c2), .val (.ref lp), .val (.ref o0), .unset, .unset] [])) rfl (hb hby at_161) (by decide) (by decide)
    obtain ⟨bb, g70⟩ : ∃ z, z = T69.heap.size := ⟨_, rfl⟩
    rw [← g70] at A70 D70 U70 st70
    have ne_lp_bb : lp ≠ bb := Nat.ne_of_lt (Nat.lt_of_lt_of_le E_lp.lt (Nat.le_of_eq g70.symm))
    have ne_o0_bb : o0 ≠ bb := Nat.ne_of_lt (Nat.lt_of_lt_of_le E_o0.lt (Nat.le_of_eq g70.symm))
    have g_bb : n0 ≤ bb := Nat.le_trans Zn (Nat.le_of_eq g70.symm)
    have sz_bb : h0.size ≤ bb := Nat.le_trans K0.1 (Nat.le_of_eq g70.symm)
    replace E_lp := E_lp.ext E70
    replace V_lp := V_lp.ext E70
    replace E_o0 := E_o0.ext E70
    replace F_cls_o0 := F_cls_o0.ext E70
    replace F_point_o0 := F_point_o0.ext E70
    replace F_previous_o0 := F_previous_o0.ext E70
    replace Zn := Nat.le_trans Zn E70.1
    replace K0 := K0.ext E70
    have E_bb := A70
    have F_changes_bb : Fld Z h70 bb "com/example/bidkeel/bidkeel/Knapsack$Best" "changes" "Lcom/example/bidkeel/bidkeel/Knapsack$Change;" .null := D70 (Or.inl (hw _ (List.mem_of_getElem? (i := 29) rfl))) (ty := (.object "com/example/bidkeel/bidkeel/Knapsack$Change")) (by decide)
    have F_profit_bb : Fld Z h70 bb "com/example/bidkeel/bidkeel/Knapsack$Best" "profit" "D" (.double 0) := D70 (Or.inl (hw _ (List.mem_of_getElem? (i := 31) rfl))) (ty := .double) (by decide)
    have F_units_bb : Fld Z h70 bb "com/example/bidkeel/bidkeel/Knapsack$Best" "units" "D" (.double 0) := D70 (Or.inl (hw _ (List.mem_of_getElem? (i := 33) rfl))) (ty := .double) (by decide)
    have F_steps_bb : Fld Z h70 bb "com/example/bidkeel/bidkeel/Knapsack$Best" "steps" "J" (.long (0 : Int64)) := D70 (Or.inl (hw _ (List.mem_of_getElem? (i := 35) rfl))) (ty := .long) (by decide)
    refine Go.step st70 ?_
    show Go p e below _ T70 (mkF m 164 #[.val (.long i0), .second, .val (.long i1), .second, .val (.long i2), .second, .val (.int i3), .val (.int l0), .val (.int l1), .val (.int l2), .val (.int p0), .val (.int p1), .val (.int p2), .val (.int n), .val (.int c0), .val (.int c1), .val (.int c2), .val (.ref lp), .val (.ref o0), .unset, .unset] [(.ref bb)])
    refine Go.step (fun _ k => XS.dup X70.here hx rfl (hb hby at_164) rfl rfl k) ?_
    show Go p e below _ T70 (mkF m 165 #[.val (.long i0), .second, .val (.long i1), .second, .val (.long i2), .second, .val (.int i3), .val (.int l0), .val (.int l1), .val (.int l2), .val (.int p0), .val (.int p1), .val (.int p2), .val (.int n), .val (.int c0), .val (.int c1), .val (.int c2), .val (.ref lp), .val (.ref o0), .unset, .unset] [(.ref bb), (.ref bb)])
    obtain ⟨_, _, ⟨T71, L71, k71, n71⟩, -, X71, ⟨Lc71, hQ71, l71, y71, z71⟩, st71⟩ := X70.specialBack hx (y := (⟨"com/example/bidkeel/bidkeel/Knapsack$Best", "<init>", "()V"⟩ : MethodName)) rfl hown (mvT hZ (hw _ (List.mem_of_getElem? (i := 19) rfl))) (mvT hZ (hw _ (List.mem_of_getElem? (i := 20) rfl))) (mvT hZ (hw _ (List.mem_of_getElem? (i := 21) rfl))) (by decide) (backOf (W := 1) (rmB l Z a0 hw [] bb h70 n0 Zn) hZ (hw _ (List.mem_of_getElem? (i := 21) rfl)) (hw _ (List.mem_of_getElem? (i := 18) rfl)) (by decide) (by decide)) (g := (mkF m 165 #[.val (.long i0), .second, .val (.long i1), .second, .val (.long i2), .second, .val (.int i3), .val (.int l0), .val (.int l1), .val (.int l2), .val (.int p0), .val (.int p1), .val (.int p2), .val (.int n), .val (.int c0), .val (.int c1), .val (.int c2), .val (.ref lp), .val (.ref o0), .unset, .unset] [(.ref bb), (.ref bb)])) rfl (by rw [hml]; rfl) (Steps.refl _) (a := bb) (argsL := []) (rest := [(.ref bb)]) (lenOf own_f92 rfl) rfl (by show 2 * 0 + _ ≤ _; exact Nat.le_of_eq rfl) (hb hby at_165) (fun _ _ => ⟨rfl, e70, (by dsimp only [Pt.cells, Pt.slots]; decide), (by dsimp only [Pt.cells, Pt.slots]; decide)⟩)
    dsimp only [Pt.U, Pt.locs, Pt.cells, Pt.slots] at X71 l71 y71 z71 st71 hQ71
    subst l71 y71 z71
    obtain ⟨rfl, N71q, e71⟩ := hQ71
    have N71 := Fr.app N69 N71q
    refine Go.step (fun _ k => st71.trans k) ?_
    show Go p e below _ T71 (mkF m 168 #[.val (.long i0), .second, .val (.long i1), .second, .val (.long i2), .second, .val (.int i3), .val (.int l0), .val (.int l1), .val (.int l2), .val (.int p0), .val (.int p1), .val (.int p2), .val (.int n), .val (.int c0), .val (.int c1), .val (.int c2), .val (.ref lp), .val (.ref o0), .unset, .unset] [(.ref bb)])
    refine Go.step (fun _ k => XS.astore X71.here hx rfl (hb hby at_168) rfl rfl (l' := #[.val (.long i0), .second, .val (.long i1), .second, .val (.long i2), .second, .val (.int i3), .val (.int l0), .val (.int l1), .val (.int l2), .val (.int p0), .val (.int p1), .val (.int p2), .val (.int n), .val (.int c0), .val (.int c1), .val (.int c2), .val (.ref lp), .val (.ref o0), .val (.ref bb), .unset]) rfl k) ?_
    show Go p e below _ T71 (mkF m 170 #[.val (.long i0), .second, .val (.long i1), .second, .val (.long i2), .second, .val (.int i3), .val (.int l0), .val (.int l1), .val (.int l2), .val (.int p0), .val (.int p1), .val (.int p2), .val (.int n), .val (.int c0), .val (.int c1), .val (.int c2), .val (.ref lp), .val (.ref o0), .val (.ref bb), .unset] [])
    refine Go.step (fun _ k => XS.aload X71.here hx rfl (hb hby at_170) rfl rfl k) ?_
    show Go p e below _ T71 (mkF m 172 #[.val (.long i0), .second, .val (.long i1), .second, .val (.long i2), .second, .val (.int i3), .val (.int l0), .val (.int l1), .val (.int l2), .val (.int p0), .val (.int p1), .val (.int p2), .val (.int n), .val (.int c0), .val (.int c1), .val (.int c2), .val (.ref lp), .val (.ref o0), .val (.ref bb), .unset] [(.ref bb)])
    refine Go.step (fun _ k => XS.aload X71.here hx rfl (hb hby at_172) rfl rfl k) ?_
    show Go p e below _ T71 (mkF m 174 #[.val (.long i0), .second, .val (.long i1), .second, .val (.long i2), .second, .val (.int i3), .val (.int l0), .val (.int l1), .val (.int l2), .val (.int p0), .val (.int p1), .val (.int p2), .val (.int n), .val (.int c0), .val (.int c1), .val (.int c2), .val (.ref lp), .val (.ref o0), .val (.ref bb), .unset] [(.ref o0), (.ref bb)])
    refine Go.step (fun _ k => XS.dconst0 X71.here hx rfl (hb hby at_174) rfl k) ?_
    show Go p e below _ T71 (mkF m 175 #[.val (.long i0), .second, .val (.long i1), .second, .val (.long i2), .second, .val (.int i3), .val (.int l0), .val (.int l1), .val (.int l2), .val (.int p0), .val (.int p1), .val (.int p2), .val (.int n), .val (.int c0), .val (.int c1), .val (.int c2), .val (.ref lp), .val (.ref o0), .val (.ref bb), .unset] [(.double FP.dconst0), (.ref o0), (.ref bb)])
    refine Go.step (fun _ k => XS.dconst0 X71.here hx rfl (hb hby at_175) rfl k) ?_
    show Go p e below _ T71 (mkF m 176 #[.val (.long i0), .second, .val (.long i1), .second, .val (.long i2), .second, .val (.int i3), .val (.int l0), .val (.int l1), .val (.int l2), .val (.int p0), .val (.int p1), .val (.int p2), .val (.int n), .val (.int c0), .val (.int c1), .val (.int c2), .val (.ref lp), .val (.ref o0), .val (.ref bb), .unset] [(.double FP.dconst0), (.double FP.dconst0), (.ref o0), (.ref bb)])
    refine Go.step (fun _ k => XS.lconst X71.here hx rfl (hb hby at_176) k) ?_
    show Go p e below _ T71 (mkF m 177 #[.val (.long i0), .second, .val (.long i1), .second, .val (.long i2), .second, .val (.int i3), .val (.int l0), .val (.int l1), .val (.int l2), .val (.int p0), .val (.int p1), .val (.int p2), .val (.int n), .val (.int c0), .val (.int c1), .val (.int c2), .val (.ref lp), .val (.ref o0), .val (.ref bb), .unset] [(.long (0 : Int64)), (.double FP.dconst0), (.double FP.dconst0), (.ref o0), (.ref bb)])
    obtain ⟨cq72, kq72, q72a, q72b, q72c⟩ := isOf hZ e71 E_bb
    obtain ⟨_, _, ⟨T72, L72, k72, n72⟩, -, X72, ⟨Lc72, hQ72, l72, y72, z72⟩, st72⟩ := X71.virtualBack hx (y := (⟨"com/example/bidkeel/bidkeel/Knapsack$Best", "take", "(Lcom/example/bidkeel/bidkeel/Knapsack$Change;DDJ)V"⟩ : MethodName)) (z := (⟨"com/example/bidkeel/bidkeel/Knapsack$Best", "take", "(Lcom/example/bidkeel/bidkeel/Knapsack$Change;DDJ)V"⟩ : MethodName)) hown (mvT hZ (hw _ (List.mem_of_getElem? (i := 23) rfl))) (mvT hZ (hw _ (List.mem_of_getElem? (i := 24) rfl))) (notFace_of_selects (args := #[]) (mvT hZ (hw _ (List.mem_of_getElem? (i := 26) rfl)))) (mvT hZ (hw _ (List.mem_of_getElem? (i := 26) rfl))) (mvT hZ (hw _ (List.mem_of_getElem? (i := 25) rfl))) (by decide) (backOf (W := 0) (rmTR l Z a0 hw [] bb o0 FP.dconst0 FP.dconst0 (0 : Int64) h70 n0 Zn E_bb F_changes_bb F_profit_bb F_units_bb F_steps_bb g_bb) hZ (hw _ (List.mem_of_getElem? (i := 27) rfl)) (hw _ (List.mem_of_getElem? (i := 18) rfl)) (by decide) (by decide)) q72a q72c (g := (mkF m 177 #[.val (.long i0), .second, .val (.long i1), .second, .val (.long i2), .second, .val (.int i3), .val (.int l0), .val (.int l1), .val (.int l2), .val (.int p0), .val (.int p1), .val (.int p2), .val (.int n), .val (.int c0), .val (.int c1), .val (.int c2), .val (.ref lp), .val (.ref o0), .val (.ref bb), .unset] [(.long (0 : Int64)), (.double FP.dconst0), (.double FP.dconst0), (.ref o0), (.ref bb)])) rfl (by rw [hml]; rfl) (Steps.refl _) (argsL := [(.ref o0), (.double FP.dconst0), (.double FP.dconst0), (.long (0 : Int64))]) (rest := []) (lenOf own_f93 rfl) rfl (by show 2 * 0 + _ ≤ _; exact Nat.le_of_eq rfl) (hb hby at_177) (fun _ _ => ⟨rfl, e71, (by dsimp only [Pt.cells, Pt.slots]; decide), (by dsimp only [Pt.cells, Pt.slots]; decide)⟩)
    dsimp only [Pt.U, Pt.locs, Pt.cells, Pt.slots] at X72 l72 y72 z72 st72 hQ72
    subst l72 y72 z72
    obtain ⟨rfl, N72q, K72, F_changes_bb⟩ := hQ72
    have N72 := Fr.app N71 N72q
    refine Go.step (fun _ k => st72.trans k) ?_
    replace E_lp := E_lp.keep K72
    replace V_lp := V_lp.keep K72 (ninS ne_lp_bb nin0)
    replace E_o0 := E_o0.keep K72
    replace F_cls_o0 := F_cls_o0.keep K72 (ninS ne_o0_bb nin0)
    replace F_point_o0 := F_point_o0.keep K72 (ninS ne_o0_bb nin0)
    replace F_previous_o0 := F_previous_o0.keep K72 (ninS ne_o0_bb nin0)
    replace E_bb := E_bb.keep K72
    replace K0 := K0.trans K72 (allS (Or.inr sz_bb) (all0))
    replace Zn := Nat.le_trans Zn K72.1
    show Go p e below _ T72 (mkF m 180 #[.val (.long i0), .second, .val (.long i1), .second, .val (.long i2), .second, .val (.int i3), .val (.int l0), .val (.int l1), .val (.int l2), .val (.int p0), .val (.int p1), .val (.int p2), .val (.int n), .val (.int c0), .val (.int c1), .val (.int c2), .val (.ref lp), .val (.ref o0), .val (.ref bb), .unset] [])
    refine Go.step (fun _ k => XS.aload X72.here hx rfl (hb hby at_180) rfl rfl k) ?_
    show Go p e below _ T72 (mkF m 182 #[.val (.long i0), .second, .val (.long i1), .second, .val (.long i2), .second, .val (.int i3), .val (.int l0), .val (.int l1), .val (.int l2), .val (.int p0), .val (.int p1), .val (.int p2), .val (.int n), .val (.int c0), .val (.int c1), .val (.int c2), .val (.ref lp), .val (.ref o0), .val (.ref bb), .unset] [(.ref bb)])
    refine Go.step (fun _ k => XS.aload X72.here hx rfl (hb hby at_182) rfl rfl k) ?_
    show Go p e below _ T72 (mkF m 184 #[.val (.long i0), .second, .val (.long i1), .second, .val (.long i2), .second, .val (.int i3), .val (.int l0), .val (.int l1), .val (.int l2), .val (.int p0), .val (.int p1), .val (.int p2), .val (.int n), .val (.int c0), .val (.int c1), .val (.int c2), .val (.ref lp), .val (.ref o0), .val (.ref bb), .unset] [(.ref lp), (.ref bb)])
    have hch : own_chn Z T72.heap [(c0, p0)] (.ref o0) := ⟨o0, _, rfl, F_cls_o0, F_point_o0, F_previous_o0, rfl⟩
    have hi3 : ∀ x ∈ ([(c0, p0)] : List (Int32 × Int32)), own_in3 x.1 := by
      intro x hx
      simp only [List.mem_cons, List.not_mem_nil, or_false] at hx
      rcases hx with rfl
      · exact own_in3_of hc0
    obtain ⟨cq73, kq73, q73a, q73b, q73c⟩ := isOf hZ rfl E_bb
    obtain ⟨_, _, ⟨T73, L73, k73, n73⟩, -, X73, ⟨Lc73, hQ73, l73, y73, z73⟩, st73⟩ := X72.virtualBack hx (y := (⟨"com/example/bidkeel/bidkeel/Knapsack$Best", "points", "([I)[I"⟩ : MethodName)) (z := (⟨"com/example/bidkeel/bidkeel/Knapsack$Best", "points", "([I)[I"⟩ : MethodName)) hown (mvT hZ (hw _ (List.mem_of_getElem? (i := 36) rfl))) (mvT hZ (hw _ (List.mem_of_getElem? (i := 37) rfl))) (notFace_of_selects (args := #[]) (mvT hZ (hw _ (List.mem_of_getElem? (i := 39) rfl)))) (mvT hZ (hw _ (List.mem_of_getElem? (i := 39) rfl))) (mvT hZ (hw _ (List.mem_of_getElem? (i := 38) rfl))) (by decide) (backOf (W := 0) (rmP l Z a0 hw [] bb lp (.ref o0) [(c0, p0)] l0 l1 l2 k50 T72.heap n0 Zn F_changes_bb hch hi3 V_lp E_lp) hZ (hw _ (List.mem_of_getElem? (i := 40) rfl)) (hw _ (List.mem_of_getElem? (i := 18) rfl)) (by decide) (by decide)) q73a q73c (g := (mkF m 184 #[.val (.long i0), .second, .val (.long i1), .second, .val (.long i2), .second, .val (.int i3), .val (.int l0), .val (.int l1), .val (.int l2), .val (.int p0), .val (.int p1), .val (.int p2), .val (.int n), .val (.int c0), .val (.int c1), .val (.int c2), .val (.ref lp), .val (.ref o0), .val (.ref bb), .unset] [(.ref lp), (.ref bb)])) rfl (by rw [hml]; rfl) (Steps.refl _) (argsL := [(.ref lp)]) (rest := []) (lenOf own_f94 rfl) rfl (by show 2 * 0 + _ ≤ _; exact Nat.le_of_eq rfl) (hb hby at_184) (fun _ _ => ⟨rfl, rfl, (by dsimp only [Pt.cells, Pt.slots]; decide), (by dsimp only [Pt.cells, Pt.slots]; decide)⟩)
    dsimp only [Pt.U, Pt.locs, Pt.cells, Pt.slots] at X73 l73 y73 z73 st73 hQ73
    subst l73 y73 z73
    obtain ⟨rr, kr, rfl, N73q, K73, V_rr⟩ := hQ73
    have N73 := Fr.app N72 N73q
    refine Go.step (fun _ k => st73.trans k) ?_
    replace E_lp := E_lp.keep K73
    replace V_lp := V_lp.keep K73 nin0
    replace E_o0 := E_o0.keep K73
    replace F_cls_o0 := F_cls_o0.keep K73 nin0
    replace F_point_o0 := F_point_o0.keep K73 nin0
    replace F_previous_o0 := F_previous_o0.keep K73 nin0
    replace E_bb := E_bb.keep K73
    replace F_changes_bb := F_changes_bb.keep K73 nin0
    replace K0 := K0.trans K73 (all0)
    replace Zn := Nat.le_trans Zn K73.1
    show Go p e below _ T73 (mkF m 187 #[.val (.long i0), .second, .val (.long i1), .second, .val (.long i2), .second, .val (.int i3), .val (.int l0), .val (.int l1), .val (.int l2), .val (.int p0), .val (.int p1), .val (.int p2), .val (.int n), .val (.int c0), .val (.int c1), .val (.int c2), .val (.ref lp), .val (.ref o0), .val (.ref bb), .unset] [(.ref rr)])
    have hsame := own_same n c0 c1 c2 p0 p1 p2 l0 l1 l2 hn hc0 hc1 hc2 [(c0, p0)] (by rw [hk0]; rfl)
    rw [hsame] at V_rr
    have V_rr : Arv Z T73.heap rr kr .int (3 : Int32) [(.int (own_exp 0 n c0 c1 c2 p0 p1 p2 l0)), (.int (own_exp 1 n c0 c1 c2 p0 p1 p2 l1)), (.int (own_exp 2 n c0 c1 c2 p0 p1 p2 l2))] (.int (0 : Int32)) := V_rr
    refine Go.step (fun _ k => XS.astore X73.here hx rfl (hb hby at_187) rfl rfl (l' := #[.val (.long i0), .second, .val (.long i1), .second, .val (.long i2), .second, .val (.int i3), .val (.int l0), .val (.int l1), .val (.int l2), .val (.int p0), .val (.int p1), .val (.int p2), .val (.int n), .val (.int c0), .val (.int c1), .val (.int c2), .val (.ref lp), .val (.ref o0), .val (.ref bb), .val (.ref rr)]) rfl k) ?_
    show Go p e below _ T73 (mkF m 189 #[.val (.long i0), .second, .val (.long i1), .second, .val (.long i2), .second, .val (.int i3), .val (.int l0), .val (.int l1), .val (.int l2), .val (.int p0), .val (.int p1), .val (.int p2), .val (.int n), .val (.int c0), .val (.int c1), .val (.int c2), .val (.ref lp), .val (.ref o0), .val (.ref bb), .val (.ref rr)] [])
    refine Go.step (fun _ k => XS.aload X73.here hx rfl (hb hby at_189) rfl rfl k) ?_
    show Go p e below _ T73 (mkF m 191 #[.val (.long i0), .second, .val (.long i1), .second, .val (.long i2), .second, .val (.int i3), .val (.int l0), .val (.int l1), .val (.int l2), .val (.int p0), .val (.int p1), .val (.int p2), .val (.int n), .val (.int c0), .val (.int c1), .val (.int c2), .val (.ref lp), .val (.ref o0), .val (.ref bb), .val (.ref rr)] [(.ref rr)])
    refine Go.step (fun _ k => XS.ifnullNo X73.here hx rfl (hb hby at_191) rfl k) ?_
    show Go p e below _ T73 (mkF m 194 #[.val (.long i0), .second, .val (.long i1), .second, .val (.long i2), .second, .val (.int i3), .val (.int l0), .val (.int l1), .val (.int l2), .val (.int p0), .val (.int p1), .val (.int p2), .val (.int n), .val (.int c0), .val (.int c1), .val (.int c2), .val (.ref lp), .val (.ref o0), .val (.ref bb), .val (.ref rr)] [])
    refine Go.step (fun _ k => XS.aload X73.here hx rfl (hb hby at_194) rfl rfl k) ?_
    show Go p e below _ T73 (mkF m 196 #[.val (.long i0), .second, .val (.long i1), .second, .val (.long i2), .second, .val (.int i3), .val (.int l0), .val (.int l1), .val (.int l2), .val (.int p0), .val (.int p1), .val (.int p2), .val (.int n), .val (.int c0), .val (.int c1), .val (.int c2), .val (.ref lp), .val (.ref o0), .val (.ref bb), .val (.ref rr)] [(.ref rr)])
    obtain ⟨cl74, Ar74, q74, S74, Nn74, H74, G74⟩ := V_rr
    have V_rr : Arv Z T73.heap rr kr .int (3 : Int32) [(.int (own_exp 0 n c0 c1 c2 p0 p1 p2 l0)), (.int (own_exp 1 n c0 c1 c2 p0 p1 p2 l1)), (.int (own_exp 2 n c0 c1 c2 p0 p1 p2 l2))] (.int (0 : Int32)) := ⟨cl74, Ar74, q74, S74, Nn74, H74, G74⟩
    refine Go.step (X73.arraylength hx Ar74.1 (State.isArrayOf_alike hZ.alike Ar74.2.1) (g := (mkF m 196 #[.val (.long i0), .second, .val (.long i1), .second, .val (.long i2), .second, .val (.int i3), .val (.int l0), .val (.int l1), .val (.int l2), .val (.int p0), .val (.int p1), .val (.int p2), .val (.int n), .val (.int c0), .val (.int c1), .val (.int c2), .val (.ref lp), .val (.ref o0), .val (.ref bb), .val (.ref rr)] [(.ref rr)])) rfl rfl (hb hby at_196)) ?_
    rw [len_of S74 Nn74]
    show Go p e below _ T73 (mkF m 197 #[.val (.long i0), .second, .val (.long i1), .second, .val (.long i2), .second, .val (.int i3), .val (.int l0), .val (.int l1), .val (.int l2), .val (.int p0), .val (.int p1), .val (.int p2), .val (.int n), .val (.int c0), .val (.int c1), .val (.int c2), .val (.ref lp), .val (.ref o0), .val (.ref bb), .val (.ref rr)] [(.int (3 : Int32))])
    refine Go.step (fun _ k => XS.iconst X73.here hx rfl (hb hby at_197) k) ?_
    show Go p e below _ T73 (mkF m 198 #[.val (.long i0), .second, .val (.long i1), .second, .val (.long i2), .second, .val (.int i3), .val (.int l0), .val (.int l1), .val (.int l2), .val (.int p0), .val (.int p1), .val (.int p2), .val (.int n), .val (.int c0), .val (.int c1), .val (.int c2), .val (.ref lp), .val (.ref o0), .val (.ref bb), .val (.ref rr)] [(.int (3 : Int32)), (.int (3 : Int32))])
    refine Go.step (fun _ k => XS.icmpYes X73.here hx rfl (pc0 := 198) (pc' := 203) rfl (hb hby at_198) rfl (teq rfl).1 (by decide) (by decide) k) ?_
    show Go p e below _ T73 (mkF m 203 #[.val (.long i0), .second, .val (.long i1), .second, .val (.long i2), .second, .val (.int i3), .val (.int l0), .val (.int l1), .val (.int l2), .val (.int p0), .val (.int p1), .val (.int p2), .val (.int n), .val (.int c0), .val (.int c1), .val (.int c2), .val (.ref lp), .val (.ref o0), .val (.ref bb), .val (.ref rr)] [])
    refine Go.step (fun _ k => XS.aload X73.here hx rfl (hb hby at_203) rfl rfl k) ?_
    show Go p e below _ T73 (mkF m 205 #[.val (.long i0), .second, .val (.long i1), .second, .val (.long i2), .second, .val (.int i3), .val (.int l0), .val (.int l1), .val (.int l2), .val (.int p0), .val (.int p1), .val (.int p2), .val (.int n), .val (.int c0), .val (.int c1), .val (.int c2), .val (.ref lp), .val (.ref o0), .val (.ref bb), .val (.ref rr)] [(.ref lp)])
    refine Go.step (fun _ k => XS.iconst X73.here hx rfl (hb hby at_205) k) ?_
    show Go p e below _ T73 (mkF m 206 #[.val (.long i0), .second, .val (.long i1), .second, .val (.long i2), .second, .val (.int i3), .val (.int l0), .val (.int l1), .val (.int l2), .val (.int p0), .val (.int p1), .val (.int p2), .val (.int n), .val (.int c0), .val (.int c1), .val (.int c2), .val (.ref lp), .val (.ref o0), .val (.ref bb), .val (.ref rr)] [(.int (0 : Int32)), (.ref lp)])
    obtain ⟨cl75, Ar75, q75, S75, Nn75, H75, G75⟩ := V_lp
    have V_lp : Arv Z T73.heap lp k50 .int (3 : Int32) [(.int l0), (.int l1), (.int l2)] (.int (0 : Int32)) := ⟨cl75, Ar75, q75, S75, Nn75, H75, G75⟩
    have hin75 : ¬ ((0 : Int32) < 0 ∨ cl75.slots.size ≤ ((0 : Int32)).toNatClampNeg) := inb_of S75 ⟨by decide, by decide⟩
    have hat75 : cl75.slots[((0 : Int32)).toNatClampNeg]? = some (.int l0) := Has.at H75 hin75 rfl
    refine Go.step (X73.iaload hx (j := (0 : Int32)) (v := (.int l0)) Ar75.1 (State.isArrayOf_alike hZ.alike Ar75.2.1) Ar75.2.2 hin75 hat75 (g := (mkF m 206 #[.val (.long i0), .second, .val (.long i1), .second, .val (.long i2), .second, .val (.int i3), .val (.int l0), .val (.int l1), .val (.int l2), .val (.int p0), .val (.int p1), .val (.int p2), .val (.int n), .val (.int c0), .val (.int c1), .val (.int c2), .val (.ref lp), .val (.ref o0), .val (.ref bb), .val (.ref rr)] [(.int (0 : Int32)), (.ref lp)])) rfl rfl (hb hby at_206)) ?_
    show Go p e below _ T73 (mkF m 207 #[.val (.long i0), .second, .val (.long i1), .second, .val (.long i2), .second, .val (.int i3), .val (.int l0), .val (.int l1), .val (.int l2), .val (.int p0), .val (.int p1), .val (.int p2), .val (.int n), .val (.int c0), .val (.int c1), .val (.int c2), .val (.ref lp), .val (.ref o0), .val (.ref bb), .val (.ref rr)] [(.int l0)])
    refine Go.step (fun _ k => XS.iload X73.here hx rfl (hb hby at_207) rfl k) ?_
    show Go p e below _ T73 (mkF m 209 #[.val (.long i0), .second, .val (.long i1), .second, .val (.long i2), .second, .val (.int i3), .val (.int l0), .val (.int l1), .val (.int l2), .val (.int p0), .val (.int p1), .val (.int p2), .val (.int n), .val (.int c0), .val (.int c1), .val (.int c2), .val (.ref lp), .val (.ref o0), .val (.ref bb), .val (.ref rr)] [(.int l0), (.int l0)])
    refine Go.step (fun _ k => XS.icmpNo X73.here hx rfl (hb hby at_209) rfl (teq rfl).2 k) ?_
    show Go p e below _ T73 (mkF m 212 #[.val (.long i0), .second, .val (.long i1), .second, .val (.long i2), .second, .val (.int i3), .val (.int l0), .val (.int l1), .val (.int l2), .val (.int p0), .val (.int p1), .val (.int p2), .val (.int n), .val (.int c0), .val (.int c1), .val (.int c2), .val (.ref lp), .val (.ref o0), .val (.ref bb), .val (.ref rr)] [])
    refine Go.step (fun _ k => XS.aload X73.here hx rfl (hb hby at_212) rfl rfl k) ?_
    show Go p e below _ T73 (mkF m 214 #[.val (.long i0), .second, .val (.long i1), .second, .val (.long i2), .second, .val (.int i3), .val (.int l0), .val (.int l1), .val (.int l2), .val (.int p0), .val (.int p1), .val (.int p2), .val (.int n), .val (.int c0), .val (.int c1), .val (.int c2), .val (.ref lp), .val (.ref o0), .val (.ref bb), .val (.ref rr)] [(.ref lp)])
    refine Go.step (fun _ k => XS.iconst X73.here hx rfl (hb hby at_214) k) ?_
    show Go p e below _ T73 (mkF m 215 #[.val (.long i0), .second, .val (.long i1), .second, .val (.long i2), .second, .val (.int i3), .val (.int l0), .val (.int l1), .val (.int l2), .val (.int p0), .val (.int p1), .val (.int p2), .val (.int n), .val (.int c0), .val (.int c1), .val (.int c2), .val (.ref lp), .val (.ref o0), .val (.ref bb), .val (.ref rr)] [(.int (1 : Int32)), (.ref lp)])
    obtain ⟨cl76, Ar76, q76, S76, Nn76, H76, G76⟩ := V_lp
    have V_lp : Arv Z T73.heap lp k50 .int (3 : Int32) [(.int l0), (.int l1), (.int l2)] (.int (0 : Int32)) := ⟨cl76, Ar76, q76, S76, Nn76, H76, G76⟩
    have hin76 : ¬ ((1 : Int32) < 0 ∨ cl76.slots.size ≤ ((1 : Int32)).toNatClampNeg) := inb_of S76 ⟨by decide, by decide⟩
    have hat76 : cl76.slots[((1 : Int32)).toNatClampNeg]? = some (.int l1) := Has.at H76 hin76 rfl
    refine Go.step (X73.iaload hx (j := (1 : Int32)) (v := (.int l1)) Ar76.1 (State.isArrayOf_alike hZ.alike Ar76.2.1) Ar76.2.2 hin76 hat76 (g := (mkF m 215 #[.val (.long i0), .second, .val (.long i1), .second, .val (.long i2), .second, .val (.int i3), .val (.int l0), .val (.int l1), .val (.int l2), .val (.int p0), .val (.int p1), .val (.int p2), .val (.int n), .val (.int c0), .val (.int c1), .val (.int c2), .val (.ref lp), .val (.ref o0), .val (.ref bb), .val (.ref rr)] [(.int (1 : Int32)), (.ref lp)])) rfl rfl (hb hby at_215)) ?_
    show Go p e below _ T73 (mkF m 216 #[.val (.long i0), .second, .val (.long i1), .second, .val (.long i2), .second, .val (.int i3), .val (.int l0), .val (.int l1), .val (.int l2), .val (.int p0), .val (.int p1), .val (.int p2), .val (.int n), .val (.int c0), .val (.int c1), .val (.int c2), .val (.ref lp), .val (.ref o0), .val (.ref bb), .val (.ref rr)] [(.int l1)])
    refine Go.step (fun _ k => XS.iload X73.here hx rfl (hb hby at_216) rfl k) ?_
    show Go p e below _ T73 (mkF m 218 #[.val (.long i0), .second, .val (.long i1), .second, .val (.long i2), .second, .val (.int i3), .val (.int l0), .val (.int l1), .val (.int l2), .val (.int p0), .val (.int p1), .val (.int p2), .val (.int n), .val (.int c0), .val (.int c1), .val (.int c2), .val (.ref lp), .val (.ref o0), .val (.ref bb), .val (.ref rr)] [(.int l1), (.int l1)])
    refine Go.step (fun _ k => XS.icmpNo X73.here hx rfl (hb hby at_218) rfl (teq rfl).2 k) ?_
    show Go p e below _ T73 (mkF m 221 #[.val (.long i0), .second, .val (.long i1), .second, .val (.long i2), .second, .val (.int i3), .val (.int l0), .val (.int l1), .val (.int l2), .val (.int p0), .val (.int p1), .val (.int p2), .val (.int n), .val (.int c0), .val (.int c1), .val (.int c2), .val (.ref lp), .val (.ref o0), .val (.ref bb), .val (.ref rr)] [])
    refine Go.step (fun _ k => XS.aload X73.here hx rfl (hb hby at_221) rfl rfl k) ?_
    show Go p e below _ T73 (mkF m 223 #[.val (.long i0), .second, .val (.long i1), .second, .val (.long i2), .second, .val (.int i3), .val (.int l0), .val (.int l1), .val (.int l2), .val (.int p0), .val (.int p1), .val (.int p2), .val (.int n), .val (.int c0), .val (.int c1), .val (.int c2), .val (.ref lp), .val (.ref o0), .val (.ref bb), .val (.ref rr)] [(.ref lp)])
    refine Go.step (fun _ k => XS.iconst X73.here hx rfl (hb hby at_223) k) ?_
    show Go p e below _ T73 (mkF m 224 #[.val (.long i0), .second, .val (.long i1), .second, .val (.long i2), .second, .val (.int i3), .val (.int l0), .val (.int l1), .val (.int l2), .val (.int p0), .val (.int p1), .val (.int p2), .val (.int n), .val (.int c0), .val (.int c1), .val (.int c2), .val (.ref lp), .val (.ref o0), .val (.ref bb), .val (.ref rr)] [(.int (2 : Int32)), (.ref lp)])
    obtain ⟨cl77, Ar77, q77, S77, Nn77, H77, G77⟩ := V_lp
    have V_lp : Arv Z T73.heap lp k50 .int (3 : Int32) [(.int l0), (.int l1), (.int l2)] (.int (0 : Int32)) := ⟨cl77, Ar77, q77, S77, Nn77, H77, G77⟩
    have hin77 : ¬ ((2 : Int32) < 0 ∨ cl77.slots.size ≤ ((2 : Int32)).toNatClampNeg) := inb_of S77 ⟨by decide, by decide⟩
    have hat77 : cl77.slots[((2 : Int32)).toNatClampNeg]? = some (.int l2) := Has.at H77 hin77 rfl
    refine Go.step (X73.iaload hx (j := (2 : Int32)) (v := (.int l2)) Ar77.1 (State.isArrayOf_alike hZ.alike Ar77.2.1) Ar77.2.2 hin77 hat77 (g := (mkF m 224 #[.val (.long i0), .second, .val (.long i1), .second, .val (.long i2), .second, .val (.int i3), .val (.int l0), .val (.int l1), .val (.int l2), .val (.int p0), .val (.int p1), .val (.int p2), .val (.int n), .val (.int c0), .val (.int c1), .val (.int c2), .val (.ref lp), .val (.ref o0), .val (.ref bb), .val (.ref rr)] [(.int (2 : Int32)), (.ref lp)])) rfl rfl (hb hby at_224)) ?_
    show Go p e below _ T73 (mkF m 225 #[.val (.long i0), .second, .val (.long i1), .second, .val (.long i2), .second, .val (.int i3), .val (.int l0), .val (.int l1), .val (.int l2), .val (.int p0), .val (.int p1), .val (.int p2), .val (.int n), .val (.int c0), .val (.int c1), .val (.int c2), .val (.ref lp), .val (.ref o0), .val (.ref bb), .val (.ref rr)] [(.int l2)])
    refine Go.step (fun _ k => XS.iload X73.here hx rfl (hb hby at_225) rfl k) ?_
    show Go p e below _ T73 (mkF m 227 #[.val (.long i0), .second, .val (.long i1), .second, .val (.long i2), .second, .val (.int i3), .val (.int l0), .val (.int l1), .val (.int l2), .val (.int p0), .val (.int p1), .val (.int p2), .val (.int n), .val (.int c0), .val (.int c1), .val (.int c2), .val (.ref lp), .val (.ref o0), .val (.ref bb), .val (.ref rr)] [(.int l2), (.int l2)])
    refine Go.step (fun _ k => XS.icmpYes X73.here hx rfl (pc0 := 227) (pc' := 232) rfl (hb hby at_227) rfl (teq rfl).1 (by decide) (by decide) k) ?_
    show Go p e below _ T73 (mkF m 232 #[.val (.long i0), .second, .val (.long i1), .second, .val (.long i2), .second, .val (.int i3), .val (.int l0), .val (.int l1), .val (.int l2), .val (.int p0), .val (.int p1), .val (.int p2), .val (.int n), .val (.int c0), .val (.int c1), .val (.int c2), .val (.ref lp), .val (.ref o0), .val (.ref bb), .val (.ref rr)] [])
    refine Go.step (fun _ k => XS.aload X73.here hx rfl (hb hby at_232) rfl rfl k) ?_
    show Go p e below _ T73 (mkF m 234 #[.val (.long i0), .second, .val (.long i1), .second, .val (.long i2), .second, .val (.int i3), .val (.int l0), .val (.int l1), .val (.int l2), .val (.int p0), .val (.int p1), .val (.int p2), .val (.int n), .val (.int c0), .val (.int c1), .val (.int c2), .val (.ref lp), .val (.ref o0), .val (.ref bb), .val (.ref rr)] [(.ref rr)])
    refine Go.step (fun _ k => XS.iconst X73.here hx rfl (hb hby at_234) k) ?_
    show Go p e below _ T73 (mkF m 235 #[.val (.long i0), .second, .val (.long i1), .second, .val (.long i2), .second, .val (.int i3), .val (.int l0), .val (.int l1), .val (.int l2), .val (.int p0), .val (.int p1), .val (.int p2), .val (.int n), .val (.int c0), .val (.int c1), .val (.int c2), .val (.ref lp), .val (.ref o0), .val (.ref bb), .val (.ref rr)] [(.int (0 : Int32)), (.ref rr)])
    obtain ⟨cl78, Ar78, q78, S78, Nn78, H78, G78⟩ := V_rr
    have V_rr : Arv Z T73.heap rr kr .int (3 : Int32) [(.int (own_exp 0 n c0 c1 c2 p0 p1 p2 l0)), (.int (own_exp 1 n c0 c1 c2 p0 p1 p2 l1)), (.int (own_exp 2 n c0 c1 c2 p0 p1 p2 l2))] (.int (0 : Int32)) := ⟨cl78, Ar78, q78, S78, Nn78, H78, G78⟩
    have hin78 : ¬ ((0 : Int32) < 0 ∨ cl78.slots.size ≤ ((0 : Int32)).toNatClampNeg) := inb_of S78 ⟨by decide, by decide⟩
    have hat78 : cl78.slots[((0 : Int32)).toNatClampNeg]? = some (.int (own_exp 0 n c0 c1 c2 p0 p1 p2 l0)) := Has.at H78 hin78 rfl
    refine Go.step (X73.iaload hx (j := (0 : Int32)) (v := (.int (own_exp 0 n c0 c1 c2 p0 p1 p2 l0))) Ar78.1 (State.isArrayOf_alike hZ.alike Ar78.2.1) Ar78.2.2 hin78 hat78 (g := (mkF m 235 #[.val (.long i0), .second, .val (.long i1), .second, .val (.long i2), .second, .val (.int i3), .val (.int l0), .val (.int l1), .val (.int l2), .val (.int p0), .val (.int p1), .val (.int p2), .val (.int n), .val (.int c0), .val (.int c1), .val (.int c2), .val (.ref lp), .val (.ref o0), .val (.ref bb), .val (.ref rr)] [(.int (0 : Int32)), (.ref rr)])) rfl rfl (hb hby at_235)) ?_
    show Go p e below _ T73 (mkF m 236 #[.val (.long i0), .second, .val (.long i1), .second, .val (.long i2), .second, .val (.int i3), .val (.int l0), .val (.int l1), .val (.int l2), .val (.int p0), .val (.int p1), .val (.int p2), .val (.int n), .val (.int c0), .val (.int c1), .val (.int c2), .val (.ref lp), .val (.ref o0), .val (.ref bb), .val (.ref rr)] [(.int (own_exp 0 n c0 c1 c2 p0 p1 p2 l0))])
    refine Go.step (fun _ k => XS.iconst X73.here hx rfl (hb hby at_236) k) ?_
    show Go p e below _ T73 (mkF m 237 #[.val (.long i0), .second, .val (.long i1), .second, .val (.long i2), .second, .val (.int i3), .val (.int l0), .val (.int l1), .val (.int l2), .val (.int p0), .val (.int p1), .val (.int p2), .val (.int n), .val (.int c0), .val (.int c1), .val (.int c2), .val (.ref lp), .val (.ref o0), .val (.ref bb), .val (.ref rr)] [(.int (0 : Int32)), (.int (own_exp 0 n c0 c1 c2 p0 p1 p2 l0))])
    refine Go.step (fun _ k => XS.iload X73.here hx rfl (hb hby at_237) rfl k) ?_
    show Go p e below _ T73 (mkF m 239 #[.val (.long i0), .second, .val (.long i1), .second, .val (.long i2), .second, .val (.int i3), .val (.int l0), .val (.int l1), .val (.int l2), .val (.int p0), .val (.int p1), .val (.int p2), .val (.int n), .val (.int c0), .val (.int c1), .val (.int c2), .val (.ref lp), .val (.ref o0), .val (.ref bb), .val (.ref rr)] [(.int n), (.int (0 : Int32)), (.int (own_exp 0 n c0 c1 c2 p0 p1 p2 l0))])
    refine Go.step (fun _ k => XS.iload X73.here hx rfl (hb hby at_239) rfl k) ?_
    show Go p e below _ T73 (mkF m 241 #[.val (.long i0), .second, .val (.long i1), .second, .val (.long i2), .second, .val (.int i3), .val (.int l0), .val (.int l1), .val (.int l2), .val (.int p0), .val (.int p1), .val (.int p2), .val (.int n), .val (.int c0), .val (.int c1), .val (.int c2), .val (.ref lp), .val (.ref o0), .val (.ref bb), .val (.ref rr)] [(.int c0), (.int n), (.int (0 : Int32)), (.int (own_exp 0 n c0 c1 c2 p0 p1 p2 l0))])
    refine Go.step (fun _ k => XS.iload X73.here hx rfl (hb hby at_241) rfl k) ?_
    show Go p e below _ T73 (mkF m 243 #[.val (.long i0), .second, .val (.long i1), .second, .val (.long i2), .second, .val (.int i3), .val (.int l0), .val (.int l1), .val (.int l2), .val (.int p0), .val (.int p1), .val (.int p2), .val (.int n), .val (.int c0), .val (.int c1), .val (.int c2), .val (.ref lp), .val (.ref o0), .val (.ref bb), .val (.ref rr)] [(.int c1), (.int c0), (.int n), (.int (0 : Int32)), (.int (own_exp 0 n c0 c1 c2 p0 p1 p2 l0))])
    refine Go.step (fun _ k => XS.iload X73.here hx rfl (hb hby at_243) rfl k) ?_
    show Go p e below _ T73 (mkF m 245 #[.val (.long i0), .second, .val (.long i1), .second, .val (.long i2), .second, .val (.int i3), .val (.int l0), .val (.int l1), .val (.int l2), .val (.int p0), .val (.int p1), .val (.int p2), .val (.int n), .val (.int c0), .val (.int c1), .val (.int c2), .val (.ref lp), .val (.ref o0), .val (.ref bb), .val (.ref rr)] [(.int c2), (.int c1), (.int c0), (.int n), (.int (0 : Int32)), (.int (own_exp 0 n c0 c1 c2 p0 p1 p2 l0))])
    refine Go.step (fun _ k => XS.iload X73.here hx rfl (hb hby at_245) rfl k) ?_
    show Go p e below _ T73 (mkF m 247 #[.val (.long i0), .second, .val (.long i1), .second, .val (.long i2), .second, .val (.int i3), .val (.int l0), .val (.int l1), .val (.int l2), .val (.int p0), .val (.int p1), .val (.int p2), .val (.int n), .val (.int c0), .val (.int c1), .val (.int c2), .val (.ref lp), .val (.ref o0), .val (.ref bb), .val (.ref rr)] [(.int p0), (.int c2), (.int c1), (.int c0), (.int n), (.int (0 : Int32)), (.int (own_exp 0 n c0 c1 c2 p0 p1 p2 l0))])
    refine Go.step (fun _ k => XS.iload X73.here hx rfl (hb hby at_247) rfl k) ?_
    show Go p e below _ T73 (mkF m 249 #[.val (.long i0), .second, .val (.long i1), .second, .val (.long i2), .second, .val (.int i3), .val (.int l0), .val (.int l1), .val (.int l2), .val (.int p0), .val (.int p1), .val (.int p2), .val (.int n), .val (.int c0), .val (.int c1), .val (.int c2), .val (.ref lp), .val (.ref o0), .val (.ref bb), .val (.ref rr)] [(.int p1), (.int p0), (.int c2), (.int c1), (.int c0), (.int n), (.int (0 : Int32)), (.int (own_exp 0 n c0 c1 c2 p0 p1 p2 l0))])
    refine Go.step (fun _ k => XS.iload X73.here hx rfl (hb hby at_249) rfl k) ?_
    show Go p e below _ T73 (mkF m 251 #[.val (.long i0), .second, .val (.long i1), .second, .val (.long i2), .second, .val (.int i3), .val (.int l0), .val (.int l1), .val (.int l2), .val (.int p0), .val (.int p1), .val (.int p2), .val (.int n), .val (.int c0), .val (.int c1), .val (.int c2), .val (.ref lp), .val (.ref o0), .val (.ref bb), .val (.ref rr)] [(.int p2), (.int p1), (.int p0), (.int c2), (.int c1), (.int c0), (.int n), (.int (0 : Int32)), (.int (own_exp 0 n c0 c1 c2 p0 p1 p2 l0))])
    refine Go.step (fun _ k => XS.iload X73.here hx rfl (hb hby at_251) rfl k) ?_
    show Go p e below _ T73 (mkF m 253 #[.val (.long i0), .second, .val (.long i1), .second, .val (.long i2), .second, .val (.int i3), .val (.int l0), .val (.int l1), .val (.int l2), .val (.int p0), .val (.int p1), .val (.int p2), .val (.int n), .val (.int c0), .val (.int c1), .val (.int c2), .val (.ref lp), .val (.ref o0), .val (.ref bb), .val (.ref rr)] [(.int l0), (.int p2), (.int p1), (.int p0), (.int c2), (.int c1), (.int c0), (.int n), (.int (0 : Int32)), (.int (own_exp 0 n c0 c1 c2 p0 p1 p2 l0))])
    obtain ⟨_, _, ⟨T79, L79, k79, n79⟩, -, X79, ⟨Lc79, hQ79, l79, y79, z79⟩, st79⟩ := Jvm.LawKit.callS X73 hx (y := (⟨"com/example/bidkeel/bidkeel/BestPointsPinLaw", "expected", "(IIIIIIIII)I"⟩ : MethodName)) hown (mvT hZ (hw _ (List.mem_of_getElem? (i := 54) rfl))) (mvT hZ (hw _ (List.mem_of_getElem? (i := 55) rfl))) (mvT hZ (hw _ (List.mem_of_getElem? (i := 56) rfl))) (mvT hZ (hw _ (List.mem_of_getElem? (i := 57) rfl))) (by decide) (backOf (W := 1) (rmX l Z a0 hw [] (0 : Int32) n c0 c1 c2 p0 p1 p2 l0 T73.heap n0 Zn) hZ (hw _ (List.mem_of_getElem? (i := 57) rfl)) (hw _ (List.mem_of_getElem? (i := 56) rfl)) (by decide) (by decide)) (g := (mkF m 253 #[.val (.long i0), .second, .val (.long i1), .second, .val (.long i2), .second, .val (.int i3), .val (.int l0), .val (.int l1), .val (.int l2), .val (.int p0), .val (.int p1), .val (.int p2), .val (.int n), .val (.int c0), .val (.int c1), .val (.int c2), .val (.ref lp), .val (.ref o0), .val (.ref bb), .val (.ref rr)] [(.int l0), (.int p2), (.int p1), (.int p0), (.int c2), (.int c1), (.int c0), (.int n), (.int (0 : Int32)), (.int (own_exp 0 n c0 c1 c2 p0 p1 p2 l0))])) rfl (by rw [hml]; rfl) (argsL := [(.int (0 : Int32)), (.int n), (.int c0), (.int c1), (.int c2), (.int p0), (.int p1), (.int p2), (.int l0)]) (rest := [(.int (own_exp 0 n c0 c1 c2 p0 p1 p2 l0))]) (lenOf own_f95 rfl) rfl (by show 2 * 0 + _ ≤ _; exact Nat.le_of_eq rfl) (hb hby at_253) (fun _ _ => ⟨rfl, rfl, (by dsimp only [Pt.cells, Pt.slots]; decide), (by dsimp only [Pt.cells, Pt.slots]; decide)⟩)
    dsimp only [Pt.U, Pt.locs, Pt.cells, Pt.slots] at X79 l79 y79 z79 st79 hQ79
    subst l79 y79 z79
    obtain ⟨rfl, N79q, e79⟩ := hQ79
    have N79 := Fr.app N73 N79q
    refine Go.step (st79) ?_
    show Go p e below _ T79 (mkF m 256 #[.val (.long i0), .second, .val (.long i1), .second, .val (.long i2), .second, .val (.int i3), .val (.int l0), .val (.int l1), .val (.int l2), .val (.int p0), .val (.int p1), .val (.int p2), .val (.int n), .val (.int c0), .val (.int c1), .val (.int c2), .val (.ref lp), .val (.ref o0), .val (.ref bb), .val (.ref rr)] [(.int (own_exp 0 n c0 c1 c2 p0 p1 p2 l0)), (.int (own_exp 0 n c0 c1 c2 p0 p1 p2 l0))])
    refine Go.step (fun _ k => XS.icmpNo X79.here hx rfl (hb hby at_256) rfl (teq rfl).2 k) ?_
    show Go p e below _ T79 (mkF m 259 #[.val (.long i0), .second, .val (.long i1), .second, .val (.long i2), .second, .val (.int i3), .val (.int l0), .val (.int l1), .val (.int l2), .val (.int p0), .val (.int p1), .val (.int p2), .val (.int n), .val (.int c0), .val (.int c1), .val (.int c2), .val (.ref lp), .val (.ref o0), .val (.ref bb), .val (.ref rr)] [])
    refine Go.step (fun _ k => XS.aload X79.here hx rfl (hb hby at_259) rfl rfl k) ?_
    show Go p e below _ T79 (mkF m 261 #[.val (.long i0), .second, .val (.long i1), .second, .val (.long i2), .second, .val (.int i3), .val (.int l0), .val (.int l1), .val (.int l2), .val (.int p0), .val (.int p1), .val (.int p2), .val (.int n), .val (.int c0), .val (.int c1), .val (.int c2), .val (.ref lp), .val (.ref o0), .val (.ref bb), .val (.ref rr)] [(.ref rr)])
    refine Go.step (fun _ k => XS.iconst X79.here hx rfl (hb hby at_261) k) ?_
    show Go p e below _ T79 (mkF m 262 #[.val (.long i0), .second, .val (.long i1), .second, .val (.long i2), .second, .val (.int i3), .val (.int l0), .val (.int l1), .val (.int l2), .val (.int p0), .val (.int p1), .val (.int p2), .val (.int n), .val (.int c0), .val (.int c1), .val (.int c2), .val (.ref lp), .val (.ref o0), .val (.ref bb), .val (.ref rr)] [(.int (1 : Int32)), (.ref rr)])
    obtain ⟨cl80, Ar80, q80, S80, Nn80, H80, G80⟩ := V_rr
    have V_rr : Arv Z T73.heap rr kr .int (3 : Int32) [(.int (own_exp 0 n c0 c1 c2 p0 p1 p2 l0)), (.int (own_exp 1 n c0 c1 c2 p0 p1 p2 l1)), (.int (own_exp 2 n c0 c1 c2 p0 p1 p2 l2))] (.int (0 : Int32)) := ⟨cl80, Ar80, q80, S80, Nn80, H80, G80⟩
    have hin80 : ¬ ((1 : Int32) < 0 ∨ cl80.slots.size ≤ ((1 : Int32)).toNatClampNeg) := inb_of S80 ⟨by decide, by decide⟩
    have hat80 : cl80.slots[((1 : Int32)).toNatClampNeg]? = some (.int (own_exp 1 n c0 c1 c2 p0 p1 p2 l1)) := Has.at H80 hin80 rfl
    refine Go.step (X79.iaload hx (j := (1 : Int32)) (v := (.int (own_exp 1 n c0 c1 c2 p0 p1 p2 l1))) (by rw [e79]; exact Ar80.1) (State.isArrayOf_alike hZ.alike Ar80.2.1) Ar80.2.2 hin80 hat80 (g := (mkF m 262 #[.val (.long i0), .second, .val (.long i1), .second, .val (.long i2), .second, .val (.int i3), .val (.int l0), .val (.int l1), .val (.int l2), .val (.int p0), .val (.int p1), .val (.int p2), .val (.int n), .val (.int c0), .val (.int c1), .val (.int c2), .val (.ref lp), .val (.ref o0), .val (.ref bb), .val (.ref rr)] [(.int (1 : Int32)), (.ref rr)])) rfl rfl (hb hby at_262)) ?_
    show Go p e below _ T79 (mkF m 263 #[.val (.long i0), .second, .val (.long i1), .second, .val (.long i2), .second, .val (.int i3), .val (.int l0), .val (.int l1), .val (.int l2), .val (.int p0), .val (.int p1), .val (.int p2), .val (.int n), .val (.int c0), .val (.int c1), .val (.int c2), .val (.ref lp), .val (.ref o0), .val (.ref bb), .val (.ref rr)] [(.int (own_exp 1 n c0 c1 c2 p0 p1 p2 l1))])
    refine Go.step (fun _ k => XS.iconst X79.here hx rfl (hb hby at_263) k) ?_
    show Go p e below _ T79 (mkF m 264 #[.val (.long i0), .second, .val (.long i1), .second, .val (.long i2), .second, .val (.int i3), .val (.int l0), .val (.int l1), .val (.int l2), .val (.int p0), .val (.int p1), .val (.int p2), .val (.int n), .val (.int c0), .val (.int c1), .val (.int c2), .val (.ref lp), .val (.ref o0), .val (.ref bb), .val (.ref rr)] [(.int (1 : Int32)), (.int (own_exp 1 n c0 c1 c2 p0 p1 p2 l1))])
    refine Go.step (fun _ k => XS.iload X79.here hx rfl (hb hby at_264) rfl k) ?_
    show Go p e below _ T79 (mkF m 266 #[.val (.long i0), .second, .val (.long i1), .second, .val (.long i2), .second, .val (.int i3), .val (.int l0), .val (.int l1), .val (.int l2), .val (.int p0), .val (.int p1), .val (.int p2), .val (.int n), .val (.int c0), .val (.int c1), .val (.int c2), .val (.ref lp), .val (.ref o0), .val (.ref bb), .val (.ref rr)] [(.int n), (.int (1 : Int32)), (.int (own_exp 1 n c0 c1 c2 p0 p1 p2 l1))])
    refine Go.step (fun _ k => XS.iload X79.here hx rfl (hb hby at_266) rfl k) ?_
    show Go p e below _ T79 (mkF m 268 #[.val (.long i0), .second, .val (.long i1), .second, .val (.long i2), .second, .val (.int i3), .val (.int l0), .val (.int l1), .val (.int l2), .val (.int p0), .val (.int p1), .val (.int p2), .val (.int n), .val (.int c0), .val (.int c1), .val (.int c2), .val (.ref lp), .val (.ref o0), .val (.ref bb), .val (.ref rr)] [(.int c0), (.int n), (.int (1 : Int32)), (.int (own_exp 1 n c0 c1 c2 p0 p1 p2 l1))])
    refine Go.step (fun _ k => XS.iload X79.here hx rfl (hb hby at_268) rfl k) ?_
    show Go p e below _ T79 (mkF m 270 #[.val (.long i0), .second, .val (.long i1), .second, .val (.long i2), .second, .val (.int i3), .val (.int l0), .val (.int l1), .val (.int l2), .val (.int p0), .val (.int p1), .val (.int p2), .val (.int n), .val (.int c0), .val (.int c1), .val (.int c2), .val (.ref lp), .val (.ref o0), .val (.ref bb), .val (.ref rr)] [(.int c1), (.int c0), (.int n), (.int (1 : Int32)), (.int (own_exp 1 n c0 c1 c2 p0 p1 p2 l1))])
    refine Go.step (fun _ k => XS.iload X79.here hx rfl (hb hby at_270) rfl k) ?_
    show Go p e below _ T79 (mkF m 272 #[.val (.long i0), .second, .val (.long i1), .second, .val (.long i2), .second, .val (.int i3), .val (.int l0), .val (.int l1), .val (.int l2), .val (.int p0), .val (.int p1), .val (.int p2), .val (.int n), .val (.int c0), .val (.int c1), .val (.int c2), .val (.ref lp), .val (.ref o0), .val (.ref bb), .val (.ref rr)] [(.int c2), (.int c1), (.int c0), (.int n), (.int (1 : Int32)), (.int (own_exp 1 n c0 c1 c2 p0 p1 p2 l1))])
    refine Go.step (fun _ k => XS.iload X79.here hx rfl (hb hby at_272) rfl k) ?_
    show Go p e below _ T79 (mkF m 274 #[.val (.long i0), .second, .val (.long i1), .second, .val (.long i2), .second, .val (.int i3), .val (.int l0), .val (.int l1), .val (.int l2), .val (.int p0), .val (.int p1), .val (.int p2), .val (.int n), .val (.int c0), .val (.int c1), .val (.int c2), .val (.ref lp), .val (.ref o0), .val (.ref bb), .val (.ref rr)] [(.int p0), (.int c2), (.int c1), (.int c0), (.int n), (.int (1 : Int32)), (.int (own_exp 1 n c0 c1 c2 p0 p1 p2 l1))])
    refine Go.step (fun _ k => XS.iload X79.here hx rfl (hb hby at_274) rfl k) ?_
    show Go p e below _ T79 (mkF m 276 #[.val (.long i0), .second, .val (.long i1), .second, .val (.long i2), .second, .val (.int i3), .val (.int l0), .val (.int l1), .val (.int l2), .val (.int p0), .val (.int p1), .val (.int p2), .val (.int n), .val (.int c0), .val (.int c1), .val (.int c2), .val (.ref lp), .val (.ref o0), .val (.ref bb), .val (.ref rr)] [(.int p1), (.int p0), (.int c2), (.int c1), (.int c0), (.int n), (.int (1 : Int32)), (.int (own_exp 1 n c0 c1 c2 p0 p1 p2 l1))])
    refine Go.step (fun _ k => XS.iload X79.here hx rfl (hb hby at_276) rfl k) ?_
    show Go p e below _ T79 (mkF m 278 #[.val (.long i0), .second, .val (.long i1), .second, .val (.long i2), .second, .val (.int i3), .val (.int l0), .val (.int l1), .val (.int l2), .val (.int p0), .val (.int p1), .val (.int p2), .val (.int n), .val (.int c0), .val (.int c1), .val (.int c2), .val (.ref lp), .val (.ref o0), .val (.ref bb), .val (.ref rr)] [(.int p2), (.int p1), (.int p0), (.int c2), (.int c1), (.int c0), (.int n), (.int (1 : Int32)), (.int (own_exp 1 n c0 c1 c2 p0 p1 p2 l1))])
    refine Go.step (fun _ k => XS.iload X79.here hx rfl (hb hby at_278) rfl k) ?_
    show Go p e below _ T79 (mkF m 280 #[.val (.long i0), .second, .val (.long i1), .second, .val (.long i2), .second, .val (.int i3), .val (.int l0), .val (.int l1), .val (.int l2), .val (.int p0), .val (.int p1), .val (.int p2), .val (.int n), .val (.int c0), .val (.int c1), .val (.int c2), .val (.ref lp), .val (.ref o0), .val (.ref bb), .val (.ref rr)] [(.int l1), (.int p2), (.int p1), (.int p0), (.int c2), (.int c1), (.int c0), (.int n), (.int (1 : Int32)), (.int (own_exp 1 n c0 c1 c2 p0 p1 p2 l1))])
    obtain ⟨_, _, ⟨T81, L81, k81, n81⟩, -, X81, ⟨Lc81, hQ81, l81, y81, z81⟩, st81⟩ := Jvm.LawKit.callS X79 hx (y := (⟨"com/example/bidkeel/bidkeel/BestPointsPinLaw", "expected", "(IIIIIIIII)I"⟩ : MethodName)) hown (mvT hZ (hw _ (List.mem_of_getElem? (i := 54) rfl))) (mvT hZ (hw _ (List.mem_of_getElem? (i := 55) rfl))) (mvT hZ (hw _ (List.mem_of_getElem? (i := 56) rfl))) (mvT hZ (hw _ (List.mem_of_getElem? (i := 57) rfl))) (by decide) (backOf (W := 1) (rmX l Z a0 hw [] (1 : Int32) n c0 c1 c2 p0 p1 p2 l1 T73.heap n0 Zn) hZ (hw _ (List.mem_of_getElem? (i := 57) rfl)) (hw _ (List.mem_of_getElem? (i := 56) rfl)) (by decide) (by decide)) (g := (mkF m 280 #[.val (.long i0), .second, .val (.long i1), .second, .val (.long i2), .second, .val (.int i3), .val (.int l0), .val (.int l1), .val (.int l2), .val (.int p0), .val (.int p1), .val (.int p2), .val (.int n), .val (.int c0), .val (.int c1), .val (.int c2), .val (.ref lp), .val (.ref o0), .val (.ref bb), .val (.ref rr)] [(.int l1), (.int p2), (.int p1), (.int p0), (.int c2), (.int c1), (.int c0), (.int n), (.int (1 : Int32)), (.int (own_exp 1 n c0 c1 c2 p0 p1 p2 l1))])) rfl (by rw [hml]; rfl) (argsL := [(.int (1 : Int32)), (.int n), (.int c0), (.int c1), (.int c2), (.int p0), (.int p1), (.int p2), (.int l1)]) (rest := [(.int (own_exp 1 n c0 c1 c2 p0 p1 p2 l1))]) (lenOf own_f95 rfl) rfl (by show 2 * 0 + _ ≤ _; exact Nat.le_of_eq rfl) (hb hby at_280) (fun _ _ => ⟨rfl, e79, (by dsimp only [Pt.cells, Pt.slots]; decide), (by dsimp only [Pt.cells, Pt.slots]; decide)⟩)
    dsimp only [Pt.U, Pt.locs, Pt.cells, Pt.slots] at X81 l81 y81 z81 st81 hQ81
    subst l81 y81 z81
    obtain ⟨rfl, N81q, e81⟩ := hQ81
    have N81 := Fr.app N79 N81q
    refine Go.step (st81) ?_
    show Go p e below _ T81 (mkF m 283 #[.val (.long i0), .second, .val (.long i1), .second, .val (.long i2), .second, .val (.int i3), .val (.int l0), .val (.int l1), .val (.int l2), .val (.int p0), .val (.int p1), .val (.int p2), .val (.int n), .val (.int c0), .val (.int c1), .val (.int c2), .val (.ref lp), .val (.ref o0), .val (.ref bb), .val (.ref rr)] [(.int (own_exp 1 n c0 c1 c2 p0 p1 p2 l1)), (.int (own_exp 1 n c0 c1 c2 p0 p1 p2 l1))])
    refine Go.step (fun _ k => XS.icmpNo X81.here hx rfl (hb hby at_283) rfl (teq rfl).2 k) ?_
    show Go p e below _ T81 (mkF m 286 #[.val (.long i0), .second, .val (.long i1), .second, .val (.long i2), .second, .val (.int i3), .val (.int l0), .val (.int l1), .val (.int l2), .val (.int p0), .val (.int p1), .val (.int p2), .val (.int n), .val (.int c0), .val (.int c1), .val (.int c2), .val (.ref lp), .val (.ref o0), .val (.ref bb), .val (.ref rr)] [])
    refine Go.step (fun _ k => XS.aload X81.here hx rfl (hb hby at_286) rfl rfl k) ?_
    show Go p e below _ T81 (mkF m 288 #[.val (.long i0), .second, .val (.long i1), .second, .val (.long i2), .second, .val (.int i3), .val (.int l0), .val (.int l1), .val (.int l2), .val (.int p0), .val (.int p1), .val (.int p2), .val (.int n), .val (.int c0), .val (.int c1), .val (.int c2), .val (.ref lp), .val (.ref o0), .val (.ref bb), .val (.ref rr)] [(.ref rr)])
    refine Go.step (fun _ k => XS.iconst X81.here hx rfl (hb hby at_288) k) ?_
    show Go p e below _ T81 (mkF m 289 #[.val (.long i0), .second, .val (.long i1), .second, .val (.long i2), .second, .val (.int i3), .val (.int l0), .val (.int l1), .val (.int l2), .val (.int p0), .val (.int p1), .val (.int p2), .val (.int n), .val (.int c0), .val (.int c1), .val (.int c2), .val (.ref lp), .val (.ref o0), .val (.ref bb), .val (.ref rr)] [(.int (2 : Int32)), (.ref rr)])
    obtain ⟨cl82, Ar82, q82, S82, Nn82, H82, G82⟩ := V_rr
    have V_rr : Arv Z T73.heap rr kr .int (3 : Int32) [(.int (own_exp 0 n c0 c1 c2 p0 p1 p2 l0)), (.int (own_exp 1 n c0 c1 c2 p0 p1 p2 l1)), (.int (own_exp 2 n c0 c1 c2 p0 p1 p2 l2))] (.int (0 : Int32)) := ⟨cl82, Ar82, q82, S82, Nn82, H82, G82⟩
    have hin82 : ¬ ((2 : Int32) < 0 ∨ cl82.slots.size ≤ ((2 : Int32)).toNatClampNeg) := inb_of S82 ⟨by decide, by decide⟩
    have hat82 : cl82.slots[((2 : Int32)).toNatClampNeg]? = some (.int (own_exp 2 n c0 c1 c2 p0 p1 p2 l2)) := Has.at H82 hin82 rfl
    refine Go.step (X81.iaload hx (j := (2 : Int32)) (v := (.int (own_exp 2 n c0 c1 c2 p0 p1 p2 l2))) (by rw [e81]; exact Ar82.1) (State.isArrayOf_alike hZ.alike Ar82.2.1) Ar82.2.2 hin82 hat82 (g := (mkF m 289 #[.val (.long i0), .second, .val (.long i1), .second, .val (.long i2), .second, .val (.int i3), .val (.int l0), .val (.int l1), .val (.int l2), .val (.int p0), .val (.int p1), .val (.int p2), .val (.int n), .val (.int c0), .val (.int c1), .val (.int c2), .val (.ref lp), .val (.ref o0), .val (.ref bb), .val (.ref rr)] [(.int (2 : Int32)), (.ref rr)])) rfl rfl (hb hby at_289)) ?_
    show Go p e below _ T81 (mkF m 290 #[.val (.long i0), .second, .val (.long i1), .second, .val (.long i2), .second, .val (.int i3), .val (.int l0), .val (.int l1), .val (.int l2), .val (.int p0), .val (.int p1), .val (.int p2), .val (.int n), .val (.int c0), .val (.int c1), .val (.int c2), .val (.ref lp), .val (.ref o0), .val (.ref bb), .val (.ref rr)] [(.int (own_exp 2 n c0 c1 c2 p0 p1 p2 l2))])
    refine Go.step (fun _ k => XS.iconst X81.here hx rfl (hb hby at_290) k) ?_
    show Go p e below _ T81 (mkF m 291 #[.val (.long i0), .second, .val (.long i1), .second, .val (.long i2), .second, .val (.int i3), .val (.int l0), .val (.int l1), .val (.int l2), .val (.int p0), .val (.int p1), .val (.int p2), .val (.int n), .val (.int c0), .val (.int c1), .val (.int c2), .val (.ref lp), .val (.ref o0), .val (.ref bb), .val (.ref rr)] [(.int (2 : Int32)), (.int (own_exp 2 n c0 c1 c2 p0 p1 p2 l2))])
    refine Go.step (fun _ k => XS.iload X81.here hx rfl (hb hby at_291) rfl k) ?_
    show Go p e below _ T81 (mkF m 293 #[.val (.long i0), .second, .val (.long i1), .second, .val (.long i2), .second, .val (.int i3), .val (.int l0), .val (.int l1), .val (.int l2), .val (.int p0), .val (.int p1), .val (.int p2), .val (.int n), .val (.int c0), .val (.int c1), .val (.int c2), .val (.ref lp), .val (.ref o0), .val (.ref bb), .val (.ref rr)] [(.int n), (.int (2 : Int32)), (.int (own_exp 2 n c0 c1 c2 p0 p1 p2 l2))])
    refine Go.step (fun _ k => XS.iload X81.here hx rfl (hb hby at_293) rfl k) ?_
    show Go p e below _ T81 (mkF m 295 #[.val (.long i0), .second, .val (.long i1), .second, .val (.long i2), .second, .val (.int i3), .val (.int l0), .val (.int l1), .val (.int l2), .val (.int p0), .val (.int p1), .val (.int p2), .val (.int n), .val (.int c0), .val (.int c1), .val (.int c2), .val (.ref lp), .val (.ref o0), .val (.ref bb), .val (.ref rr)] [(.int c0), (.int n), (.int (2 : Int32)), (.int (own_exp 2 n c0 c1 c2 p0 p1 p2 l2))])
    refine Go.step (fun _ k => XS.iload X81.here hx rfl (hb hby at_295) rfl k) ?_
    show Go p e below _ T81 (mkF m 297 #[.val (.long i0), .second, .val (.long i1), .second, .val (.long i2), .second, .val (.int i3), .val (.int l0), .val (.int l1), .val (.int l2), .val (.int p0), .val (.int p1), .val (.int p2), .val (.int n), .val (.int c0), .val (.int c1), .val (.int c2), .val (.ref lp), .val (.ref o0), .val (.ref bb), .val (.ref rr)] [(.int c1), (.int c0), (.int n), (.int (2 : Int32)), (.int (own_exp 2 n c0 c1 c2 p0 p1 p2 l2))])
    refine Go.step (fun _ k => XS.iload X81.here hx rfl (hb hby at_297) rfl k) ?_
    show Go p e below _ T81 (mkF m 299 #[.val (.long i0), .second, .val (.long i1), .second, .val (.long i2), .second, .val (.int i3), .val (.int l0), .val (.int l1), .val (.int l2), .val (.int p0), .val (.int p1), .val (.int p2), .val (.int n), .val (.int c0), .val (.int c1), .val (.int c2), .val (.ref lp), .val (.ref o0), .val (.ref bb), .val (.ref rr)] [(.int c2), (.int c1), (.int c0), (.int n), (.int (2 : Int32)), (.int (own_exp 2 n c0 c1 c2 p0 p1 p2 l2))])
    refine Go.step (fun _ k => XS.iload X81.here hx rfl (hb hby at_299) rfl k) ?_
    show Go p e below _ T81 (mkF m 301 #[.val (.long i0), .second, .val (.long i1), .second, .val (.long i2), .second, .val (.int i3), .val (.int l0), .val (.int l1), .val (.int l2), .val (.int p0), .val (.int p1), .val (.int p2), .val (.int n), .val (.int c0), .val (.int c1), .val (.int c2), .val (.ref lp), .val (.ref o0), .val (.ref bb), .val (.ref rr)] [(.int p0), (.int c2), (.int c1), (.int c0), (.int n), (.int (2 : Int32)), (.int (own_exp 2 n c0 c1 c2 p0 p1 p2 l2))])
    refine Go.step (fun _ k => XS.iload X81.here hx rfl (hb hby at_301) rfl k) ?_
    show Go p e below _ T81 (mkF m 303 #[.val (.long i0), .second, .val (.long i1), .second, .val (.long i2), .second, .val (.int i3), .val (.int l0), .val (.int l1), .val (.int l2), .val (.int p0), .val (.int p1), .val (.int p2), .val (.int n), .val (.int c0), .val (.int c1), .val (.int c2), .val (.ref lp), .val (.ref o0), .val (.ref bb), .val (.ref rr)] [(.int p1), (.int p0), (.int c2), (.int c1), (.int c0), (.int n), (.int (2 : Int32)), (.int (own_exp 2 n c0 c1 c2 p0 p1 p2 l2))])
    refine Go.step (fun _ k => XS.iload X81.here hx rfl (hb hby at_303) rfl k) ?_
    show Go p e below _ T81 (mkF m 305 #[.val (.long i0), .second, .val (.long i1), .second, .val (.long i2), .second, .val (.int i3), .val (.int l0), .val (.int l1), .val (.int l2), .val (.int p0), .val (.int p1), .val (.int p2), .val (.int n), .val (.int c0), .val (.int c1), .val (.int c2), .val (.ref lp), .val (.ref o0), .val (.ref bb), .val (.ref rr)] [(.int p2), (.int p1), (.int p0), (.int c2), (.int c1), (.int c0), (.int n), (.int (2 : Int32)), (.int (own_exp 2 n c0 c1 c2 p0 p1 p2 l2))])
    refine Go.step (fun _ k => XS.iload X81.here hx rfl (hb hby at_305) rfl k) ?_
    show Go p e below _ T81 (mkF m 307 #[.val (.long i0), .second, .val (.long i1), .second, .val (.long i2), .second, .val (.int i3), .val (.int l0), .val (.int l1), .val (.int l2), .val (.int p0), .val (.int p1), .val (.int p2), .val (.int n), .val (.int c0), .val (.int c1), .val (.int c2), .val (.ref lp), .val (.ref o0), .val (.ref bb), .val (.ref rr)] [(.int l2), (.int p2), (.int p1), (.int p0), (.int c2), (.int c1), (.int c0), (.int n), (.int (2 : Int32)), (.int (own_exp 2 n c0 c1 c2 p0 p1 p2 l2))])
    obtain ⟨_, _, ⟨T83, L83, k83, n83⟩, -, X83, ⟨Lc83, hQ83, l83, y83, z83⟩, st83⟩ := Jvm.LawKit.callS X81 hx (y := (⟨"com/example/bidkeel/bidkeel/BestPointsPinLaw", "expected", "(IIIIIIIII)I"⟩ : MethodName)) hown (mvT hZ (hw _ (List.mem_of_getElem? (i := 54) rfl))) (mvT hZ (hw _ (List.mem_of_getElem? (i := 55) rfl))) (mvT hZ (hw _ (List.mem_of_getElem? (i := 56) rfl))) (mvT hZ (hw _ (List.mem_of_getElem? (i := 57) rfl))) (by decide) (backOf (W := 1) (rmX l Z a0 hw [] (2 : Int32) n c0 c1 c2 p0 p1 p2 l2 T73.heap n0 Zn) hZ (hw _ (List.mem_of_getElem? (i := 57) rfl)) (hw _ (List.mem_of_getElem? (i := 56) rfl)) (by decide) (by decide)) (g := (mkF m 307 #[.val (.long i0), .second, .val (.long i1), .second, .val (.long i2), .second, .val (.int i3), .val (.int l0), .val (.int l1), .val (.int l2), .val (.int p0), .val (.int p1), .val (.int p2), .val (.int n), .val (.int c0), .val (.int c1), .val (.int c2), .val (.ref lp), .val (.ref o0), .val (.ref bb), .val (.ref rr)] [(.int l2), (.int p2), (.int p1), (.int p0), (.int c2), (.int c1), (.int c0), (.int n), (.int (2 : Int32)), (.int (own_exp 2 n c0 c1 c2 p0 p1 p2 l2))])) rfl (by rw [hml]; rfl) (argsL := [(.int (2 : Int32)), (.int n), (.int c0), (.int c1), (.int c2), (.int p0), (.int p1), (.int p2), (.int l2)]) (rest := [(.int (own_exp 2 n c0 c1 c2 p0 p1 p2 l2))]) (lenOf own_f95 rfl) rfl (by show 2 * 0 + _ ≤ _; exact Nat.le_of_eq rfl) (hb hby at_307) (fun _ _ => ⟨rfl, e81, (by dsimp only [Pt.cells, Pt.slots]; decide), (by dsimp only [Pt.cells, Pt.slots]; decide)⟩)
    dsimp only [Pt.U, Pt.locs, Pt.cells, Pt.slots] at X83 l83 y83 z83 st83 hQ83
    subst l83 y83 z83
    obtain ⟨rfl, N83q, e83⟩ := hQ83
    have N83 := Fr.app N81 N83q
    refine Go.step (st83) ?_
    show Go p e below _ T83 (mkF m 310 #[.val (.long i0), .second, .val (.long i1), .second, .val (.long i2), .second, .val (.int i3), .val (.int l0), .val (.int l1), .val (.int l2), .val (.int p0), .val (.int p1), .val (.int p2), .val (.int n), .val (.int c0), .val (.int c1), .val (.int c2), .val (.ref lp), .val (.ref o0), .val (.ref bb), .val (.ref rr)] [(.int (own_exp 2 n c0 c1 c2 p0 p1 p2 l2)), (.int (own_exp 2 n c0 c1 c2 p0 p1 p2 l2))])
    refine Go.step (fun _ k => XS.icmpNo X83.here hx rfl (hb hby at_310) rfl (teq rfl).2 k) ?_
    show Go p e below _ T83 (mkF m 313 #[.val (.long i0), .second, .val (.long i1), .second, .val (.long i2), .second, .val (.int i3), .val (.int l0), .val (.int l1), .val (.int l2), .val (.int p0), .val (.int p1), .val (.int p2), .val (.int n), .val (.int c0), .val (.int c1), .val (.int c2), .val (.ref lp), .val (.ref o0), .val (.ref bb), .val (.ref rr)] [])
    refine Go.step (fun _ k => XS.iconst X83.here hx rfl (hb hby at_313) k) ?_
    show Go p e below _ T83 (mkF m 314 #[.val (.long i0), .second, .val (.long i1), .second, .val (.long i2), .second, .val (.int i3), .val (.int l0), .val (.int l1), .val (.int l2), .val (.int p0), .val (.int p1), .val (.int p2), .val (.int n), .val (.int c0), .val (.int c1), .val (.int c2), .val (.ref lp), .val (.ref o0), .val (.ref bb), .val (.ref rr)] [(.int (1 : Int32))])
    refine Go.step (fun _ k => XS.goto X83.here hx rfl (pc0 := 314) (pc' := 318) rfl (hb hby at_314) (by decide) (by decide) k) ?_
    show Go p e below _ T83 (mkF m 318 #[.val (.long i0), .second, .val (.long i1), .second, .val (.long i2), .second, .val (.int i3), .val (.int l0), .val (.int l1), .val (.int l2), .val (.int p0), .val (.int p1), .val (.int p2), .val (.int n), .val (.int c0), .val (.int c1), .val (.int c2), .val (.ref lp), .val (.ref o0), .val (.ref bb), .val (.ref rr)] [(.int (1 : Int32))])
    obtain ⟨fs, hr, hrun, hended, hW, hsame⟩ := X83.leave (v := some (.int (1 : Int32))) (fun h => by rw [Bd.returns] at h; cases h)
    refine Go.fin (retN X83 hx (t := .boolean) Bd.returns (by simp) (hb hby at_318) hr) hrun hended ?_
    refine ⟨_, _, rfl, ?_, ⟨_, rfl⟩, hW, hsame.mono (by decide) (by decide)⟩
    show Q0 Z i0 i1 i2 i3 h0 n0 _ T83.heap _
    rw [e83]
    exact ⟨rfl, N83⟩
  · have hn : n = 0 ∨ n = 1 ∨ n = 2 ∨ n = 3 := by simp [hk0]
    show Go p e below _ T53 (mkF m 101 #[.val (.long i0), .second, .val (.long i1), .second, .val (.long i2), .second, .val (.int i3), .val (.int l0), .val (.int l1), .val (.int l2), .val (.int p0), .val (.int p1), .val (.int p2), .val (.int n), .val (.int c0), .val (.int c1), .val (.int c2), .val (.ref lp), .val .null, .unset, .unset] [(.int (1 : Int32)), (.int n)])
    refine Go.step (fun _ k => XS.icmpNo X53.here hx rfl (hb hby at_101) rfl (flt (by rw [hk0]; decide)).1 k) ?_
    show Go p e below _ T53 (mkF m 104 #[.val (.long i0), .second, .val (.long i1), .second, .val (.long i2), .second, .val (.int i3), .val (.int l0), .val (.int l1), .val (.int l2), .val (.int p0), .val (.int p1), .val (.int p2), .val (.int n), .val (.int c0), .val (.int c1), .val (.int c2), .val (.ref lp), .val .null, .unset, .unset] [])
    obtain ⟨T84, h84, X84, e84, E84, A84, D84, U84, st84⟩ := newO X53 hx hZ hown (hw _ (List.mem_of_getElem? (i := 1) rfl)) (hw _ (List.mem_of_getElem? (i := 2) rfl)) (hw _ (List.mem_of_getElem? (i := 3) rfl)) e53 (g := (mkF m 104 #[.val (.long i0), .second, .val (.long i1), .second, .val (.long i2), .second, .val (.int i3), .val (.int l0), .val (.int l1), .val (.int l2), .val (.int p0), .val (.int p1), .val (.int p2), .val (.int n), .val (.int c0), .val (.int c1), .val (.int c2), .val (.ref lp), .val .null, .unset, .unset] [])) rfl (hb hby at_104) (by decide) (by decide)
    obtain ⟨o0, g84⟩ : ∃ z, z = h53.size := ⟨_, rfl⟩
    rw [← g84] at A84 D84 U84 st84
    have ne_lp_o0 : lp ≠ o0 := Nat.ne_of_lt (Nat.lt_of_lt_of_le E_lp.lt (Nat.le_of_eq g84.symm))
    have g_o0 : n0 ≤ o0 := Nat.le_trans Zn (Nat.le_of_eq g84.symm)
    have sz_o0 : h0.size ≤ o0 := Nat.le_trans K0.1 (Nat.le_of_eq g84.symm)
    replace E_lp := E_lp.ext E84
    replace V_lp := V_lp.ext E84
    replace Zn := Nat.le_trans Zn E84.1
    replace K0 := K0.ext E84
    have E_o0 := A84
    have F_cls_o0 : Fld Z h84 o0 "com/example/bidkeel/bidkeel/Knapsack$Change" "cls" "I" (.int (0 : Int32)) := D84 (Or.inr (hw _ (List.mem_of_getElem? (i := 11) rfl))) (ty := .int) (by decide)
    have F_point_o0 : Fld Z h84 o0 "com/example/bidkeel/bidkeel/Knapsack$Change" "point" "I" (.int (0 : Int32)) := D84 (Or.inr (hw _ (List.mem_of_getElem? (i := 13) rfl))) (ty := .int) (by decide)
    have F_previous_o0 : Fld Z h84 o0 "com/example/bidkeel/bidkeel/Knapsack$Change" "previous" "Lcom/example/bidkeel/bidkeel/Knapsack$Change;" .null := D84 (Or.inr (hw _ (List.mem_of_getElem? (i := 15) rfl))) (ty := (.object "com/example/bidkeel/bidkeel/Knapsack$Change")) (by decide)
    refine Go.step st84 ?_
    show Go p e below _ T84 (mkF m 107 #[.val (.long i0), .second, .val (.long i1), .second, .val (.long i2), .second, .val (.int i3), .val (.int l0), .val (.int l1), .val (.int l2), .val (.int p0), .val (.int p1), .val (.int p2), .val (.int n), .val (.int c0), .val (.int c1), .val (.int c2), .val (.ref lp), .val .null, .unset, .unset] [(.ref o0)])
    refine Go.step (fun _ k => XS.dup X84.here hx rfl (hb hby at_107) rfl rfl k) ?_
    show Go p e below _ T84 (mkF m 108 #[.val (.long i0), .second, .val (.long i1), .second, .val (.long i2), .second, .val (.int i3), .val (.int l0), .val (.int l1), .val (.int l2), .val (.int p0), .val (.int p1), .val (.int p2), .val (.int n), .val (.int c0), .val (.int c1), .val (.int c2), .val (.ref lp), .val .null, .unset, .unset] [(.ref o0), (.ref o0)])
    refine Go.step (fun _ k => XS.iload X84.here hx rfl (hb hby at_108) rfl k) ?_
    show Go p e below _ T84 (mkF m 110 #[.val (.long i0), .second, .val (.long i1), .second, .val (.long i2), .second, .val (.int i3), .val (.int l0), .val (.int l1), .val (.int l2), .val (.int p0), .val (.int p1), .val (.int p2), .val (.int n), .val (.int c0), .val (.int c1), .val (.int c2), .val (.ref lp), .val .null, .unset, .unset] [(.int c0), (.ref o0), (.ref o0)])
    refine Go.step (fun _ k => XS.iload X84.here hx rfl (hb hby at_110) rfl k) ?_
    show Go p e below _ T84 (mkF m 112 #[.val (.long i0), .second, .val (.long i1), .second, .val (.long i2), .second, .val (.int i3), .val (.int l0), .val (.int l1), .val (.int l2), .val (.int p0), .val (.int p1), .val (.int p2), .val (.int n), .val (.int c0), .val (.int c1), .val (.int c2), .val (.ref lp), .val .null, .unset, .unset] [(.int p0), (.int c0), (.ref o0), (.ref o0)])
    refine Go.step (fun _ k => XS.aload X84.here hx rfl (hb hby at_112) rfl rfl k) ?_
    show Go p e below _ T84 (mkF m 114 #[.val (.long i0), .second, .val (.long i1), .second, .val (.long i2), .second, .val (.int i3), .val (.int l0), .val (.int l1), .val (.int l2), .val (.int p0), .val (.int p1), .val (.int p2), .val (.int n), .val (.int c0), .val (.int c1), .val (.int c2), .val (.ref lp), .val .null, .unset, .unset] [.null, (.int p0), (.int c0), (.ref o0), (.ref o0)])
    obtain ⟨_, _, ⟨T85, L85, k85, n85⟩, -, X85, ⟨Lc85, hQ85, l85, y85, z85⟩, st85⟩ := X84.specialBack hx (y := (⟨"com/example/bidkeel/bidkeel/Knapsack$Change", "<init>", "(IILcom/example/bidkeel/bidkeel/Knapsack$Change;)V"⟩ : MethodName)) rfl hown (mvT hZ (hw _ (List.mem_of_getElem? (i := 4) rfl))) (mvT hZ (hw _ (List.mem_of_getElem? (i := 5) rfl))) (mvT hZ (hw _ (List.mem_of_getElem? (i := 6) rfl))) (by decide) (backOf (W := 1) (rmCN l Z a0 hw [] o0 c0 p0 h84 n0 Zn E_o0 F_cls_o0 F_point_o0 F_previous_o0 g_o0) hZ (hw _ (List.mem_of_getElem? (i := 6) rfl)) (hw _ (List.mem_of_getElem? (i := 3) rfl)) (by decide) (by decide)) (g := (mkF m 114 #[.val (.long i0), .second, .val (.long i1), .second, .val (.long i2), .second, .val (.int i3), .val (.int l0), .val (.int l1), .val (.int l2), .val (.int p0), .val (.int p1), .val (.int p2), .val (.int n), .val (.int c0), .val (.int c1), .val (.int c2), .val (.ref lp), .val .null, .unset, .unset] [.null, (.int p0), (.int c0), (.ref o0), (.ref o0)])) rfl (by rw [hml]; rfl) (Steps.refl _) (a := o0) (argsL := [(.int c0), (.int p0), .null]) (rest := [(.ref o0)]) (lenOf own_f96 rfl) rfl (by show 2 * 0 + _ ≤ _; exact Nat.le_of_eq rfl) (hb hby at_114) (fun _ _ => ⟨rfl, e84, (by dsimp only [Pt.cells, Pt.slots]; decide), (by dsimp only [Pt.cells, Pt.slots]; decide)⟩)
    dsimp only [Pt.U, Pt.locs, Pt.cells, Pt.slots] at X85 l85 y85 z85 st85 hQ85
    subst l85 y85 z85
    obtain ⟨rfl, N85q, K85, F_cls_o0, F_point_o0, F_previous_o0⟩ := hQ85
    have N85 := Fr.app N53 N85q
    refine Go.step (fun _ k => st85.trans k) ?_
    replace E_lp := E_lp.keep K85
    replace V_lp := V_lp.keep K85 (ninS ne_lp_o0 nin0)
    replace E_o0 := E_o0.keep K85
    replace K0 := K0.trans K85 (allS (Or.inr sz_o0) (all0))
    replace Zn := Nat.le_trans Zn K85.1
    show Go p e below _ T85 (mkF m 117 #[.val (.long i0), .second, .val (.long i1), .second, .val (.long i2), .second, .val (.int i3), .val (.int l0), .val (.int l1), .val (.int l2), .val (.int p0), .val (.int p1), .val (.int p2), .val (.int n), .val (.int c0), .val (.int c1), .val (.int c2), .val (.ref lp), .val .null, .unset, .unset] [(.ref o0)])
    refine Go.step (fun _ k => XS.astore X85.here hx rfl (hb hby at_117) rfl rfl (l' := #[.val (.long i0), .second, .val (.long i1), .second, .val (.long i2), .second, .val (.int i3), .val (.int l0), .val (.int l1), .val (.int l2), .val (.int p0), .val (.int p1), .val (.int p2), .val (.int n), .val (.int c0), .val (.int c1), .val (.int c2), .val (.ref lp), .val (.ref o0), .unset, .unset]) rfl k) ?_
    show Go p e below _ T85 (mkF m 119 #[.val (.long i0), .second, .val (.long i1), .second, .val (.long i2), .second, .val (.int i3), .val (.int l0), .val (.int l1), .val (.int l2), .val (.int p0), .val (.int p1), .val (.int p2), .val (.int n), .val (.int c0), .val (.int c1), .val (.int c2), .val (.ref lp), .val (.ref o0), .unset, .unset] [])
    refine Go.step (fun _ k => XS.iload X85.here hx rfl (hb hby at_119) rfl k) ?_
    show Go p e below _ T85 (mkF m 121 #[.val (.long i0), .second, .val (.long i1), .second, .val (.long i2), .second, .val (.int i3), .val (.int l0), .val (.int l1), .val (.int l2), .val (.int p0), .val (.int p1), .val (.int p2), .val (.int n), .val (.int c0), .val (.int c1), .val (.int c2), .val (.ref lp), .val (.ref o0), .unset, .unset] [(.int n)])
    refine Go.step (fun _ k => XS.iconst X85.here hx rfl (hb hby at_121) k) ?_
    show Go p e below _ T85 (mkF m 122 #[.val (.long i0), .second, .val (.long i1), .second, .val (.long i2), .second, .val (.int i3), .val (.int l0), .val (.int l1), .val (.int l2), .val (.int p0), .val (.int p1), .val (.int p2), .val (.int n), .val (.int c0), .val (.int c1), .val (.int c2), .val (.ref lp), .val (.ref o0), .unset, .unset] [(.int (2 : Int32)), (.int n)])
    refine Go.step (fun _ k => XS.icmpNo X85.here hx rfl (hb hby at_122) rfl (flt (by rw [hk0]; decide)).1 k) ?_
    show Go p e below _ T85 (mkF m 125 #[.val (.long i0), .second, .val (.long i1), .second, .val (.long i2), .second, .val (.int i3), .val (.int l0), .val (.int l1), .val (.int l2), .val (.int p0), .val (.int p1), .val (.int p2), .val (.int n), .val (.int c0), .val (.int c1), .val (.int c2), .val (.ref lp), .val (.ref o0), .unset, .unset] [])
    obtain ⟨T86, h86, X86, e86, E86, A86, D86, U86, st86⟩ := newO X85 hx hZ hown (hw _ (List.mem_of_getElem? (i := 1) rfl)) (hw _ (List.mem_of_getElem? (i := 2) rfl)) (hw _ (List.mem_of_getElem? (i := 3) rfl)) rfl (g := (mkF m 125 #[.val (.long i0), .second, .val (.long i1), .second, .val (.long i2), .second, .val (.int i3), .val (.int l0), .val (.int l1), .val (.int l2), .val (.int p0), .val (.int p1), .val (.int p2), .val (.int n), .val (.int c0), .val (.int c1), .val (.int c2), .val (.ref lp), .val (.ref o0), .unset, .unset] [])) rfl (hb hby at_125) (by decide) (by decide)
    obtain ⟨o1, g86⟩ : ∃ z, z = T85.heap.size := ⟨_, rfl⟩
    rw [← g86] at A86 D86 U86 st86
    have ne_lp_o1 : lp ≠ o1 := Nat.ne_of_lt (Nat.lt_of_lt_of_le E_lp.lt (Nat.le_of_eq g86.symm))
    have ne_o0_o1 : o0 ≠ o1 := Nat.ne_of_lt (Nat.lt_of_lt_of_le E_o0.lt (Nat.le_of_eq g86.symm))
    have g_o1 : n0 ≤ o1 := Nat.le_trans Zn (Nat.le_of_eq g86.symm)
    have sz_o1 : h0.size ≤ o1 := Nat.le_trans K0.1 (Nat.le_of_eq g86.symm)
    replace E_lp := E_lp.ext E86
    replace V_lp := V_lp.ext E86
    replace E_o0 := E_o0.ext E86
    replace F_cls_o0 := F_cls_o0.ext E86
    replace F_point_o0 := F_point_o0.ext E86
    replace F_previous_o0 := F_previous_o0.ext E86
    replace Zn := Nat.le_trans Zn E86.1
    replace K0 := K0.ext E86
    have E_o1 := A86
    have F_cls_o1 : Fld Z h86 o1 "com/example/bidkeel/bidkeel/Knapsack$Change" "cls" "I" (.int (0 : Int32)) := D86 (Or.inr (hw _ (List.mem_of_getElem? (i := 11) rfl))) (ty := .int) (by decide)
    have F_point_o1 : Fld Z h86 o1 "com/example/bidkeel/bidkeel/Knapsack$Change" "point" "I" (.int (0 : Int32)) := D86 (Or.inr (hw _ (List.mem_of_getElem? (i := 13) rfl))) (ty := .int) (by decide)
    have F_previous_o1 : Fld Z h86 o1 "com/example/bidkeel/bidkeel/Knapsack$Change" "previous" "Lcom/example/bidkeel/bidkeel/Knapsack$Change;" .null := D86 (Or.inr (hw _ (List.mem_of_getElem? (i := 15) rfl))) (ty := (.object "com/example/bidkeel/bidkeel/Knapsack$Change")) (by decide)
    refine Go.step st86 ?_
    show Go p e below _ T86 (mkF m 128 #[.val (.long i0), .second, .val (.long i1), .second, .val (.long i2), .second, .val (.int i3), .val (.int l0), .val (.int l1), .val (.int l2), .val (.int p0), .val (.int p1), .val (.int p2), .val (.int n), .val (.int c0), .val (.int c1), .val (.int c2), .val (.ref lp), .val (.ref o0), .unset, .unset] [(.ref o1)])
    refine Go.step (fun _ k => XS.dup X86.here hx rfl (hb hby at_128) rfl rfl k) ?_
    show Go p e below _ T86 (mkF m 129 #[.val (.long i0), .second, .val (.long i1), .second, .val (.long i2), .second, .val (.int i3), .val (.int l0), .val (.int l1), .val (.int l2), .val (.int p0), .val (.int p1), .val (.int p2), .val (.int n), .val (.int c0), .val (.int c1), .val (.int c2), .val (.ref lp), .val (.ref o0), .unset, .unset] [(.ref o1), (.ref o1)])
    refine Go.step (fun _ k => XS.iload X86.here hx rfl (hb hby at_129) rfl k) ?_
    show Go p e below _ T86 (mkF m 131 #[.val (.long i0), .second, .val (.long i1), .second, .val (.long i2), .second, .val (.int i3), .val (.int l0), .val (.int l1), .val (.int l2), .val (.int p0), .val (.int p1), .val (.int p2), .val (.int n), .val (.int c0), .val (.int c1), .val (.int c2), .val (.ref lp), .val (.ref o0), .unset, .unset] [(.int c1), (.ref o1), (.ref o1)])
    refine Go.step (fun _ k => XS.iload X86.here hx rfl (hb hby at_131) rfl k) ?_
    show Go p e below _ T86 (mkF m 133 #[.val (.long i0), .second, .val (.long i1), .second, .val (.long i2), .second, .val (.int i3), .val (.int l0), .val (.int l1), .val (.int l2), .val (.int p0), .val (.int p1), .val (.int p2), .val (.int n), .val (.int c0), .val (.int c1), .val (.int c2), .val (.ref lp), .val (.ref o0), .unset, .unset] [(.int p1), (.int c1), (.ref o1), (.ref o1)])
    refine Go.step (fun _ k => XS.aload X86.here hx rfl (hb hby at_133) rfl rfl k) ?_
    show Go p e below _ T86 (mkF m 135 #[.val (.long i0), .second, .val (.long i1), .second, .val (.long i2), .second, .val (.int i3), .val (.int l0), .val (.int l1), .val (.int l2), .val (.int p0), .val (.int p1), .val (.int p2), .val (.int n), .val (.int c0), .val (.int c1), .val (.int c2), .val (.ref lp), .val (.ref o0), .unset, .unset] [(.ref o0), (.int p1), (.int c1), (.ref o1), (.ref o1)])
    obtain ⟨_, _, ⟨T87, L87, k87, n87⟩, -, X87, ⟨Lc87, hQ87, l87, y87, z87⟩, st87⟩ := X86.specialBack hx (y := (⟨"com/example/bidkeel/bidkeel/Knapsack$Change", "<init>", "(IILcom/example/bidkeel/bidkeel/Knapsack$Change;)V"⟩ : MethodName)) rfl hown (mvT hZ (hw _ (List.mem_of_getElem? (i := 4) rfl))) (mvT hZ (hw _ (List.mem_of_getElem? (i := 5) rfl))) (mvT hZ (hw _ (List.mem_of_getElem? (i := 6) rfl))) (by decide) (backOf (W := 1) (rmCR l Z a0 hw [] o1 c1 p1 o0 h86 n0 Zn E_o1 F_cls_o1 F_point_o1 F_previous_o1 g_o1) hZ (hw _ (List.mem_of_getElem? (i := 6) rfl)) (hw _ (List.mem_of_getElem? (i := 3) rfl)) (by decide) (by decide)) (g := (mkF m 135 #[.val (.long i0), .second, .val (.long i1), .second, .val (.long i2), .second, .val (.int i3), .val (.int l0), .val (.int l1), .val (.int l2), .val (.int p0), .val (.int p1), .val (.int p2), .val (.int n), .val (.int c0), .val (.int c1), .val (.int c2), .val (.ref lp), .val (.ref o0), .unset, .unset] [(.ref o0), (.int p1), (.int c1), (.ref o1), (.ref o1)])) rfl (by rw [hml]; rfl) (Steps.refl _) (a := o1) (argsL := [(.int c1), (.int p1), (.ref o0)]) (rest := [(.ref o1)]) (lenOf own_f96 rfl) rfl (by show 2 * 0 + _ ≤ _; exact Nat.le_of_eq rfl) (hb hby at_135) (fun _ _ => ⟨rfl, e86, (by dsimp only [Pt.cells, Pt.slots]; decide), (by dsimp only [Pt.cells, Pt.slots]; decide)⟩)
    dsimp only [Pt.U, Pt.locs, Pt.cells, Pt.slots] at X87 l87 y87 z87 st87 hQ87
    subst l87 y87 z87
    obtain ⟨rfl, N87q, K87, F_cls_o1, F_point_o1, F_previous_o1⟩ := hQ87
    have N87 := Fr.app N85 N87q
    refine Go.step (fun _ k => st87.trans k) ?_
    replace E_lp := E_lp.keep K87
    replace V_lp := V_lp.keep K87 (ninS ne_lp_o1 nin0)
    replace E_o0 := E_o0.keep K87
    replace F_cls_o0 := F_cls_o0.keep K87 (ninS ne_o0_o1 nin0)
    replace F_point_o0 := F_point_o0.keep K87 (ninS ne_o0_o1 nin0)
    replace F_previous_o0 := F_previous_o0.keep K87 (ninS ne_o0_o1 nin0)
    replace E_o1 := E_o1.keep K87
    replace K0 := K0.trans K87 (allS (Or.inr sz_o1) (all0))
    replace Zn := Nat.le_trans Zn K87.1
    show Go p e below _ T87 (mkF m 138 #[.val (.long i0), .second, .val (.long i1), .second, .val (.long i2), .second, .val (.int i3), .val (.int l0), .val (.int l1), .val (.int l2), .val (.int p0), .val (.int p1), .val (.int p2), .val (.int n), .val (.int c0), .val (.int c1), .val (.int c2), .val (.ref lp), .val (.ref o0), .unset, .unset] [(.ref o1)])
    refine Go.step (fun _ k => XS.astore X87.here hx rfl (hb hby at_138) rfl rfl (l' := #[.val (.long i0), .second, .val (.long i1), .second, .val (.long i2), .second, .val (.int i3), .val (.int l0), .val (.int l1), .val (.int l2), .val (.int p0), .val (.int p1), .val (.int p2), .val (.int n), .val (.int c0), .val (.int c1), .val (.int c2), .val (.ref lp), .val (.ref o1), .unset, .unset]) rfl k) ?_
    show Go p e below _ T87 (mkF m 140 #[.val (.long i0), .second, .val (.long i1), .second, .val (.long i2), .second, .val (.int i3), .val (.int l0), .val (.int l1), .val (.int l2), .val (.int p0), .val (.int p1), .val (.int p2), .val (.int n), .val (.int c0), .val (.int c1), .val (.int c2), .val (.ref lp), .val (.ref o1), .unset, .unset] [])
    refine Go.step (fun _ k => XS.iload X87.here hx rfl (hb hby at_140) rfl k) ?_
    show Go p e below _ T87 (mkF m 142 #[.val (.long i0), .second, .val (.long i1), .second, .val (.long i2), .second, .val (.int i3), .val (.int l0), .val (.int l1), .val (.int l2), .val (.int p0), .val (.int p1), .val (.int p2), .val (.int n), .val (.int c0), .val (.int c1), .val (.int c2), .val (.ref lp), .val (.ref o1), .unset, .unset] [(.int n)])
    refine Go.step (fun _ k => XS.iconst X87.here hx rfl (hb hby at_142) k) ?_
    show Go p e below _ T87 (mkF m 143 #[.val (.long i0), .second, .val (.long i1), .second, .val (.long i2), .second, .val (.int i3), .val (.int l0), .val (.int l1), .val (.int l2), .val (.int p0), .val (.int p1), .val (.int p2), .val (.int n), .val (.int c0), .val (.int c1), .val (.int c2), .val (.ref lp), .val (.ref o1), .unset, .unset] [(.int (3 : Int32)), (.int n)])
    refine Go.step (fun _ k => XS.icmpYes X87.here hx rfl (pc0 := 143) (pc' := 161) rfl (hb hby at_143) rfl (tlt (by rw [hk0]; decide)).1 (by decide) (by decide) k) ?_
    show Go p e below _ T87 (mkF m 161 #[.val (.long i0), .second, .val (.long i1), .second, .val (.long i2), .second, .val (.int i3), .val (.int l0), .val (.int l1), .val (.int l2), .val (.int p0), .val (.int p1), .val (.int p2), .val (.int n), .val (.int c0), .val (.int c1), .val (.int c2), .val (.ref lp), .val (.ref o1), .unset, .unset] [])
    obtain ⟨T88, h88, X88, e88, E88, A88, D88, U88, st88⟩ := newO X87 hx hZ hown (hw _ (List.mem_of_getElem? (i := 16) rfl)) (hw _ (List.mem_of_getElem? (i := 17) rfl)) (hw _ (List.mem_of_getElem? (i := 18) rfl)) rfl (g := (mkF m 161 #[.val (.long i0), .second, .val (.long i1), .second, .val (.long i2), .second, .val (.int i3), .val (.int l0), .val (.int l1), .val (.int l2), .val (.int p0), .val (.int p1), .val (.int p2), .val (.int n), .val (.int c0), .val (.int c1), .val (.int c2), .val (.ref lp), .val (.ref o1), .unset, .unset] [])) rfl (hb hby at_161) (by decide) (by decide)
    obtain ⟨bb, g88⟩ : ∃ z, z = T87.heap.size := ⟨_, rfl⟩
    rw [← g88] at A88 D88 U88 st88
    have ne_lp_bb : lp ≠ bb := Nat.ne_of_lt (Nat.lt_of_lt_of_le E_lp.lt (Nat.le_of_eq g88.symm))
    have ne_o0_bb : o0 ≠ bb := Nat.ne_of_lt (Nat.lt_of_lt_of_le E_o0.lt (Nat.le_of_eq g88.symm))
    have ne_o1_bb : o1 ≠ bb := Nat.ne_of_lt (Nat.lt_of_lt_of_le E_o1.lt (Nat.le_of_eq g88.symm))
    have g_bb : n0 ≤ bb := Nat.le_trans Zn (Nat.le_of_eq g88.symm)
    have sz_bb : h0.size ≤ bb := Nat.le_trans K0.1 (Nat.le_of_eq g88.symm)
    replace E_lp := E_lp.ext E88
    replace V_lp := V_lp.ext E88
    replace E_o0 := E_o0.ext E88
    replace F_cls_o0 := F_cls_o0.ext E88
    replace F_point_o0 := F_point_o0.ext E88
    replace F_previous_o0 := F_previous_o0.ext E88
    replace E_o1 := E_o1.ext E88
    replace F_cls_o1 := F_cls_o1.ext E88
    replace F_point_o1 := F_point_o1.ext E88
    replace F_previous_o1 := F_previous_o1.ext E88
    replace Zn := Nat.le_trans Zn E88.1
    replace K0 := K0.ext E88
    have E_bb := A88
    have F_changes_bb : Fld Z h88 bb "com/example/bidkeel/bidkeel/Knapsack$Best" "changes" "Lcom/example/bidkeel/bidkeel/Knapsack$Change;" .null := D88 (Or.inl (hw _ (List.mem_of_getElem? (i := 29) rfl))) (ty := (.object "com/example/bidkeel/bidkeel/Knapsack$Change")) (by decide)
    have F_profit_bb : Fld Z h88 bb "com/example/bidkeel/bidkeel/Knapsack$Best" "profit" "D" (.double 0) := D88 (Or.inl (hw _ (List.mem_of_getElem? (i := 31) rfl))) (ty := .double) (by decide)
    have F_units_bb : Fld Z h88 bb "com/example/bidkeel/bidkeel/Knapsack$Best" "units" "D" (.double 0) := D88 (Or.inl (hw _ (List.mem_of_getElem? (i := 33) rfl))) (ty := .double) (by decide)
    have F_steps_bb : Fld Z h88 bb "com/example/bidkeel/bidkeel/Knapsack$Best" "steps" "J" (.long (0 : Int64)) := D88 (Or.inl (hw _ (List.mem_of_getElem? (i := 35) rfl))) (ty := .long) (by decide)
    refine Go.step st88 ?_
    show Go p e below _ T88 (mkF m 164 #[.val (.long i0), .second, .val (.long i1), .second, .val (.long i2), .second, .val (.int i3), .val (.int l0), .val (.int l1), .val (.int l2), .val (.int p0), .val (.int p1), .val (.int p2), .val (.int n), .val (.int c0), .val (.int c1), .val (.int c2), .val (.ref lp), .val (.ref o1), .unset, .unset] [(.ref bb)])
    refine Go.step (fun _ k => XS.dup X88.here hx rfl (hb hby at_164) rfl rfl k) ?_
    show Go p e below _ T88 (mkF m 165 #[.val (.long i0), .second, .val (.long i1), .second, .val (.long i2), .second, .val (.int i3), .val (.int l0), .val (.int l1), .val (.int l2), .val (.int p0), .val (.int p1), .val (.int p2), .val (.int n), .val (.int c0), .val (.int c1), .val (.int c2), .val (.ref lp), .val (.ref o1), .unset, .unset] [(.ref bb), (.ref bb)])
    obtain ⟨_, _, ⟨T89, L89, k89, n89⟩, -, X89, ⟨Lc89, hQ89, l89, y89, z89⟩, st89⟩ := X88.specialBack hx (y := (⟨"com/example/bidkeel/bidkeel/Knapsack$Best", "<init>", "()V"⟩ : MethodName)) rfl hown (mvT hZ (hw _ (List.mem_of_getElem? (i := 19) rfl))) (mvT hZ (hw _ (List.mem_of_getElem? (i := 20) rfl))) (mvT hZ (hw _ (List.mem_of_getElem? (i := 21) rfl))) (by decide) (backOf (W := 1) (rmB l Z a0 hw [] bb h88 n0 Zn) hZ (hw _ (List.mem_of_getElem? (i := 21) rfl)) (hw _ (List.mem_of_getElem? (i := 18) rfl)) (by decide) (by decide)) (g := (mkF m 165 #[.val (.long i0), .second, .val (.long i1), .second, .val (.long i2), .second, .val (.int i3), .val (.int l0), .val (.int l1), .val (.int l2), .val (.int p0), .val (.int p1), .val (.int p2), .val (.int n), .val (.int c0), .val (.int c1), .val (.int c2), .val (.ref lp), .val (.ref o1), .unset, .unset] [(.ref bb), (.ref bb)])) rfl (by rw [hml]; rfl) (Steps.refl _) (a := bb) (argsL := []) (rest := [(.ref bb)]) (lenOf own_f92 rfl) rfl (by show 2 * 0 + _ ≤ _; exact Nat.le_of_eq rfl) (hb hby at_165) (fun _ _ => ⟨rfl, e88, (by dsimp only [Pt.cells, Pt.slots]; decide), (by dsimp only [Pt.cells, Pt.slots]; decide)⟩)
    dsimp only [Pt.U, Pt.locs, Pt.cells, Pt.slots] at X89 l89 y89 z89 st89 hQ89
    subst l89 y89 z89
    obtain ⟨rfl, N89q, e89⟩ := hQ89
    have N89 := Fr.app N87 N89q
    refine Go.step (fun _ k => st89.trans k) ?_
    show Go p e below _ T89 (mkF m 168 #[.val (.long i0), .second, .val (.long i1), .second, .val (.long i2), .second, .val (.int i3), .val (.int l0), .val (.int l1), .val (.int l2), .val (.int p0), .val (.int p1), .val (.int p2), .val (.int n), .val (.int c0), .val (.int c1), .val (.int c2), .val (.ref lp), .val (.ref o1), .unset, .unset] [(.ref bb)])
    refine Go.step (fun _ k => XS.astore X89.here hx rfl (hb hby at_168) rfl rfl (l' := #[.val (.long i0), .second, .val (.long i1), .second, .val (.long i2), .second, .val (.int i3), .val (.int l0), .val (.int l1), .val (.int l2), .val (.int p0), .val (.int p1), .val (.int p2), .val (.int n), .val (.int c0), .val (.int c1), .val (.int c2), .val (.ref lp), .val (.ref o1), .val (.ref bb), .unset]) rfl k) ?_
    show Go p e below _ T89 (mkF m 170 #[.val (.long i0), .second, .val (.long i1), .second, .val (.long i2), .second, .val (.int i3), .val (.int l0), .val (.int l1), .val (.int l2), .val (.int p0), .val (.int p1), .val (.int p2), .val (.int n), .val (.int c0), .val (.int c1), .val (.int c2), .val (.ref lp), .val (.ref o1), .val (.ref bb), .unset] [])
    refine Go.step (fun _ k => XS.aload X89.here hx rfl (hb hby at_170) rfl rfl k) ?_
    show Go p e below _ T89 (mkF m 172 #[.val (.long i0), .second, .val (.long i1), .second, .val (.long i2), .second, .val (.int i3), .val (.int l0), .val (.int l1), .val (.int l2), .val (.int p0), .val (.int p1), .val (.int p2), .val (.int n), .val (.int c0), .val (.int c1), .val (.int c2), .val (.ref lp), .val (.ref o1), .val (.ref bb), .unset] [(.ref bb)])
    refine Go.step (fun _ k => XS.aload X89.here hx rfl (hb hby at_172) rfl rfl k) ?_
    show Go p e below _ T89 (mkF m 174 #[.val (.long i0), .second, .val (.long i1), .second, .val (.long i2), .second, .val (.int i3), .val (.int l0), .val (.int l1), .val (.int l2), .val (.int p0), .val (.int p1), .val (.int p2), .val (.int n), .val (.int c0), .val (.int c1), .val (.int c2), .val (.ref lp), .val (.ref o1), .val (.ref bb), .unset] [(.ref o1), (.ref bb)])
    refine Go.step (fun _ k => XS.dconst0 X89.here hx rfl (hb hby at_174) rfl k) ?_
    show Go p e below _ T89 (mkF m 175 #[.val (.long i0), .second, .val (.long i1), .second, .val (.long i2), .second, .val (.int i3), .val (.int l0), .val (.int l1), .val (.int l2), .val (.int p0), .val (.int p1), .val (.int p2), .val (.int n), .val (.int c0), .val (.int c1), .val (.int c2), .val (.ref lp), .val (.ref o1), .val (.ref bb), .unset] [(.double FP.dconst0), (.ref o1), (.ref bb)])
    refine Go.step (fun _ k => XS.dconst0 X89.here hx rfl (hb hby at_175) rfl k) ?_
    show Go p e below _ T89 (mkF m 176 #[.val (.long i0), .second, .val (.long i1), .second, .val (.long i2), .second, .val (.int i3), .val (.int l0), .val (.int l1), .val (.int l2), .val (.int p0), .val (.int p1), .val (.int p2), .val (.int n), .val (.int c0), .val (.int c1), .val (.int c2), .val (.ref lp), .val (.ref o1), .val (.ref bb), .unset] [(.double FP.dconst0), (.double FP.dconst0), (.ref o1), (.ref bb)])
    refine Go.step (fun _ k => XS.lconst X89.here hx rfl (hb hby at_176) k) ?_
    show Go p e below _ T89 (mkF m 177 #[.val (.long i0), .second, .val (.long i1), .second, .val (.long i2), .second, .val (.int i3), .val (.int l0), .val (.int l1), .val (.int l2), .val (.int p0), .val (.int p1), .val (.int p2), .val (.int n), .val (.int c0), .val (.int c1), .val (.int c2), .val (.ref lp), .val (.ref o1), .val (.ref bb), .unset] [(.long (0 : Int64)), (.double FP.dconst0), (.double FP.dconst0), (.ref o1), (.ref bb)])
    obtain ⟨cq90, kq90, q90a, q90b, q90c⟩ := isOf hZ e89 E_bb
    obtain ⟨_, _, ⟨T90, L90, k90, n90⟩, -, X90, ⟨Lc90, hQ90, l90, y90, z90⟩, st90⟩ := X89.virtualBack hx (y := (⟨"com/example/bidkeel/bidkeel/Knapsack$Best", "take", "(Lcom/example/bidkeel/bidkeel/Knapsack$Change;DDJ)V"⟩ : MethodName)) (z := (⟨"com/example/bidkeel/bidkeel/Knapsack$Best", "take", "(Lcom/example/bidkeel/bidkeel/Knapsack$Change;DDJ)V"⟩ : MethodName)) hown (mvT hZ (hw _ (List.mem_of_getElem? (i := 23) rfl))) (mvT hZ (hw _ (List.mem_of_getElem? (i := 24) rfl))) (notFace_of_selects (args := #[]) (mvT hZ (hw _ (List.mem_of_getElem? (i := 26) rfl)))) (mvT hZ (hw _ (List.mem_of_getElem? (i := 26) rfl))) (mvT hZ (hw _ (List.mem_of_getElem? (i := 25) rfl))) (by decide) (backOf (W := 0) (rmTR l Z a0 hw [] bb o1 FP.dconst0 FP.dconst0 (0 : Int64) h88 n0 Zn E_bb F_changes_bb F_profit_bb F_units_bb F_steps_bb g_bb) hZ (hw _ (List.mem_of_getElem? (i := 27) rfl)) (hw _ (List.mem_of_getElem? (i := 18) rfl)) (by decide) (by decide)) q90a q90c (g := (mkF m 177 #[.val (.long i0), .second, .val (.long i1), .second, .val (.long i2), .second, .val (.int i3), .val (.int l0), .val (.int l1), .val (.int l2), .val (.int p0), .val (.int p1), .val (.int p2), .val (.int n), .val (.int c0), .val (.int c1), .val (.int c2), .val (.ref lp), .val (.ref o1), .val (.ref bb), .unset] [(.long (0 : Int64)), (.double FP.dconst0), (.double FP.dconst0), (.ref o1), (.ref bb)])) rfl (by rw [hml]; rfl) (Steps.refl _) (argsL := [(.ref o1), (.double FP.dconst0), (.double FP.dconst0), (.long (0 : Int64))]) (rest := []) (lenOf own_f93 rfl) rfl (by show 2 * 0 + _ ≤ _; exact Nat.le_of_eq rfl) (hb hby at_177) (fun _ _ => ⟨rfl, e89, (by dsimp only [Pt.cells, Pt.slots]; decide), (by dsimp only [Pt.cells, Pt.slots]; decide)⟩)
    dsimp only [Pt.U, Pt.locs, Pt.cells, Pt.slots] at X90 l90 y90 z90 st90 hQ90
    subst l90 y90 z90
    obtain ⟨rfl, N90q, K90, F_changes_bb⟩ := hQ90
    have N90 := Fr.app N89 N90q
    refine Go.step (fun _ k => st90.trans k) ?_
    replace E_lp := E_lp.keep K90
    replace V_lp := V_lp.keep K90 (ninS ne_lp_bb nin0)
    replace E_o0 := E_o0.keep K90
    replace F_cls_o0 := F_cls_o0.keep K90 (ninS ne_o0_bb nin0)
    replace F_point_o0 := F_point_o0.keep K90 (ninS ne_o0_bb nin0)
    replace F_previous_o0 := F_previous_o0.keep K90 (ninS ne_o0_bb nin0)
    replace E_o1 := E_o1.keep K90
    replace F_cls_o1 := F_cls_o1.keep K90 (ninS ne_o1_bb nin0)
    replace F_point_o1 := F_point_o1.keep K90 (ninS ne_o1_bb nin0)
    replace F_previous_o1 := F_previous_o1.keep K90 (ninS ne_o1_bb nin0)
    replace E_bb := E_bb.keep K90
    replace K0 := K0.trans K90 (allS (Or.inr sz_bb) (all0))
    replace Zn := Nat.le_trans Zn K90.1
    show Go p e below _ T90 (mkF m 180 #[.val (.long i0), .second, .val (.long i1), .second, .val (.long i2), .second, .val (.int i3), .val (.int l0), .val (.int l1), .val (.int l2), .val (.int p0), .val (.int p1), .val (.int p2), .val (.int n), .val (.int c0), .val (.int c1), .val (.int c2), .val (.ref lp), .val (.ref o1), .val (.ref bb), .unset] [])
    refine Go.step (fun _ k => XS.aload X90.here hx rfl (hb hby at_180) rfl rfl k) ?_
    show Go p e below _ T90 (mkF m 182 #[.val (.long i0), .second, .val (.long i1), .second, .val (.long i2), .second, .val (.int i3), .val (.int l0), .val (.int l1), .val (.int l2), .val (.int p0), .val (.int p1), .val (.int p2), .val (.int n), .val (.int c0), .val (.int c1), .val (.int c2), .val (.ref lp), .val (.ref o1), .val (.ref bb), .unset] [(.ref bb)])
    refine Go.step (fun _ k => XS.aload X90.here hx rfl (hb hby at_182) rfl rfl k) ?_
    show Go p e below _ T90 (mkF m 184 #[.val (.long i0), .second, .val (.long i1), .second, .val (.long i2), .second, .val (.int i3), .val (.int l0), .val (.int l1), .val (.int l2), .val (.int p0), .val (.int p1), .val (.int p2), .val (.int n), .val (.int c0), .val (.int c1), .val (.int c2), .val (.ref lp), .val (.ref o1), .val (.ref bb), .unset] [(.ref lp), (.ref bb)])
    have hch : own_chn Z T90.heap [(c1, p1), (c0, p0)] (.ref o1) := ⟨o1, _, rfl, F_cls_o1, F_point_o1, F_previous_o1, ⟨o0, _, rfl, F_cls_o0, F_point_o0, F_previous_o0, rfl⟩⟩
    have hi3 : ∀ x ∈ ([(c1, p1), (c0, p0)] : List (Int32 × Int32)), own_in3 x.1 := by
      intro x hx
      simp only [List.mem_cons, List.not_mem_nil, or_false] at hx
      rcases hx with rfl | rfl
      · exact own_in3_of hc1
      · exact own_in3_of hc0
    obtain ⟨cq91, kq91, q91a, q91b, q91c⟩ := isOf hZ rfl E_bb
    obtain ⟨_, _, ⟨T91, L91, k91, n91⟩, -, X91, ⟨Lc91, hQ91, l91, y91, z91⟩, st91⟩ := X90.virtualBack hx (y := (⟨"com/example/bidkeel/bidkeel/Knapsack$Best", "points", "([I)[I"⟩ : MethodName)) (z := (⟨"com/example/bidkeel/bidkeel/Knapsack$Best", "points", "([I)[I"⟩ : MethodName)) hown (mvT hZ (hw _ (List.mem_of_getElem? (i := 36) rfl))) (mvT hZ (hw _ (List.mem_of_getElem? (i := 37) rfl))) (notFace_of_selects (args := #[]) (mvT hZ (hw _ (List.mem_of_getElem? (i := 39) rfl)))) (mvT hZ (hw _ (List.mem_of_getElem? (i := 39) rfl))) (mvT hZ (hw _ (List.mem_of_getElem? (i := 38) rfl))) (by decide) (backOf (W := 0) (rmP l Z a0 hw [] bb lp (.ref o1) [(c1, p1), (c0, p0)] l0 l1 l2 k50 T90.heap n0 Zn F_changes_bb hch hi3 V_lp E_lp) hZ (hw _ (List.mem_of_getElem? (i := 40) rfl)) (hw _ (List.mem_of_getElem? (i := 18) rfl)) (by decide) (by decide)) q91a q91c (g := (mkF m 184 #[.val (.long i0), .second, .val (.long i1), .second, .val (.long i2), .second, .val (.int i3), .val (.int l0), .val (.int l1), .val (.int l2), .val (.int p0), .val (.int p1), .val (.int p2), .val (.int n), .val (.int c0), .val (.int c1), .val (.int c2), .val (.ref lp), .val (.ref o1), .val (.ref bb), .unset] [(.ref lp), (.ref bb)])) rfl (by rw [hml]; rfl) (Steps.refl _) (argsL := [(.ref lp)]) (rest := []) (lenOf own_f94 rfl) rfl (by show 2 * 0 + _ ≤ _; exact Nat.le_of_eq rfl) (hb hby at_184) (fun _ _ => ⟨rfl, rfl, (by dsimp only [Pt.cells, Pt.slots]; decide), (by dsimp only [Pt.cells, Pt.slots]; decide)⟩)
    dsimp only [Pt.U, Pt.locs, Pt.cells, Pt.slots] at X91 l91 y91 z91 st91 hQ91
    subst l91 y91 z91
    obtain ⟨rr, kr, rfl, N91q, K91, V_rr⟩ := hQ91
    have N91 := Fr.app N90 N91q
    refine Go.step (fun _ k => st91.trans k) ?_
    replace E_lp := E_lp.keep K91
    replace V_lp := V_lp.keep K91 nin0
    replace E_o0 := E_o0.keep K91
    replace F_cls_o0 := F_cls_o0.keep K91 nin0
    replace F_point_o0 := F_point_o0.keep K91 nin0
    replace F_previous_o0 := F_previous_o0.keep K91 nin0
    replace E_o1 := E_o1.keep K91
    replace F_cls_o1 := F_cls_o1.keep K91 nin0
    replace F_point_o1 := F_point_o1.keep K91 nin0
    replace F_previous_o1 := F_previous_o1.keep K91 nin0
    replace E_bb := E_bb.keep K91
    replace F_changes_bb := F_changes_bb.keep K91 nin0
    replace K0 := K0.trans K91 (all0)
    replace Zn := Nat.le_trans Zn K91.1
    show Go p e below _ T91 (mkF m 187 #[.val (.long i0), .second, .val (.long i1), .second, .val (.long i2), .second, .val (.int i3), .val (.int l0), .val (.int l1), .val (.int l2), .val (.int p0), .val (.int p1), .val (.int p2), .val (.int n), .val (.int c0), .val (.int c1), .val (.int c2), .val (.ref lp), .val (.ref o1), .val (.ref bb), .unset] [(.ref rr)])
    have hsame := own_same n c0 c1 c2 p0 p1 p2 l0 l1 l2 hn hc0 hc1 hc2 [(c1, p1), (c0, p0)] (by rw [hk0]; rfl)
    rw [hsame] at V_rr
    have V_rr : Arv Z T91.heap rr kr .int (3 : Int32) [(.int (own_exp 0 n c0 c1 c2 p0 p1 p2 l0)), (.int (own_exp 1 n c0 c1 c2 p0 p1 p2 l1)), (.int (own_exp 2 n c0 c1 c2 p0 p1 p2 l2))] (.int (0 : Int32)) := V_rr
    refine Go.step (fun _ k => XS.astore X91.here hx rfl (hb hby at_187) rfl rfl (l' := #[.val (.long i0), .second, .val (.long i1), .second, .val (.long i2), .second, .val (.int i3), .val (.int l0), .val (.int l1), .val (.int l2), .val (.int p0), .val (.int p1), .val (.int p2), .val (.int n), .val (.int c0), .val (.int c1), .val (.int c2), .val (.ref lp), .val (.ref o1), .val (.ref bb), .val (.ref rr)]) rfl k) ?_
    show Go p e below _ T91 (mkF m 189 #[.val (.long i0), .second, .val (.long i1), .second, .val (.long i2), .second, .val (.int i3), .val (.int l0), .val (.int l1), .val (.int l2), .val (.int p0), .val (.int p1), .val (.int p2), .val (.int n), .val (.int c0), .val (.int c1), .val (.int c2), .val (.ref lp), .val (.ref o1), .val (.ref bb), .val (.ref rr)] [])
    refine Go.step (fun _ k => XS.aload X91.here hx rfl (hb hby at_189) rfl rfl k) ?_
    show Go p e below _ T91 (mkF m 191 #[.val (.long i0), .second, .val (.long i1), .second, .val (.long i2), .second, .val (.int i3), .val (.int l0), .val (.int l1), .val (.int l2), .val (.int p0), .val (.int p1), .val (.int p2), .val (.int n), .val (.int c0), .val (.int c1), .val (.int c2), .val (.ref lp), .val (.ref o1), .val (.ref bb), .val (.ref rr)] [(.ref rr)])
    refine Go.step (fun _ k => XS.ifnullNo X91.here hx rfl (hb hby at_191) rfl k) ?_
    show Go p e below _ T91 (mkF m 194 #[.val (.long i0), .second, .val (.long i1), .second, .val (.long i2), .second, .val (.int i3), .val (.int l0), .val (.int l1), .val (.int l2), .val (.int p0), .val (.int p1), .val (.int p2), .val (.int n), .val (.int c0), .val (.int c1), .val (.int c2), .val (.ref lp), .val (.ref o1), .val (.ref bb), .val (.ref rr)] [])
    refine Go.step (fun _ k => XS.aload X91.here hx rfl (hb hby at_194) rfl rfl k) ?_
    show Go p e below _ T91 (mkF m 196 #[.val (.long i0), .second, .val (.long i1), .second, .val (.long i2), .second, .val (.int i3), .val (.int l0), .val (.int l1), .val (.int l2), .val (.int p0), .val (.int p1), .val (.int p2), .val (.int n), .val (.int c0), .val (.int c1), .val (.int c2), .val (.ref lp), .val (.ref o1), .val (.ref bb), .val (.ref rr)] [(.ref rr)])
    obtain ⟨cl92, Ar92, q92, S92, Nn92, H92, G92⟩ := V_rr
    have V_rr : Arv Z T91.heap rr kr .int (3 : Int32) [(.int (own_exp 0 n c0 c1 c2 p0 p1 p2 l0)), (.int (own_exp 1 n c0 c1 c2 p0 p1 p2 l1)), (.int (own_exp 2 n c0 c1 c2 p0 p1 p2 l2))] (.int (0 : Int32)) := ⟨cl92, Ar92, q92, S92, Nn92, H92, G92⟩
    refine Go.step (X91.arraylength hx Ar92.1 (State.isArrayOf_alike hZ.alike Ar92.2.1) (g := (mkF m 196 #[.val (.long i0), .second, .val (.long i1), .second, .val (.long i2), .second, .val (.int i3), .val (.int l0), .val (.int l1), .val (.int l2), .val (.int p0), .val (.int p1), .val (.int p2), .val (.int n), .val (.int c0), .val (.int c1), .val (.int c2), .val (.ref lp), .val (.ref o1), .val (.ref bb), .val (.ref rr)] [(.ref rr)])) rfl rfl (hb hby at_196)) ?_
    rw [len_of S92 Nn92]
    show Go p e below _ T91 (mkF m 197 #[.val (.long i0), .second, .val (.long i1), .second, .val (.long i2), .second, .val (.int i3), .val (.int l0), .val (.int l1), .val (.int l2), .val (.int p0), .val (.int p1), .val (.int p2), .val (.int n), .val (.int c0), .val (.int c1), .val (.int c2), .val (.ref lp), .val (.ref o1), .val (.ref bb), .val (.ref rr)] [(.int (3 : Int32))])
    refine Go.step (fun _ k => XS.iconst X91.here hx rfl (hb hby at_197) k) ?_
    show Go p e below _ T91 (mkF m 198 #[.val (.long i0), .second, .val (.long i1), .second, .val (.long i2), .second, .val (.int i3), .val (.int l0), .val (.int l1), .val (.int l2), .val (.int p0), .val (.int p1), .val (.int p2), .val (.int n), .val (.int c0), .val (.int c1), .val (.int c2), .val (.ref lp), .val (.ref o1), .val (.ref bb), .val (.ref rr)] [(.int (3 : Int32)), (.int (3 : Int32))])
    refine Go.step (fun _ k => XS.icmpYes X91.here hx rfl (pc0 := 198) (pc' := 203) rfl (hb hby at_198) rfl (teq rfl).1 (by decide) (by decide) k) ?_
    show Go p e below _ T91 (mkF m 203 #[.val (.long i0), .second, .val (.long i1), .second, .val (.long i2), .second, .val (.int i3), .val (.int l0), .val (.int l1), .val (.int l2), .val (.int p0), .val (.int p1), .val (.int p2), .val (.int n), .val (.int c0), .val (.int c1), .val (.int c2), .val (.ref lp), .val (.ref o1), .val (.ref bb), .val (.ref rr)] [])
    refine Go.step (fun _ k => XS.aload X91.here hx rfl (hb hby at_203) rfl rfl k) ?_
    show Go p e below _ T91 (mkF m 205 #[.val (.long i0), .second, .val (.long i1), .second, .val (.long i2), .second, .val (.int i3), .val (.int l0), .val (.int l1), .val (.int l2), .val (.int p0), .val (.int p1), .val (.int p2), .val (.int n), .val (.int c0), .val (.int c1), .val (.int c2), .val (.ref lp), .val (.ref o1), .val (.ref bb), .val (.ref rr)] [(.ref lp)])
    refine Go.step (fun _ k => XS.iconst X91.here hx rfl (hb hby at_205) k) ?_
    show Go p e below _ T91 (mkF m 206 #[.val (.long i0), .second, .val (.long i1), .second, .val (.long i2), .second, .val (.int i3), .val (.int l0), .val (.int l1), .val (.int l2), .val (.int p0), .val (.int p1), .val (.int p2), .val (.int n), .val (.int c0), .val (.int c1), .val (.int c2), .val (.ref lp), .val (.ref o1), .val (.ref bb), .val (.ref rr)] [(.int (0 : Int32)), (.ref lp)])
    obtain ⟨cl93, Ar93, q93, S93, Nn93, H93, G93⟩ := V_lp
    have V_lp : Arv Z T91.heap lp k50 .int (3 : Int32) [(.int l0), (.int l1), (.int l2)] (.int (0 : Int32)) := ⟨cl93, Ar93, q93, S93, Nn93, H93, G93⟩
    have hin93 : ¬ ((0 : Int32) < 0 ∨ cl93.slots.size ≤ ((0 : Int32)).toNatClampNeg) := inb_of S93 ⟨by decide, by decide⟩
    have hat93 : cl93.slots[((0 : Int32)).toNatClampNeg]? = some (.int l0) := Has.at H93 hin93 rfl
    refine Go.step (X91.iaload hx (j := (0 : Int32)) (v := (.int l0)) Ar93.1 (State.isArrayOf_alike hZ.alike Ar93.2.1) Ar93.2.2 hin93 hat93 (g := (mkF m 206 #[.val (.long i0), .second, .val (.long i1), .second, .val (.long i2), .second, .val (.int i3), .val (.int l0), .val (.int l1), .val (.int l2), .val (.int p0), .val (.int p1), .val (.int p2), .val (.int n), .val (.int c0), .val (.int c1), .val (.int c2), .val (.ref lp), .val (.ref o1), .val (.ref bb), .val (.ref rr)] [(.int (0 : Int32)), (.ref lp)])) rfl rfl (hb hby at_206)) ?_
    show Go p e below _ T91 (mkF m 207 #[.val (.long i0), .second, .val (.long i1), .second, .val (.long i2), .second, .val (.int i3), .val (.int l0), .val (.int l1), .val (.int l2), .val (.int p0), .val (.int p1), .val (.int p2), .val (.int n), .val (.int c0), .val (.int c1), .val (.int c2), .val (.ref lp), .val (.ref o1), .val (.ref bb), .val (.ref rr)] [(.int l0)])
    refine Go.step (fun _ k => XS.iload X91.here hx rfl (hb hby at_207) rfl k) ?_
    show Go p e below _ T91 (mkF m 209 #[.val (.long i0), .second, .val (.long i1), .second, .val (.long i2), .second, .val (.int i3), .val (.int l0), .val (.int l1), .val (.int l2), .val (.int p0), .val (.int p1), .val (.int p2), .val (.int n), .val (.int c0), .val (.int c1), .val (.int c2), .val (.ref lp), .val (.ref o1), .val (.ref bb), .val (.ref rr)] [(.int l0), (.int l0)])
    refine Go.step (fun _ k => XS.icmpNo X91.here hx rfl (hb hby at_209) rfl (teq rfl).2 k) ?_
    show Go p e below _ T91 (mkF m 212 #[.val (.long i0), .second, .val (.long i1), .second, .val (.long i2), .second, .val (.int i3), .val (.int l0), .val (.int l1), .val (.int l2), .val (.int p0), .val (.int p1), .val (.int p2), .val (.int n), .val (.int c0), .val (.int c1), .val (.int c2), .val (.ref lp), .val (.ref o1), .val (.ref bb), .val (.ref rr)] [])
    refine Go.step (fun _ k => XS.aload X91.here hx rfl (hb hby at_212) rfl rfl k) ?_
    show Go p e below _ T91 (mkF m 214 #[.val (.long i0), .second, .val (.long i1), .second, .val (.long i2), .second, .val (.int i3), .val (.int l0), .val (.int l1), .val (.int l2), .val (.int p0), .val (.int p1), .val (.int p2), .val (.int n), .val (.int c0), .val (.int c1), .val (.int c2), .val (.ref lp), .val (.ref o1), .val (.ref bb), .val (.ref rr)] [(.ref lp)])
    refine Go.step (fun _ k => XS.iconst X91.here hx rfl (hb hby at_214) k) ?_
    show Go p e below _ T91 (mkF m 215 #[.val (.long i0), .second, .val (.long i1), .second, .val (.long i2), .second, .val (.int i3), .val (.int l0), .val (.int l1), .val (.int l2), .val (.int p0), .val (.int p1), .val (.int p2), .val (.int n), .val (.int c0), .val (.int c1), .val (.int c2), .val (.ref lp), .val (.ref o1), .val (.ref bb), .val (.ref rr)] [(.int (1 : Int32)), (.ref lp)])
    obtain ⟨cl94, Ar94, q94, S94, Nn94, H94, G94⟩ := V_lp
    have V_lp : Arv Z T91.heap lp k50 .int (3 : Int32) [(.int l0), (.int l1), (.int l2)] (.int (0 : Int32)) := ⟨cl94, Ar94, q94, S94, Nn94, H94, G94⟩
    have hin94 : ¬ ((1 : Int32) < 0 ∨ cl94.slots.size ≤ ((1 : Int32)).toNatClampNeg) := inb_of S94 ⟨by decide, by decide⟩
    have hat94 : cl94.slots[((1 : Int32)).toNatClampNeg]? = some (.int l1) := Has.at H94 hin94 rfl
    refine Go.step (X91.iaload hx (j := (1 : Int32)) (v := (.int l1)) Ar94.1 (State.isArrayOf_alike hZ.alike Ar94.2.1) Ar94.2.2 hin94 hat94 (g := (mkF m 215 #[.val (.long i0), .second, .val (.long i1), .second, .val (.long i2), .second, .val (.int i3), .val (.int l0), .val (.int l1), .val (.int l2), .val (.int p0), .val (.int p1), .val (.int p2), .val (.int n), .val (.int c0), .val (.int c1), .val (.int c2), .val (.ref lp), .val (.ref o1), .val (.ref bb), .val (.ref rr)] [(.int (1 : Int32)), (.ref lp)])) rfl rfl (hb hby at_215)) ?_
    show Go p e below _ T91 (mkF m 216 #[.val (.long i0), .second, .val (.long i1), .second, .val (.long i2), .second, .val (.int i3), .val (.int l0), .val (.int l1), .val (.int l2), .val (.int p0), .val (.int p1), .val (.int p2), .val (.int n), .val (.int c0), .val (.int c1), .val (.int c2), .val (.ref lp), .val (.ref o1), .val (.ref bb), .val (.ref rr)] [(.int l1)])
    refine Go.step (fun _ k => XS.iload X91.here hx rfl (hb hby at_216) rfl k) ?_
    show Go p e below _ T91 (mkF m 218 #[.val (.long i0), .second, .val (.long i1), .second, .val (.long i2), .second, .val (.int i3), .val (.int l0), .val (.int l1), .val (.int l2), .val (.int p0), .val (.int p1), .val (.int p2), .val (.int n), .val (.int c0), .val (.int c1), .val (.int c2), .val (.ref lp), .val (.ref o1), .val (.ref bb), .val (.ref rr)] [(.int l1), (.int l1)])
    refine Go.step (fun _ k => XS.icmpNo X91.here hx rfl (hb hby at_218) rfl (teq rfl).2 k) ?_
    show Go p e below _ T91 (mkF m 221 #[.val (.long i0), .second, .val (.long i1), .second, .val (.long i2), .second, .val (.int i3), .val (.int l0), .val (.int l1), .val (.int l2), .val (.int p0), .val (.int p1), .val (.int p2), .val (.int n), .val (.int c0), .val (.int c1), .val (.int c2), .val (.ref lp), .val (.ref o1), .val (.ref bb), .val (.ref rr)] [])
    refine Go.step (fun _ k => XS.aload X91.here hx rfl (hb hby at_221) rfl rfl k) ?_
    show Go p e below _ T91 (mkF m 223 #[.val (.long i0), .second, .val (.long i1), .second, .val (.long i2), .second, .val (.int i3), .val (.int l0), .val (.int l1), .val (.int l2), .val (.int p0), .val (.int p1), .val (.int p2), .val (.int n), .val (.int c0), .val (.int c1), .val (.int c2), .val (.ref lp), .val (.ref o1), .val (.ref bb), .val (.ref rr)] [(.ref lp)])
    refine Go.step (fun _ k => XS.iconst X91.here hx rfl (hb hby at_223) k) ?_
    show Go p e below _ T91 (mkF m 224 #[.val (.long i0), .second, .val (.long i1), .second, .val (.long i2), .second, .val (.int i3), .val (.int l0), .val (.int l1), .val (.int l2), .val (.int p0), .val (.int p1), .val (.int p2), .val (.int n), .val (.int c0), .val (.int c1), .val (.int c2), .val (.ref lp), .val (.ref o1), .val (.ref bb), .val (.ref rr)] [(.int (2 : Int32)), (.ref lp)])
    obtain ⟨cl95, Ar95, q95, S95, Nn95, H95, G95⟩ := V_lp
    have V_lp : Arv Z T91.heap lp k50 .int (3 : Int32) [(.int l0), (.int l1), (.int l2)] (.int (0 : Int32)) := ⟨cl95, Ar95, q95, S95, Nn95, H95, G95⟩
    have hin95 : ¬ ((2 : Int32) < 0 ∨ cl95.slots.size ≤ ((2 : Int32)).toNatClampNeg) := inb_of S95 ⟨by decide, by decide⟩
    have hat95 : cl95.slots[((2 : Int32)).toNatClampNeg]? = some (.int l2) := Has.at H95 hin95 rfl
    refine Go.step (X91.iaload hx (j := (2 : Int32)) (v := (.int l2)) Ar95.1 (State.isArrayOf_alike hZ.alike Ar95.2.1) Ar95.2.2 hin95 hat95 (g := (mkF m 224 #[.val (.long i0), .second, .val (.long i1), .second, .val (.long i2), .second, .val (.int i3), .val (.int l0), .val (.int l1), .val (.int l2), .val (.int p0), .val (.int p1), .val (.int p2), .val (.int n), .val (.int c0), .val (.int c1), .val (.int c2), .val (.ref lp), .val (.ref o1), .val (.ref bb), .val (.ref rr)] [(.int (2 : Int32)), (.ref lp)])) rfl rfl (hb hby at_224)) ?_
    show Go p e below _ T91 (mkF m 225 #[.val (.long i0), .second, .val (.long i1), .second, .val (.long i2), .second, .val (.int i3), .val (.int l0), .val (.int l1), .val (.int l2), .val (.int p0), .val (.int p1), .val (.int p2), .val (.int n), .val (.int c0), .val (.int c1), .val (.int c2), .val (.ref lp), .val (.ref o1), .val (.ref bb), .val (.ref rr)] [(.int l2)])
    refine Go.step (fun _ k => XS.iload X91.here hx rfl (hb hby at_225) rfl k) ?_
    show Go p e below _ T91 (mkF m 227 #[.val (.long i0), .second, .val (.long i1), .second, .val (.long i2), .second, .val (.int i3), .val (.int l0), .val (.int l1), .val (.int l2), .val (.int p0), .val (.int p1), .val (.int p2), .val (.int n), .val (.int c0), .val (.int c1), .val (.int c2), .val (.ref lp), .val (.ref o1), .val (.ref bb), .val (.ref rr)] [(.int l2), (.int l2)])
    refine Go.step (fun _ k => XS.icmpYes X91.here hx rfl (pc0 := 227) (pc' := 232) rfl (hb hby at_227) rfl (teq rfl).1 (by decide) (by decide) k) ?_
    show Go p e below _ T91 (mkF m 232 #[.val (.long i0), .second, .val (.long i1), .second, .val (.long i2), .second, .val (.int i3), .val (.int l0), .val (.int l1), .val (.int l2), .val (.int p0), .val (.int p1), .val (.int p2), .val (.int n), .val (.int c0), .val (.int c1), .val (.int c2), .val (.ref lp), .val (.ref o1), .val (.ref bb), .val (.ref rr)] [])
    refine Go.step (fun _ k => XS.aload X91.here hx rfl (hb hby at_232) rfl rfl k) ?_
    show Go p e below _ T91 (mkF m 234 #[.val (.long i0), .second, .val (.long i1), .second, .val (.long i2), .second, .val (.int i3), .val (.int l0), .val (.int l1), .val (.int l2), .val (.int p0), .val (.int p1), .val (.int p2), .val (.int n), .val (.int c0), .val (.int c1), .val (.int c2), .val (.ref lp), .val (.ref o1), .val (.ref bb), .val (.ref rr)] [(.ref rr)])
    refine Go.step (fun _ k => XS.iconst X91.here hx rfl (hb hby at_234) k) ?_
    show Go p e below _ T91 (mkF m 235 #[.val (.long i0), .second, .val (.long i1), .second, .val (.long i2), .second, .val (.int i3), .val (.int l0), .val (.int l1), .val (.int l2), .val (.int p0), .val (.int p1), .val (.int p2), .val (.int n), .val (.int c0), .val (.int c1), .val (.int c2), .val (.ref lp), .val (.ref o1), .val (.ref bb), .val (.ref rr)] [(.int (0 : Int32)), (.ref rr)])
    obtain ⟨cl96, Ar96, q96, S96, Nn96, H96, G96⟩ := V_rr
    have V_rr : Arv Z T91.heap rr kr .int (3 : Int32) [(.int (own_exp 0 n c0 c1 c2 p0 p1 p2 l0)), (.int (own_exp 1 n c0 c1 c2 p0 p1 p2 l1)), (.int (own_exp 2 n c0 c1 c2 p0 p1 p2 l2))] (.int (0 : Int32)) := ⟨cl96, Ar96, q96, S96, Nn96, H96, G96⟩
    have hin96 : ¬ ((0 : Int32) < 0 ∨ cl96.slots.size ≤ ((0 : Int32)).toNatClampNeg) := inb_of S96 ⟨by decide, by decide⟩
    have hat96 : cl96.slots[((0 : Int32)).toNatClampNeg]? = some (.int (own_exp 0 n c0 c1 c2 p0 p1 p2 l0)) := Has.at H96 hin96 rfl
    refine Go.step (X91.iaload hx (j := (0 : Int32)) (v := (.int (own_exp 0 n c0 c1 c2 p0 p1 p2 l0))) Ar96.1 (State.isArrayOf_alike hZ.alike Ar96.2.1) Ar96.2.2 hin96 hat96 (g := (mkF m 235 #[.val (.long i0), .second, .val (.long i1), .second, .val (.long i2), .second, .val (.int i3), .val (.int l0), .val (.int l1), .val (.int l2), .val (.int p0), .val (.int p1), .val (.int p2), .val (.int n), .val (.int c0), .val (.int c1), .val (.int c2), .val (.ref lp), .val (.ref o1), .val (.ref bb), .val (.ref rr)] [(.int (0 : Int32)), (.ref rr)])) rfl rfl (hb hby at_235)) ?_
    show Go p e below _ T91 (mkF m 236 #[.val (.long i0), .second, .val (.long i1), .second, .val (.long i2), .second, .val (.int i3), .val (.int l0), .val (.int l1), .val (.int l2), .val (.int p0), .val (.int p1), .val (.int p2), .val (.int n), .val (.int c0), .val (.int c1), .val (.int c2), .val (.ref lp), .val (.ref o1), .val (.ref bb), .val (.ref rr)] [(.int (own_exp 0 n c0 c1 c2 p0 p1 p2 l0))])
    refine Go.step (fun _ k => XS.iconst X91.here hx rfl (hb hby at_236) k) ?_
    show Go p e below _ T91 (mkF m 237 #[.val (.long i0), .second, .val (.long i1), .second, .val (.long i2), .second, .val (.int i3), .val (.int l0), .val (.int l1), .val (.int l2), .val (.int p0), .val (.int p1), .val (.int p2), .val (.int n), .val (.int c0), .val (.int c1), .val (.int c2), .val (.ref lp), .val (.ref o1), .val (.ref bb), .val (.ref rr)] [(.int (0 : Int32)), (.int (own_exp 0 n c0 c1 c2 p0 p1 p2 l0))])
    refine Go.step (fun _ k => XS.iload X91.here hx rfl (hb hby at_237) rfl k) ?_
    show Go p e below _ T91 (mkF m 239 #[.val (.long i0), .second, .val (.long i1), .second, .val (.long i2), .second, .val (.int i3), .val (.int l0), .val (.int l1), .val (.int l2), .val (.int p0), .val (.int p1), .val (.int p2), .val (.int n), .val (.int c0), .val (.int c1), .val (.int c2), .val (.ref lp), .val (.ref o1), .val (.ref bb), .val (.ref rr)] [(.int n), (.int (0 : Int32)), (.int (own_exp 0 n c0 c1 c2 p0 p1 p2 l0))])
    refine Go.step (fun _ k => XS.iload X91.here hx rfl (hb hby at_239) rfl k) ?_
    show Go p e below _ T91 (mkF m 241 #[.val (.long i0), .second, .val (.long i1), .second, .val (.long i2), .second, .val (.int i3), .val (.int l0), .val (.int l1), .val (.int l2), .val (.int p0), .val (.int p1), .val (.int p2), .val (.int n), .val (.int c0), .val (.int c1), .val (.int c2), .val (.ref lp), .val (.ref o1), .val (.ref bb), .val (.ref rr)] [(.int c0), (.int n), (.int (0 : Int32)), (.int (own_exp 0 n c0 c1 c2 p0 p1 p2 l0))])
    refine Go.step (fun _ k => XS.iload X91.here hx rfl (hb hby at_241) rfl k) ?_
    show Go p e below _ T91 (mkF m 243 #[.val (.long i0), .second, .val (.long i1), .second, .val (.long i2), .second, .val (.int i3), .val (.int l0), .val (.int l1), .val (.int l2), .val (.int p0), .val (.int p1), .val (.int p2), .val (.int n), .val (.int c0), .val (.int c1), .val (.int c2), .val (.ref lp), .val (.ref o1), .val (.ref bb), .val (.ref rr)] [(.int c1), (.int c0), (.int n), (.int (0 : Int32)), (.int (own_exp 0 n c0 c1 c2 p0 p1 p2 l0))])
    refine Go.step (fun _ k => XS.iload X91.here hx rfl (hb hby at_243) rfl k) ?_
    show Go p e below _ T91 (mkF m 245 #[.val (.long i0), .second, .val (.long i1), .second, .val (.long i2), .second, .val (.int i3), .val (.int l0), .val (.int l1), .val (.int l2), .val (.int p0), .val (.int p1), .val (.int p2), .val (.int n), .val (.int c0), .val (.int c1), .val (.int c2), .val (.ref lp), .val (.ref o1), .val (.ref bb), .val (.ref rr)] [(.int c2), (.int c1), (.int c0), (.int n), (.int (0 : Int32)), (.int (own_exp 0 n c0 c1 c2 p0 p1 p2 l0))])
    refine Go.step (fun _ k => XS.iload X91.here hx rfl (hb hby at_245) rfl k) ?_
    show Go p e below _ T91 (mkF m 247 #[.val (.long i0), .second, .val (.long i1), .second, .val (.long i2), .second, .val (.int i3), .val (.int l0), .val (.int l1), .val (.int l2), .val (.int p0), .val (.int p1), .val (.int p2), .val (.int n), .val (.int c0), .val (.int c1), .val (.int c2), .val (.ref lp), .val (.ref o1), .val (.ref bb), .val (.ref rr)] [(.int p0), (.int c2), (.int c1), (.int c0), (.int n), (.int (0 : Int32)), (.int (own_exp 0 n c0 c1 c2 p0 p1 p2 l0))])
    refine Go.step (fun _ k => XS.iload X91.here hx rfl (hb hby at_247) rfl k) ?_
    show Go p e below _ T91 (mkF m 249 #[.val (.long i0), .second, .val (.long i1), .second, .val (.long i2), .second, .val (.int i3), .val (.int l0), .val (.int l1), .val (.int l2), .val (.int p0), .val (.int p1), .val (.int p2), .val (.int n), .val (.int c0), .val (.int c1), .val (.int c2), .val (.ref lp), .val (.ref o1), .val (.ref bb), .val (.ref rr)] [(.int p1), (.int p0), (.int c2), (.int c1), (.int c0), (.int n), (.int (0 : Int32)), (.int (own_exp 0 n c0 c1 c2 p0 p1 p2 l0))])
    refine Go.step (fun _ k => XS.iload X91.here hx rfl (hb hby at_249) rfl k) ?_
    show Go p e below _ T91 (mkF m 251 #[.val (.long i0), .second, .val (.long i1), .second, .val (.long i2), .second, .val (.int i3), .val (.int l0), .val (.int l1), .val (.int l2), .val (.int p0), .val (.int p1), .val (.int p2), .val (.int n), .val (.int c0), .val (.int c1), .val (.int c2), .val (.ref lp), .val (.ref o1), .val (.ref bb), .val (.ref rr)] [(.int p2), (.int p1), (.int p0), (.int c2), (.int c1), (.int c0), (.int n), (.int (0 : Int32)), (.int (own_exp 0 n c0 c1 c2 p0 p1 p2 l0))])
    refine Go.step (fun _ k => XS.iload X91.here hx rfl (hb hby at_251) rfl k) ?_
    show Go p e below _ T91 (mkF m 253 #[.val (.long i0), .second, .val (.long i1), .second, .val (.long i2), .second, .val (.int i3), .val (.int l0), .val (.int l1), .val (.int l2), .val (.int p0), .val (.int p1), .val (.int p2), .val (.int n), .val (.int c0), .val (.int c1), .val (.int c2), .val (.ref lp), .val (.ref o1), .val (.ref bb), .val (.ref rr)] [(.int l0), (.int p2), (.int p1), (.int p0), (.int c2), (.int c1), (.int c0), (.int n), (.int (0 : Int32)), (.int (own_exp 0 n c0 c1 c2 p0 p1 p2 l0))])
    obtain ⟨_, _, ⟨T97, L97, k97, n97⟩, -, X97, ⟨Lc97, hQ97, l97, y97, z97⟩, st97⟩ := Jvm.LawKit.callS X91 hx (y := (⟨"com/example/bidkeel/bidkeel/BestPointsPinLaw", "expected", "(IIIIIIIII)I"⟩ : MethodName)) hown (mvT hZ (hw _ (List.mem_of_getElem? (i := 54) rfl))) (mvT hZ (hw _ (List.mem_of_getElem? (i := 55) rfl))) (mvT hZ (hw _ (List.mem_of_getElem? (i := 56) rfl))) (mvT hZ (hw _ (List.mem_of_getElem? (i := 57) rfl))) (by decide) (backOf (W := 1) (rmX l Z a0 hw [] (0 : Int32) n c0 c1 c2 p0 p1 p2 l0 T91.heap n0 Zn) hZ (hw _ (List.mem_of_getElem? (i := 57) rfl)) (hw _ (List.mem_of_getElem? (i := 56) rfl)) (by decide) (by decide)) (g := (mkF m 253 #[.val (.long i0), .second, .val (.long i1), .second, .val (.long i2), .second, .val (.int i3), .val (.int l0), .val (.int l1), .val (.int l2), .val (.int p0), .val (.int p1), .val (.int p2), .val (.int n), .val (.int c0), .val (.int c1), .val (.int c2), .val (.ref lp), .val (.ref o1), .val (.ref bb), .val (.ref rr)] [(.int l0), (.int p2), (.int p1), (.int p0), (.int c2), (.int c1), (.int c0), (.int n), (.int (0 : Int32)), (.int (own_exp 0 n c0 c1 c2 p0 p1 p2 l0))])) rfl (by rw [hml]; rfl) (argsL := [(.int (0 : Int32)), (.int n), (.int c0), (.int c1), (.int c2), (.int p0), (.int p1), (.int p2), (.int l0)]) (rest := [(.int (own_exp 0 n c0 c1 c2 p0 p1 p2 l0))]) (lenOf own_f95 rfl) rfl (by show 2 * 0 + _ ≤ _; exact Nat.le_of_eq rfl) (hb hby at_253) (fun _ _ => ⟨rfl, rfl, (by dsimp only [Pt.cells, Pt.slots]; decide), (by dsimp only [Pt.cells, Pt.slots]; decide)⟩)
    dsimp only [Pt.U, Pt.locs, Pt.cells, Pt.slots] at X97 l97 y97 z97 st97 hQ97
    subst l97 y97 z97
    obtain ⟨rfl, N97q, e97⟩ := hQ97
    have N97 := Fr.app N91 N97q
    refine Go.step (st97) ?_
    show Go p e below _ T97 (mkF m 256 #[.val (.long i0), .second, .val (.long i1), .second, .val (.long i2), .second, .val (.int i3), .val (.int l0), .val (.int l1), .val (.int l2), .val (.int p0), .val (.int p1), .val (.int p2), .val (.int n), .val (.int c0), .val (.int c1), .val (.int c2), .val (.ref lp), .val (.ref o1), .val (.ref bb), .val (.ref rr)] [(.int (own_exp 0 n c0 c1 c2 p0 p1 p2 l0)), (.int (own_exp 0 n c0 c1 c2 p0 p1 p2 l0))])
    refine Go.step (fun _ k => XS.icmpNo X97.here hx rfl (hb hby at_256) rfl (teq rfl).2 k) ?_
    show Go p e below _ T97 (mkF m 259 #[.val (.long i0), .second, .val (.long i1), .second, .val (.long i2), .second, .val (.int i3), .val (.int l0), .val (.int l1), .val (.int l2), .val (.int p0), .val (.int p1), .val (.int p2), .val (.int n), .val (.int c0), .val (.int c1), .val (.int c2), .val (.ref lp), .val (.ref o1), .val (.ref bb), .val (.ref rr)] [])
    refine Go.step (fun _ k => XS.aload X97.here hx rfl (hb hby at_259) rfl rfl k) ?_
    show Go p e below _ T97 (mkF m 261 #[.val (.long i0), .second, .val (.long i1), .second, .val (.long i2), .second, .val (.int i3), .val (.int l0), .val (.int l1), .val (.int l2), .val (.int p0), .val (.int p1), .val (.int p2), .val (.int n), .val (.int c0), .val (.int c1), .val (.int c2), .val (.ref lp), .val (.ref o1), .val (.ref bb), .val (.ref rr)] [(.ref rr)])
    refine Go.step (fun _ k => XS.iconst X97.here hx rfl (hb hby at_261) k) ?_
    show Go p e below _ T97 (mkF m 262 #[.val (.long i0), .second, .val (.long i1), .second, .val (.long i2), .second, .val (.int i3), .val (.int l0), .val (.int l1), .val (.int l2), .val (.int p0), .val (.int p1), .val (.int p2), .val (.int n), .val (.int c0), .val (.int c1), .val (.int c2), .val (.ref lp), .val (.ref o1), .val (.ref bb), .val (.ref rr)] [(.int (1 : Int32)), (.ref rr)])
    obtain ⟨cl98, Ar98, q98, S98, Nn98, H98, G98⟩ := V_rr
    have V_rr : Arv Z T91.heap rr kr .int (3 : Int32) [(.int (own_exp 0 n c0 c1 c2 p0 p1 p2 l0)), (.int (own_exp 1 n c0 c1 c2 p0 p1 p2 l1)), (.int (own_exp 2 n c0 c1 c2 p0 p1 p2 l2))] (.int (0 : Int32)) := ⟨cl98, Ar98, q98, S98, Nn98, H98, G98⟩
    have hin98 : ¬ ((1 : Int32) < 0 ∨ cl98.slots.size ≤ ((1 : Int32)).toNatClampNeg) := inb_of S98 ⟨by decide, by decide⟩
    have hat98 : cl98.slots[((1 : Int32)).toNatClampNeg]? = some (.int (own_exp 1 n c0 c1 c2 p0 p1 p2 l1)) := Has.at H98 hin98 rfl
    refine Go.step (X97.iaload hx (j := (1 : Int32)) (v := (.int (own_exp 1 n c0 c1 c2 p0 p1 p2 l1))) (by rw [e97]; exact Ar98.1) (State.isArrayOf_alike hZ.alike Ar98.2.1) Ar98.2.2 hin98 hat98 (g := (mkF m 262 #[.val (.long i0), .second, .val (.long i1), .second, .val (.long i2), .second, .val (.int i3), .val (.int l0), .val (.int l1), .val (.int l2), .val (.int p0), .val (.int p1), .val (.int p2), .val (.int n), .val (.int c0), .val (.int c1), .val (.int c2), .val (.ref lp), .val (.ref o1), .val (.ref bb), .val (.ref rr)] [(.int (1 : Int32)), (.ref rr)])) rfl rfl (hb hby at_262)) ?_
    show Go p e below _ T97 (mkF m 263 #[.val (.long i0), .second, .val (.long i1), .second, .val (.long i2), .second, .val (.int i3), .val (.int l0), .val (.int l1), .val (.int l2), .val (.int p0), .val (.int p1), .val (.int p2), .val (.int n), .val (.int c0), .val (.int c1), .val (.int c2), .val (.ref lp), .val (.ref o1), .val (.ref bb), .val (.ref rr)] [(.int (own_exp 1 n c0 c1 c2 p0 p1 p2 l1))])
    refine Go.step (fun _ k => XS.iconst X97.here hx rfl (hb hby at_263) k) ?_
    show Go p e below _ T97 (mkF m 264 #[.val (.long i0), .second, .val (.long i1), .second, .val (.long i2), .second, .val (.int i3), .val (.int l0), .val (.int l1), .val (.int l2), .val (.int p0), .val (.int p1), .val (.int p2), .val (.int n), .val (.int c0), .val (.int c1), .val (.int c2), .val (.ref lp), .val (.ref o1), .val (.ref bb), .val (.ref rr)] [(.int (1 : Int32)), (.int (own_exp 1 n c0 c1 c2 p0 p1 p2 l1))])
    refine Go.step (fun _ k => XS.iload X97.here hx rfl (hb hby at_264) rfl k) ?_
    show Go p e below _ T97 (mkF m 266 #[.val (.long i0), .second, .val (.long i1), .second, .val (.long i2), .second, .val (.int i3), .val (.int l0), .val (.int l1), .val (.int l2), .val (.int p0), .val (.int p1), .val (.int p2), .val (.int n), .val (.int c0), .val (.int c1), .val (.int c2), .val (.ref lp), .val (.ref o1), .val (.ref bb), .val (.ref rr)] [(.int n), (.int (1 : Int32)), (.int (own_exp 1 n c0 c1 c2 p0 p1 p2 l1))])
    refine Go.step (fun _ k => XS.iload X97.here hx rfl (hb hby at_266) rfl k) ?_
    show Go p e below _ T97 (mkF m 268 #[.val (.long i0), .second, .val (.long i1), .second, .val (.long i2), .second, .val (.int i3), .val (.int l0), .val (.int l1), .val (.int l2), .val (.int p0), .val (.int p1), .val (.int p2), .val (.int n), .val (.int c0), .val (.int c1), .val (.int c2), .val (.ref lp), .val (.ref o1), .val (.ref bb), .val (.ref rr)] [(.int c0), (.int n), (.int (1 : Int32)), (.int (own_exp 1 n c0 c1 c2 p0 p1 p2 l1))])
    refine Go.step (fun _ k => XS.iload X97.here hx rfl (hb hby at_268) rfl k) ?_
    show Go p e below _ T97 (mkF m 270 #[.val (.long i0), .second, .val (.long i1), .second, .val (.long i2), .second, .val (.int i3), .val (.int l0), .val (.int l1), .val (.int l2), .val (.int p0), .val (.int p1), .val (.int p2), .val (.int n), .val (.int c0), .val (.int c1), .val (.int c2), .val (.ref lp), .val (.ref o1), .val (.ref bb), .val (.ref rr)] [(.int c1), (.int c0), (.int n), (.int (1 : Int32)), (.int (own_exp 1 n c0 c1 c2 p0 p1 p2 l1))])
    refine Go.step (fun _ k => XS.iload X97.here hx rfl (hb hby at_270) rfl k) ?_
    show Go p e below _ T97 (mkF m 272 #[.val (.long i0), .second, .val (.long i1), .second, .val (.long i2), .second, .val (.int i3), .val (.int l0), .val (.int l1), .val (.int l2), .val (.int p0), .val (.int p1), .val (.int p2), .val (.int n), .val (.int c0), .val (.int c1), .val (.int c2), .val (.ref lp), .val (.ref o1), .val (.ref bb), .val (.ref rr)] [(.int c2), (.int c1), (.int c0), (.int n), (.int (1 : Int32)), (.int (own_exp 1 n c0 c1 c2 p0 p1 p2 l1))])
    refine Go.step (fun _ k => XS.iload X97.here hx rfl (hb hby at_272) rfl k) ?_
    show Go p e below _ T97 (mkF m 274 #[.val (.long i0), .second, .val (.long i1), .second, .val (.long i2), .second, .val (.int i3), .val (.int l0), .val (.int l1), .val (.int l2), .val (.int p0), .val (.int p1), .val (.int p2), .val (.int n), .val (.int c0), .val (.int c1), .val (.int c2), .val (.ref lp), .val (.ref o1), .val (.ref bb), .val (.ref rr)] [(.int p0), (.int c2), (.int c1), (.int c0), (.int n), (.int (1 : Int32)), (.int (own_exp 1 n c0 c1 c2 p0 p1 p2 l1))])
    refine Go.step (fun _ k => XS.iload X97.here hx rfl (hb hby at_274) rfl k) ?_
    show Go p e below _ T97 (mkF m 276 #[.val (.long i0), .second, .val (.long i1), .second, .val (.long i2), .second, .val (.int i3), .val (.int l0), .val (.int l1), .val (.int l2), .val (.int p0), .val (.int p1), .val (.int p2), .val (.int n), .val (.int c0), .val (.int c1), .val (.int c2), .val (.ref lp), .val (.ref o1), .val (.ref bb), .val (.ref rr)] [(.int p1), (.int p0), (.int c2), (.int c1), (.int c0), (.int n), (.int (1 : Int32)), (.int (own_exp 1 n c0 c1 c2 p0 p1 p2 l1))])
    refine Go.step (fun _ k => XS.iload X97.here hx rfl (hb hby at_276) rfl k) ?_
    show Go p e below _ T97 (mkF m 278 #[.val (.long i0), .second, .val (.long i1), .second, .val (.long i2), .second, .val (.int i3), .val (.int l0), .val (.int l1), .val (.int l2), .val (.int p0), .val (.int p1), .val (.int p2), .val (.int n), .val (.int c0), .val (.int c1), .val (.int c2), .val (.ref lp), .val (.ref o1), .val (.ref bb), .val (.ref rr)] [(.int p2), (.int p1), (.int p0), (.int c2), (.int c1), (.int c0), (.int n), (.int (1 : Int32)), (.int (own_exp 1 n c0 c1 c2 p0 p1 p2 l1))])
    refine Go.step (fun _ k => XS.iload X97.here hx rfl (hb hby at_278) rfl k) ?_
    show Go p e below _ T97 (mkF m 280 #[.val (.long i0), .second, .val (.long i1), .second, .val (.long i2), .second, .val (.int i3), .val (.int l0), .val (.int l1), .val (.int l2), .val (.int p0), .val (.int p1), .val (.int p2), .val (.int n), .val (.int c0), .val (.int c1), .val (.int c2), .val (.ref lp), .val (.ref o1), .val (.ref bb), .val (.ref rr)] [(.int l1), (.int p2), (.int p1), (.int p0), (.int c2), (.int c1), (.int c0), (.int n), (.int (1 : Int32)), (.int (own_exp 1 n c0 c1 c2 p0 p1 p2 l1))])
    obtain ⟨_, _, ⟨T99, L99, k99, n99⟩, -, X99, ⟨Lc99, hQ99, l99, y99, z99⟩, st99⟩ := Jvm.LawKit.callS X97 hx (y := (⟨"com/example/bidkeel/bidkeel/BestPointsPinLaw", "expected", "(IIIIIIIII)I"⟩ : MethodName)) hown (mvT hZ (hw _ (List.mem_of_getElem? (i := 54) rfl))) (mvT hZ (hw _ (List.mem_of_getElem? (i := 55) rfl))) (mvT hZ (hw _ (List.mem_of_getElem? (i := 56) rfl))) (mvT hZ (hw _ (List.mem_of_getElem? (i := 57) rfl))) (by decide) (backOf (W := 1) (rmX l Z a0 hw [] (1 : Int32) n c0 c1 c2 p0 p1 p2 l1 T91.heap n0 Zn) hZ (hw _ (List.mem_of_getElem? (i := 57) rfl)) (hw _ (List.mem_of_getElem? (i := 56) rfl)) (by decide) (by decide)) (g := (mkF m 280 #[.val (.long i0), .second, .val (.long i1), .second, .val (.long i2), .second, .val (.int i3), .val (.int l0), .val (.int l1), .val (.int l2), .val (.int p0), .val (.int p1), .val (.int p2), .val (.int n), .val (.int c0), .val (.int c1), .val (.int c2), .val (.ref lp), .val (.ref o1), .val (.ref bb), .val (.ref rr)] [(.int l1), (.int p2), (.int p1), (.int p0), (.int c2), (.int c1), (.int c0), (.int n), (.int (1 : Int32)), (.int (own_exp 1 n c0 c1 c2 p0 p1 p2 l1))])) rfl (by rw [hml]; rfl) (argsL := [(.int (1 : Int32)), (.int n), (.int c0), (.int c1), (.int c2), (.int p0), (.int p1), (.int p2), (.int l1)]) (rest := [(.int (own_exp 1 n c0 c1 c2 p0 p1 p2 l1))]) (lenOf own_f95 rfl) rfl (by show 2 * 0 + _ ≤ _; exact Nat.le_of_eq rfl) (hb hby at_280) (fun _ _ => ⟨rfl, e97, (by dsimp only [Pt.cells, Pt.slots]; decide), (by dsimp only [Pt.cells, Pt.slots]; decide)⟩)
    dsimp only [Pt.U, Pt.locs, Pt.cells, Pt.slots] at X99 l99 y99 z99 st99 hQ99
    subst l99 y99 z99
    obtain ⟨rfl, N99q, e99⟩ := hQ99
    have N99 := Fr.app N97 N99q
    refine Go.step (st99) ?_
    show Go p e below _ T99 (mkF m 283 #[.val (.long i0), .second, .val (.long i1), .second, .val (.long i2), .second, .val (.int i3), .val (.int l0), .val (.int l1), .val (.int l2), .val (.int p0), .val (.int p1), .val (.int p2), .val (.int n), .val (.int c0), .val (.int c1), .val (.int c2), .val (.ref lp), .val (.ref o1), .val (.ref bb), .val (.ref rr)] [(.int (own_exp 1 n c0 c1 c2 p0 p1 p2 l1)), (.int (own_exp 1 n c0 c1 c2 p0 p1 p2 l1))])
    refine Go.step (fun _ k => XS.icmpNo X99.here hx rfl (hb hby at_283) rfl (teq rfl).2 k) ?_
    show Go p e below _ T99 (mkF m 286 #[.val (.long i0), .second, .val (.long i1), .second, .val (.long i2), .second, .val (.int i3), .val (.int l0), .val (.int l1), .val (.int l2), .val (.int p0), .val (.int p1), .val (.int p2), .val (.int n), .val (.int c0), .val (.int c1), .val (.int c2), .val (.ref lp), .val (.ref o1), .val (.ref bb), .val (.ref rr)] [])
    refine Go.step (fun _ k => XS.aload X99.here hx rfl (hb hby at_286) rfl rfl k) ?_
    show Go p e below _ T99 (mkF m 288 #[.val (.long i0), .second, .val (.long i1), .second, .val (.long i2), .second, .val (.int i3), .val (.int l0), .val (.int l1), .val (.int l2), .val (.int p0), .val (.int p1), .val (.int p2), .val (.int n), .val (.int c0), .val (.int c1), .val (.int c2), .val (.ref lp), .val (.ref o1), .val (.ref bb), .val (.ref rr)] [(.ref rr)])
    refine Go.step (fun _ k => XS.iconst X99.here hx rfl (hb hby at_288) k) ?_
    show Go p e below _ T99 (mkF m 289 #[.val (.long i0), .second, .val (.long i1), .second, .val (.long i2), .second, .val (.int i3), .val (.int l0), .val (.int l1), .val (.int l2), .val (.int p0), .val (.int p1), .val (.int p2), .val (.int n), .val (.int c0), .val (.int c1), .val (.int c2), .val (.ref lp), .val (.ref o1), .val (.ref bb), .val (.ref rr)] [(.int (2 : Int32)), (.ref rr)])
    obtain ⟨cl100, Ar100, q100, S100, Nn100, H100, G100⟩ := V_rr
    have V_rr : Arv Z T91.heap rr kr .int (3 : Int32) [(.int (own_exp 0 n c0 c1 c2 p0 p1 p2 l0)), (.int (own_exp 1 n c0 c1 c2 p0 p1 p2 l1)), (.int (own_exp 2 n c0 c1 c2 p0 p1 p2 l2))] (.int (0 : Int32)) := ⟨cl100, Ar100, q100, S100, Nn100, H100, G100⟩
    have hin100 : ¬ ((2 : Int32) < 0 ∨ cl100.slots.size ≤ ((2 : Int32)).toNatClampNeg) := inb_of S100 ⟨by decide, by decide⟩
    have hat100 : cl100.slots[((2 : Int32)).toNatClampNeg]? = some (.int (own_exp 2 n c0 c1 c2 p0 p1 p2 l2)) := Has.at H100 hin100 rfl
    refine Go.step (X99.iaload hx (j := (2 : Int32)) (v := (.int (own_exp 2 n c0 c1 c2 p0 p1 p2 l2))) (by rw [e99]; exact Ar100.1) (State.isArrayOf_alike hZ.alike Ar100.2.1) Ar100.2.2 hin100 hat100 (g := (mkF m 289 #[.val (.long i0), .second, .val (.long i1), .second, .val (.long i2), .second, .val (.int i3), .val (.int l0), .val (.int l1), .val (.int l2), .val (.int p0), .val (.int p1), .val (.int p2), .val (.int n), .val (.int c0), .val (.int c1), .val (.int c2), .val (.ref lp), .val (.ref o1), .val (.ref bb), .val (.ref rr)] [(.int (2 : Int32)), (.ref rr)])) rfl rfl (hb hby at_289)) ?_
    show Go p e below _ T99 (mkF m 290 #[.val (.long i0), .second, .val (.long i1), .second, .val (.long i2), .second, .val (.int i3), .val (.int l0), .val (.int l1), .val (.int l2), .val (.int p0), .val (.int p1), .val (.int p2), .val (.int n), .val (.int c0), .val (.int c1), .val (.int c2), .val (.ref lp), .val (.ref o1), .val (.ref bb), .val (.ref rr)] [(.int (own_exp 2 n c0 c1 c2 p0 p1 p2 l2))])
    refine Go.step (fun _ k => XS.iconst X99.here hx rfl (hb hby at_290) k) ?_
    show Go p e below _ T99 (mkF m 291 #[.val (.long i0), .second, .val (.long i1), .second, .val (.long i2), .second, .val (.int i3), .val (.int l0), .val (.int l1), .val (.int l2), .val (.int p0), .val (.int p1), .val (.int p2), .val (.int n), .val (.int c0), .val (.int c1), .val (.int c2), .val (.ref lp), .val (.ref o1), .val (.ref bb), .val (.ref rr)] [(.int (2 : Int32)), (.int (own_exp 2 n c0 c1 c2 p0 p1 p2 l2))])
    refine Go.step (fun _ k => XS.iload X99.here hx rfl (hb hby at_291) rfl k) ?_
    show Go p e below _ T99 (mkF m 293 #[.val (.long i0), .second, .val (.long i1), .second, .val (.long i2), .second, .val (.int i3), .val (.int l0), .val (.int l1), .val (.int l2), .val (.int p0), .val (.int p1), .val (.int p2), .val (.int n), .val (.int c0), .val (.int c1), .val (.int c2), .val (.ref lp), .val (.ref o1), .val (.ref bb), .val (.ref rr)] [(.int n), (.int (2 : Int32)), (.int (own_exp 2 n c0 c1 c2 p0 p1 p2 l2))])
    refine Go.step (fun _ k => XS.iload X99.here hx rfl (hb hby at_293) rfl k) ?_
    show Go p e below _ T99 (mkF m 295 #[.val (.long i0), .second, .val (.long i1), .second, .val (.long i2), .second, .val (.int i3), .val (.int l0), .val (.int l1), .val (.int l2), .val (.int p0), .val (.int p1), .val (.int p2), .val (.int n), .val (.int c0), .val (.int c1), .val (.int c2), .val (.ref lp), .val (.ref o1), .val (.ref bb), .val (.ref rr)] [(.int c0), (.int n), (.int (2 : Int32)), (.int (own_exp 2 n c0 c1 c2 p0 p1 p2 l2))])
    refine Go.step (fun _ k => XS.iload X99.here hx rfl (hb hby at_295) rfl k) ?_
    show Go p e below _ T99 (mkF m 297 #[.val (.long i0), .second, .val (.long i1), .second, .val (.long i2), .second, .val (.int i3), .val (.int l0), .val (.int l1), .val (.int l2), .val (.int p0), .val (.int p1), .val (.int p2), .val (.int n), .val (.int c0), .val (.int c1), .val (.int c2), .val (.ref lp), .val (.ref o1), .val (.ref bb), .val (.ref rr)] [(.int c1), (.int c0), (.int n), (.int (2 : Int32)), (.int (own_exp 2 n c0 c1 c2 p0 p1 p2 l2))])
    refine Go.step (fun _ k => XS.iload X99.here hx rfl (hb hby at_297) rfl k) ?_
    show Go p e below _ T99 (mkF m 299 #[.val (.long i0), .second, .val (.long i1), .second, .val (.long i2), .second, .val (.int i3), .val (.int l0), .val (.int l1), .val (.int l2), .val (.int p0), .val (.int p1), .val (.int p2), .val (.int n), .val (.int c0), .val (.int c1), .val (.int c2), .val (.ref lp), .val (.ref o1), .val (.ref bb), .val (.ref rr)] [(.int c2), (.int c1), (.int c0), (.int n), (.int (2 : Int32)), (.int (own_exp 2 n c0 c1 c2 p0 p1 p2 l2))])
    refine Go.step (fun _ k => XS.iload X99.here hx rfl (hb hby at_299) rfl k) ?_
    show Go p e below _ T99 (mkF m 301 #[.val (.long i0), .second, .val (.long i1), .second, .val (.long i2), .second, .val (.int i3), .val (.int l0), .val (.int l1), .val (.int l2), .val (.int p0), .val (.int p1), .val (.int p2), .val (.int n), .val (.int c0), .val (.int c1), .val (.int c2), .val (.ref lp), .val (.ref o1), .val (.ref bb), .val (.ref rr)] [(.int p0), (.int c2), (.int c1), (.int c0), (.int n), (.int (2 : Int32)), (.int (own_exp 2 n c0 c1 c2 p0 p1 p2 l2))])
    refine Go.step (fun _ k => XS.iload X99.here hx rfl (hb hby at_301) rfl k) ?_
    show Go p e below _ T99 (mkF m 303 #[.val (.long i0), .second, .val (.long i1), .second, .val (.long i2), .second, .val (.int i3), .val (.int l0), .val (.int l1), .val (.int l2), .val (.int p0), .val (.int p1), .val (.int p2), .val (.int n), .val (.int c0), .val (.int c1), .val (.int c2), .val (.ref lp), .val (.ref o1), .val (.ref bb), .val (.ref rr)] [(.int p1), (.int p0), (.int c2), (.int c1), (.int c0), (.int n), (.int (2 : Int32)), (.int (own_exp 2 n c0 c1 c2 p0 p1 p2 l2))])
    refine Go.step (fun _ k => XS.iload X99.here hx rfl (hb hby at_303) rfl k) ?_
    show Go p e below _ T99 (mkF m 305 #[.val (.long i0), .second, .val (.long i1), .second, .val (.long i2), .second, .val (.int i3), .val (.int l0), .val (.int l1), .val (.int l2), .val (.int p0), .val (.int p1), .val (.int p2), .val (.int n), .val (.int c0), .val (.int c1), .val (.int c2), .val (.ref lp), .val (.ref o1), .val (.ref bb), .val (.ref rr)] [(.int p2), (.int p1), (.int p0), (.int c2), (.int c1), (.int c0), (.int n), (.int (2 : Int32)), (.int (own_exp 2 n c0 c1 c2 p0 p1 p2 l2))])
    refine Go.step (fun _ k => XS.iload X99.here hx rfl (hb hby at_305) rfl k) ?_
    show Go p e below _ T99 (mkF m 307 #[.val (.long i0), .second, .val (.long i1), .second, .val (.long i2), .second, .val (.int i3), .val (.int l0), .val (.int l1), .val (.int l2), .val (.int p0), .val (.int p1), .val (.int p2), .val (.int n), .val (.int c0), .val (.int c1), .val (.int c2), .val (.ref lp), .val (.ref o1), .val (.ref bb), .val (.ref rr)] [(.int l2), (.int p2), (.int p1), (.int p0), (.int c2), (.int c1), (.int c0), (.int n), (.int (2 : Int32)), (.int (own_exp 2 n c0 c1 c2 p0 p1 p2 l2))])
    obtain ⟨_, _, ⟨T101, L101, k101, n101⟩, -, X101, ⟨Lc101, hQ101, l101, y101, z101⟩, st101⟩ := Jvm.LawKit.callS X99 hx (y := (⟨"com/example/bidkeel/bidkeel/BestPointsPinLaw", "expected", "(IIIIIIIII)I"⟩ : MethodName)) hown (mvT hZ (hw _ (List.mem_of_getElem? (i := 54) rfl))) (mvT hZ (hw _ (List.mem_of_getElem? (i := 55) rfl))) (mvT hZ (hw _ (List.mem_of_getElem? (i := 56) rfl))) (mvT hZ (hw _ (List.mem_of_getElem? (i := 57) rfl))) (by decide) (backOf (W := 1) (rmX l Z a0 hw [] (2 : Int32) n c0 c1 c2 p0 p1 p2 l2 T91.heap n0 Zn) hZ (hw _ (List.mem_of_getElem? (i := 57) rfl)) (hw _ (List.mem_of_getElem? (i := 56) rfl)) (by decide) (by decide)) (g := (mkF m 307 #[.val (.long i0), .second, .val (.long i1), .second, .val (.long i2), .second, .val (.int i3), .val (.int l0), .val (.int l1), .val (.int l2), .val (.int p0), .val (.int p1), .val (.int p2), .val (.int n), .val (.int c0), .val (.int c1), .val (.int c2), .val (.ref lp), .val (.ref o1), .val (.ref bb), .val (.ref rr)] [(.int l2), (.int p2), (.int p1), (.int p0), (.int c2), (.int c1), (.int c0), (.int n), (.int (2 : Int32)), (.int (own_exp 2 n c0 c1 c2 p0 p1 p2 l2))])) rfl (by rw [hml]; rfl) (argsL := [(.int (2 : Int32)), (.int n), (.int c0), (.int c1), (.int c2), (.int p0), (.int p1), (.int p2), (.int l2)]) (rest := [(.int (own_exp 2 n c0 c1 c2 p0 p1 p2 l2))]) (lenOf own_f95 rfl) rfl (by show 2 * 0 + _ ≤ _; exact Nat.le_of_eq rfl) (hb hby at_307) (fun _ _ => ⟨rfl, e99, (by dsimp only [Pt.cells, Pt.slots]; decide), (by dsimp only [Pt.cells, Pt.slots]; decide)⟩)
    dsimp only [Pt.U, Pt.locs, Pt.cells, Pt.slots] at X101 l101 y101 z101 st101 hQ101
    subst l101 y101 z101
    obtain ⟨rfl, N101q, e101⟩ := hQ101
    have N101 := Fr.app N99 N101q
    refine Go.step (st101) ?_
    show Go p e below _ T101 (mkF m 310 #[.val (.long i0), .second, .val (.long i1), .second, .val (.long i2), .second, .val (.int i3), .val (.int l0), .val (.int l1), .val (.int l2), .val (.int p0), .val (.int p1), .val (.int p2), .val (.int n), .val (.int c0), .val (.int c1), .val (.int c2), .val (.ref lp), .val (.ref o1), .val (.ref bb), .val (.ref rr)] [(.int (own_exp 2 n c0 c1 c2 p0 p1 p2 l2)), (.int (own_exp 2 n c0 c1 c2 p0 p1 p2 l2))])
    refine Go.step (fun _ k => XS.icmpNo X101.here hx rfl (hb hby at_310) rfl (teq rfl).2 k) ?_
    show Go p e below _ T101 (mkF m 313 #[.val (.long i0), .second, .val (.long i1), .second, .val (.long i2), .second, .val (.int i3), .val (.int l0), .val (.int l1), .val (.int l2), .val (.int p0), .val (.int p1), .val (.int p2), .val (.int n), .val (.int c0), .val (.int c1), .val (.int c2), .val (.ref lp), .val (.ref o1), .val (.ref bb), .val (.ref rr)] [])
    refine Go.step (fun _ k => XS.iconst X101.here hx rfl (hb hby at_313) k) ?_
    show Go p e below _ T101 (mkF m 314 #[.val (.long i0), .second, .val (.long i1), .second, .val (.long i2), .second, .val (.int i3), .val (.int l0), .val (.int l1), .val (.int l2), .val (.int p0), .val (.int p1), .val (.int p2), .val (.int n), .val (.int c0), .val (.int c1), .val (.int c2), .val (.ref lp), .val (.ref o1), .val (.ref bb), .val (.ref rr)] [(.int (1 : Int32))])
    refine Go.step (fun _ k => XS.goto X101.here hx rfl (pc0 := 314) (pc' := 318) rfl (hb hby at_314) (by decide) (by decide) k) ?_
    show Go p e below _ T101 (mkF m 318 #[.val (.long i0), .second, .val (.long i1), .second, .val (.long i2), .second, .val (.int i3), .val (.int l0), .val (.int l1), .val (.int l2), .val (.int p0), .val (.int p1), .val (.int p2), .val (.int n), .val (.int c0), .val (.int c1), .val (.int c2), .val (.ref lp), .val (.ref o1), .val (.ref bb), .val (.ref rr)] [(.int (1 : Int32))])
    obtain ⟨fs, hr, hrun, hended, hW, hsame⟩ := X101.leave (v := some (.int (1 : Int32))) (fun h => by rw [Bd.returns] at h; cases h)
    refine Go.fin (retN X101 hx (t := .boolean) Bd.returns (by simp) (hb hby at_318) hr) hrun hended ?_
    refine ⟨_, _, rfl, ?_, ⟨_, rfl⟩, hW, hsame.mono (by decide) (by decide)⟩
    show Q0 Z i0 i1 i2 i3 h0 n0 _ T101.heap _
    rw [e101]
    exact ⟨rfl, N101⟩
  · have hn : n = 0 ∨ n = 1 ∨ n = 2 ∨ n = 3 := by simp [hk0]
    show Go p e below _ T53 (mkF m 101 #[.val (.long i0), .second, .val (.long i1), .second, .val (.long i2), .second, .val (.int i3), .val (.int l0), .val (.int l1), .val (.int l2), .val (.int p0), .val (.int p1), .val (.int p2), .val (.int n), .val (.int c0), .val (.int c1), .val (.int c2), .val (.ref lp), .val .null, .unset, .unset] [(.int (1 : Int32)), (.int n)])
    refine Go.step (fun _ k => XS.icmpNo X53.here hx rfl (hb hby at_101) rfl (flt (by rw [hk0]; decide)).1 k) ?_
    show Go p e below _ T53 (mkF m 104 #[.val (.long i0), .second, .val (.long i1), .second, .val (.long i2), .second, .val (.int i3), .val (.int l0), .val (.int l1), .val (.int l2), .val (.int p0), .val (.int p1), .val (.int p2), .val (.int n), .val (.int c0), .val (.int c1), .val (.int c2), .val (.ref lp), .val .null, .unset, .unset] [])
    obtain ⟨T102, h102, X102, e102, E102, A102, D102, U102, st102⟩ := newO X53 hx hZ hown (hw _ (List.mem_of_getElem? (i := 1) rfl)) (hw _ (List.mem_of_getElem? (i := 2) rfl)) (hw _ (List.mem_of_getElem? (i := 3) rfl)) e53 (g := (mkF m 104 #[.val (.long i0), .second, .val (.long i1), .second, .val (.long i2), .second, .val (.int i3), .val (.int l0), .val (.int l1), .val (.int l2), .val (.int p0), .val (.int p1), .val (.int p2), .val (.int n), .val (.int c0), .val (.int c1), .val (.int c2), .val (.ref lp), .val .null, .unset, .unset] [])) rfl (hb hby at_104) (by decide) (by decide)
    obtain ⟨o0, g102⟩ : ∃ z, z = h53.size := ⟨_, rfl⟩
    rw [← g102] at A102 D102 U102 st102
    have ne_lp_o0 : lp ≠ o0 := Nat.ne_of_lt (Nat.lt_of_lt_of_le E_lp.lt (Nat.le_of_eq g102.symm))
    have g_o0 : n0 ≤ o0 := Nat.le_trans Zn (Nat.le_of_eq g102.symm)
    have sz_o0 : h0.size ≤ o0 := Nat.le_trans K0.1 (Nat.le_of_eq g102.symm)
    replace E_lp := E_lp.ext E102
    replace V_lp := V_lp.ext E102
    replace Zn := Nat.le_trans Zn E102.1
    replace K0 := K0.ext E102
    have E_o0 := A102
    have F_cls_o0 : Fld Z h102 o0 "com/example/bidkeel/bidkeel/Knapsack$Change" "cls" "I" (.int (0 : Int32)) := D102 (Or.inr (hw _ (List.mem_of_getElem? (i := 11) rfl))) (ty := .int) (by decide)
    have F_point_o0 : Fld Z h102 o0 "com/example/bidkeel/bidkeel/Knapsack$Change" "point" "I" (.int (0 : Int32)) := D102 (Or.inr (hw _ (List.mem_of_getElem? (i := 13) rfl))) (ty := .int) (by decide)
    have F_previous_o0 : Fld Z h102 o0 "com/example/bidkeel/bidkeel/Knapsack$Change" "previous" "Lcom/example/bidkeel/bidkeel/Knapsack$Change;" .null := D102 (Or.inr (hw _ (List.mem_of_getElem? (i := 15) rfl))) (ty := (.object "com/example/bidkeel/bidkeel/Knapsack$Change")) (by decide)
    refine Go.step st102 ?_
    show Go p e below _ T102 (mkF m 107 #[.val (.long i0), .second, .val (.long i1), .second, .val (.long i2), .second, .val (.int i3), .val (.int l0), .val (.int l1), .val (.int l2), .val (.int p0), .val (.int p1), .val (.int p2), .val (.int n), .val (.int c0), .val (.int c1), .val (.int c2), .val (.ref lp), .val .null, .unset, .unset] [(.ref o0)])
    refine Go.step (fun _ k => XS.dup X102.here hx rfl (hb hby at_107) rfl rfl k) ?_
    show Go p e below _ T102 (mkF m 108 #[.val (.long i0), .second, .val (.long i1), .second, .val (.long i2), .second, .val (.int i3), .val (.int l0), .val (.int l1), .val (.int l2), .val (.int p0), .val (.int p1), .val (.int p2), .val (.int n), .val (.int c0), .val (.int c1), .val (.int c2), .val (.ref lp), .val .null, .unset, .unset] [(.ref o0), (.ref o0)])
    refine Go.step (fun _ k => XS.iload X102.here hx rfl (hb hby at_108) rfl k) ?_
    show Go p e below _ T102 (mkF m 110 #[.val (.long i0), .second, .val (.long i1), .second, .val (.long i2), .second, .val (.int i3), .val (.int l0), .val (.int l1), .val (.int l2), .val (.int p0), .val (.int p1), .val (.int p2), .val (.int n), .val (.int c0), .val (.int c1), .val (.int c2), .val (.ref lp), .val .null, .unset, .unset] [(.int c0), (.ref o0), (.ref o0)])
    refine Go.step (fun _ k => XS.iload X102.here hx rfl (hb hby at_110) rfl k) ?_
    show Go p e below _ T102 (mkF m 112 #[.val (.long i0), .second, .val (.long i1), .second, .val (.long i2), .second, .val (.int i3), .val (.int l0), .val (.int l1), .val (.int l2), .val (.int p0), .val (.int p1), .val (.int p2), .val (.int n), .val (.int c0), .val (.int c1), .val (.int c2), .val (.ref lp), .val .null, .unset, .unset] [(.int p0), (.int c0), (.ref o0), (.ref o0)])
    refine Go.step (fun _ k => XS.aload X102.here hx rfl (hb hby at_112) rfl rfl k) ?_
    show Go p e below _ T102 (mkF m 114 #[.val (.long i0), .second, .val (.long i1), .second, .val (.long i2), .second, .val (.int i3), .val (.int l0), .val (.int l1), .val (.int l2), .val (.int p0), .val (.int p1), .val (.int p2), .val (.int n), .val (.int c0), .val (.int c1), .val (.int c2), .val (.ref lp), .val .null, .unset, .unset] [.null, (.int p0), (.int c0), (.ref o0), (.ref o0)])
    obtain ⟨_, _, ⟨T103, L103, k103, n103⟩, -, X103, ⟨Lc103, hQ103, l103, y103, z103⟩, st103⟩ := X102.specialBack hx (y := (⟨"com/example/bidkeel/bidkeel/Knapsack$Change", "<init>", "(IILcom/example/bidkeel/bidkeel/Knapsack$Change;)V"⟩ : MethodName)) rfl hown (mvT hZ (hw _ (List.mem_of_getElem? (i := 4) rfl))) (mvT hZ (hw _ (List.mem_of_getElem? (i := 5) rfl))) (mvT hZ (hw _ (List.mem_of_getElem? (i := 6) rfl))) (by decide) (backOf (W := 1) (rmCN l Z a0 hw [] o0 c0 p0 h102 n0 Zn E_o0 F_cls_o0 F_point_o0 F_previous_o0 g_o0) hZ (hw _ (List.mem_of_getElem? (i := 6) rfl)) (hw _ (List.mem_of_getElem? (i := 3) rfl)) (by decide) (by decide)) (g := (mkF m 114 #[.val (.long i0), .second, .val (.long i1), .second, .val (.long i2), .second, .val (.int i3), .val (.int l0), .val (.int l1), .val (.int l2), .val (.int p0), .val (.int p1), .val (.int p2), .val (.int n), .val (.int c0), .val (.int c1), .val (.int c2), .val (.ref lp), .val .null, .unset, .unset] [.null, (.int p0), (.int c0), (.ref o0), (.ref o0)])) rfl (by rw [hml]; rfl) (Steps.refl _) (a := o0) (argsL := [(.int c0), (.int p0), .null]) (rest := [(.ref o0)]) (lenOf own_f96 rfl) rfl (by show 2 * 0 + _ ≤ _; exact Nat.le_of_eq rfl) (hb hby at_114) (fun _ _ => ⟨rfl, e102, (by dsimp only [Pt.cells, Pt.slots]; decide), (by dsimp only [Pt.cells, Pt.slots]; decide)⟩)
    dsimp only [Pt.U, Pt.locs, Pt.cells, Pt.slots] at X103 l103 y103 z103 st103 hQ103
    subst l103 y103 z103
    obtain ⟨rfl, N103q, K103, F_cls_o0, F_point_o0, F_previous_o0⟩ := hQ103
    have N103 := Fr.app N53 N103q
    refine Go.step (fun _ k => st103.trans k) ?_
    replace E_lp := E_lp.keep K103
    replace V_lp := V_lp.keep K103 (ninS ne_lp_o0 nin0)
    replace E_o0 := E_o0.keep K103
    replace K0 := K0.trans K103 (allS (Or.inr sz_o0) (all0))
    replace Zn := Nat.le_trans Zn K103.1
    show Go p e below _ T103 (mkF m 117 #[.val (.long i0), .second, .val (.long i1), .second, .val (.long i2), .second, .val (.int i3), .val (.int l0), .val (.int l1), .val (.int l2), .val (.int p0), .val (.int p1), .val (.int p2), .val (.int n), .val (.int c0), .val (.int c1), .val (.int c2), .val (.ref lp), .val .null, .unset, .unset] [(.ref o0)])
    refine Go.step (fun _ k => XS.astore X103.here hx rfl (hb hby at_117) rfl rfl (l' := #[.val (.long i0), .second, .val (.long i1), .second, .val (.long i2), .second, .val (.int i3), .val (.int l0), .val (.int l1), .val (.int l2), .val (.int p0), .val (.int p1), .val (.int p2), .val (.int n), .val (.int c0), .val (.int c1), .val (.int c2), .val (.ref lp), .val (.ref o0), .unset, .unset]) rfl k) ?_
    show Go p e below _ T103 (mkF m 119 #[.val (.long i0), .second, .val (.long i1), .second, .val (.long i2), .second, .val (.int i3), .val (.int l0), .val (.int l1), .val (.int l2), .val (.int p0), .val (.int p1), .val (.int p2), .val (.int n), .val (.int c0), .val (.int c1), .val (.int c2), .val (.ref lp), .val (.ref o0), .unset, .unset] [])
    refine Go.step (fun _ k => XS.iload X103.here hx rfl (hb hby at_119) rfl k) ?_
    show Go p e below _ T103 (mkF m 121 #[.val (.long i0), .second, .val (.long i1), .second, .val (.long i2), .second, .val (.int i3), .val (.int l0), .val (.int l1), .val (.int l2), .val (.int p0), .val (.int p1), .val (.int p2), .val (.int n), .val (.int c0), .val (.int c1), .val (.int c2), .val (.ref lp), .val (.ref o0), .unset, .unset] [(.int n)])
    refine Go.step (fun _ k => XS.iconst X103.here hx rfl (hb hby at_121) k) ?_
    show Go p e below _ T103 (mkF m 122 #[.val (.long i0), .second, .val (.long i1), .second, .val (.long i2), .second, .val (.int i3), .val (.int l0), .val (.int l1), .val (.int l2), .val (.int p0), .val (.int p1), .val (.int p2), .val (.int n), .val (.int c0), .val (.int c1), .val (.int c2), .val (.ref lp), .val (.ref o0), .unset, .unset] [(.int (2 : Int32)), (.int n)])
    refine Go.step (fun _ k => XS.icmpNo X103.here hx rfl (hb hby at_122) rfl (flt (by rw [hk0]; decide)).1 k) ?_
    show Go p e below _ T103 (mkF m 125 #[.val (.long i0), .second, .val (.long i1), .second, .val (.long i2), .second, .val (.int i3), .val (.int l0), .val (.int l1), .val (.int l2), .val (.int p0), .val (.int p1), .val (.int p2), .val (.int n), .val (.int c0), .val (.int c1), .val (.int c2), .val (.ref lp), .val (.ref o0), .unset, .unset] [])
    obtain ⟨T104, h104, X104, e104, E104, A104, D104, U104, st104⟩ := newO X103 hx hZ hown (hw _ (List.mem_of_getElem? (i := 1) rfl)) (hw _ (List.mem_of_getElem? (i := 2) rfl)) (hw _ (List.mem_of_getElem? (i := 3) rfl)) rfl (g := (mkF m 125 #[.val (.long i0), .second, .val (.long i1), .second, .val (.long i2), .second, .val (.int i3), .val (.int l0), .val (.int l1), .val (.int l2), .val (.int p0), .val (.int p1), .val (.int p2), .val (.int n), .val (.int c0), .val (.int c1), .val (.int c2), .val (.ref lp), .val (.ref o0), .unset, .unset] [])) rfl (hb hby at_125) (by decide) (by decide)
    obtain ⟨o1, g104⟩ : ∃ z, z = T103.heap.size := ⟨_, rfl⟩
    rw [← g104] at A104 D104 U104 st104
    have ne_lp_o1 : lp ≠ o1 := Nat.ne_of_lt (Nat.lt_of_lt_of_le E_lp.lt (Nat.le_of_eq g104.symm))
    have ne_o0_o1 : o0 ≠ o1 := Nat.ne_of_lt (Nat.lt_of_lt_of_le E_o0.lt (Nat.le_of_eq g104.symm))
    have g_o1 : n0 ≤ o1 := Nat.le_trans Zn (Nat.le_of_eq g104.symm)
    have sz_o1 : h0.size ≤ o1 := Nat.le_trans K0.1 (Nat.le_of_eq g104.symm)
    replace E_lp := E_lp.ext E104
    replace V_lp := V_lp.ext E104
    replace E_o0 := E_o0.ext E104
    replace F_cls_o0 := F_cls_o0.ext E104
    replace F_point_o0 := F_point_o0.ext E104
    replace F_previous_o0 := F_previous_o0.ext E104
    replace Zn := Nat.le_trans Zn E104.1
    replace K0 := K0.ext E104
    have E_o1 := A104
    have F_cls_o1 : Fld Z h104 o1 "com/example/bidkeel/bidkeel/Knapsack$Change" "cls" "I" (.int (0 : Int32)) := D104 (Or.inr (hw _ (List.mem_of_getElem? (i := 11) rfl))) (ty := .int) (by decide)
    have F_point_o1 : Fld Z h104 o1 "com/example/bidkeel/bidkeel/Knapsack$Change" "point" "I" (.int (0 : Int32)) := D104 (Or.inr (hw _ (List.mem_of_getElem? (i := 13) rfl))) (ty := .int) (by decide)
    have F_previous_o1 : Fld Z h104 o1 "com/example/bidkeel/bidkeel/Knapsack$Change" "previous" "Lcom/example/bidkeel/bidkeel/Knapsack$Change;" .null := D104 (Or.inr (hw _ (List.mem_of_getElem? (i := 15) rfl))) (ty := (.object "com/example/bidkeel/bidkeel/Knapsack$Change")) (by decide)
    refine Go.step st104 ?_
    show Go p e below _ T104 (mkF m 128 #[.val (.long i0), .second, .val (.long i1), .second, .val (.long i2), .second, .val (.int i3), .val (.int l0), .val (.int l1), .val (.int l2), .val (.int p0), .val (.int p1), .val (.int p2), .val (.int n), .val (.int c0), .val (.int c1), .val (.int c2), .val (.ref lp), .val (.ref o0), .unset, .unset] [(.ref o1)])
    refine Go.step (fun _ k => XS.dup X104.here hx rfl (hb hby at_128) rfl rfl k) ?_
    show Go p e below _ T104 (mkF m 129 #[.val (.long i0), .second, .val (.long i1), .second, .val (.long i2), .second, .val (.int i3), .val (.int l0), .val (.int l1), .val (.int l2), .val (.int p0), .val (.int p1), .val (.int p2), .val (.int n), .val (.int c0), .val (.int c1), .val (.int c2), .val (.ref lp), .val (.ref o0), .unset, .unset] [(.ref o1), (.ref o1)])
    refine Go.step (fun _ k => XS.iload X104.here hx rfl (hb hby at_129) rfl k) ?_
    show Go p e below _ T104 (mkF m 131 #[.val (.long i0), .second, .val (.long i1), .second, .val (.long i2), .second, .val (.int i3), .val (.int l0), .val (.int l1), .val (.int l2), .val (.int p0), .val (.int p1), .val (.int p2), .val (.int n), .val (.int c0), .val (.int c1), .val (.int c2), .val (.ref lp), .val (.ref o0), .unset, .unset] [(.int c1), (.ref o1), (.ref o1)])
    refine Go.step (fun _ k => XS.iload X104.here hx rfl (hb hby at_131) rfl k) ?_
    show Go p e below _ T104 (mkF m 133 #[.val (.long i0), .second, .val (.long i1), .second, .val (.long i2), .second, .val (.int i3), .val (.int l0), .val (.int l1), .val (.int l2), .val (.int p0), .val (.int p1), .val (.int p2), .val (.int n), .val (.int c0), .val (.int c1), .val (.int c2), .val (.ref lp), .val (.ref o0), .unset, .unset] [(.int p1), (.int c1), (.ref o1), (.ref o1)])
    refine Go.step (fun _ k => XS.aload X104.here hx rfl (hb hby at_133) rfl rfl k) ?_
    show Go p e below _ T104 (mkF m 135 #[.val (.long i0), .second, .val (.long i1), .second, .val (.long i2), .second, .val (.int i3), .val (.int l0), .val (.int l1), .val (.int l2), .val (.int p0), .val (.int p1), .val (.int p2), .val (.int n), .val (.int c0), .val (.int c1), .val (.int c2), .val (.ref lp), .val (.ref o0), .unset, .unset] [(.ref o0), (.int p1), (.int c1), (.ref o1), (.ref o1)])
    obtain ⟨_, _, ⟨T105, L105, k105, n105⟩, -, X105, ⟨Lc105, hQ105, l105, y105, z105⟩, st105⟩ := X104.specialBack hx (y := (⟨"com/example/bidkeel/bidkeel/Knapsack$Change", "<init>", "(IILcom/example/bidkeel/bidkeel/Knapsack$Change;)V"⟩ : MethodName)) rfl hown (mvT hZ (hw _ (List.mem_of_getElem? (i := 4) rfl))) (mvT hZ (hw _ (List.mem_of_getElem? (i := 5) rfl))) (mvT hZ (hw _ (List.mem_of_getElem? (i := 6) rfl))) (by decide) (backOf (W := 1) (rmCR l Z a0 hw [] o1 c1 p1 o0 h104 n0 Zn E_o1 F_cls_o1 F_point_o1 F_previous_o1 g_o1) hZ (hw _ (List.mem_of_getElem? (i := 6) rfl)) (hw _ (List.mem_of_getElem? (i := 3) rfl)) (by decide) (by decide)) (g := (mkF m 135 #[.val (.long i0), .second, .val (.long i1), .second, .val (.long i2), .second, .val (.int i3), .val (.int l0), .val (.int l1), .val (.int l2), .val (.int p0), .val (.int p1), .val (.int p2), .val (.int n), .val (.int c0), .val (.int c1), .val (.int c2), .val (.ref lp), .val (.ref o0), .unset, .unset] [(.ref o0), (.int p1), (.int c1), (.ref o1), (.ref o1)])) rfl (by rw [hml]; rfl) (Steps.refl _) (a := o1) (argsL := [(.int c1), (.int p1), (.ref o0)]) (rest := [(.ref o1)]) (lenOf own_f96 rfl) rfl (by show 2 * 0 + _ ≤ _; exact Nat.le_of_eq rfl) (hb hby at_135) (fun _ _ => ⟨rfl, e104, (by dsimp only [Pt.cells, Pt.slots]; decide), (by dsimp only [Pt.cells, Pt.slots]; decide)⟩)
    dsimp only [Pt.U, Pt.locs, Pt.cells, Pt.slots] at X105 l105 y105 z105 st105 hQ105
    subst l105 y105 z105
    obtain ⟨rfl, N105q, K105, F_cls_o1, F_point_o1, F_previous_o1⟩ := hQ105
    have N105 := Fr.app N103 N105q
    refine Go.step (fun _ k => st105.trans k) ?_
    replace E_lp := E_lp.keep K105
    replace V_lp := V_lp.keep K105 (ninS ne_lp_o1 nin0)
    replace E_o0 := E_o0.keep K105
    replace F_cls_o0 := F_cls_o0.keep K105 (ninS ne_o0_o1 nin0)
    replace F_point_o0 := F_point_o0.keep K105 (ninS ne_o0_o1 nin0)
    replace F_previous_o0 := F_previous_o0.keep K105 (ninS ne_o0_o1 nin0)
    replace E_o1 := E_o1.keep K105
    replace K0 := K0.trans K105 (allS (Or.inr sz_o1) (all0))
    replace Zn := Nat.le_trans Zn K105.1
    show Go p e below _ T105 (mkF m 138 #[.val (.long i0), .second, .val (.long i1), .second, .val (.long i2), .second, .val (.int i3), .val (.int l0), .val (.int l1), .val (.int l2), .val (.int p0), .val (.int p1), .val (.int p2), .val (.int n), .val (.int c0), .val (.int c1), .val (.int c2), .val (.ref lp), .val (.ref o0), .unset, .unset] [(.ref o1)])
    refine Go.step (fun _ k => XS.astore X105.here hx rfl (hb hby at_138) rfl rfl (l' := #[.val (.long i0), .second, .val (.long i1), .second, .val (.long i2), .second, .val (.int i3), .val (.int l0), .val (.int l1), .val (.int l2), .val (.int p0), .val (.int p1), .val (.int p2), .val (.int n), .val (.int c0), .val (.int c1), .val (.int c2), .val (.ref lp), .val (.ref o1), .unset, .unset]) rfl k) ?_
    show Go p e below _ T105 (mkF m 140 #[.val (.long i0), .second, .val (.long i1), .second, .val (.long i2), .second, .val (.int i3), .val (.int l0), .val (.int l1), .val (.int l2), .val (.int p0), .val (.int p1), .val (.int p2), .val (.int n), .val (.int c0), .val (.int c1), .val (.int c2), .val (.ref lp), .val (.ref o1), .unset, .unset] [])
    refine Go.step (fun _ k => XS.iload X105.here hx rfl (hb hby at_140) rfl k) ?_
    show Go p e below _ T105 (mkF m 142 #[.val (.long i0), .second, .val (.long i1), .second, .val (.long i2), .second, .val (.int i3), .val (.int l0), .val (.int l1), .val (.int l2), .val (.int p0), .val (.int p1), .val (.int p2), .val (.int n), .val (.int c0), .val (.int c1), .val (.int c2), .val (.ref lp), .val (.ref o1), .unset, .unset] [(.int n)])
    refine Go.step (fun _ k => XS.iconst X105.here hx rfl (hb hby at_142) k) ?_
    show Go p e below _ T105 (mkF m 143 #[.val (.long i0), .second, .val (.long i1), .second, .val (.long i2), .second, .val (.int i3), .val (.int l0), .val (.int l1), .val (.int l2), .val (.int p0), .val (.int p1), .val (.int p2), .val (.int n), .val (.int c0), .val (.int c1), .val (.int c2), .val (.ref lp), .val (.ref o1), .unset, .unset] [(.int (3 : Int32)), (.int n)])
    refine Go.step (fun _ k => XS.icmpNo X105.here hx rfl (hb hby at_143) rfl (flt (by rw [hk0]; decide)).1 k) ?_
    show Go p e below _ T105 (mkF m 146 #[.val (.long i0), .second, .val (.long i1), .second, .val (.long i2), .second, .val (.int i3), .val (.int l0), .val (.int l1), .val (.int l2), .val (.int p0), .val (.int p1), .val (.int p2), .val (.int n), .val (.int c0), .val (.int c1), .val (.int c2), .val (.ref lp), .val (.ref o1), .unset, .unset] [])
    obtain ⟨T106, h106, X106, e106, E106, A106, D106, U106, st106⟩ := newO X105 hx hZ hown (hw _ (List.mem_of_getElem? (i := 1) rfl)) (hw _ (List.mem_of_getElem? (i := 2) rfl)) (hw _ (List.mem_of_getElem? (i := 3) rfl)) rfl (g := (mkF m 146 #[.val (.long i0), .second, .val (.long i1), .second, .val (.long i2), .second, .val (.int i3), .val (.int l0), .val (.int l1), .val (.int l2), .val (.int p0), .val (.int p1), .val (.int p2), .val (.int n), .val (.int c0), .val (.int c1), .val (.int c2), .val (.ref lp), .val (.ref o1), .unset, .unset] [])) rfl (hb hby at_146) (by decide) (by decide)
    obtain ⟨o2, g106⟩ : ∃ z, z = T105.heap.size := ⟨_, rfl⟩
    rw [← g106] at A106 D106 U106 st106
    have ne_lp_o2 : lp ≠ o2 := Nat.ne_of_lt (Nat.lt_of_lt_of_le E_lp.lt (Nat.le_of_eq g106.symm))
    have ne_o0_o2 : o0 ≠ o2 := Nat.ne_of_lt (Nat.lt_of_lt_of_le E_o0.lt (Nat.le_of_eq g106.symm))
    have ne_o1_o2 : o1 ≠ o2 := Nat.ne_of_lt (Nat.lt_of_lt_of_le E_o1.lt (Nat.le_of_eq g106.symm))
    have g_o2 : n0 ≤ o2 := Nat.le_trans Zn (Nat.le_of_eq g106.symm)
    have sz_o2 : h0.size ≤ o2 := Nat.le_trans K0.1 (Nat.le_of_eq g106.symm)
    replace E_lp := E_lp.ext E106
    replace V_lp := V_lp.ext E106
    replace E_o0 := E_o0.ext E106
    replace F_cls_o0 := F_cls_o0.ext E106
    replace F_point_o0 := F_point_o0.ext E106
    replace F_previous_o0 := F_previous_o0.ext E106
    replace E_o1 := E_o1.ext E106
    replace F_cls_o1 := F_cls_o1.ext E106
    replace F_point_o1 := F_point_o1.ext E106
    replace F_previous_o1 := F_previous_o1.ext E106
    replace Zn := Nat.le_trans Zn E106.1
    replace K0 := K0.ext E106
    have E_o2 := A106
    have F_cls_o2 : Fld Z h106 o2 "com/example/bidkeel/bidkeel/Knapsack$Change" "cls" "I" (.int (0 : Int32)) := D106 (Or.inr (hw _ (List.mem_of_getElem? (i := 11) rfl))) (ty := .int) (by decide)
    have F_point_o2 : Fld Z h106 o2 "com/example/bidkeel/bidkeel/Knapsack$Change" "point" "I" (.int (0 : Int32)) := D106 (Or.inr (hw _ (List.mem_of_getElem? (i := 13) rfl))) (ty := .int) (by decide)
    have F_previous_o2 : Fld Z h106 o2 "com/example/bidkeel/bidkeel/Knapsack$Change" "previous" "Lcom/example/bidkeel/bidkeel/Knapsack$Change;" .null := D106 (Or.inr (hw _ (List.mem_of_getElem? (i := 15) rfl))) (ty := (.object "com/example/bidkeel/bidkeel/Knapsack$Change")) (by decide)
    refine Go.step st106 ?_
    show Go p e below _ T106 (mkF m 149 #[.val (.long i0), .second, .val (.long i1), .second, .val (.long i2), .second, .val (.int i3), .val (.int l0), .val (.int l1), .val (.int l2), .val (.int p0), .val (.int p1), .val (.int p2), .val (.int n), .val (.int c0), .val (.int c1), .val (.int c2), .val (.ref lp), .val (.ref o1), .unset, .unset] [(.ref o2)])
    refine Go.step (fun _ k => XS.dup X106.here hx rfl (hb hby at_149) rfl rfl k) ?_
    show Go p e below _ T106 (mkF m 150 #[.val (.long i0), .second, .val (.long i1), .second, .val (.long i2), .second, .val (.int i3), .val (.int l0), .val (.int l1), .val (.int l2), .val (.int p0), .val (.int p1), .val (.int p2), .val (.int n), .val (.int c0), .val (.int c1), .val (.int c2), .val (.ref lp), .val (.ref o1), .unset, .unset] [(.ref o2), (.ref o2)])
    refine Go.step (fun _ k => XS.iload X106.here hx rfl (hb hby at_150) rfl k) ?_
    show Go p e below _ T106 (mkF m 152 #[.val (.long i0), .second, .val (.long i1), .second, .val (.long i2), .second, .val (.int i3), .val (.int l0), .val (.int l1), .val (.int l2), .val (.int p0), .val (.int p1), .val (.int p2), .val (.int n), .val (.int c0), .val (.int c1), .val (.int c2), .val (.ref lp), .val (.ref o1), .unset, .unset] [(.int c2), (.ref o2), (.ref o2)])
    refine Go.step (fun _ k => XS.iload X106.here hx rfl (hb hby at_152) rfl k) ?_
    show Go p e below _ T106 (mkF m 154 #[.val (.long i0), .second, .val (.long i1), .second, .val (.long i2), .second, .val (.int i3), .val (.int l0), .val (.int l1), .val (.int l2), .val (.int p0), .val (.int p1), .val (.int p2), .val (.int n), .val (.int c0), .val (.int c1), .val (.int c2), .val (.ref lp), .val (.ref o1), .unset, .unset] [(.int p2), (.int c2), (.ref o2), (.ref o2)])
    refine Go.step (fun _ k => XS.aload X106.here hx rfl (hb hby at_154) rfl rfl k) ?_
    show Go p e below _ T106 (mkF m 156 #[.val (.long i0), .second, .val (.long i1), .second, .val (.long i2), .second, .val (.int i3), .val (.int l0), .val (.int l1), .val (.int l2), .val (.int p0), .val (.int p1), .val (.int p2), .val (.int n), .val (.int c0), .val (.int c1), .val (.int c2), .val (.ref lp), .val (.ref o1), .unset, .unset] [(.ref o1), (.int p2), (.int c2), (.ref o2), (.ref o2)])
    obtain ⟨_, _, ⟨T107, L107, k107, n107⟩, -, X107, ⟨Lc107, hQ107, l107, y107, z107⟩, st107⟩ := X106.specialBack hx (y := (⟨"com/example/bidkeel/bidkeel/Knapsack$Change", "<init>", "(IILcom/example/bidkeel/bidkeel/Knapsack$Change;)V"⟩ : MethodName)) rfl hown (mvT hZ (hw _ (List.mem_of_getElem? (i := 4) rfl))) (mvT hZ (hw _ (List.mem_of_getElem? (i := 5) rfl))) (mvT hZ (hw _ (List.mem_of_getElem? (i := 6) rfl))) (by decide) (backOf (W := 1) (rmCR l Z a0 hw [] o2 c2 p2 o1 h106 n0 Zn E_o2 F_cls_o2 F_point_o2 F_previous_o2 g_o2) hZ (hw _ (List.mem_of_getElem? (i := 6) rfl)) (hw _ (List.mem_of_getElem? (i := 3) rfl)) (by decide) (by decide)) (g := (mkF m 156 #[.val (.long i0), .second, .val (.long i1), .second, .val (.long i2), .second, .val (.int i3), .val (.int l0), .val (.int l1), .val (.int l2), .val (.int p0), .val (.int p1), .val (.int p2), .val (.int n), .val (.int c0), .val (.int c1), .val (.int c2), .val (.ref lp), .val (.ref o1), .unset, .unset] [(.ref o1), (.int p2), (.int c2), (.ref o2), (.ref o2)])) rfl (by rw [hml]; rfl) (Steps.refl _) (a := o2) (argsL := [(.int c2), (.int p2), (.ref o1)]) (rest := [(.ref o2)]) (lenOf own_f96 rfl) rfl (by show 2 * 0 + _ ≤ _; exact Nat.le_of_eq rfl) (hb hby at_156) (fun _ _ => ⟨rfl, e106, (by dsimp only [Pt.cells, Pt.slots]; decide), (by dsimp only [Pt.cells, Pt.slots]; decide)⟩)
    dsimp only [Pt.U, Pt.locs, Pt.cells, Pt.slots] at X107 l107 y107 z107 st107 hQ107
    subst l107 y107 z107
    obtain ⟨rfl, N107q, K107, F_cls_o2, F_point_o2, F_previous_o2⟩ := hQ107
    have N107 := Fr.app N105 N107q
    refine Go.step (fun _ k => st107.trans k) ?_
    replace E_lp := E_lp.keep K107
    replace V_lp := V_lp.keep K107 (ninS ne_lp_o2 nin0)
    replace E_o0 := E_o0.keep K107
    replace F_cls_o0 := F_cls_o0.keep K107 (ninS ne_o0_o2 nin0)
    replace F_point_o0 := F_point_o0.keep K107 (ninS ne_o0_o2 nin0)
    replace F_previous_o0 := F_previous_o0.keep K107 (ninS ne_o0_o2 nin0)
    replace E_o1 := E_o1.keep K107
    replace F_cls_o1 := F_cls_o1.keep K107 (ninS ne_o1_o2 nin0)
    replace F_point_o1 := F_point_o1.keep K107 (ninS ne_o1_o2 nin0)
    replace F_previous_o1 := F_previous_o1.keep K107 (ninS ne_o1_o2 nin0)
    replace E_o2 := E_o2.keep K107
    replace K0 := K0.trans K107 (allS (Or.inr sz_o2) (all0))
    replace Zn := Nat.le_trans Zn K107.1
    show Go p e below _ T107 (mkF m 159 #[.val (.long i0), .second, .val (.long i1), .second, .val (.long i2), .second, .val (.int i3), .val (.int l0), .val (.int l1), .val (.int l2), .val (.int p0), .val (.int p1), .val (.int p2), .val (.int n), .val (.int c0), .val (.int c1), .val (.int c2), .val (.ref lp), .val (.ref o1), .unset, .unset] [(.ref o2)])
    refine Go.step (fun _ k => XS.astore X107.here hx rfl (hb hby at_159) rfl rfl (l' := #[.val (.long i0), .second, .val (.long i1), .second, .val (.long i2), .second, .val (.int i3), .val (.int l0), .val (.int l1), .val (.int l2), .val (.int p0), .val (.int p1), .val (.int p2), .val (.int n), .val (.int c0), .val (.int c1), .val (.int c2), .val (.ref lp), .val (.ref o2), .unset, .unset]) rfl k) ?_
    show Go p e below _ T107 (mkF m 161 #[.val (.long i0), .second, .val (.long i1), .second, .val (.long i2), .second, .val (.int i3), .val (.int l0), .val (.int l1), .val (.int l2), .val (.int p0), .val (.int p1), .val (.int p2), .val (.int n), .val (.int c0), .val (.int c1), .val (.int c2), .val (.ref lp), .val (.ref o2), .unset, .unset] [])
    obtain ⟨T108, h108, X108, e108, E108, A108, D108, U108, st108⟩ := newO X107 hx hZ hown (hw _ (List.mem_of_getElem? (i := 16) rfl)) (hw _ (List.mem_of_getElem? (i := 17) rfl)) (hw _ (List.mem_of_getElem? (i := 18) rfl)) rfl (g := (mkF m 161 #[.val (.long i0), .second, .val (.long i1), .second, .val (.long i2), .second, .val (.int i3), .val (.int l0), .val (.int l1), .val (.int l2), .val (.int p0), .val (.int p1), .val (.int p2), .val (.int n), .val (.int c0), .val (.int c1), .val (.int c2), .val (.ref lp), .val (.ref o2), .unset, .unset] [])) rfl (hb hby at_161) (by decide) (by decide)
    obtain ⟨bb, g108⟩ : ∃ z, z = T107.heap.size := ⟨_, rfl⟩
    rw [← g108] at A108 D108 U108 st108
    have ne_lp_bb : lp ≠ bb := Nat.ne_of_lt (Nat.lt_of_lt_of_le E_lp.lt (Nat.le_of_eq g108.symm))
    have ne_o0_bb : o0 ≠ bb := Nat.ne_of_lt (Nat.lt_of_lt_of_le E_o0.lt (Nat.le_of_eq g108.symm))
    have ne_o1_bb : o1 ≠ bb := Nat.ne_of_lt (Nat.lt_of_lt_of_le E_o1.lt (Nat.le_of_eq g108.symm))
    have ne_o2_bb : o2 ≠ bb := Nat.ne_of_lt (Nat.lt_of_lt_of_le E_o2.lt (Nat.le_of_eq g108.symm))
    have g_bb : n0 ≤ bb := Nat.le_trans Zn (Nat.le_of_eq g108.symm)
    have sz_bb : h0.size ≤ bb := Nat.le_trans K0.1 (Nat.le_of_eq g108.symm)
    replace E_lp := E_lp.ext E108
    replace V_lp := V_lp.ext E108
    replace E_o0 := E_o0.ext E108
    replace F_cls_o0 := F_cls_o0.ext E108
    replace F_point_o0 := F_point_o0.ext E108
    replace F_previous_o0 := F_previous_o0.ext E108
    replace E_o1 := E_o1.ext E108
    replace F_cls_o1 := F_cls_o1.ext E108
    replace F_point_o1 := F_point_o1.ext E108
    replace F_previous_o1 := F_previous_o1.ext E108
    replace E_o2 := E_o2.ext E108
    replace F_cls_o2 := F_cls_o2.ext E108
    replace F_point_o2 := F_point_o2.ext E108
    replace F_previous_o2 := F_previous_o2.ext E108
    replace Zn := Nat.le_trans Zn E108.1
    replace K0 := K0.ext E108
    have E_bb := A108
    have F_changes_bb : Fld Z h108 bb "com/example/bidkeel/bidkeel/Knapsack$Best" "changes" "Lcom/example/bidkeel/bidkeel/Knapsack$Change;" .null := D108 (Or.inl (hw _ (List.mem_of_getElem? (i := 29) rfl))) (ty := (.object "com/example/bidkeel/bidkeel/Knapsack$Change")) (by decide)
    have F_profit_bb : Fld Z h108 bb "com/example/bidkeel/bidkeel/Knapsack$Best" "profit" "D" (.double 0) := D108 (Or.inl (hw _ (List.mem_of_getElem? (i := 31) rfl))) (ty := .double) (by decide)
    have F_units_bb : Fld Z h108 bb "com/example/bidkeel/bidkeel/Knapsack$Best" "units" "D" (.double 0) := D108 (Or.inl (hw _ (List.mem_of_getElem? (i := 33) rfl))) (ty := .double) (by decide)
    have F_steps_bb : Fld Z h108 bb "com/example/bidkeel/bidkeel/Knapsack$Best" "steps" "J" (.long (0 : Int64)) := D108 (Or.inl (hw _ (List.mem_of_getElem? (i := 35) rfl))) (ty := .long) (by decide)
    refine Go.step st108 ?_
    show Go p e below _ T108 (mkF m 164 #[.val (.long i0), .second, .val (.long i1), .second, .val (.long i2), .second, .val (.int i3), .val (.int l0), .val (.int l1), .val (.int l2), .val (.int p0), .val (.int p1), .val (.int p2), .val (.int n), .val (.int c0), .val (.int c1), .val (.int c2), .val (.ref lp), .val (.ref o2), .unset, .unset] [(.ref bb)])
    refine Go.step (fun _ k => XS.dup X108.here hx rfl (hb hby at_164) rfl rfl k) ?_
    show Go p e below _ T108 (mkF m 165 #[.val (.long i0), .second, .val (.long i1), .second, .val (.long i2), .second, .val (.int i3), .val (.int l0), .val (.int l1), .val (.int l2), .val (.int p0), .val (.int p1), .val (.int p2), .val (.int n), .val (.int c0), .val (.int c1), .val (.int c2), .val (.ref lp), .val (.ref o2), .unset, .unset] [(.ref bb), (.ref bb)])
    obtain ⟨_, _, ⟨T109, L109, k109, n109⟩, -, X109, ⟨Lc109, hQ109, l109, y109, z109⟩, st109⟩ := X108.specialBack hx (y := (⟨"com/example/bidkeel/bidkeel/Knapsack$Best", "<init>", "()V"⟩ : MethodName)) rfl hown (mvT hZ (hw _ (List.mem_of_getElem? (i := 19) rfl))) (mvT hZ (hw _ (List.mem_of_getElem? (i := 20) rfl))) (mvT hZ (hw _ (List.mem_of_getElem? (i := 21) rfl))) (by decide) (backOf (W := 1) (rmB l Z a0 hw [] bb h108 n0 Zn) hZ (hw _ (List.mem_of_getElem? (i := 21) rfl)) (hw _ (List.mem_of_getElem? (i := 18) rfl)) (by decide) (by decide)) (g := (mkF m 165 #[.val (.long i0), .second, .val (.long i1), .second, .val (.long i2), .second, .val (.int i3), .val (.int l0), .val (.int l1), .val (.int l2), .val (.int p0), .val (.int p1), .val (.int p2), .val (.int n), .val (.int c0), .val (.int c1), .val (.int c2), .val (.ref lp), .val (.ref o2), .unset, .unset] [(.ref bb), (.ref bb)])) rfl (by rw [hml]; rfl) (Steps.refl _) (a := bb) (argsL := []) (rest := [(.ref bb)]) (lenOf own_f92 rfl) rfl (by show 2 * 0 + _ ≤ _; exact Nat.le_of_eq rfl) (hb hby at_165) (fun _ _ => ⟨rfl, e108, (by dsimp only [Pt.cells, Pt.slots]; decide), (by dsimp only [Pt.cells, Pt.slots]; decide)⟩)
    dsimp only [Pt.U, Pt.locs, Pt.cells, Pt.slots] at X109 l109 y109 z109 st109 hQ109
    subst l109 y109 z109
    obtain ⟨rfl, N109q, e109⟩ := hQ109
    have N109 := Fr.app N107 N109q
    refine Go.step (fun _ k => st109.trans k) ?_
    show Go p e below _ T109 (mkF m 168 #[.val (.long i0), .second, .val (.long i1), .second, .val (.long i2), .second, .val (.int i3), .val (.int l0), .val (.int l1), .val (.int l2), .val (.int p0), .val (.int p1), .val (.int p2), .val (.int n), .val (.int c0), .val (.int c1), .val (.int c2), .val (.ref lp), .val (.ref o2), .unset, .unset] [(.ref bb)])
    refine Go.step (fun _ k => XS.astore X109.here hx rfl (hb hby at_168) rfl rfl (l' := #[.val (.long i0), .second, .val (.long i1), .second, .val (.long i2), .second, .val (.int i3), .val (.int l0), .val (.int l1), .val (.int l2), .val (.int p0), .val (.int p1), .val (.int p2), .val (.int n), .val (.int c0), .val (.int c1), .val (.int c2), .val (.ref lp), .val (.ref o2), .val (.ref bb), .unset]) rfl k) ?_
    show Go p e below _ T109 (mkF m 170 #[.val (.long i0), .second, .val (.long i1), .second, .val (.long i2), .second, .val (.int i3), .val (.int l0), .val (.int l1), .val (.int l2), .val (.int p0), .val (.int p1), .val (.int p2), .val (.int n), .val (.int c0), .val (.int c1), .val (.int c2), .val (.ref lp), .val (.ref o2), .val (.ref bb), .unset] [])
    refine Go.step (fun _ k => XS.aload X109.here hx rfl (hb hby at_170) rfl rfl k) ?_
    show Go p e below _ T109 (mkF m 172 #[.val (.long i0), .second, .val (.long i1), .second, .val (.long i2), .second, .val (.int i3), .val (.int l0), .val (.int l1), .val (.int l2), .val (.int p0), .val (.int p1), .val (.int p2), .val (.int n), .val (.int c0), .val (.int c1), .val (.int c2), .val (.ref lp), .val (.ref o2), .val (.ref bb), .unset] [(.ref bb)])
    refine Go.step (fun _ k => XS.aload X109.here hx rfl (hb hby at_172) rfl rfl k) ?_
    show Go p e below _ T109 (mkF m 174 #[.val (.long i0), .second, .val (.long i1), .second, .val (.long i2), .second, .val (.int i3), .val (.int l0), .val (.int l1), .val (.int l2), .val (.int p0), .val (.int p1), .val (.int p2), .val (.int n), .val (.int c0), .val (.int c1), .val (.int c2), .val (.ref lp), .val (.ref o2), .val (.ref bb), .unset] [(.ref o2), (.ref bb)])
    refine Go.step (fun _ k => XS.dconst0 X109.here hx rfl (hb hby at_174) rfl k) ?_
    show Go p e below _ T109 (mkF m 175 #[.val (.long i0), .second, .val (.long i1), .second, .val (.long i2), .second, .val (.int i3), .val (.int l0), .val (.int l1), .val (.int l2), .val (.int p0), .val (.int p1), .val (.int p2), .val (.int n), .val (.int c0), .val (.int c1), .val (.int c2), .val (.ref lp), .val (.ref o2), .val (.ref bb), .unset] [(.double FP.dconst0), (.ref o2), (.ref bb)])
    refine Go.step (fun _ k => XS.dconst0 X109.here hx rfl (hb hby at_175) rfl k) ?_
    show Go p e below _ T109 (mkF m 176 #[.val (.long i0), .second, .val (.long i1), .second, .val (.long i2), .second, .val (.int i3), .val (.int l0), .val (.int l1), .val (.int l2), .val (.int p0), .val (.int p1), .val (.int p2), .val (.int n), .val (.int c0), .val (.int c1), .val (.int c2), .val (.ref lp), .val (.ref o2), .val (.ref bb), .unset] [(.double FP.dconst0), (.double FP.dconst0), (.ref o2), (.ref bb)])
    refine Go.step (fun _ k => XS.lconst X109.here hx rfl (hb hby at_176) k) ?_
    show Go p e below _ T109 (mkF m 177 #[.val (.long i0), .second, .val (.long i1), .second, .val (.long i2), .second, .val (.int i3), .val (.int l0), .val (.int l1), .val (.int l2), .val (.int p0), .val (.int p1), .val (.int p2), .val (.int n), .val (.int c0), .val (.int c1), .val (.int c2), .val (.ref lp), .val (.ref o2), .val (.ref bb), .unset] [(.long (0 : Int64)), (.double FP.dconst0), (.double FP.dconst0), (.ref o2), (.ref bb)])
    obtain ⟨cq110, kq110, q110a, q110b, q110c⟩ := isOf hZ e109 E_bb
    obtain ⟨_, _, ⟨T110, L110, k110, n110⟩, -, X110, ⟨Lc110, hQ110, l110, y110, z110⟩, st110⟩ := X109.virtualBack hx (y := (⟨"com/example/bidkeel/bidkeel/Knapsack$Best", "take", "(Lcom/example/bidkeel/bidkeel/Knapsack$Change;DDJ)V"⟩ : MethodName)) (z := (⟨"com/example/bidkeel/bidkeel/Knapsack$Best", "take", "(Lcom/example/bidkeel/bidkeel/Knapsack$Change;DDJ)V"⟩ : MethodName)) hown (mvT hZ (hw _ (List.mem_of_getElem? (i := 23) rfl))) (mvT hZ (hw _ (List.mem_of_getElem? (i := 24) rfl))) (notFace_of_selects (args := #[]) (mvT hZ (hw _ (List.mem_of_getElem? (i := 26) rfl)))) (mvT hZ (hw _ (List.mem_of_getElem? (i := 26) rfl))) (mvT hZ (hw _ (List.mem_of_getElem? (i := 25) rfl))) (by decide) (backOf (W := 0) (rmTR l Z a0 hw [] bb o2 FP.dconst0 FP.dconst0 (0 : Int64) h108 n0 Zn E_bb F_changes_bb F_profit_bb F_units_bb F_steps_bb g_bb) hZ (hw _ (List.mem_of_getElem? (i := 27) rfl)) (hw _ (List.mem_of_getElem? (i := 18) rfl)) (by decide) (by decide)) q110a q110c (g := (mkF m 177 #[.val (.long i0), .second, .val (.long i1), .second, .val (.long i2), .second, .val (.int i3), .val (.int l0), .val (.int l1), .val (.int l2), .val (.int p0), .val (.int p1), .val (.int p2), .val (.int n), .val (.int c0), .val (.int c1), .val (.int c2), .val (.ref lp), .val (.ref o2), .val (.ref bb), .unset] [(.long (0 : Int64)), (.double FP.dconst0), (.double FP.dconst0), (.ref o2), (.ref bb)])) rfl (by rw [hml]; rfl) (Steps.refl _) (argsL := [(.ref o2), (.double FP.dconst0), (.double FP.dconst0), (.long (0 : Int64))]) (rest := []) (lenOf own_f93 rfl) rfl (by show 2 * 0 + _ ≤ _; exact Nat.le_of_eq rfl) (hb hby at_177) (fun _ _ => ⟨rfl, e109, (by dsimp only [Pt.cells, Pt.slots]; decide), (by dsimp only [Pt.cells, Pt.slots]; decide)⟩)
    dsimp only [Pt.U, Pt.locs, Pt.cells, Pt.slots] at X110 l110 y110 z110 st110 hQ110
    subst l110 y110 z110
    obtain ⟨rfl, N110q, K110, F_changes_bb⟩ := hQ110
    have N110 := Fr.app N109 N110q
    refine Go.step (fun _ k => st110.trans k) ?_
    replace E_lp := E_lp.keep K110
    replace V_lp := V_lp.keep K110 (ninS ne_lp_bb nin0)
    replace E_o0 := E_o0.keep K110
    replace F_cls_o0 := F_cls_o0.keep K110 (ninS ne_o0_bb nin0)
    replace F_point_o0 := F_point_o0.keep K110 (ninS ne_o0_bb nin0)
    replace F_previous_o0 := F_previous_o0.keep K110 (ninS ne_o0_bb nin0)
    replace E_o1 := E_o1.keep K110
    replace F_cls_o1 := F_cls_o1.keep K110 (ninS ne_o1_bb nin0)
    replace F_point_o1 := F_point_o1.keep K110 (ninS ne_o1_bb nin0)
    replace F_previous_o1 := F_previous_o1.keep K110 (ninS ne_o1_bb nin0)
    replace E_o2 := E_o2.keep K110
    replace F_cls_o2 := F_cls_o2.keep K110 (ninS ne_o2_bb nin0)
    replace F_point_o2 := F_point_o2.keep K110 (ninS ne_o2_bb nin0)
    replace F_previous_o2 := F_previous_o2.keep K110 (ninS ne_o2_bb nin0)
    replace E_bb := E_bb.keep K110
    replace K0 := K0.trans K110 (allS (Or.inr sz_bb) (all0))
    replace Zn := Nat.le_trans Zn K110.1
    show Go p e below _ T110 (mkF m 180 #[.val (.long i0), .second, .val (.long i1), .second, .val (.long i2), .second, .val (.int i3), .val (.int l0), .val (.int l1), .val (.int l2), .val (.int p0), .val (.int p1), .val (.int p2), .val (.int n), .val (.int c0), .val (.int c1), .val (.int c2), .val (.ref lp), .val (.ref o2), .val (.ref bb), .unset] [])
    refine Go.step (fun _ k => XS.aload X110.here hx rfl (hb hby at_180) rfl rfl k) ?_
    show Go p e below _ T110 (mkF m 182 #[.val (.long i0), .second, .val (.long i1), .second, .val (.long i2), .second, .val (.int i3), .val (.int l0), .val (.int l1), .val (.int l2), .val (.int p0), .val (.int p1), .val (.int p2), .val (.int n), .val (.int c0), .val (.int c1), .val (.int c2), .val (.ref lp), .val (.ref o2), .val (.ref bb), .unset] [(.ref bb)])
    refine Go.step (fun _ k => XS.aload X110.here hx rfl (hb hby at_182) rfl rfl k) ?_
    show Go p e below _ T110 (mkF m 184 #[.val (.long i0), .second, .val (.long i1), .second, .val (.long i2), .second, .val (.int i3), .val (.int l0), .val (.int l1), .val (.int l2), .val (.int p0), .val (.int p1), .val (.int p2), .val (.int n), .val (.int c0), .val (.int c1), .val (.int c2), .val (.ref lp), .val (.ref o2), .val (.ref bb), .unset] [(.ref lp), (.ref bb)])
    have hch : own_chn Z T110.heap [(c2, p2), (c1, p1), (c0, p0)] (.ref o2) := ⟨o2, _, rfl, F_cls_o2, F_point_o2, F_previous_o2, ⟨o1, _, rfl, F_cls_o1, F_point_o1, F_previous_o1, ⟨o0, _, rfl, F_cls_o0, F_point_o0, F_previous_o0, rfl⟩⟩⟩
    have hi3 : ∀ x ∈ ([(c2, p2), (c1, p1), (c0, p0)] : List (Int32 × Int32)), own_in3 x.1 := by
      intro x hx
      simp only [List.mem_cons, List.not_mem_nil, or_false] at hx
      rcases hx with rfl | rfl | rfl
      · exact own_in3_of hc2
      · exact own_in3_of hc1
      · exact own_in3_of hc0
    obtain ⟨cq111, kq111, q111a, q111b, q111c⟩ := isOf hZ rfl E_bb
    obtain ⟨_, _, ⟨T111, L111, k111, n111⟩, -, X111, ⟨Lc111, hQ111, l111, y111, z111⟩, st111⟩ := X110.virtualBack hx (y := (⟨"com/example/bidkeel/bidkeel/Knapsack$Best", "points", "([I)[I"⟩ : MethodName)) (z := (⟨"com/example/bidkeel/bidkeel/Knapsack$Best", "points", "([I)[I"⟩ : MethodName)) hown (mvT hZ (hw _ (List.mem_of_getElem? (i := 36) rfl))) (mvT hZ (hw _ (List.mem_of_getElem? (i := 37) rfl))) (notFace_of_selects (args := #[]) (mvT hZ (hw _ (List.mem_of_getElem? (i := 39) rfl)))) (mvT hZ (hw _ (List.mem_of_getElem? (i := 39) rfl))) (mvT hZ (hw _ (List.mem_of_getElem? (i := 38) rfl))) (by decide) (backOf (W := 0) (rmP l Z a0 hw [] bb lp (.ref o2) [(c2, p2), (c1, p1), (c0, p0)] l0 l1 l2 k50 T110.heap n0 Zn F_changes_bb hch hi3 V_lp E_lp) hZ (hw _ (List.mem_of_getElem? (i := 40) rfl)) (hw _ (List.mem_of_getElem? (i := 18) rfl)) (by decide) (by decide)) q111a q111c (g := (mkF m 184 #[.val (.long i0), .second, .val (.long i1), .second, .val (.long i2), .second, .val (.int i3), .val (.int l0), .val (.int l1), .val (.int l2), .val (.int p0), .val (.int p1), .val (.int p2), .val (.int n), .val (.int c0), .val (.int c1), .val (.int c2), .val (.ref lp), .val (.ref o2), .val (.ref bb), .unset] [(.ref lp), (.ref bb)])) rfl (by rw [hml]; rfl) (Steps.refl _) (argsL := [(.ref lp)]) (rest := []) (lenOf own_f94 rfl) rfl (by show 2 * 0 + _ ≤ _; exact Nat.le_of_eq rfl) (hb hby at_184) (fun _ _ => ⟨rfl, rfl, (by dsimp only [Pt.cells, Pt.slots]; decide), (by dsimp only [Pt.cells, Pt.slots]; decide)⟩)
    dsimp only [Pt.U, Pt.locs, Pt.cells, Pt.slots] at X111 l111 y111 z111 st111 hQ111
    subst l111 y111 z111
    obtain ⟨rr, kr, rfl, N111q, K111, V_rr⟩ := hQ111
    have N111 := Fr.app N110 N111q
    refine Go.step (fun _ k => st111.trans k) ?_
    replace E_lp := E_lp.keep K111
    replace V_lp := V_lp.keep K111 nin0
    replace E_o0 := E_o0.keep K111
    replace F_cls_o0 := F_cls_o0.keep K111 nin0
    replace F_point_o0 := F_point_o0.keep K111 nin0
    replace F_previous_o0 := F_previous_o0.keep K111 nin0
    replace E_o1 := E_o1.keep K111
    replace F_cls_o1 := F_cls_o1.keep K111 nin0
    replace F_point_o1 := F_point_o1.keep K111 nin0
    replace F_previous_o1 := F_previous_o1.keep K111 nin0
    replace E_o2 := E_o2.keep K111
    replace F_cls_o2 := F_cls_o2.keep K111 nin0
    replace F_point_o2 := F_point_o2.keep K111 nin0
    replace F_previous_o2 := F_previous_o2.keep K111 nin0
    replace E_bb := E_bb.keep K111
    replace F_changes_bb := F_changes_bb.keep K111 nin0
    replace K0 := K0.trans K111 (all0)
    replace Zn := Nat.le_trans Zn K111.1
    show Go p e below _ T111 (mkF m 187 #[.val (.long i0), .second, .val (.long i1), .second, .val (.long i2), .second, .val (.int i3), .val (.int l0), .val (.int l1), .val (.int l2), .val (.int p0), .val (.int p1), .val (.int p2), .val (.int n), .val (.int c0), .val (.int c1), .val (.int c2), .val (.ref lp), .val (.ref o2), .val (.ref bb), .unset] [(.ref rr)])
    have hsame := own_same n c0 c1 c2 p0 p1 p2 l0 l1 l2 hn hc0 hc1 hc2 [(c2, p2), (c1, p1), (c0, p0)] (by rw [hk0]; rfl)
    rw [hsame] at V_rr
    have V_rr : Arv Z T111.heap rr kr .int (3 : Int32) [(.int (own_exp 0 n c0 c1 c2 p0 p1 p2 l0)), (.int (own_exp 1 n c0 c1 c2 p0 p1 p2 l1)), (.int (own_exp 2 n c0 c1 c2 p0 p1 p2 l2))] (.int (0 : Int32)) := V_rr
    refine Go.step (fun _ k => XS.astore X111.here hx rfl (hb hby at_187) rfl rfl (l' := #[.val (.long i0), .second, .val (.long i1), .second, .val (.long i2), .second, .val (.int i3), .val (.int l0), .val (.int l1), .val (.int l2), .val (.int p0), .val (.int p1), .val (.int p2), .val (.int n), .val (.int c0), .val (.int c1), .val (.int c2), .val (.ref lp), .val (.ref o2), .val (.ref bb), .val (.ref rr)]) rfl k) ?_
    show Go p e below _ T111 (mkF m 189 #[.val (.long i0), .second, .val (.long i1), .second, .val (.long i2), .second, .val (.int i3), .val (.int l0), .val (.int l1), .val (.int l2), .val (.int p0), .val (.int p1), .val (.int p2), .val (.int n), .val (.int c0), .val (.int c1), .val (.int c2), .val (.ref lp), .val (.ref o2), .val (.ref bb), .val (.ref rr)] [])
    refine Go.step (fun _ k => XS.aload X111.here hx rfl (hb hby at_189) rfl rfl k) ?_
    show Go p e below _ T111 (mkF m 191 #[.val (.long i0), .second, .val (.long i1), .second, .val (.long i2), .second, .val (.int i3), .val (.int l0), .val (.int l1), .val (.int l2), .val (.int p0), .val (.int p1), .val (.int p2), .val (.int n), .val (.int c0), .val (.int c1), .val (.int c2), .val (.ref lp), .val (.ref o2), .val (.ref bb), .val (.ref rr)] [(.ref rr)])
    refine Go.step (fun _ k => XS.ifnullNo X111.here hx rfl (hb hby at_191) rfl k) ?_
    show Go p e below _ T111 (mkF m 194 #[.val (.long i0), .second, .val (.long i1), .second, .val (.long i2), .second, .val (.int i3), .val (.int l0), .val (.int l1), .val (.int l2), .val (.int p0), .val (.int p1), .val (.int p2), .val (.int n), .val (.int c0), .val (.int c1), .val (.int c2), .val (.ref lp), .val (.ref o2), .val (.ref bb), .val (.ref rr)] [])
    refine Go.step (fun _ k => XS.aload X111.here hx rfl (hb hby at_194) rfl rfl k) ?_
    show Go p e below _ T111 (mkF m 196 #[.val (.long i0), .second, .val (.long i1), .second, .val (.long i2), .second, .val (.int i3), .val (.int l0), .val (.int l1), .val (.int l2), .val (.int p0), .val (.int p1), .val (.int p2), .val (.int n), .val (.int c0), .val (.int c1), .val (.int c2), .val (.ref lp), .val (.ref o2), .val (.ref bb), .val (.ref rr)] [(.ref rr)])
    obtain ⟨cl112, Ar112, q112, S112, Nn112, H112, G112⟩ := V_rr
    have V_rr : Arv Z T111.heap rr kr .int (3 : Int32) [(.int (own_exp 0 n c0 c1 c2 p0 p1 p2 l0)), (.int (own_exp 1 n c0 c1 c2 p0 p1 p2 l1)), (.int (own_exp 2 n c0 c1 c2 p0 p1 p2 l2))] (.int (0 : Int32)) := ⟨cl112, Ar112, q112, S112, Nn112, H112, G112⟩
    refine Go.step (X111.arraylength hx Ar112.1 (State.isArrayOf_alike hZ.alike Ar112.2.1) (g := (mkF m 196 #[.val (.long i0), .second, .val (.long i1), .second, .val (.long i2), .second, .val (.int i3), .val (.int l0), .val (.int l1), .val (.int l2), .val (.int p0), .val (.int p1), .val (.int p2), .val (.int n), .val (.int c0), .val (.int c1), .val (.int c2), .val (.ref lp), .val (.ref o2), .val (.ref bb), .val (.ref rr)] [(.ref rr)])) rfl rfl (hb hby at_196)) ?_
    rw [len_of S112 Nn112]
    show Go p e below _ T111 (mkF m 197 #[.val (.long i0), .second, .val (.long i1), .second, .val (.long i2), .second, .val (.int i3), .val (.int l0), .val (.int l1), .val (.int l2), .val (.int p0), .val (.int p1), .val (.int p2), .val (.int n), .val (.int c0), .val (.int c1), .val (.int c2), .val (.ref lp), .val (.ref o2), .val (.ref bb), .val (.ref rr)] [(.int (3 : Int32))])
    refine Go.step (fun _ k => XS.iconst X111.here hx rfl (hb hby at_197) k) ?_
    show Go p e below _ T111 (mkF m 198 #[.val (.long i0), .second, .val (.long i1), .second, .val (.long i2), .second, .val (.int i3), .val (.int l0), .val (.int l1), .val (.int l2), .val (.int p0), .val (.int p1), .val (.int p2), .val (.int n), .val (.int c0), .val (.int c1), .val (.int c2), .val (.ref lp), .val (.ref o2), .val (.ref bb), .val (.ref rr)] [(.int (3 : Int32)), (.int (3 : Int32))])
    refine Go.step (fun _ k => XS.icmpYes X111.here hx rfl (pc0 := 198) (pc' := 203) rfl (hb hby at_198) rfl (teq rfl).1 (by decide) (by decide) k) ?_
    show Go p e below _ T111 (mkF m 203 #[.val (.long i0), .second, .val (.long i1), .second, .val (.long i2), .second, .val (.int i3), .val (.int l0), .val (.int l1), .val (.int l2), .val (.int p0), .val (.int p1), .val (.int p2), .val (.int n), .val (.int c0), .val (.int c1), .val (.int c2), .val (.ref lp), .val (.ref o2), .val (.ref bb), .val (.ref rr)] [])
    refine Go.step (fun _ k => XS.aload X111.here hx rfl (hb hby at_203) rfl rfl k) ?_
    show Go p e below _ T111 (mkF m 205 #[.val (.long i0), .second, .val (.long i1), .second, .val (.long i2), .second, .val (.int i3), .val (.int l0), .val (.int l1), .val (.int l2), .val (.int p0), .val (.int p1), .val (.int p2), .val (.int n), .val (.int c0), .val (.int c1), .val (.int c2), .val (.ref lp), .val (.ref o2), .val (.ref bb), .val (.ref rr)] [(.ref lp)])
    refine Go.step (fun _ k => XS.iconst X111.here hx rfl (hb hby at_205) k) ?_
    show Go p e below _ T111 (mkF m 206 #[.val (.long i0), .second, .val (.long i1), .second, .val (.long i2), .second, .val (.int i3), .val (.int l0), .val (.int l1), .val (.int l2), .val (.int p0), .val (.int p1), .val (.int p2), .val (.int n), .val (.int c0), .val (.int c1), .val (.int c2), .val (.ref lp), .val (.ref o2), .val (.ref bb), .val (.ref rr)] [(.int (0 : Int32)), (.ref lp)])
    obtain ⟨cl113, Ar113, q113, S113, Nn113, H113, G113⟩ := V_lp
    have V_lp : Arv Z T111.heap lp k50 .int (3 : Int32) [(.int l0), (.int l1), (.int l2)] (.int (0 : Int32)) := ⟨cl113, Ar113, q113, S113, Nn113, H113, G113⟩
    have hin113 : ¬ ((0 : Int32) < 0 ∨ cl113.slots.size ≤ ((0 : Int32)).toNatClampNeg) := inb_of S113 ⟨by decide, by decide⟩
    have hat113 : cl113.slots[((0 : Int32)).toNatClampNeg]? = some (.int l0) := Has.at H113 hin113 rfl
    refine Go.step (X111.iaload hx (j := (0 : Int32)) (v := (.int l0)) Ar113.1 (State.isArrayOf_alike hZ.alike Ar113.2.1) Ar113.2.2 hin113 hat113 (g := (mkF m 206 #[.val (.long i0), .second, .val (.long i1), .second, .val (.long i2), .second, .val (.int i3), .val (.int l0), .val (.int l1), .val (.int l2), .val (.int p0), .val (.int p1), .val (.int p2), .val (.int n), .val (.int c0), .val (.int c1), .val (.int c2), .val (.ref lp), .val (.ref o2), .val (.ref bb), .val (.ref rr)] [(.int (0 : Int32)), (.ref lp)])) rfl rfl (hb hby at_206)) ?_
    show Go p e below _ T111 (mkF m 207 #[.val (.long i0), .second, .val (.long i1), .second, .val (.long i2), .second, .val (.int i3), .val (.int l0), .val (.int l1), .val (.int l2), .val (.int p0), .val (.int p1), .val (.int p2), .val (.int n), .val (.int c0), .val (.int c1), .val (.int c2), .val (.ref lp), .val (.ref o2), .val (.ref bb), .val (.ref rr)] [(.int l0)])
    refine Go.step (fun _ k => XS.iload X111.here hx rfl (hb hby at_207) rfl k) ?_
    show Go p e below _ T111 (mkF m 209 #[.val (.long i0), .second, .val (.long i1), .second, .val (.long i2), .second, .val (.int i3), .val (.int l0), .val (.int l1), .val (.int l2), .val (.int p0), .val (.int p1), .val (.int p2), .val (.int n), .val (.int c0), .val (.int c1), .val (.int c2), .val (.ref lp), .val (.ref o2), .val (.ref bb), .val (.ref rr)] [(.int l0), (.int l0)])
    refine Go.step (fun _ k => XS.icmpNo X111.here hx rfl (hb hby at_209) rfl (teq rfl).2 k) ?_
    show Go p e below _ T111 (mkF m 212 #[.val (.long i0), .second, .val (.long i1), .second, .val (.long i2), .second, .val (.int i3), .val (.int l0), .val (.int l1), .val (.int l2), .val (.int p0), .val (.int p1), .val (.int p2), .val (.int n), .val (.int c0), .val (.int c1), .val (.int c2), .val (.ref lp), .val (.ref o2), .val (.ref bb), .val (.ref rr)] [])
    refine Go.step (fun _ k => XS.aload X111.here hx rfl (hb hby at_212) rfl rfl k) ?_
    show Go p e below _ T111 (mkF m 214 #[.val (.long i0), .second, .val (.long i1), .second, .val (.long i2), .second, .val (.int i3), .val (.int l0), .val (.int l1), .val (.int l2), .val (.int p0), .val (.int p1), .val (.int p2), .val (.int n), .val (.int c0), .val (.int c1), .val (.int c2), .val (.ref lp), .val (.ref o2), .val (.ref bb), .val (.ref rr)] [(.ref lp)])
    refine Go.step (fun _ k => XS.iconst X111.here hx rfl (hb hby at_214) k) ?_
    show Go p e below _ T111 (mkF m 215 #[.val (.long i0), .second, .val (.long i1), .second, .val (.long i2), .second, .val (.int i3), .val (.int l0), .val (.int l1), .val (.int l2), .val (.int p0), .val (.int p1), .val (.int p2), .val (.int n), .val (.int c0), .val (.int c1), .val (.int c2), .val (.ref lp), .val (.ref o2), .val (.ref bb), .val (.ref rr)] [(.int (1 : Int32)), (.ref lp)])
    obtain ⟨cl114, Ar114, q114, S114, Nn114, H114, G114⟩ := V_lp
    have V_lp : Arv Z T111.heap lp k50 .int (3 : Int32) [(.int l0), (.int l1), (.int l2)] (.int (0 : Int32)) := ⟨cl114, Ar114, q114, S114, Nn114, H114, G114⟩
    have hin114 : ¬ ((1 : Int32) < 0 ∨ cl114.slots.size ≤ ((1 : Int32)).toNatClampNeg) := inb_of S114 ⟨by decide, by decide⟩
    have hat114 : cl114.slots[((1 : Int32)).toNatClampNeg]? = some (.int l1) := Has.at H114 hin114 rfl
    refine Go.step (X111.iaload hx (j := (1 : Int32)) (v := (.int l1)) Ar114.1 (State.isArrayOf_alike hZ.alike Ar114.2.1) Ar114.2.2 hin114 hat114 (g := (mkF m 215 #[.val (.long i0), .second, .val (.long i1), .second, .val (.long i2), .second, .val (.int i3), .val (.int l0), .val (.int l1), .val (.int l2), .val (.int p0), .val (.int p1), .val (.int p2), .val (.int n), .val (.int c0), .val (.int c1), .val (.int c2), .val (.ref lp), .val (.ref o2), .val (.ref bb), .val (.ref rr)] [(.int (1 : Int32)), (.ref lp)])) rfl rfl (hb hby at_215)) ?_
    show Go p e below _ T111 (mkF m 216 #[.val (.long i0), .second, .val (.long i1), .second, .val (.long i2), .second, .val (.int i3), .val (.int l0), .val (.int l1), .val (.int l2), .val (.int p0), .val (.int p1), .val (.int p2), .val (.int n), .val (.int c0), .val (.int c1), .val (.int c2), .val (.ref lp), .val (.ref o2), .val (.ref bb), .val (.ref rr)] [(.int l1)])
    refine Go.step (fun _ k => XS.iload X111.here hx rfl (hb hby at_216) rfl k) ?_
    show Go p e below _ T111 (mkF m 218 #[.val (.long i0), .second, .val (.long i1), .second, .val (.long i2), .second, .val (.int i3), .val (.int l0), .val (.int l1), .val (.int l2), .val (.int p0), .val (.int p1), .val (.int p2), .val (.int n), .val (.int c0), .val (.int c1), .val (.int c2), .val (.ref lp), .val (.ref o2), .val (.ref bb), .val (.ref rr)] [(.int l1), (.int l1)])
    refine Go.step (fun _ k => XS.icmpNo X111.here hx rfl (hb hby at_218) rfl (teq rfl).2 k) ?_
    show Go p e below _ T111 (mkF m 221 #[.val (.long i0), .second, .val (.long i1), .second, .val (.long i2), .second, .val (.int i3), .val (.int l0), .val (.int l1), .val (.int l2), .val (.int p0), .val (.int p1), .val (.int p2), .val (.int n), .val (.int c0), .val (.int c1), .val (.int c2), .val (.ref lp), .val (.ref o2), .val (.ref bb), .val (.ref rr)] [])
    refine Go.step (fun _ k => XS.aload X111.here hx rfl (hb hby at_221) rfl rfl k) ?_
    show Go p e below _ T111 (mkF m 223 #[.val (.long i0), .second, .val (.long i1), .second, .val (.long i2), .second, .val (.int i3), .val (.int l0), .val (.int l1), .val (.int l2), .val (.int p0), .val (.int p1), .val (.int p2), .val (.int n), .val (.int c0), .val (.int c1), .val (.int c2), .val (.ref lp), .val (.ref o2), .val (.ref bb), .val (.ref rr)] [(.ref lp)])
    refine Go.step (fun _ k => XS.iconst X111.here hx rfl (hb hby at_223) k) ?_
    show Go p e below _ T111 (mkF m 224 #[.val (.long i0), .second, .val (.long i1), .second, .val (.long i2), .second, .val (.int i3), .val (.int l0), .val (.int l1), .val (.int l2), .val (.int p0), .val (.int p1), .val (.int p2), .val (.int n), .val (.int c0), .val (.int c1), .val (.int c2), .val (.ref lp), .val (.ref o2), .val (.ref bb), .val (.ref rr)] [(.int (2 : Int32)), (.ref lp)])
    obtain ⟨cl115, Ar115, q115, S115, Nn115, H115, G115⟩ := V_lp
    have V_lp : Arv Z T111.heap lp k50 .int (3 : Int32) [(.int l0), (.int l1), (.int l2)] (.int (0 : Int32)) := ⟨cl115, Ar115, q115, S115, Nn115, H115, G115⟩
    have hin115 : ¬ ((2 : Int32) < 0 ∨ cl115.slots.size ≤ ((2 : Int32)).toNatClampNeg) := inb_of S115 ⟨by decide, by decide⟩
    have hat115 : cl115.slots[((2 : Int32)).toNatClampNeg]? = some (.int l2) := Has.at H115 hin115 rfl
    refine Go.step (X111.iaload hx (j := (2 : Int32)) (v := (.int l2)) Ar115.1 (State.isArrayOf_alike hZ.alike Ar115.2.1) Ar115.2.2 hin115 hat115 (g := (mkF m 224 #[.val (.long i0), .second, .val (.long i1), .second, .val (.long i2), .second, .val (.int i3), .val (.int l0), .val (.int l1), .val (.int l2), .val (.int p0), .val (.int p1), .val (.int p2), .val (.int n), .val (.int c0), .val (.int c1), .val (.int c2), .val (.ref lp), .val (.ref o2), .val (.ref bb), .val (.ref rr)] [(.int (2 : Int32)), (.ref lp)])) rfl rfl (hb hby at_224)) ?_
    show Go p e below _ T111 (mkF m 225 #[.val (.long i0), .second, .val (.long i1), .second, .val (.long i2), .second, .val (.int i3), .val (.int l0), .val (.int l1), .val (.int l2), .val (.int p0), .val (.int p1), .val (.int p2), .val (.int n), .val (.int c0), .val (.int c1), .val (.int c2), .val (.ref lp), .val (.ref o2), .val (.ref bb), .val (.ref rr)] [(.int l2)])
    refine Go.step (fun _ k => XS.iload X111.here hx rfl (hb hby at_225) rfl k) ?_
    show Go p e below _ T111 (mkF m 227 #[.val (.long i0), .second, .val (.long i1), .second, .val (.long i2), .second, .val (.int i3), .val (.int l0), .val (.int l1), .val (.int l2), .val (.int p0), .val (.int p1), .val (.int p2), .val (.int n), .val (.int c0), .val (.int c1), .val (.int c2), .val (.ref lp), .val (.ref o2), .val (.ref bb), .val (.ref rr)] [(.int l2), (.int l2)])
    refine Go.step (fun _ k => XS.icmpYes X111.here hx rfl (pc0 := 227) (pc' := 232) rfl (hb hby at_227) rfl (teq rfl).1 (by decide) (by decide) k) ?_
    show Go p e below _ T111 (mkF m 232 #[.val (.long i0), .second, .val (.long i1), .second, .val (.long i2), .second, .val (.int i3), .val (.int l0), .val (.int l1), .val (.int l2), .val (.int p0), .val (.int p1), .val (.int p2), .val (.int n), .val (.int c0), .val (.int c1), .val (.int c2), .val (.ref lp), .val (.ref o2), .val (.ref bb), .val (.ref rr)] [])
    refine Go.step (fun _ k => XS.aload X111.here hx rfl (hb hby at_232) rfl rfl k) ?_
    show Go p e below _ T111 (mkF m 234 #[.val (.long i0), .second, .val (.long i1), .second, .val (.long i2), .second, .val (.int i3), .val (.int l0), .val (.int l1), .val (.int l2), .val (.int p0), .val (.int p1), .val (.int p2), .val (.int n), .val (.int c0), .val (.int c1), .val (.int c2), .val (.ref lp), .val (.ref o2), .val (.ref bb), .val (.ref rr)] [(.ref rr)])
    refine Go.step (fun _ k => XS.iconst X111.here hx rfl (hb hby at_234) k) ?_
    show Go p e below _ T111 (mkF m 235 #[.val (.long i0), .second, .val (.long i1), .second, .val (.long i2), .second, .val (.int i3), .val (.int l0), .val (.int l1), .val (.int l2), .val (.int p0), .val (.int p1), .val (.int p2), .val (.int n), .val (.int c0), .val (.int c1), .val (.int c2), .val (.ref lp), .val (.ref o2), .val (.ref bb), .val (.ref rr)] [(.int (0 : Int32)), (.ref rr)])
    obtain ⟨cl116, Ar116, q116, S116, Nn116, H116, G116⟩ := V_rr
    have V_rr : Arv Z T111.heap rr kr .int (3 : Int32) [(.int (own_exp 0 n c0 c1 c2 p0 p1 p2 l0)), (.int (own_exp 1 n c0 c1 c2 p0 p1 p2 l1)), (.int (own_exp 2 n c0 c1 c2 p0 p1 p2 l2))] (.int (0 : Int32)) := ⟨cl116, Ar116, q116, S116, Nn116, H116, G116⟩
    have hin116 : ¬ ((0 : Int32) < 0 ∨ cl116.slots.size ≤ ((0 : Int32)).toNatClampNeg) := inb_of S116 ⟨by decide, by decide⟩
    have hat116 : cl116.slots[((0 : Int32)).toNatClampNeg]? = some (.int (own_exp 0 n c0 c1 c2 p0 p1 p2 l0)) := Has.at H116 hin116 rfl
    refine Go.step (X111.iaload hx (j := (0 : Int32)) (v := (.int (own_exp 0 n c0 c1 c2 p0 p1 p2 l0))) Ar116.1 (State.isArrayOf_alike hZ.alike Ar116.2.1) Ar116.2.2 hin116 hat116 (g := (mkF m 235 #[.val (.long i0), .second, .val (.long i1), .second, .val (.long i2), .second, .val (.int i3), .val (.int l0), .val (.int l1), .val (.int l2), .val (.int p0), .val (.int p1), .val (.int p2), .val (.int n), .val (.int c0), .val (.int c1), .val (.int c2), .val (.ref lp), .val (.ref o2), .val (.ref bb), .val (.ref rr)] [(.int (0 : Int32)), (.ref rr)])) rfl rfl (hb hby at_235)) ?_
    show Go p e below _ T111 (mkF m 236 #[.val (.long i0), .second, .val (.long i1), .second, .val (.long i2), .second, .val (.int i3), .val (.int l0), .val (.int l1), .val (.int l2), .val (.int p0), .val (.int p1), .val (.int p2), .val (.int n), .val (.int c0), .val (.int c1), .val (.int c2), .val (.ref lp), .val (.ref o2), .val (.ref bb), .val (.ref rr)] [(.int (own_exp 0 n c0 c1 c2 p0 p1 p2 l0))])
    refine Go.step (fun _ k => XS.iconst X111.here hx rfl (hb hby at_236) k) ?_
    show Go p e below _ T111 (mkF m 237 #[.val (.long i0), .second, .val (.long i1), .second, .val (.long i2), .second, .val (.int i3), .val (.int l0), .val (.int l1), .val (.int l2), .val (.int p0), .val (.int p1), .val (.int p2), .val (.int n), .val (.int c0), .val (.int c1), .val (.int c2), .val (.ref lp), .val (.ref o2), .val (.ref bb), .val (.ref rr)] [(.int (0 : Int32)), (.int (own_exp 0 n c0 c1 c2 p0 p1 p2 l0))])
    refine Go.step (fun _ k => XS.iload X111.here hx rfl (hb hby at_237) rfl k) ?_
    show Go p e below _ T111 (mkF m 239 #[.val (.long i0), .second, .val (.long i1), .second, .val (.long i2), .second, .val (.int i3), .val (.int l0), .val (.int l1), .val (.int l2), .val (.int p0), .val (.int p1), .val (.int p2), .val (.int n), .val (.int c0), .val (.int c1), .val (.int c2), .val (.ref lp), .val (.ref o2), .val (.ref bb), .val (.ref rr)] [(.int n), (.int (0 : Int32)), (.int (own_exp 0 n c0 c1 c2 p0 p1 p2 l0))])
    refine Go.step (fun _ k => XS.iload X111.here hx rfl (hb hby at_239) rfl k) ?_
    show Go p e below _ T111 (mkF m 241 #[.val (.long i0), .second, .val (.long i1), .second, .val (.long i2), .second, .val (.int i3), .val (.int l0), .val (.int l1), .val (.int l2), .val (.int p0), .val (.int p1), .val (.int p2), .val (.int n), .val (.int c0), .val (.int c1), .val (.int c2), .val (.ref lp), .val (.ref o2), .val (.ref bb), .val (.ref rr)] [(.int c0), (.int n), (.int (0 : Int32)), (.int (own_exp 0 n c0 c1 c2 p0 p1 p2 l0))])
    refine Go.step (fun _ k => XS.iload X111.here hx rfl (hb hby at_241) rfl k) ?_
    show Go p e below _ T111 (mkF m 243 #[.val (.long i0), .second, .val (.long i1), .second, .val (.long i2), .second, .val (.int i3), .val (.int l0), .val (.int l1), .val (.int l2), .val (.int p0), .val (.int p1), .val (.int p2), .val (.int n), .val (.int c0), .val (.int c1), .val (.int c2), .val (.ref lp), .val (.ref o2), .val (.ref bb), .val (.ref rr)] [(.int c1), (.int c0), (.int n), (.int (0 : Int32)), (.int (own_exp 0 n c0 c1 c2 p0 p1 p2 l0))])
    refine Go.step (fun _ k => XS.iload X111.here hx rfl (hb hby at_243) rfl k) ?_
    show Go p e below _ T111 (mkF m 245 #[.val (.long i0), .second, .val (.long i1), .second, .val (.long i2), .second, .val (.int i3), .val (.int l0), .val (.int l1), .val (.int l2), .val (.int p0), .val (.int p1), .val (.int p2), .val (.int n), .val (.int c0), .val (.int c1), .val (.int c2), .val (.ref lp), .val (.ref o2), .val (.ref bb), .val (.ref rr)] [(.int c2), (.int c1), (.int c0), (.int n), (.int (0 : Int32)), (.int (own_exp 0 n c0 c1 c2 p0 p1 p2 l0))])
    refine Go.step (fun _ k => XS.iload X111.here hx rfl (hb hby at_245) rfl k) ?_
    show Go p e below _ T111 (mkF m 247 #[.val (.long i0), .second, .val (.long i1), .second, .val (.long i2), .second, .val (.int i3), .val (.int l0), .val (.int l1), .val (.int l2), .val (.int p0), .val (.int p1), .val (.int p2), .val (.int n), .val (.int c0), .val (.int c1), .val (.int c2), .val (.ref lp), .val (.ref o2), .val (.ref bb), .val (.ref rr)] [(.int p0), (.int c2), (.int c1), (.int c0), (.int n), (.int (0 : Int32)), (.int (own_exp 0 n c0 c1 c2 p0 p1 p2 l0))])
    refine Go.step (fun _ k => XS.iload X111.here hx rfl (hb hby at_247) rfl k) ?_
    show Go p e below _ T111 (mkF m 249 #[.val (.long i0), .second, .val (.long i1), .second, .val (.long i2), .second, .val (.int i3), .val (.int l0), .val (.int l1), .val (.int l2), .val (.int p0), .val (.int p1), .val (.int p2), .val (.int n), .val (.int c0), .val (.int c1), .val (.int c2), .val (.ref lp), .val (.ref o2), .val (.ref bb), .val (.ref rr)] [(.int p1), (.int p0), (.int c2), (.int c1), (.int c0), (.int n), (.int (0 : Int32)), (.int (own_exp 0 n c0 c1 c2 p0 p1 p2 l0))])
    refine Go.step (fun _ k => XS.iload X111.here hx rfl (hb hby at_249) rfl k) ?_
    show Go p e below _ T111 (mkF m 251 #[.val (.long i0), .second, .val (.long i1), .second, .val (.long i2), .second, .val (.int i3), .val (.int l0), .val (.int l1), .val (.int l2), .val (.int p0), .val (.int p1), .val (.int p2), .val (.int n), .val (.int c0), .val (.int c1), .val (.int c2), .val (.ref lp), .val (.ref o2), .val (.ref bb), .val (.ref rr)] [(.int p2), (.int p1), (.int p0), (.int c2), (.int c1), (.int c0), (.int n), (.int (0 : Int32)), (.int (own_exp 0 n c0 c1 c2 p0 p1 p2 l0))])
    refine Go.step (fun _ k => XS.iload X111.here hx rfl (hb hby at_251) rfl k) ?_
    show Go p e below _ T111 (mkF m 253 #[.val (.long i0), .second, .val (.long i1), .second, .val (.long i2), .second, .val (.int i3), .val (.int l0), .val (.int l1), .val (.int l2), .val (.int p0), .val (.int p1), .val (.int p2), .val (.int n), .val (.int c0), .val (.int c1), .val (.int c2), .val (.ref lp), .val (.ref o2), .val (.ref bb), .val (.ref rr)] [(.int l0), (.int p2), (.int p1), (.int p0), (.int c2), (.int c1), (.int c0), (.int n), (.int (0 : Int32)), (.int (own_exp 0 n c0 c1 c2 p0 p1 p2 l0))])
    obtain ⟨_, _, ⟨T117, L117, k117, n117⟩, -, X117, ⟨Lc117, hQ117, l117, y117, z117⟩, st117⟩ := Jvm.LawKit.callS X111 hx (y := (⟨"com/example/bidkeel/bidkeel/BestPointsPinLaw", "expected", "(IIIIIIIII)I"⟩ : MethodName)) hown (mvT hZ (hw _ (List.mem_of_getElem? (i := 54) rfl))) (mvT hZ (hw _ (List.mem_of_getElem? (i := 55) rfl))) (mvT hZ (hw _ (List.mem_of_getElem? (i := 56) rfl))) (mvT hZ (hw _ (List.mem_of_getElem? (i := 57) rfl))) (by decide) (backOf (W := 1) (rmX l Z a0 hw [] (0 : Int32) n c0 c1 c2 p0 p1 p2 l0 T111.heap n0 Zn) hZ (hw _ (List.mem_of_getElem? (i := 57) rfl)) (hw _ (List.mem_of_getElem? (i := 56) rfl)) (by decide) (by decide)) (g := (mkF m 253 #[.val (.long i0), .second, .val (.long i1), .second, .val (.long i2), .second, .val (.int i3), .val (.int l0), .val (.int l1), .val (.int l2), .val (.int p0), .val (.int p1), .val (.int p2), .val (.int n), .val (.int c0), .val (.int c1), .val (.int c2), .val (.ref lp), .val (.ref o2), .val (.ref bb), .val (.ref rr)] [(.int l0), (.int p2), (.int p1), (.int p0), (.int c2), (.int c1), (.int c0), (.int n), (.int (0 : Int32)), (.int (own_exp 0 n c0 c1 c2 p0 p1 p2 l0))])) rfl (by rw [hml]; rfl) (argsL := [(.int (0 : Int32)), (.int n), (.int c0), (.int c1), (.int c2), (.int p0), (.int p1), (.int p2), (.int l0)]) (rest := [(.int (own_exp 0 n c0 c1 c2 p0 p1 p2 l0))]) (lenOf own_f95 rfl) rfl (by show 2 * 0 + _ ≤ _; exact Nat.le_of_eq rfl) (hb hby at_253) (fun _ _ => ⟨rfl, rfl, (by dsimp only [Pt.cells, Pt.slots]; decide), (by dsimp only [Pt.cells, Pt.slots]; decide)⟩)
    dsimp only [Pt.U, Pt.locs, Pt.cells, Pt.slots] at X117 l117 y117 z117 st117 hQ117
    subst l117 y117 z117
    obtain ⟨rfl, N117q, e117⟩ := hQ117
    have N117 := Fr.app N111 N117q
    refine Go.step (st117) ?_
    show Go p e below _ T117 (mkF m 256 #[.val (.long i0), .second, .val (.long i1), .second, .val (.long i2), .second, .val (.int i3), .val (.int l0), .val (.int l1), .val (.int l2), .val (.int p0), .val (.int p1), .val (.int p2), .val (.int n), .val (.int c0), .val (.int c1), .val (.int c2), .val (.ref lp), .val (.ref o2), .val (.ref bb), .val (.ref rr)] [(.int (own_exp 0 n c0 c1 c2 p0 p1 p2 l0)), (.int (own_exp 0 n c0 c1 c2 p0 p1 p2 l0))])
    refine Go.step (fun _ k => XS.icmpNo X117.here hx rfl (hb hby at_256) rfl (teq rfl).2 k) ?_
    show Go p e below _ T117 (mkF m 259 #[.val (.long i0), .second, .val (.long i1), .second, .val (.long i2), .second, .val (.int i3), .val (.int l0), .val (.int l1), .val (.int l2), .val (.int p0), .val (.int p1), .val (.int p2), .val (.int n), .val (.int c0), .val (.int c1), .val (.int c2), .val (.ref lp), .val (.ref o2), .val (.ref bb), .val (.ref rr)] [])
    refine Go.step (fun _ k => XS.aload X117.here hx rfl (hb hby at_259) rfl rfl k) ?_
    show Go p e below _ T117 (mkF m 261 #[.val (.long i0), .second, .val (.long i1), .second, .val (.long i2), .second, .val (.int i3), .val (.int l0), .val (.int l1), .val (.int l2), .val (.int p0), .val (.int p1), .val (.int p2), .val (.int n), .val (.int c0), .val (.int c1), .val (.int c2), .val (.ref lp), .val (.ref o2), .val (.ref bb), .val (.ref rr)] [(.ref rr)])
    refine Go.step (fun _ k => XS.iconst X117.here hx rfl (hb hby at_261) k) ?_
    show Go p e below _ T117 (mkF m 262 #[.val (.long i0), .second, .val (.long i1), .second, .val (.long i2), .second, .val (.int i3), .val (.int l0), .val (.int l1), .val (.int l2), .val (.int p0), .val (.int p1), .val (.int p2), .val (.int n), .val (.int c0), .val (.int c1), .val (.int c2), .val (.ref lp), .val (.ref o2), .val (.ref bb), .val (.ref rr)] [(.int (1 : Int32)), (.ref rr)])
    obtain ⟨cl118, Ar118, q118, S118, Nn118, H118, G118⟩ := V_rr
    have V_rr : Arv Z T111.heap rr kr .int (3 : Int32) [(.int (own_exp 0 n c0 c1 c2 p0 p1 p2 l0)), (.int (own_exp 1 n c0 c1 c2 p0 p1 p2 l1)), (.int (own_exp 2 n c0 c1 c2 p0 p1 p2 l2))] (.int (0 : Int32)) := ⟨cl118, Ar118, q118, S118, Nn118, H118, G118⟩
    have hin118 : ¬ ((1 : Int32) < 0 ∨ cl118.slots.size ≤ ((1 : Int32)).toNatClampNeg) := inb_of S118 ⟨by decide, by decide⟩
    have hat118 : cl118.slots[((1 : Int32)).toNatClampNeg]? = some (.int (own_exp 1 n c0 c1 c2 p0 p1 p2 l1)) := Has.at H118 hin118 rfl
    refine Go.step (X117.iaload hx (j := (1 : Int32)) (v := (.int (own_exp 1 n c0 c1 c2 p0 p1 p2 l1))) (by rw [e117]; exact Ar118.1) (State.isArrayOf_alike hZ.alike Ar118.2.1) Ar118.2.2 hin118 hat118 (g := (mkF m 262 #[.val (.long i0), .second, .val (.long i1), .second, .val (.long i2), .second, .val (.int i3), .val (.int l0), .val (.int l1), .val (.int l2), .val (.int p0), .val (.int p1), .val (.int p2), .val (.int n), .val (.int c0), .val (.int c1), .val (.int c2), .val (.ref lp), .val (.ref o2), .val (.ref bb), .val (.ref rr)] [(.int (1 : Int32)), (.ref rr)])) rfl rfl (hb hby at_262)) ?_
    show Go p e below _ T117 (mkF m 263 #[.val (.long i0), .second, .val (.long i1), .second, .val (.long i2), .second, .val (.int i3), .val (.int l0), .val (.int l1), .val (.int l2), .val (.int p0), .val (.int p1), .val (.int p2), .val (.int n), .val (.int c0), .val (.int c1), .val (.int c2), .val (.ref lp), .val (.ref o2), .val (.ref bb), .val (.ref rr)] [(.int (own_exp 1 n c0 c1 c2 p0 p1 p2 l1))])
    refine Go.step (fun _ k => XS.iconst X117.here hx rfl (hb hby at_263) k) ?_
    show Go p e below _ T117 (mkF m 264 #[.val (.long i0), .second, .val (.long i1), .second, .val (.long i2), .second, .val (.int i3), .val (.int l0), .val (.int l1), .val (.int l2), .val (.int p0), .val (.int p1), .val (.int p2), .val (.int n), .val (.int c0), .val (.int c1), .val (.int c2), .val (.ref lp), .val (.ref o2), .val (.ref bb), .val (.ref rr)] [(.int (1 : Int32)), (.int (own_exp 1 n c0 c1 c2 p0 p1 p2 l1))])
    refine Go.step (fun _ k => XS.iload X117.here hx rfl (hb hby at_264) rfl k) ?_
    show Go p e below _ T117 (mkF m 266 #[.val (.long i0), .second, .val (.long i1), .second, .val (.long i2), .second, .val (.int i3), .val (.int l0), .val (.int l1), .val (.int l2), .val (.int p0), .val (.int p1), .val (.int p2), .val (.int n), .val (.int c0), .val (.int c1), .val (.int c2), .val (.ref lp), .val (.ref o2), .val (.ref bb), .val (.ref rr)] [(.int n), (.int (1 : Int32)), (.int (own_exp 1 n c0 c1 c2 p0 p1 p2 l1))])
    refine Go.step (fun _ k => XS.iload X117.here hx rfl (hb hby at_266) rfl k) ?_
    show Go p e below _ T117 (mkF m 268 #[.val (.long i0), .second, .val (.long i1), .second, .val (.long i2), .second, .val (.int i3), .val (.int l0), .val (.int l1), .val (.int l2), .val (.int p0), .val (.int p1), .val (.int p2), .val (.int n), .val (.int c0), .val (.int c1), .val (.int c2), .val (.ref lp), .val (.ref o2), .val (.ref bb), .val (.ref rr)] [(.int c0), (.int n), (.int (1 : Int32)), (.int (own_exp 1 n c0 c1 c2 p0 p1 p2 l1))])
    refine Go.step (fun _ k => XS.iload X117.here hx rfl (hb hby at_268) rfl k) ?_
    show Go p e below _ T117 (mkF m 270 #[.val (.long i0), .second, .val (.long i1), .second, .val (.long i2), .second, .val (.int i3), .val (.int l0), .val (.int l1), .val (.int l2), .val (.int p0), .val (.int p1), .val (.int p2), .val (.int n), .val (.int c0), .val (.int c1), .val (.int c2), .val (.ref lp), .val (.ref o2), .val (.ref bb), .val (.ref rr)] [(.int c1), (.int c0), (.int n), (.int (1 : Int32)), (.int (own_exp 1 n c0 c1 c2 p0 p1 p2 l1))])
    refine Go.step (fun _ k => XS.iload X117.here hx rfl (hb hby at_270) rfl k) ?_
    show Go p e below _ T117 (mkF m 272 #[.val (.long i0), .second, .val (.long i1), .second, .val (.long i2), .second, .val (.int i3), .val (.int l0), .val (.int l1), .val (.int l2), .val (.int p0), .val (.int p1), .val (.int p2), .val (.int n), .val (.int c0), .val (.int c1), .val (.int c2), .val (.ref lp), .val (.ref o2), .val (.ref bb), .val (.ref rr)] [(.int c2), (.int c1), (.int c0), (.int n), (.int (1 : Int32)), (.int (own_exp 1 n c0 c1 c2 p0 p1 p2 l1))])
    refine Go.step (fun _ k => XS.iload X117.here hx rfl (hb hby at_272) rfl k) ?_
    show Go p e below _ T117 (mkF m 274 #[.val (.long i0), .second, .val (.long i1), .second, .val (.long i2), .second, .val (.int i3), .val (.int l0), .val (.int l1), .val (.int l2), .val (.int p0), .val (.int p1), .val (.int p2), .val (.int n), .val (.int c0), .val (.int c1), .val (.int c2), .val (.ref lp), .val (.ref o2), .val (.ref bb), .val (.ref rr)] [(.int p0), (.int c2), (.int c1), (.int c0), (.int n), (.int (1 : Int32)), (.int (own_exp 1 n c0 c1 c2 p0 p1 p2 l1))])
    refine Go.step (fun _ k => XS.iload X117.here hx rfl (hb hby at_274) rfl k) ?_
    show Go p e below _ T117 (mkF m 276 #[.val (.long i0), .second, .val (.long i1), .second, .val (.long i2), .second, .val (.int i3), .val (.int l0), .val (.int l1), .val (.int l2), .val (.int p0), .val (.int p1), .val (.int p2), .val (.int n), .val (.int c0), .val (.int c1), .val (.int c2), .val (.ref lp), .val (.ref o2), .val (.ref bb), .val (.ref rr)] [(.int p1), (.int p0), (.int c2), (.int c1), (.int c0), (.int n), (.int (1 : Int32)), (.int (own_exp 1 n c0 c1 c2 p0 p1 p2 l1))])
    refine Go.step (fun _ k => XS.iload X117.here hx rfl (hb hby at_276) rfl k) ?_
    show Go p e below _ T117 (mkF m 278 #[.val (.long i0), .second, .val (.long i1), .second, .val (.long i2), .second, .val (.int i3), .val (.int l0), .val (.int l1), .val (.int l2), .val (.int p0), .val (.int p1), .val (.int p2), .val (.int n), .val (.int c0), .val (.int c1), .val (.int c2), .val (.ref lp), .val (.ref o2), .val (.ref bb), .val (.ref rr)] [(.int p2), (.int p1), (.int p0), (.int c2), (.int c1), (.int c0), (.int n), (.int (1 : Int32)), (.int (own_exp 1 n c0 c1 c2 p0 p1 p2 l1))])
    refine Go.step (fun _ k => XS.iload X117.here hx rfl (hb hby at_278) rfl k) ?_
    show Go p e below _ T117 (mkF m 280 #[.val (.long i0), .second, .val (.long i1), .second, .val (.long i2), .second, .val (.int i3), .val (.int l0), .val (.int l1), .val (.int l2), .val (.int p0), .val (.int p1), .val (.int p2), .val (.int n), .val (.int c0), .val (.int c1), .val (.int c2), .val (.ref lp), .val (.ref o2), .val (.ref bb), .val (.ref rr)] [(.int l1), (.int p2), (.int p1), (.int p0), (.int c2), (.int c1), (.int c0), (.int n), (.int (1 : Int32)), (.int (own_exp 1 n c0 c1 c2 p0 p1 p2 l1))])
    obtain ⟨_, _, ⟨T119, L119, k119, n119⟩, -, X119, ⟨Lc119, hQ119, l119, y119, z119⟩, st119⟩ := Jvm.LawKit.callS X117 hx (y := (⟨"com/example/bidkeel/bidkeel/BestPointsPinLaw", "expected", "(IIIIIIIII)I"⟩ : MethodName)) hown (mvT hZ (hw _ (List.mem_of_getElem? (i := 54) rfl))) (mvT hZ (hw _ (List.mem_of_getElem? (i := 55) rfl))) (mvT hZ (hw _ (List.mem_of_getElem? (i := 56) rfl))) (mvT hZ (hw _ (List.mem_of_getElem? (i := 57) rfl))) (by decide) (backOf (W := 1) (rmX l Z a0 hw [] (1 : Int32) n c0 c1 c2 p0 p1 p2 l1 T111.heap n0 Zn) hZ (hw _ (List.mem_of_getElem? (i := 57) rfl)) (hw _ (List.mem_of_getElem? (i := 56) rfl)) (by decide) (by decide)) (g := (mkF m 280 #[.val (.long i0), .second, .val (.long i1), .second, .val (.long i2), .second, .val (.int i3), .val (.int l0), .val (.int l1), .val (.int l2), .val (.int p0), .val (.int p1), .val (.int p2), .val (.int n), .val (.int c0), .val (.int c1), .val (.int c2), .val (.ref lp), .val (.ref o2), .val (.ref bb), .val (.ref rr)] [(.int l1), (.int p2), (.int p1), (.int p0), (.int c2), (.int c1), (.int c0), (.int n), (.int (1 : Int32)), (.int (own_exp 1 n c0 c1 c2 p0 p1 p2 l1))])) rfl (by rw [hml]; rfl) (argsL := [(.int (1 : Int32)), (.int n), (.int c0), (.int c1), (.int c2), (.int p0), (.int p1), (.int p2), (.int l1)]) (rest := [(.int (own_exp 1 n c0 c1 c2 p0 p1 p2 l1))]) (lenOf own_f95 rfl) rfl (by show 2 * 0 + _ ≤ _; exact Nat.le_of_eq rfl) (hb hby at_280) (fun _ _ => ⟨rfl, e117, (by dsimp only [Pt.cells, Pt.slots]; decide), (by dsimp only [Pt.cells, Pt.slots]; decide)⟩)
    dsimp only [Pt.U, Pt.locs, Pt.cells, Pt.slots] at X119 l119 y119 z119 st119 hQ119
    subst l119 y119 z119
    obtain ⟨rfl, N119q, e119⟩ := hQ119
    have N119 := Fr.app N117 N119q
    refine Go.step (st119) ?_
    show Go p e below _ T119 (mkF m 283 #[.val (.long i0), .second, .val (.long i1), .second, .val (.long i2), .second, .val (.int i3), .val (.int l0), .val (.int l1), .val (.int l2), .val (.int p0), .val (.int p1), .val (.int p2), .val (.int n), .val (.int c0), .val (.int c1), .val (.int c2), .val (.ref lp), .val (.ref o2), .val (.ref bb), .val (.ref rr)] [(.int (own_exp 1 n c0 c1 c2 p0 p1 p2 l1)), (.int (own_exp 1 n c0 c1 c2 p0 p1 p2 l1))])
    refine Go.step (fun _ k => XS.icmpNo X119.here hx rfl (hb hby at_283) rfl (teq rfl).2 k) ?_
    show Go p e below _ T119 (mkF m 286 #[.val (.long i0), .second, .val (.long i1), .second, .val (.long i2), .second, .val (.int i3), .val (.int l0), .val (.int l1), .val (.int l2), .val (.int p0), .val (.int p1), .val (.int p2), .val (.int n), .val (.int c0), .val (.int c1), .val (.int c2), .val (.ref lp), .val (.ref o2), .val (.ref bb), .val (.ref rr)] [])
    refine Go.step (fun _ k => XS.aload X119.here hx rfl (hb hby at_286) rfl rfl k) ?_
    show Go p e below _ T119 (mkF m 288 #[.val (.long i0), .second, .val (.long i1), .second, .val (.long i2), .second, .val (.int i3), .val (.int l0), .val (.int l1), .val (.int l2), .val (.int p0), .val (.int p1), .val (.int p2), .val (.int n), .val (.int c0), .val (.int c1), .val (.int c2), .val (.ref lp), .val (.ref o2), .val (.ref bb), .val (.ref rr)] [(.ref rr)])
    refine Go.step (fun _ k => XS.iconst X119.here hx rfl (hb hby at_288) k) ?_
    show Go p e below _ T119 (mkF m 289 #[.val (.long i0), .second, .val (.long i1), .second, .val (.long i2), .second, .val (.int i3), .val (.int l0), .val (.int l1), .val (.int l2), .val (.int p0), .val (.int p1), .val (.int p2), .val (.int n), .val (.int c0), .val (.int c1), .val (.int c2), .val (.ref lp), .val (.ref o2), .val (.ref bb), .val (.ref rr)] [(.int (2 : Int32)), (.ref rr)])
    obtain ⟨cl120, Ar120, q120, S120, Nn120, H120, G120⟩ := V_rr
    have V_rr : Arv Z T111.heap rr kr .int (3 : Int32) [(.int (own_exp 0 n c0 c1 c2 p0 p1 p2 l0)), (.int (own_exp 1 n c0 c1 c2 p0 p1 p2 l1)), (.int (own_exp 2 n c0 c1 c2 p0 p1 p2 l2))] (.int (0 : Int32)) := ⟨cl120, Ar120, q120, S120, Nn120, H120, G120⟩
    have hin120 : ¬ ((2 : Int32) < 0 ∨ cl120.slots.size ≤ ((2 : Int32)).toNatClampNeg) := inb_of S120 ⟨by decide, by decide⟩
    have hat120 : cl120.slots[((2 : Int32)).toNatClampNeg]? = some (.int (own_exp 2 n c0 c1 c2 p0 p1 p2 l2)) := Has.at H120 hin120 rfl
    refine Go.step (X119.iaload hx (j := (2 : Int32)) (v := (.int (own_exp 2 n c0 c1 c2 p0 p1 p2 l2))) (by rw [e119]; exact Ar120.1) (State.isArrayOf_alike hZ.alike Ar120.2.1) Ar120.2.2 hin120 hat120 (g := (mkF m 289 #[.val (.long i0), .second, .val (.long i1), .second, .val (.long i2), .second, .val (.int i3), .val (.int l0), .val (.int l1), .val (.int l2), .val (.int p0), .val (.int p1), .val (.int p2), .val (.int n), .val (.int c0), .val (.int c1), .val (.int c2), .val (.ref lp), .val (.ref o2), .val (.ref bb), .val (.ref rr)] [(.int (2 : Int32)), (.ref rr)])) rfl rfl (hb hby at_289)) ?_
    show Go p e below _ T119 (mkF m 290 #[.val (.long i0), .second, .val (.long i1), .second, .val (.long i2), .second, .val (.int i3), .val (.int l0), .val (.int l1), .val (.int l2), .val (.int p0), .val (.int p1), .val (.int p2), .val (.int n), .val (.int c0), .val (.int c1), .val (.int c2), .val (.ref lp), .val (.ref o2), .val (.ref bb), .val (.ref rr)] [(.int (own_exp 2 n c0 c1 c2 p0 p1 p2 l2))])
    refine Go.step (fun _ k => XS.iconst X119.here hx rfl (hb hby at_290) k) ?_
    show Go p e below _ T119 (mkF m 291 #[.val (.long i0), .second, .val (.long i1), .second, .val (.long i2), .second, .val (.int i3), .val (.int l0), .val (.int l1), .val (.int l2), .val (.int p0), .val (.int p1), .val (.int p2), .val (.int n), .val (.int c0), .val (.int c1), .val (.int c2), .val (.ref lp), .val (.ref o2), .val (.ref bb), .val (.ref rr)] [(.int (2 : Int32)), (.int (own_exp 2 n c0 c1 c2 p0 p1 p2 l2))])
    refine Go.step (fun _ k => XS.iload X119.here hx rfl (hb hby at_291) rfl k) ?_
    show Go p e below _ T119 (mkF m 293 #[.val (.long i0), .second, .val (.long i1), .second, .val (.long i2), .second, .val (.int i3), .val (.int l0), .val (.int l1), .val (.int l2), .val (.int p0), .val (.int p1), .val (.int p2), .val (.int n), .val (.int c0), .val (.int c1), .val (.int c2), .val (.ref lp), .val (.ref o2), .val (.ref bb), .val (.ref rr)] [(.int n), (.int (2 : Int32)), (.int (own_exp 2 n c0 c1 c2 p0 p1 p2 l2))])
    refine Go.step (fun _ k => XS.iload X119.here hx rfl (hb hby at_293) rfl k) ?_
    show Go p e below _ T119 (mkF m 295 #[.val (.long i0), .second, .val (.long i1), .second, .val (.long i2), .second, .val (.int i3), .val (.int l0), .val (.int l1), .val (.int l2), .val (.int p0), .val (.int p1), .val (.int p2), .val (.int n), .val (.int c0), .val (.int c1), .val (.int c2), .val (.ref lp), .val (.ref o2), .val (.ref bb), .val (.ref rr)] [(.int c0), (.int n), (.int (2 : Int32)), (.int (own_exp 2 n c0 c1 c2 p0 p1 p2 l2))])
    refine Go.step (fun _ k => XS.iload X119.here hx rfl (hb hby at_295) rfl k) ?_
    show Go p e below _ T119 (mkF m 297 #[.val (.long i0), .second, .val (.long i1), .second, .val (.long i2), .second, .val (.int i3), .val (.int l0), .val (.int l1), .val (.int l2), .val (.int p0), .val (.int p1), .val (.int p2), .val (.int n), .val (.int c0), .val (.int c1), .val (.int c2), .val (.ref lp), .val (.ref o2), .val (.ref bb), .val (.ref rr)] [(.int c1), (.int c0), (.int n), (.int (2 : Int32)), (.int (own_exp 2 n c0 c1 c2 p0 p1 p2 l2))])
    refine Go.step (fun _ k => XS.iload X119.here hx rfl (hb hby at_297) rfl k) ?_
    show Go p e below _ T119 (mkF m 299 #[.val (.long i0), .second, .val (.long i1), .second, .val (.long i2), .second, .val (.int i3), .val (.int l0), .val (.int l1), .val (.int l2), .val (.int p0), .val (.int p1), .val (.int p2), .val (.int n), .val (.int c0), .val (.int c1), .val (.int c2), .val (.ref lp), .val (.ref o2), .val (.ref bb), .val (.ref rr)] [(.int c2), (.int c1), (.int c0), (.int n), (.int (2 : Int32)), (.int (own_exp 2 n c0 c1 c2 p0 p1 p2 l2))])
    refine Go.step (fun _ k => XS.iload X119.here hx rfl (hb hby at_299) rfl k) ?_
    show Go p e below _ T119 (mkF m 301 #[.val (.long i0), .second, .val (.long i1), .second, .val (.long i2), .second, .val (.int i3), .val (.int l0), .val (.int l1), .val (.int l2), .val (.int p0), .val (.int p1), .val (.int p2), .val (.int n), .val (.int c0), .val (.int c1), .val (.int c2), .val (.ref lp), .val (.ref o2), .val (.ref bb), .val (.ref rr)] [(.int p0), (.int c2), (.int c1), (.int c0), (.int n), (.int (2 : Int32)), (.int (own_exp 2 n c0 c1 c2 p0 p1 p2 l2))])
    refine Go.step (fun _ k => XS.iload X119.here hx rfl (hb hby at_301) rfl k) ?_
    show Go p e below _ T119 (mkF m 303 #[.val (.long i0), .second, .val (.long i1), .second, .val (.long i2), .second, .val (.int i3), .val (.int l0), .val (.int l1), .val (.int l2), .val (.int p0), .val (.int p1), .val (.int p2), .val (.int n), .val (.int c0), .val (.int c1), .val (.int c2), .val (.ref lp), .val (.ref o2), .val (.ref bb), .val (.ref rr)] [(.int p1), (.int p0), (.int c2), (.int c1), (.int c0), (.int n), (.int (2 : Int32)), (.int (own_exp 2 n c0 c1 c2 p0 p1 p2 l2))])
    refine Go.step (fun _ k => XS.iload X119.here hx rfl (hb hby at_303) rfl k) ?_
    show Go p e below _ T119 (mkF m 305 #[.val (.long i0), .second, .val (.long i1), .second, .val (.long i2), .second, .val (.int i3), .val (.int l0), .val (.int l1), .val (.int l2), .val (.int p0), .val (.int p1), .val (.int p2), .val (.int n), .val (.int c0), .val (.int c1), .val (.int c2), .val (.ref lp), .val (.ref o2), .val (.ref bb), .val (.ref rr)] [(.int p2), (.int p1), (.int p0), (.int c2), (.int c1), (.int c0), (.int n), (.int (2 : Int32)), (.int (own_exp 2 n c0 c1 c2 p0 p1 p2 l2))])
    refine Go.step (fun _ k => XS.iload X119.here hx rfl (hb hby at_305) rfl k) ?_
    show Go p e below _ T119 (mkF m 307 #[.val (.long i0), .second, .val (.long i1), .second, .val (.long i2), .second, .val (.int i3), .val (.int l0), .val (.int l1), .val (.int l2), .val (.int p0), .val (.int p1), .val (.int p2), .val (.int n), .val (.int c0), .val (.int c1), .val (.int c2), .val (.ref lp), .val (.ref o2), .val (.ref bb), .val (.ref rr)] [(.int l2), (.int p2), (.int p1), (.int p0), (.int c2), (.int c1), (.int c0), (.int n), (.int (2 : Int32)), (.int (own_exp 2 n c0 c1 c2 p0 p1 p2 l2))])
    obtain ⟨_, _, ⟨T121, L121, k121, n121⟩, -, X121, ⟨Lc121, hQ121, l121, y121, z121⟩, st121⟩ := Jvm.LawKit.callS X119 hx (y := (⟨"com/example/bidkeel/bidkeel/BestPointsPinLaw", "expected", "(IIIIIIIII)I"⟩ : MethodName)) hown (mvT hZ (hw _ (List.mem_of_getElem? (i := 54) rfl))) (mvT hZ (hw _ (List.mem_of_getElem? (i := 55) rfl))) (mvT hZ (hw _ (List.mem_of_getElem? (i := 56) rfl))) (mvT hZ (hw _ (List.mem_of_getElem? (i := 57) rfl))) (by decide) (backOf (W := 1) (rmX l Z a0 hw [] (2 : Int32) n c0 c1 c2 p0 p1 p2 l2 T111.heap n0 Zn) hZ (hw _ (List.mem_of_getElem? (i := 57) rfl)) (hw _ (List.mem_of_getElem? (i := 56) rfl)) (by decide) (by decide)) (g := (mkF m 307 #[.val (.long i0), .second, .val (.long i1), .second, .val (.long i2), .second, .val (.int i3), .val (.int l0), .val (.int l1), .val (.int l2), .val (.int p0), .val (.int p1), .val (.int p2), .val (.int n), .val (.int c0), .val (.int c1), .val (.int c2), .val (.ref lp), .val (.ref o2), .val (.ref bb), .val (.ref rr)] [(.int l2), (.int p2), (.int p1), (.int p0), (.int c2), (.int c1), (.int c0), (.int n), (.int (2 : Int32)), (.int (own_exp 2 n c0 c1 c2 p0 p1 p2 l2))])) rfl (by rw [hml]; rfl) (argsL := [(.int (2 : Int32)), (.int n), (.int c0), (.int c1), (.int c2), (.int p0), (.int p1), (.int p2), (.int l2)]) (rest := [(.int (own_exp 2 n c0 c1 c2 p0 p1 p2 l2))]) (lenOf own_f95 rfl) rfl (by show 2 * 0 + _ ≤ _; exact Nat.le_of_eq rfl) (hb hby at_307) (fun _ _ => ⟨rfl, e119, (by dsimp only [Pt.cells, Pt.slots]; decide), (by dsimp only [Pt.cells, Pt.slots]; decide)⟩)
    dsimp only [Pt.U, Pt.locs, Pt.cells, Pt.slots] at X121 l121 y121 z121 st121 hQ121
    subst l121 y121 z121
    obtain ⟨rfl, N121q, e121⟩ := hQ121
    have N121 := Fr.app N119 N121q
    refine Go.step (st121) ?_
    show Go p e below _ T121 (mkF m 310 #[.val (.long i0), .second, .val (.long i1), .second, .val (.long i2), .second, .val (.int i3), .val (.int l0), .val (.int l1), .val (.int l2), .val (.int p0), .val (.int p1), .val (.int p2), .val (.int n), .val (.int c0), .val (.int c1), .val (.int c2), .val (.ref lp), .val (.ref o2), .val (.ref bb), .val (.ref rr)] [(.int (own_exp 2 n c0 c1 c2 p0 p1 p2 l2)), (.int (own_exp 2 n c0 c1 c2 p0 p1 p2 l2))])
    refine Go.step (fun _ k => XS.icmpNo X121.here hx rfl (hb hby at_310) rfl (teq rfl).2 k) ?_
    show Go p e below _ T121 (mkF m 313 #[.val (.long i0), .second, .val (.long i1), .second, .val (.long i2), .second, .val (.int i3), .val (.int l0), .val (.int l1), .val (.int l2), .val (.int p0), .val (.int p1), .val (.int p2), .val (.int n), .val (.int c0), .val (.int c1), .val (.int c2), .val (.ref lp), .val (.ref o2), .val (.ref bb), .val (.ref rr)] [])
    refine Go.step (fun _ k => XS.iconst X121.here hx rfl (hb hby at_313) k) ?_
    show Go p e below _ T121 (mkF m 314 #[.val (.long i0), .second, .val (.long i1), .second, .val (.long i2), .second, .val (.int i3), .val (.int l0), .val (.int l1), .val (.int l2), .val (.int p0), .val (.int p1), .val (.int p2), .val (.int n), .val (.int c0), .val (.int c1), .val (.int c2), .val (.ref lp), .val (.ref o2), .val (.ref bb), .val (.ref rr)] [(.int (1 : Int32))])
    refine Go.step (fun _ k => XS.goto X121.here hx rfl (pc0 := 314) (pc' := 318) rfl (hb hby at_314) (by decide) (by decide) k) ?_
    show Go p e below _ T121 (mkF m 318 #[.val (.long i0), .second, .val (.long i1), .second, .val (.long i2), .second, .val (.int i3), .val (.int l0), .val (.int l1), .val (.int l2), .val (.int p0), .val (.int p1), .val (.int p2), .val (.int n), .val (.int c0), .val (.int c1), .val (.int c2), .val (.ref lp), .val (.ref o2), .val (.ref bb), .val (.ref rr)] [(.int (1 : Int32))])
    obtain ⟨fs, hr, hrun, hended, hW, hsame⟩ := X121.leave (v := some (.int (1 : Int32))) (fun h => by rw [Bd.returns] at h; cases h)
    refine Go.fin (retN X121 hx (t := .boolean) Bd.returns (by simp) (hb hby at_318) hr) hrun hended ?_
    refine ⟨_, _, rfl, ?_, ⟨_, rfl⟩, hW, hsame.mono (by decide) (by decide)⟩
    show Q0 Z i0 i1 i2 i3 h0 n0 _ T121.heap _
    rw [e121]
    exact ⟨rfl, N121⟩
set_option maxRecDepth 65536 in
set_option maxHeartbeats 40000000 in
theorem comes_1 {Post : Tables → Env → Array Value → State → Outcome → State → Prop} (hpost : ∀ tb e args s v u, (limb_1_1.after args s (.returned v) u = true ∧ limb_1_2.after args s (.returned v) u = true ∧ True) → FrameEnd s (.returned v) u (Jvm.fieldLocs frame_1_writes args s ++ Jvm.arrayLocs frame_1_arrays args s ++ Jvm.staticLocs frame_1_statics s) 24 128 → Post tb e args s (.returned v) u) :
    ArmFor flags0 classFile x code maxLocals ret World_1 tables_1 room_1 Calls_1 rest_1 Pre_1 Post := by
  intro l hfl _ _ p e ha hc hk s m args below hf hA hF happ hP
  obtain ⟨hcalls, hrest, hpre⟩ := hP
  obtain ⟨-, -, -, hnamed, -, -, -, hat⟩ := (Spec.applies_iff hf).mp happ
  obtain ⟨hg, hn⟩ := and_e (Cond.before_iff.mp (show (Jvm.Cond.and given_1 narrow_1).before args s = true from hpre))
  obtain ⟨hg1, hg2⟩ := and_e hg
  obtain ⟨hg3, hg4⟩ := and_e hg2
  obtain ⟨hg5, hg6⟩ := and_e hg4
  obtain ⟨hg7, hg8⟩ := and_e hg6
  obtain ⟨w0, w1, w2, w3, rfl⟩ : ∃ w0 w1 w2 w3 : Value, args = #[w0, w1, w2, w3] := by
    have hs : args.size = 4 := by simpa [Cond.value, given_1] using hg1
    obtain ⟨L⟩ := args
    match L, hs with
    | [w0, w1, w2, w3], _ => exact ⟨w0, w1, w2, w3, rfl⟩
  have hw := fun d (hd : d ∈ tables_1) => atoms_spec (ws := Jvm.Cond.code x code maxLocals ret :: tables_1) hat d (List.mem_cons_of_mem _ hd)
  have hfit : Fit s := fun {y c} hc i hi => by
    obtain ⟨ha, rfl⟩ := Array.getElem?_eq_some_iff.mp hc
    have q := List.all_eq_true.mp ((Array.all_eq_true_iff_forall_mem.mp hF) _ (Array.getElem_mem ha)) i (List.mem_range.mpr hi)
    simpa [Array.getElem?_eq_getElem hi] using q
  obtain ⟨i0, ei0⟩ := isL_v hg3
  obtain rfl : w0 = (.long i0) := Option.some.inj ei0
  obtain ⟨i1, ei1⟩ := isL_v hg5
  obtain rfl : w1 = (.long i1) := Option.some.inj ei1
  obtain ⟨i2, ei2⟩ := isL_v hg7
  obtain rfl : w2 = (.long i2) := Option.some.inj ei2
  obtain ⟨i3, ei3⟩ := is_v hg8
  obtain rfl : w3 = (.int i3) := Option.some.inj ei3
  obtain ⟨n, o, h1, h2, h3, _, L, rfl, ⟨rfl, N⟩, hq⟩ := rm0 l s _ hw tables_1 i0 i1 i2 i3 s.heap s.heap.size (Nat.le_refl _)  p e ha hc hk s m _ below hf ((Spec.applies_iff_loose hf).mp happ).1 ⟨rfl, State.Warmed39.refl s, rfl⟩ trivial
  refine ⟨n, _, h1, h2, h3, hpost _ _ _ _ _ _ ⟨Cond.after_iff.mpr rfl, Cond.after_iff.mpr (eq_i res_at (Term.int_eval (1)) rfl), trivial⟩ ⟨hq.1, hq.2.1, (hq.2.2.sift fun y hy => Or.inr (N y hy)).mono (by decide) (by decide)⟩⟩
theorem main_1_1 : Claimed_1_1 := comes_1 fun _ _ _ _ _ _ h hF => ⟨h.1, hF⟩
theorem main_1_2 : Claimed_1_2 := comes_1 fun _ _ _ _ _ _ h hF => ⟨h.2.1, hF⟩
end Jvm.Pilot.@@N@@
namespace Jvm.Pilot.@@N@@
open Jvm Jvm.ClassFile Sem Op Lib Jvm.Free Jvm.Stand Jvm.Pilot.@@N@@.Jvm.D
/-! MADE BY PROGRAM (witnessworld.py) out of the Statement's table words and the real class files: 12 classes; the members and pool entries that the words name. The judged class is class 1, her method 2. -/
namespace start1
open Jvm.ClassFile
def u (s : String) : CpInfo := .utf8 (stringToUtf16 s)
/-- a pool by its gaps: so many unusable entries, then the entry; so many at the end -/
def gap : Nat → List CpInfo → List CpInfo
  | 0, r => r
  | n + 1, r => .unusable :: gap n r
def poolList (es : List (Nat × CpInfo)) (last : Nat) : List CpInfo := es.foldr (fun e r => gap e.1 (e.2 :: r)) (gap last [])
def pool (es : List (Nat × CpInfo)) (last : Nat) : Array CpInfo := ⟨poolList es last⟩
def fileOf (pool : Array CpInfo) (this : Nat) (attrs : Array Attribute := #[]) (ms : Array MethodInfo := #[]) (fl : Nat := 33) (sup : Nat := 0) (ifs : Array Nat := #[]) (fds : Array FieldInfo := #[]) : ClassFile where
  minorVersion := 0
  majorVersion := 65
  constantPool := pool
  accessFlags := fl
  thisClass := this
  superClass := sup
  interfaces := ifs
  fields := fds
  methods := ms
  attributes := attrs
def plain (name : String) (sup : Option ClassId) : Class where
  name := name
  kind := .ordinary
  loader := none
  accessFlags := 33
  super := sup
  interfaces := #[]
  cf := none
  fields := #[]
  methods := #[]
  instanceTypes := #[]
  staticTypes := #[]
  resolved := #[]
  callSites := []
  init := .initialized
  statics := none
  mirror := none

def pool0 : Array CpInfo := pool [(5, u "<init>"), (0, u "()V"), (1, .class_ 10), (1, u "java/lang/Object"), (85, u "clone"), (0, u "()Ljava/lang/Object;")] 26

def k0c0 : Code := { maxStack := 0, maxLocals := 1, code := object_method_1_code, exceptionTable := #[], attributes := #[] }
def k0m0 : Method := { name := "<init>", desc := "()V", sig := { parameters := [], returnType := none }, accessFlags := 1, code := some k0c0 }
def k0m1 : Method := { name := "clone", desc := "()Ljava/lang/Object;", sig := { parameters := [], returnType := some (.object "java/lang/Object") }, accessFlags := 260, code := none }
/-- java/lang/Object -/
def k0 : Class := { plain "java/lang/Object" none with
  accessFlags := 33
  interfaces := #[]
  cf := some (fileOf pool0 8 #[] #[{ accessFlags := 1, nameIndex := 5, descriptorIndex := 6, attributes := #[] }, { accessFlags := 260, nameIndex := 96, descriptorIndex := 97, attributes := #[] }] 33 0 #[] #[])
  fields := #[]
  methods := #[k0m0, k0m1]
  instanceTypes := #[]
  staticTypes := #[]
  resolved := Array.replicate 124 none
  statics := none }

def pool1 : Array CpInfo := pool [(2, .class_ 4), (0, .nameAndType 5 6), (0, u "java/lang/Object"), (0, u "<init>"), (0, u "()V"), (0, .class_ 8), (0, u "com/example/bidkeel/bidkeel/Knapsack$Change"), (0, .methodref 7 10), (0, .nameAndType 5 11), (0, u "(IILcom/example/bidkeel/bidkeel/Knapsack$Change;)V"), (0, .class_ 13), (0, u "com/example/bidkeel/bidkeel/Knapsack$Best"), (0, .methodref 12 3), (0, .methodref 12 16), (0, .nameAndType 17 18), (0, u "take"), (0, u "(Lcom/example/bidkeel/bidkeel/Knapsack$Change;DDJ)V"), (0, .methodref 12 20), (0, .nameAndType 21 22), (0, u "points"), (0, u "([I)[I"), (0, .methodref 24 25), (0, .class_ 26), (0, .nameAndType 27 28), (0, u "com/example/bidkeel/bidkeel/BestPointsPinLaw"), (0, u "expected"), (0, u "(IIIIIIIII)I"), (3, u "law"), (0, u "(JJJI)Z")] 9

def k1m0 : Method := { name := "<init>", desc := "()V", sig := { parameters := [], returnType := none }, accessFlags := 2, code := none }
def k1c1 : Code := { maxStack := 2, maxLocals := 9, code := method_2_code, exceptionTable := #[], attributes := #[] }
def k1m1 : Method := { name := "expected", desc := "(IIIIIIIII)I", sig := { parameters := [.int, .int, .int, .int, .int, .int, .int, .int, .int], returnType := some .int }, accessFlags := 10, code := some k1c1 }
def k1c2 : Code := { maxStack := 10, maxLocals := 21, code := code, exceptionTable := #[], attributes := #[] }
def k1m2 : Method := { name := "law", desc := "(JJJI)Z", sig := { parameters := [.long, .long, .long, .int], returnType := some .boolean }, accessFlags := 9, code := some k1c2 }
/-- com/example/bidkeel/bidkeel/BestPointsPinLaw -/
def k1 : Class := { plain "com/example/bidkeel/bidkeel/BestPointsPinLaw" (some 0) with
  accessFlags := 49
  interfaces := #[]
  cf := some (fileOf pool1 24 #[] #[{ accessFlags := 2, nameIndex := 5, descriptorIndex := 6, attributes := #[] }, { accessFlags := 10, nameIndex := 27, descriptorIndex := 28, attributes := #[] }, { accessFlags := 9, nameIndex := 32, descriptorIndex := 33, attributes := #[] }] 49 2 #[] #[])
  fields := #[]
  methods := #[k1m0, k1m1, k1m2]
  instanceTypes := #[]
  staticTypes := #[]
  resolved := Array.replicate 43 none
  statics := none }

def pool2 : Array CpInfo := pool [(1, .methodref 2 3), (0, .class_ 4), (0, .nameAndType 5 6), (0, u "java/lang/Object"), (0, u "<init>"), (0, u "()V"), (0, .fieldref 8 9), (0, .class_ 10), (0, .nameAndType 11 12), (0, u "com/example/bidkeel/bidkeel/Knapsack$Change"), (0, u "cls"), (0, u "I"), (0, .fieldref 8 14), (0, .nameAndType 15 12), (0, u "point"), (0, .fieldref 8 17), (0, .nameAndType 18 19), (0, u "previous"), (0, u "Lcom/example/bidkeel/bidkeel/Knapsack$Change;"), (0, u "(IILcom/example/bidkeel/bidkeel/Knapsack$Change;)V"), (5, .class_ 27), (0, u "com/example/bidkeel/bidkeel/Knapsack")] 2

def k2c0 : Code := { maxStack := 2, maxLocals := 4, code := prog_31_method_1_code, exceptionTable := #[], attributes := #[] }
def k2m0 : Method := { name := "<init>", desc := "(IILcom/example/bidkeel/bidkeel/Knapsack$Change;)V", sig := { parameters := [.int, .int, (.object "com/example/bidkeel/bidkeel/Knapsack$Change")], returnType := none }, accessFlags := 0, code := some k2c0 }
/-- com/example/bidkeel/bidkeel/Knapsack$Change -/
def k2 : Class := { plain "com/example/bidkeel/bidkeel/Knapsack$Change" (some 0) with
  accessFlags := 48
  interfaces := #[]
  cf := some (fileOf pool2 8 #[.nestHost 26] #[{ accessFlags := 0, nameIndex := 5, descriptorIndex := 20, attributes := #[] }] 48 2 #[] #[{ accessFlags := 16, nameIndex := 11, descriptorIndex := 12, attributes := #[] }, { accessFlags := 16, nameIndex := 15, descriptorIndex := 12, attributes := #[] }, { accessFlags := 16, nameIndex := 18, descriptorIndex := 19, attributes := #[] }])
  fields := #[{ name := "cls", type := .int, accessFlags := 16, slot := 0, constantValue := 0 }, { name := "point", type := .int, accessFlags := 16, slot := 1, constantValue := 0 }, { name := "previous", type := (.object "com/example/bidkeel/bidkeel/Knapsack$Change"), accessFlags := 16, slot := 2, constantValue := 0 }]
  methods := #[k2m0]
  instanceTypes := #[.int, .int, (.object "com/example/bidkeel/bidkeel/Knapsack$Change")]
  staticTypes := #[]
  resolved := Array.replicate 30 none
  statics := none }

def pool3 : Array CpInfo := pool [(1, .methodref 2 3), (0, .class_ 4), (0, .nameAndType 5 6), (0, u "java/lang/Object"), (0, u "<init>"), (0, u "()V"), (0, .fieldref 8 9), (0, .class_ 10), (0, .nameAndType 11 12), (0, u "com/example/bidkeel/bidkeel/Knapsack$Best"), (0, u "changes"), (0, u "Lcom/example/bidkeel/bidkeel/Knapsack$Change;"), (0, .fieldref 8 14), (0, .nameAndType 15 16), (0, u "profit"), (0, u "D"), (0, .fieldref 8 18), (0, .nameAndType 19 16), (0, u "units"), (0, .fieldref 8 21), (0, .nameAndType 22 23), (0, u "steps"), (0, u "J"), (0, .methodref 25 26), (0, .class_ 27), (0, .nameAndType 28 29), (0, u "[I"), (0, u "clone"), (0, u "()Ljava/lang/Object;"), (0, .fieldref 31 32), (0, .class_ 33), (0, .nameAndType 34 35), (0, u "com/example/bidkeel/bidkeel/Knapsack$Change"), (0, u "cls"), (0, u "I"), (0, .fieldref 31 37), (0, .nameAndType 38 35), (0, u "point"), (0, .fieldref 31 40), (0, .nameAndType 41 12), (0, u "previous"), (2, u "take"), (0, u "(Lcom/example/bidkeel/bidkeel/Knapsack$Change;DDJ)V"), (0, u "points"), (0, u "([I)[I"), (6, .class_ 55), (0, u "com/example/bidkeel/bidkeel/Knapsack")] 3

def k3c0 : Code := { maxStack := 1, maxLocals := 1, code := prog_29_method_1_code, exceptionTable := #[], attributes := #[] }
def k3m0 : Method := { name := "<init>", desc := "()V", sig := { parameters := [], returnType := none }, accessFlags := 0, code := some k3c0 }
def k3c1 : Code := { maxStack := 3, maxLocals := 8, code := prog_29_method_2_code, exceptionTable := #[], attributes := #[] }
def k3m1 : Method := { name := "take", desc := "(Lcom/example/bidkeel/bidkeel/Knapsack$Change;DDJ)V", sig := { parameters := [(.object "com/example/bidkeel/bidkeel/Knapsack$Change"), .double, .double, .long], returnType := none }, accessFlags := 0, code := some k3c1 }
def k3c2 : Code := { maxStack := 3, maxLocals := 5, code := prog_29_method_3_code, exceptionTable := #[], attributes := #[] }
def k3m2 : Method := { name := "points", desc := "([I)[I", sig := { parameters := [(.array .int)], returnType := some (.array .int) }, accessFlags := 0, code := some k3c2 }
/-- com/example/bidkeel/bidkeel/Knapsack$Best -/
def k3 : Class := { plain "com/example/bidkeel/bidkeel/Knapsack$Best" (some 0) with
  accessFlags := 48
  interfaces := #[]
  cf := some (fileOf pool3 8 #[.nestHost 54] #[{ accessFlags := 0, nameIndex := 5, descriptorIndex := 6, attributes := #[] }, { accessFlags := 0, nameIndex := 44, descriptorIndex := 45, attributes := #[] }, { accessFlags := 0, nameIndex := 46, descriptorIndex := 47, attributes := #[] }] 48 2 #[] #[{ accessFlags := 0, nameIndex := 11, descriptorIndex := 12, attributes := #[] }, { accessFlags := 0, nameIndex := 15, descriptorIndex := 16, attributes := #[] }, { accessFlags := 0, nameIndex := 19, descriptorIndex := 16, attributes := #[] }, { accessFlags := 0, nameIndex := 22, descriptorIndex := 23, attributes := #[] }])
  fields := #[{ name := "changes", type := (.object "com/example/bidkeel/bidkeel/Knapsack$Change"), accessFlags := 0, slot := 0, constantValue := 0 }, { name := "profit", type := .double, accessFlags := 0, slot := 1, constantValue := 0 }, { name := "units", type := .double, accessFlags := 0, slot := 2, constantValue := 0 }, { name := "steps", type := .long, accessFlags := 0, slot := 3, constantValue := 0 }]
  methods := #[k3m0, k3m1, k3m2]
  instanceTypes := #[(.object "com/example/bidkeel/bidkeel/Knapsack$Change"), .double, .double, .long]
  staticTypes := #[]
  resolved := Array.replicate 59 none
  statics := none }

def pool4 : Array CpInfo := pool [(1, .class_ 2), (0, u "java/lang/Cloneable"), (0, .class_ 4), (0, u "java/lang/Object")] 2

/-- java/lang/Cloneable -/
def k4 : Class := { plain "java/lang/Cloneable" (some 0) with
  accessFlags := 1537
  interfaces := #[]
  cf := some (fileOf pool4 1 #[] #[] 1537 3 #[] #[])
  fields := #[]
  methods := #[]
  instanceTypes := #[]
  staticTypes := #[]
  resolved := Array.replicate 7 none
  statics := none }

def pool5 : Array CpInfo := pool [(1, u "java/io/Serializable"), (0, .class_ 1), (0, u "java/lang/Object"), (0, .class_ 3)] 3

/-- java/io/Serializable -/
def k5 : Class := { plain "java/io/Serializable" (some 0) with
  accessFlags := 1537
  interfaces := #[]
  cf := some (fileOf pool5 2 #[] #[] 1537 4 #[] #[])
  fields := #[]
  methods := #[]
  instanceTypes := #[]
  staticTypes := #[]
  resolved := Array.replicate 8 none
  statics := none }

/-- the primitive boolean -/
def k6 : Class := { plain "boolean" none with kind := .primitive 'Z', accessFlags := 0x411 }
/-- [Z -/
def k7 : Class := { plain "[Z" (some 0) with kind := .array 6 .boolean, interfaces := #[4, 5], accessFlags := 1041 }

/-- the primitive byte -/
def k8 : Class := { plain "byte" none with kind := .primitive 'B', accessFlags := 0x411 }
/-- [B -/
def k9 : Class := { plain "[B" (some 0) with kind := .array 8 .byte, interfaces := #[4, 5], accessFlags := 1041 }

/-- the primitive int -/
def k10 : Class := { plain "int" none with kind := .primitive 'I', accessFlags := 0x411 }
/-- [I -/
def k11 : Class := { plain "[I" (some 0) with kind := .array 10 .int, interfaces := #[4, 5], accessFlags := 1041 }

def heap : Heap := #[]
def classes : Array Class := #[k0, k1, k2, k3, k4, k5, k6, k7, k8, k9, k10, k11]
def interned : List (Array UInt16 × Addr) := []
def slotsUsed : Nat := 0
def theMethod : MethodId := ⟨1, 2⟩
def args0 : Array Value := #[.long 5, .long 7, .long 1, .int 27]
def aboutOver (below : List Frame) : State where
  vm := { classes := classes, interned := interned.toArray }
  heap := heap
  slotsUsed := slotsUsed
  threads := #[{ frames := .invoking theMethod args0 :: below }]
def below0 : List Frame := [.native { method := ⟨0, 0⟩, args := #[] }]
def about1 : State := aboutOver below0
def p0 : Program := .bare "" "" ""
def e0 : Env := launch0.env 0 0 0
theorem w_frames : about1.frames = Frame.invoking theMethod args0 :: below0 := rfl
set_option maxRecDepth 65536 in
theorem w_args : argsFit about1.vm theMethod args0 = true := by decide +kernel
set_option maxRecDepth 65536 in
theorem w_heap : heapFits about1 = true := by decide +kernel
set_option maxRecDepth 65536 in
theorem w_runnable : about1.curStatus? = some .runnable := by decide +kernel
set_option maxRecDepth 65536 in
theorem w_alone : about1.alone = true := by decide +kernel
set_option maxRecDepth 65536 in
theorem w_named : about1.methodNamed? x = some theMethod := by decide +kernel
set_option maxRecDepth 65536 in
theorem w_hears : about1.hears theMethod below0 = true := by decide +kernel
set_option maxRecDepth 65536 in
theorem w_ripe : about1.ripe theMethod args0 below0 = true := by decide +kernel
theorem w_running : about1.status = .running := rfl
set_option maxRecDepth 65536 in
theorem w_room : about1.hasRoom e0.platform room_1 = true :=
  launch0.hasRoom_least _ room_1 (by decide +kernel) (by decide +kernel) (by decide +kernel) (by decide +kernel) (by decide +kernel) (by decide +kernel)
theorem allAtoms_all (ts : List Jvm.Cond) (a : Array Jvm.Value) (st : Jvm.State) : (allAtoms ts).before a st = ts.all (fun c => c.before a st) := by
  induction ts with
  | nil => rfl
  | cons c t ih =>
    show (Jvm.Cond.and c (allAtoms t)).before a st = _
    rw [Jvm.Cond.before_and, ih, List.all_cons]
def words1 : List Jvm.Cond := Jvm.Cond.code x code maxLocals ret :: tables_1
/-- a 'code' word, met by the world's own term for the bytes: nothing is compared byte by byte -/
theorem code_word {y : MethodName} {bytes : ByteArray} {mx : Nat} {rt : Option FieldType} {a : Array Value} {s : State} {m : MethodId} {meth : Method} {c : Code} (h1 : s.methodNamed? y = some m) (h2 : s.vm.method? m = some meth) (h3 : meth.code = some c) (h4 : c.code = bytes)
    (h5 : (c.maxLocals == mx && c.exceptionTable.isEmpty && decide (c.maxStack ≤ mostOperands) && decide (meth.sig.returnType = rt) && !meth.locks && decide (parseMethodDescriptor y.desc = some meth.sig)) = true) : (Jvm.Cond.code y bytes mx rt).before a s = true := by
  simp only [Bool.and_eq_true, beq_iff_eq, Bool.not_eq_true', decide_eq_true_eq] at h5
  obtain ⟨⟨⟨⟨⟨g1, g2⟩, g3⟩, g4⟩, g5⟩, g6⟩ := h5
  simp [Cond.before, Cond.holds, Cond.value, h1, h2, h3, h4, g1, g2, g3, g4, g5, g6]
def isCode : Jvm.Cond → Bool
  | .code _ _ _ _ => true
  | _ => false
theorem all_split {L : List Jvm.Cond} {P : Jvm.Cond → Bool} (h1 : L.all (fun c => isCode c || P c) = true) (h2 : ∀ c ∈ L.filter isCode, P c = true) : L.all P = true := by
  refine List.all_eq_true.mpr fun c hc => ?_
  have h := List.all_eq_true.mp h1 c hc
  rcases Bool.eq_false_or_eq_true (isCode c) with hi | hi
  · exact h2 c (List.mem_filter.mpr ⟨hc, hi⟩)
  · simpa [hi] using h
set_option maxRecDepth 65536 in
theorem w_c0 : (Jvm.Cond.code x code maxLocals ret).before args0 about1 = true := code_word (m := ⟨1, 2⟩) (meth := k1m2) (c := k1c2) (by decide +kernel) rfl rfl rfl (by decide +kernel)
set_option maxRecDepth 65536 in
theorem w_c1 : (Jvm.Cond.code ({ cls := "com/example/bidkeel/bidkeel/Knapsack$Change", name := "<init>", desc := "(IILcom/example/bidkeel/bidkeel/Knapsack$Change;)V" } : Jvm.MethodName) prog_31_method_1_code (4 : Nat) (Option.none : Option Jvm.ClassFile.FieldType)).before args0 about1 = true := code_word (m := ⟨2, 0⟩) (meth := k2m0) (c := k2c0) (by decide +kernel) rfl rfl rfl (by decide +kernel)
set_option maxRecDepth 65536 in
theorem w_c2 : (Jvm.Cond.code ({ cls := "java/lang/Object", name := "<init>", desc := "()V" } : Jvm.MethodName) object_method_1_code (1 : Nat) (Option.none : Option Jvm.ClassFile.FieldType)).before args0 about1 = true := code_word (m := ⟨0, 0⟩) (meth := k0m0) (c := k0c0) (by decide +kernel) rfl rfl rfl (by decide +kernel)
set_option maxRecDepth 65536 in
theorem w_c3 : (Jvm.Cond.code ({ cls := "com/example/bidkeel/bidkeel/Knapsack$Best", name := "<init>", desc := "()V" } : Jvm.MethodName) prog_29_method_1_code (1 : Nat) (Option.none : Option Jvm.ClassFile.FieldType)).before args0 about1 = true := code_word (m := ⟨3, 0⟩) (meth := k3m0) (c := k3c0) (by decide +kernel) rfl rfl rfl (by decide +kernel)
set_option maxRecDepth 65536 in
theorem w_c4 : (Jvm.Cond.code ({ cls := "com/example/bidkeel/bidkeel/Knapsack$Best", name := "take", desc := "(Lcom/example/bidkeel/bidkeel/Knapsack$Change;DDJ)V" } : Jvm.MethodName) prog_29_method_2_code (8 : Nat) (Option.none : Option Jvm.ClassFile.FieldType)).before args0 about1 = true := code_word (m := ⟨3, 1⟩) (meth := k3m1) (c := k3c1) (by decide +kernel) rfl rfl rfl (by decide +kernel)
set_option maxRecDepth 65536 in
theorem w_c5 : (Jvm.Cond.code ({ cls := "com/example/bidkeel/bidkeel/Knapsack$Best", name := "points", desc := "([I)[I" } : Jvm.MethodName) prog_29_method_3_code (5 : Nat) (Option.some (Jvm.ClassFile.FieldType.array Jvm.ClassFile.FieldType.int))).before args0 about1 = true := code_word (m := ⟨3, 2⟩) (meth := k3m2) (c := k3c2) (by decide +kernel) rfl rfl rfl (by decide +kernel)
set_option maxRecDepth 65536 in
theorem w_c6 : (Jvm.Cond.code ({ cls := "com/example/bidkeel/bidkeel/BestPointsPinLaw", name := "expected", desc := "(IIIIIIIII)I" } : Jvm.MethodName) method_2_code (9 : Nat) (Option.some Jvm.ClassFile.FieldType.int)).before args0 about1 = true := code_word (m := ⟨1, 1⟩) (meth := k1m1) (c := k1c1) (by decide +kernel) rfl rfl rfl (by decide +kernel)
def codes1 : List Jvm.Cond := [Jvm.Cond.code x code maxLocals ret, Jvm.Cond.code ({ cls := "com/example/bidkeel/bidkeel/Knapsack$Change", name := "<init>", desc := "(IILcom/example/bidkeel/bidkeel/Knapsack$Change;)V" } : Jvm.MethodName) prog_31_method_1_code (4 : Nat) (Option.none : Option Jvm.ClassFile.FieldType), Jvm.Cond.code ({ cls := "java/lang/Object", name := "<init>", desc := "()V" } : Jvm.MethodName) object_method_1_code (1 : Nat) (Option.none : Option Jvm.ClassFile.FieldType), Jvm.Cond.code ({ cls := "com/example/bidkeel/bidkeel/Knapsack$Best", name := "<init>", desc := "()V" } : Jvm.MethodName) prog_29_method_1_code (1 : Nat) (Option.none : Option Jvm.ClassFile.FieldType), Jvm.Cond.code ({ cls := "com/example/bidkeel/bidkeel/Knapsack$Best", name := "take", desc := "(Lcom/example/bidkeel/bidkeel/Knapsack$Change;DDJ)V" } : Jvm.MethodName) prog_29_method_2_code (8 : Nat) (Option.none : Option Jvm.ClassFile.FieldType), Jvm.Cond.code ({ cls := "com/example/bidkeel/bidkeel/Knapsack$Best", name := "points", desc := "([I)[I" } : Jvm.MethodName) prog_29_method_3_code (5 : Nat) (Option.some (Jvm.ClassFile.FieldType.array Jvm.ClassFile.FieldType.int)), Jvm.Cond.code ({ cls := "com/example/bidkeel/bidkeel/BestPointsPinLaw", name := "expected", desc := "(IIIIIIIII)I" } : Jvm.MethodName) method_2_code (9 : Nat) (Option.some Jvm.ClassFile.FieldType.int)]
set_option maxRecDepth 65536 in
theorem codes_eq : words1.filter isCode = codes1 := rfl
theorem w_codes : ∀ c ∈ words1.filter isCode, c.before args0 about1 = true := by
  rw [codes_eq]
  intro c hc
  simp only [codes1, List.mem_cons, List.not_mem_nil, or_false] at hc
  rcases hc with rfl | rfl | rfl | rfl | rfl | rfl | rfl
  · exact w_c0
  · exact w_c1
  · exact w_c2
  · exact w_c3
  · exact w_c4
  · exact w_c5
  · exact w_c6
set_option maxRecDepth 65536 in
theorem w_t1 : (words1.take 24).all (fun c => isCode c || c.before args0 about1) = true := by decide +kernel
set_option maxRecDepth 65536 in
theorem w_t2 : ((words1.drop 24).take 24).all (fun c => isCode c || c.before args0 about1) = true := by decide +kernel
set_option maxRecDepth 65536 in
theorem w_t3 : ((words1.drop 24).drop 24).all (fun c => isCode c || c.before args0 about1) = true := by decide +kernel
theorem w_tables : (allAtoms (Jvm.Cond.code x code maxLocals ret :: tables_1)).before args0 about1 = true := by
  rw [allAtoms_all]
  show words1.all (fun c => c.before args0 about1) = true
  refine all_split ?_ w_codes
  rw [← List.take_append_drop 24 words1, List.all_append, w_t1, ← List.take_append_drop 24 (words1.drop 24), List.all_append, w_t2, w_t3]
  rfl
set_option maxRecDepth 65536 in
theorem w_case : (Jvm.Cond.and given_1 narrow_1).before args0 about1 = true := by decide +kernel
theorem w_applies : (headSpec (Jvm.Cond.code x code maxLocals ret :: tables_1) room_1).applies x e0.platform about1 = true :=
  (Spec.applies_iff w_frames).mpr ⟨w_running, w_runnable, w_alone, w_named, w_hears, w_ripe, w_room, w_tables⟩
theorem atStart : AtStart classFile x code maxLocals ret World_1 tables_1 room_1 Calls_1 rest_1 Pre_1 launch0 p0 e0 about1 theMethod args0 below0 :=
  ⟨lists_1, trivial, launch0.admits_env _ _ _, launch0.least_env, fairChoices_fair.cas, fairChoices_fair.clock, w_frames, w_args, w_heap, w_applies, trivial, trivial, w_case⟩
end start1
theorem witness_1 : WitnessClaimed_1 := ⟨start1.p0, start1.e0, start1.about1, start1.theMethod, start1.args0, start1.below0, start1.atStart⟩
end Jvm.Pilot.@@N@@
