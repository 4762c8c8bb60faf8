import JvmDerived
import JvmDerived.Pilot.@@N@@Statement
import JvmDerived.Pilot.@@N@@Code
set_option linter.unusedVariables false
set_option linter.unusedSimpArgs false
@@BLOCK:NumsL.lean.txt@@
namespace Jvm.RoadKit
open Sem ClassFile Op Lib Jvm.Stand Jvm.Free Jvm.LawKit
/-- from the frame f over T the run ends as R says -/
def Go (p : Program) (e : Env) (below : List Frame) (R : State → Outcome → Prop) (T : State) (f : JFrame) : Prop := ∃ s₂ o, Steps p.tables e below (T.setTop f) s₂ ∧ s₂.status = .running ∧ Ended s₂ below o ∧ R s₂ o
section New
variable {p : Program} {l : Launch} {e : Env} {R : Room} {s : State} {m : MethodId} {args : Array Value} {below : List Frame} {meth : Method} {c : Code} {T T' : State} {locs : List Loc} {cells slots : Nat} {K : State → Outcome → Prop} {f f' : JFrame}
theorem Go.start (q : f = f') (k : Go p e below K T f') : ∃ s₂ o, Steps p.tables e below (T.setTop f) s₂ ∧ s₂.status = .running ∧ Ended s₂ below o ∧ K s₂ o := q ▸ k
theorem Go.step (h : ∀ t, Steps p.tables e below (T'.setTop f') t → Steps p.tables e below (T.setTop f) t) (k : Go p e below K T' f') : Go p e below K T f := by
  obtain ⟨s₂, o, h1, h2⟩ := k
  exact ⟨s₂, o, h _ h1, h2⟩
theorem Go.fin {S2 : State} {o : Outcome} (hs : Steps p.tables e below (T.setTop f) S2) (h1 : S2.status = .running) (h2 : Ended S2 below o) (h3 : K S2 o) : Go p e below K T f := ⟨_, _, hs, h1, h2, h3⟩
theorem retI (X : Stand p l e R s m args below meth c T locs cells slots) (hx : p.tables.exec = Jvm.exec) {pc : Nat} {Ls : Array Slot} {z : Int32} {rest : List Value} (hret : meth.sig.returnType = some .int) (hd : decode c.code pc = .ok (.ireturn, 1)) {fs : List Frame}
    (hl : ∀ (f : JFrame) (acts : List Action), f.method = m → f.locked = none → f.entered = [] → (doReturn e (T.setTop f) acts (some (.int z))).1 = T.setFrames fs) : Steps p.tables e below (T.setTop (mkF m pc Ls (.int z :: rest))) (T.setFrames fs) := by
  have hm' : T.vm.method? m = some meth := X.method'
  have hn : narrow .int (.int z) = .int z := rfl
  show Steps p.tables e below (T.setTop { method := m, pc := pc, locals := Ls, stack := _ :: rest, locked := none }) _
  jvm_step X.here [X.here.top, hx, hd, hm', hret, hn]
  first | (intro acts; rw [hl _ acts rfl rfl rfl]) | rw [hl _ _ rfl rfl rfl]
  exact Steps.refl _
theorem own_retD (X : Stand p l e R s m args below meth c T locs cells slots) (hx : p.tables.exec = Jvm.exec) {pc : Nat} {Ls : Array Slot} {z : UInt64} {rest : List Value} (hret : meth.sig.returnType = some .double) (hd : decode c.code pc = .ok (.dreturn, 1)) {fs : List Frame}
    (hl : ∀ (f : JFrame) (acts : List Action), f.method = m → f.locked = none → f.entered = [] → (doReturn e (T.setTop f) acts (some (.double z))).1 = T.setFrames fs) : Steps p.tables e below (T.setTop (mkF m pc Ls (.double z :: rest))) (T.setFrames fs) := by
  have hm' : T.vm.method? m = some meth := X.method'
  have hn : narrow .double (.double z) = .double z := rfl
  show Steps p.tables e below (T.setTop { method := m, pc := pc, locals := Ls, stack := _ :: rest, locked := none }) _
  jvm_step X.here [X.here.top, hx, hd, hm', hret, hn]
  first | (intro acts; rw [hl _ acts rfl rfl rfl]) | rw [hl _ _ rfl rfl rfl]
  exact Steps.refl _
theorem own_fldD {Z : State} {t : Term} {a : Addr} {C n : String} {k : Int64} (ev : t.eval args Z none [] Z = some (.ref a)) (h : (Cond.eq (.field t C n "D") (.op1 .bitsD (.long k))).value args Z none Z [] = some true) : Fld Z Z.heap a C n "D" (.double k.toUInt64) := by
  obtain ⟨x, y, hx, hy, hk, -⟩ := cmp_v (Or.inl h)
  have e1 : (Term.op1 Unary.bitsD (.long k)).eval args Z none [] Z = some (.double k.toUInt64) := rfl
  have e2 : (Term.field t C n "D").eval args Z none [] Z = Z.fieldOf? a C n "D" := fld_at ev
  rw [e1] at hy
  cases hy
  cases x <;> simp [Cond.value, hx, e1] at h
  rw [e2] at hx
  rw [h] at hx
  exact Fld.start hx
theorem own_fldI {Z : State} {t : Term} {a : Addr} {C n : String} {k : Int32} (ev : t.eval args Z none [] Z = some (.ref a)) (h : (Cond.eq (.field t C n "I") (.int k)).value args Z none Z [] = some true) : Fld Z Z.heap a C n "I" (.int k) := by
  obtain ⟨x, y, hx, hy, hk, -⟩ := cmp_v (Or.inl h)
  have e1 : (Term.int k).eval args Z none [] Z = some (.int k) := rfl
  have e2 : (Term.field t C n "I").eval args Z none [] Z = Z.fieldOf? a C n "I" := fld_at ev
  rw [e1] at hy
  cases hy
  cases x <;> simp [Cond.value, hx, e1] at h
  rw [e2] at hx
  rw [h] at hx
  exact Fld.start hx
end New
end Jvm.RoadKit
namespace Jvm.RoadKit
open Sem Op Jvm.FP Jvm.FP.Core
/-- a double's worth, in units of the least double -/
def own_z (x : UInt64) : Int := zval b64 (val64 x)
theorem own_top : b64.tails * 2 ^ (b64.exps - 2) = 2 ^ 2098 := by decide +kernel
theorem own_fin_z {x : UInt64} (hn : val64 x ≠ .nan) (h : (own_z x).natAbs < 2 ^ 2098) : DFin x := by
  unfold own_z at h
  cases e : val64 x with
  | nan => exact absurd e hn
  | inf s =>
    exfalso
    rw [e] at h
    unfold zval at h
    rw [natAbs_signed] at h
    simp only [zmag] at h
    rw [own_top] at h
    exact Nat.lt_irrefl _ h
  | fin s c q => exact ⟨s, c, q, e⟩
theorem own_z_lt {x : UInt64} (h : DFin x) : (own_z x).natAbs < 2 ^ 2098 := by
  have q := h.zval_lt
  rw [own_top] at q
  unfold own_z zval
  rw [natAbs_signed]
  exact q
theorem own_signed_abs (n : Int) (k : Nat) : signed (decide (n < 0)) (n.natAbs * k) = n * (k : Int) := by
  rw [signed_mul]
  congr 1
  unfold signed
  by_cases h : n < 0 <;> simp [h] <;> omega
theorem own_rep (n : Int) (j : Nat) (hn : n.natAbs < 2 ^ 53) (hj : j ≤ 2045) : ∃ V, DFin V ∧ own_z V = n * ((2 ^ j : Nat) : Int) := by
  have q1 : b64.qmin = -1074 := qmin_b64
  have q2 : b64.qmax = 971 := by decide
  obtain ⟨c', q', h1, h2⟩ := round_exact good_b64 (decide (n < 0)) (c := n.natAbs) (q := (j : Int) - 1074) hn (by omega) (by omega)
  have hf : Core.fits b64 (Datum.fin (decide (n < 0)) c' q') := h1 ▸ round_fits good_b64 _
  refine ⟨of64 (Datum.fin (decide (n < 0)) c' q'), ⟨_, _, _, val64_of64 hf⟩, ?_⟩
  unfold own_z
  rw [val64_of64 hf]
  show signed (decide (n < 0)) (inUnits c' q' b64.qmin) = _
  rw [h2]
  unfold inUnits
  rw [show ((j : Int) - 1074 - b64.qmin).toNat = j by omega]
  exact own_signed_abs n _
theorem own_cmp {a b : UInt64} (ha : DFin a) (hb : DFin b) : FP.dcmp a b = some (compare (own_z a) (own_z b)) := dcmp_zval ha.ne_nan hb.ne_nan
theorem own_add_le {a b V : UInt64} (ha : DFin a) (hb : DFin b) (hV : DFin V) (h : own_z a + own_z b ≤ own_z V) : own_z (FP.dadd a b) ≤ own_z V := by
  show zval b64 (val64 (Core.dadd a b)) ≤ _
  rw [val64_dadd]
  exact sum_le good_b64 ha hb (val64_fits a) (val64_fits b) (val64_fits V) hV.ne_nan h
theorem own_add_ge {a b V : UInt64} (ha : DFin a) (hb : DFin b) (hV : DFin V) (h : own_z V ≤ own_z a + own_z b) : own_z V ≤ own_z (FP.dadd a b) := by
  show _ ≤ zval b64 (val64 (Core.dadd a b))
  rw [val64_dadd]
  exact sum_ge good_b64 ha hb (val64_fits a) (val64_fits b) (val64_fits V) hV.ne_nan h
theorem own_neg_fin {b : UInt64} (hb : DFin b) : ∃ s c q, negate (val64 b) = .fin s c q := by
  obtain ⟨s, c, q, h⟩ := hb
  exact ⟨!s, c, q, by rw [h]; rfl⟩
theorem own_sub_le {a b V : UInt64} (ha : DFin a) (hb : DFin b) (hV : DFin V) (h : own_z a - own_z b ≤ own_z V) : own_z (FP.dsub a b) ≤ own_z V := by
  show zval b64 (val64 (Core.dsub a b)) ≤ _
  rw [val64_dsub]
  refine sum_le good_b64 ha (own_neg_fin hb) (val64_fits a) (negate_fits (val64_fits b)) (val64_fits V) hV.ne_nan ?_
  rw [zval_negate]; exact h
theorem own_sub_ge {a b V : UInt64} (ha : DFin a) (hb : DFin b) (hV : DFin V) (h : own_z V ≤ own_z a - own_z b) : own_z V ≤ own_z (FP.dsub a b) := by
  show _ ≤ zval b64 (val64 (Core.dsub a b))
  rw [val64_dsub]
  refine sum_ge good_b64 ha (own_neg_fin hb) (val64_fits a) (negate_fits (val64_fits b)) (val64_fits V) hV.ne_nan ?_
  rw [zval_negate]; exact h
theorem own_mul_le {a b V : UInt64} (ha : DFin a) (hb : DFin b) (hV : DFin V) (h : own_z a * own_z b ≤ own_z V * ((2 ^ 1074 : Nat) : Int)) : own_z (FP.dmul a b) ≤ own_z V := by
  obtain ⟨s, c, q, e1⟩ := ha
  obtain ⟨t, d, r, e2⟩ := hb
  have f1 := val64_fits a; rw [e1] at f1
  have f2 := val64_fits b; rw [e2] at f2
  obtain ⟨h1, h2, h3⟩ := product_units f1 f2
  have q1 : b64.qmin = -1074 := qmin_b64
  show zval b64 (val64 (Core.dmul a b)) ≤ zval b64 (val64 V)
  rw [val64_dmul, e1, e2, h1]
  refine zval_round_le good_b64 (val64_fits V) hV.ne_nan (e0 := 2 * b64.qmin) (by omega) h2 ?_
  rw [h3, signed_xor, show (b64.qmin - 2 * b64.qmin).toNat = 1074 by omega]
  unfold own_z at h
  rw [e1, e2] at h
  exact h
theorem own_mul_ge {a b V : UInt64} (ha : DFin a) (hb : DFin b) (hV : DFin V) (h : own_z V * ((2 ^ 1074 : Nat) : Int) ≤ own_z a * own_z b) : own_z V ≤ own_z (FP.dmul a b) := by
  obtain ⟨s, c, q, e1⟩ := ha
  obtain ⟨t, d, r, e2⟩ := hb
  have f1 := val64_fits a; rw [e1] at f1
  have f2 := val64_fits b; rw [e2] at f2
  obtain ⟨h1, h2, h3⟩ := product_units f1 f2
  have q1 : b64.qmin = -1074 := qmin_b64
  show zval b64 (val64 V) ≤ zval b64 (val64 (Core.dmul a b))
  rw [val64_dmul, e1, e2, h1]
  refine zval_round_ge good_b64 (val64_fits V) hV.ne_nan (e0 := 2 * b64.qmin) (by omega) h2 ?_
  rw [h3, signed_xor, show (b64.qmin - 2 * b64.qmin).toNat = 1074 by omega]
  unfold own_z at h
  rw [e1, e2] at h
  exact h
theorem own_div_le {a b V : UInt64} (ha : DFin a) (hb : DFin b) (hp : 0 < own_z b) (hV : DFin V) (h : own_z a * ((2 ^ 1074 : Nat) : Int) ≤ own_z V * own_z b) : own_z (FP.ddiv a b) ≤ own_z V := by
  obtain ⟨s, c, q, e1⟩ := ha
  obtain ⟨t, d, r, e2⟩ := hb
  have f1 := val64_fits a; rw [e1] at f1
  have f2 := val64_fits b; rw [e2] at f2
  have g1 := f1.2.1
  have g2 := f2.2.1
  have q1 : b64.qmin = -1074 := qmin_b64
  unfold own_z at h hp
  rw [e1, e2] at h
  rw [e2] at hp
  obtain ⟨hs, hm⟩ := signed_pos hp
  have ht : t = false := by cases t with
    | false => rfl
    | true => exfalso; have : signed true (zmag b64 (.fin true d r)) ≤ 0 := by simp [signed]
              exact absurd hp (by show ¬ 0 < signed true _; omega)
  subst ht
  have hd : 0 < d := by
    rcases Nat.eq_zero_or_pos d with z | z
    · exfalso; subst z
      simp [zmag, inUnits, sgn] at hm
    · exact z
  show zval b64 (val64 (Core.ddiv a b)) ≤ zval b64 (val64 V)
  rw [val64_ddiv, e1, e2]
  have eq0 : quotient b64 (.fin s c q) (.fin false d r) = roundRatio b64 s c d (q - r) := by
    show (if d = 0 then _ else roundRatio b64 (s != false) c d (q - r)) = _
    rw [if_neg (by omega)]; cases s <;> rfl
  rw [eq0]
  have hle := zmag_roundRatio_le good_b64 (s := s) (A := c) (B := d) (e := q - r) (e0 := 2 * b64.qmin - r) (V := val64 V) hd (val64_fits V) hV.ne_nan (by omega) (by omega)
  have hge := zmag_roundRatio_ge good_b64 (s := s) (A := c) (B := d) (e := q - r) (e0 := 2 * b64.qmin - r) (V := val64 V) hd (val64_fits V) (by omega) (by omega)
  have u1 : inUnits c (q - r) (2 * b64.qmin - r) = zmag b64 (.fin s c q) * 2 ^ 1074 := by
    show _ = inUnits c q b64.qmin * 2 ^ 1074
    unfold inUnits
    rw [Nat.mul_assoc, ← Nat.pow_add]; congr 2; omega
  have u2 : zmag b64 (val64 V) * 2 ^ (b64.qmin - (2 * b64.qmin - r)).toNat * d = zmag b64 (val64 V) * zmag b64 (.fin false d r) := by
    show _ = _ * inUnits d r b64.qmin
    unfold inUnits
    rw [Nat.mul_assoc, Nat.mul_comm (2 ^ _) d]; congr 3; omega
  rw [u1, u2] at hle hge
  unfold zval at h ⊢
  rw [sgn_roundRatio]
  rw [show sgn (Datum.fin s c q) = s from rfl, show sgn (Datum.fin false d r) = false from rfl] at h
  rw [← signed_mul, show signed false (zmag b64 (.fin false d r)) = ((zmag b64 (.fin false d r) : Nat) : Int) from rfl, ← signed_mul] at h
  have hz : zmag b64 (val64 V) * zmag b64 (.fin false d r) = 0 → zmag b64 (val64 V) = 0 := fun h => by
    rcases Nat.mul_eq_zero.mp h with h | h
    · exact h
    · have : 0 < zmag b64 (.fin false d r) := by
        show 0 < inUnits d r b64.qmin
        unfold inUnits; exact Nat.mul_pos hd (Nat.two_pow_pos _)
      omega
  generalize zmag b64 (val64 V) * zmag b64 (.fin false d r) = vP at *
  generalize zmag b64 (.fin s c q) * 2 ^ 1074 = aP at *
  generalize sgn (val64 V) = t at *
  cases s <;> cases t <;> simp only [signed, if_true, Bool.false_eq_true, if_false] at h ⊢
  · have := hle (by omega); omega
  · have := hle (by omega); have := hz (by omega); omega
  · omega
  · have := hge (by omega); omega
theorem own_zneg {x y : UInt64} (h : val64 y = negate (val64 x)) : own_z y = - own_z x := by unfold own_z; rw [h, zval_negate]
theorem own_dneg_fin {x : UInt64} (h : DFin x) : DFin (Core.dneg x) ∧ own_z (Core.dneg x) = - own_z x := by
  refine ⟨?_, own_zneg (Core.val64_dneg x)⟩
  obtain ⟨s, c, q, e⟩ := own_neg_fin h
  exact ⟨s, c, q, by rw [Core.val64_dneg]; exact e⟩
theorem own_div_ge {a b V : UInt64} (ha : DFin a) (hb : DFin b) (hp : 0 < own_z b) (hV : DFin V) (h : own_z V * own_z b ≤ own_z a * ((2 ^ 1074 : Nat) : Int)) : own_z V ≤ own_z (FP.ddiv a b) := by
  have q := own_div_le (own_dneg_fin ha).1 hb hp (own_dneg_fin hV).1 (by rw [(own_dneg_fin ha).2, (own_dneg_fin hV).2, Int.neg_mul, Int.neg_mul]; omega)
  have e : FP.ddiv (Core.dneg a) b = Core.dneg (FP.ddiv a b) := ddiv_dneg a b
  rw [e, own_zneg (Core.val64_dneg _), (own_dneg_fin hV).2] at q
  omega
/-- a sum, a difference, a product, a quotient that is a double comes out exactly -/
theorem own_addx {a b V : UInt64} (ha : DFin a) (hb : DFin b) (hV : DFin V) (h : own_z a + own_z b = own_z V) : DFin (FP.dadd a b) ∧ own_z (FP.dadd a b) = own_z V := by
  have e : own_z (FP.dadd a b) = own_z V := Int.le_antisymm (own_add_le ha hb hV (Int.le_of_eq h)) (own_add_ge ha hb hV (Int.le_of_eq h.symm))
  exact ⟨own_fin_z ((notNaN_iff _).mp (dadd_out ha.notNaN hb)) (by rw [e]; exact own_z_lt hV), e⟩
theorem own_subx {a b V : UInt64} (ha : DFin a) (hb : DFin b) (hV : DFin V) (h : own_z a - own_z b = own_z V) : DFin (FP.dsub a b) ∧ own_z (FP.dsub a b) = own_z V := by
  have e : own_z (FP.dsub a b) = own_z V := Int.le_antisymm (own_sub_le ha hb hV (Int.le_of_eq h)) (own_sub_ge ha hb hV (Int.le_of_eq h.symm))
  exact ⟨own_fin_z ((notNaN_iff _).mp (dsub_out ha.notNaN hb)) (by rw [e]; exact own_z_lt hV), e⟩
theorem own_mulx {a b V : UInt64} (ha : DFin a) (hb : DFin b) (hV : DFin V) (h : own_z a * own_z b = own_z V * ((2 ^ 1074 : Nat) : Int)) : DFin (FP.dmul a b) ∧ own_z (FP.dmul a b) = own_z V := by
  have e : own_z (FP.dmul a b) = own_z V := Int.le_antisymm (own_mul_le ha hb hV (Int.le_of_eq h)) (own_mul_ge ha hb hV (Int.le_of_eq h.symm))
  exact ⟨own_fin_z ((notNaN_iff _).mp (dmul_out ha hb)) (by rw [e]; exact own_z_lt hV), e⟩
theorem own_nz {b : UInt64} (hp : 0 < own_z b) : ¬ DZero b := fun ⟨s, q, e⟩ => by
  unfold own_z at hp; rw [e] at hp
  simp [zval, zmag, inUnits, sgn, signed] at hp
theorem own_divx {a b V : UInt64} (ha : DFin a) (hb : DFin b) (hp : 0 < own_z b) (hV : DFin V) (h : own_z a * ((2 ^ 1074 : Nat) : Int) = own_z V * own_z b) : DFin (FP.ddiv a b) ∧ own_z (FP.ddiv a b) = own_z V := by
  have e : own_z (FP.ddiv a b) = own_z V := Int.le_antisymm (own_div_le ha hb hp hV (Int.le_of_eq h)) (own_div_ge ha hb hp hV (Int.le_of_eq h.symm))
  exact ⟨own_fin_z ((notNaN_iff _).mp (ddiv_out ha.notNaN hb (own_nz hp))) (by rw [e]; exact own_z_lt hV), e⟩
theorem own_z_int {i : Int} {a : UInt64} (h : DInt i a) : own_z a = i * ((2 ^ 1074 : Nat) : Int) := DInt_zval h
theorem own_i2d (a : Int32) : DFin (FP.i2d a) ∧ own_z (FP.i2d a) = a.toInt * ((2 ^ 1074 : Nat) : Int) := ⟨Core.i2d_fin a, own_z_int (i2d_int a)⟩
theorem own_l2d {a : Int64} (h : a.toInt.natAbs ≤ 2 ^ 53) : DFin (FP.l2d a) ∧ own_z (FP.l2d a) = a.toInt * ((2 ^ 1074 : Nat) : Int) := ⟨Core.l2d_fin a, own_z_int (l2d_int h)⟩
/-- x is the number n / 2^k -/
def own_Is (x : UInt64) (n : Int) (k : Nat) : Prop := DFin x ∧ own_z x = n * ((2 ^ (1074 - k) : Nat) : Int)
theorem own_Is.nn {x : UInt64} {n : Int} {k : Nat} (h : own_Is x n k) : Jvm.Free.Fl.NoNaN64 x := (Jvm.Free.Fl.fin64_core.mpr h.1).noNaN
theorem own_Is.add {a b : UInt64} {n m : Int} {k : Nat} (ha : own_Is a n k) (hb : own_Is b m k) (h : (n + m).natAbs < 2 ^ 53) : own_Is (FP.dadd a b) (n + m) k := by
  obtain ⟨V, v1, v2⟩ := own_rep (n + m) (1074 - k) h (by omega)
  have q := own_addx ha.1 hb.1 v1 (by rw [ha.2, hb.2, v2, Int.add_mul])
  exact ⟨q.1, q.2.trans v2⟩
theorem own_Is.sub {a b : UInt64} {n m : Int} {k : Nat} (ha : own_Is a n k) (hb : own_Is b m k) (h : (n - m).natAbs < 2 ^ 53) : own_Is (FP.dsub a b) (n - m) k := by
  obtain ⟨V, v1, v2⟩ := own_rep (n - m) (1074 - k) h (by omega)
  have q := own_subx ha.1 hb.1 v1 (by rw [ha.2, hb.2, v2, Int.sub_mul])
  exact ⟨q.1, q.2.trans v2⟩
theorem own_Is.mul {a b : UInt64} {n m : Int} {k j : Nat} (ha : own_Is a n k) (hb : own_Is b m j) (h : (n * m).natAbs < 2 ^ 53) (hk : k + j ≤ 1074) : own_Is (FP.dmul a b) (n * m) (k + j) := by
  obtain ⟨V, v1, v2⟩ := own_rep (n * m) (1074 - (k + j)) h (by omega)
  have e : 2 ^ (1074 - k) * 2 ^ (1074 - j) = 2 ^ (1074 - (k + j)) * 2 ^ 1074 := by rw [← Nat.pow_add, ← Nat.pow_add]; congr 1; omega
  have q := own_mulx ha.1 hb.1 v1 (by
    rw [ha.2, hb.2, v2, Int.mul_assoc (n * m), ← Int.natCast_mul, ← e, Int.natCast_mul]
    generalize ((2 ^ (1074 - k) : Nat) : Int) = A
    generalize ((2 ^ (1074 - j) : Nat) : Int) = B
    simp only [Int.mul_assoc, Int.mul_left_comm, Int.mul_comm])
  exact ⟨q.1, q.2.trans v2⟩
theorem own_Is.div2 {a b : UInt64} {n : Int} {k t : Nat} (ha : own_Is a n k) (hb : own_Is b ((2 ^ t : Nat) : Int) 0) (h : n.natAbs < 2 ^ 53) (hk : k + t ≤ 1074) : own_Is (FP.ddiv a b) n (k + t) := by
  obtain ⟨V, v1, v2⟩ := own_rep n (1074 - (k + t)) h (by omega)
  have hp : 0 < own_z b := by
    rw [hb.2, ← Int.natCast_mul]
    have := Nat.mul_pos (Nat.two_pow_pos t) (Nat.two_pow_pos (1074 - 0)); omega
  have e : 2 ^ (1074 - k) = 2 ^ (1074 - (k + t)) * 2 ^ t := by rw [← Nat.pow_add]; congr 1; omega
  have q := own_divx ha.1 hb.1 hp v1 (by
    rw [ha.2, hb.2, v2, e, Int.natCast_mul]
    show _ = _ * (_ * ((2 ^ 1074 : Nat) : Int))
    generalize ((2 ^ (1074 - (k + t)) : Nat) : Int) = A
    generalize ((2 ^ t : Nat) : Int) = B
    generalize ((2 ^ 1074 : Nat) : Int) = D
    simp only [Int.mul_assoc])
  exact ⟨q.1, q.2.trans v2⟩
theorem own_mul_lt {n m : Int} {D : Nat} (hD : 0 < D) : (n * (D : Int) < m * (D : Int) ↔ n < m) := by
  have : (0 : Int) < (D : Int) := by omega
  exact ⟨fun h => Int.lt_of_mul_lt_mul_right h (Int.le_of_lt this), fun h => Int.mul_lt_mul_of_pos_right h this⟩
theorem own_Is.cmp {a b : UInt64} {n m : Int} {k : Nat} (ha : own_Is a n k) (hb : own_Is b m k) : FP.dcmp a b = some (compare n m) := by
  rw [own_cmp ha.1 hb.1, ha.2, hb.2, compare_mul_pos _ _ _ (by have := Nat.two_pow_pos (1074 - k); omega)]
theorem own_Is.cv {a b : UInt64} {n m : Int} {k : Nat} (ha : own_Is a n k) (hb : own_Is b m k) (o : ClassFile.CmpOp) : (cmpValue (FP.dcmp a b) o < (0 : Int32) ↔ n < m) ∧ ((0 : Int32) < cmpValue (FP.dcmp a b) o ↔ m < n) ∧ (cmpValue (FP.dcmp a b) o = (0 : Int32) ↔ n = m) := by
  rw [ha.cmp hb, compare_ite]
  by_cases h1 : n < m
  · rw [if_pos h1]; cases o <;> refine ⟨⟨fun q => ?_, fun q => ?_⟩, ⟨fun q => ?_, fun q => ?_⟩, ⟨fun q => ?_, fun q => ?_⟩⟩ <;> first | omega | decide | exact absurd q (by decide)
  · rw [if_neg h1]
    by_cases h2 : n = m
    · rw [if_pos h2]; cases o <;> refine ⟨⟨fun q => ?_, fun q => ?_⟩, ⟨fun q => ?_, fun q => ?_⟩, ⟨fun q => ?_, fun q => ?_⟩⟩ <;> first | omega | decide | exact absurd q (by decide)
    · rw [if_neg h2]; cases o <;> refine ⟨⟨fun q => ?_, fun q => ?_⟩, ⟨fun q => ?_, fun q => ?_⟩, ⟨fun q => ?_, fun q => ?_⟩⟩ <;> first | omega | decide | exact absurd q (by decide)
theorem own_Is.i2d (a : Int32) : own_Is (FP.i2d a) a.toInt 0 := own_i2d a
theorem own_Is.l2d {a : Int64} (h : a.toInt.natAbs ≤ 2 ^ 53) : own_Is (FP.l2d a) a.toInt 0 := own_l2d h
theorem own_Is.up {a : UInt64} {n : Int} {k : Nat} (h : own_Is a n k) (j : Nat) (hj : k + j ≤ 1074) : own_Is a (n * ((2 ^ j : Nat) : Int)) (k + j) := by
  refine ⟨h.1, h.2.trans ?_⟩
  rw [Int.mul_assoc, ← Int.natCast_mul, ← Nat.pow_add]; congr 3; omega
theorem own_Is.zero (k : Nat) : own_Is FP.dconst0 0 k := ⟨(fin_bits _).mpr (by decide), by rw [Int.zero_mul]; exact zval64_zero⟩
end Jvm.RoadKit
namespace Jvm.Pilot.@@N@@
open Jvm Jvm.ClassFile Sem Op Lib Jvm.Free Jvm.Stand Jvm.LawKit Jvm.RoadKit Bundle Jvm.Pilot.@@N@@.Jvm.D
def own_max (a b : Int32) : Int32 := if a < b then b else a
theorem own_c1024 : own_Is (4652218415073722368 : UInt64) ((2 ^ 10 : Nat) : Int) 0 := ⟨(Jvm.FP.Core.fin_bits _).mpr (by decide), by decide +kernel⟩
theorem own_c1024' : own_Is (4652218415073722368 : UInt64) 1024 0 := own_c1024
theorem own_one10 : own_Is FP.dconst1 1024 10 := ⟨(Jvm.FP.Core.fin_bits _).mpr (by decide), by decide +kernel⟩
theorem own_k (x : Int32) : 0 ≤ ((x &&& (2147483647 : Int32)) % (1025 : Int32)).toInt ∧ ((x &&& (2147483647 : Int32)) % (1025 : Int32)).toInt ≤ 1024 := by
  have e := Jvm.Kit.i32_mask x 2147483647 (k := 31) (by decide) (by decide)
  have t1 : (1025 : Int32).toInt = 1025 := by decide
  rw [Jvm.Kit.i32_rem_nonneg (by omega), t1]; omega
theorem own_bd {k p : Int} (h1 : 0 ≤ k) (h2 : k ≤ 1024) (p1 : -2147483648 ≤ p) (p2 : p ≤ 2147483648) : -2199023255552 ≤ k * p ∧ k * p ≤ 2199023255552 := by
  have a1 : k * p ≤ k * 2147483648 := Int.mul_le_mul_of_nonneg_left p2 h1
  have a2 : k * (-2147483648) ≤ k * p := Int.mul_le_mul_of_nonneg_left p1 h1
  omega
theorem own_i32 (x : Int32) : -2147483648 ≤ x.toInt ∧ x.toInt ≤ 2147483648 := by have := x.toInt_lt; have := x.le_toInt; omega
theorem own_mx (p c : Int32) : Jvm.Native.java_lang_Math.nans.pick64 true (FP.i2d p) (FP.i2d c) = FP.i2d (own_max p c) := by
  have b : ∀ x : Int32, B53 x.toInt64 := fun x => by
    have := own_i32 x
    unfold B53; rw [Int32.toInt_toInt64]; omega
  rw [i2d_w p, i2d_w c, i2d_w (own_max p c)]
  unfold own_max
  by_cases h : p < c
  · rw [if_pos h]; exact max_l (b p) (b c) (by rw [Int64.lt_iff_toInt_lt, Int32.toInt_toInt64, Int32.toInt_toInt64]; exact Int32.lt_iff_toInt_lt.mp h)
  · rw [if_neg h]; exact max_g (b p) (b c) (by rw [Int64.lt_iff_toInt_lt, Int32.toInt_toInt64, Int32.toInt_toInt64]; exact fun q => h (Int32.lt_iff_toInt_lt.mpr q))
theorem own_scaled {k : Int32} (p c : Int32) (h1 : 0 ≤ k.toInt) (h2 : k.toInt ≤ 1024) : (((k.toInt64) * (p.toInt64)) + ((((1024 : Int32) - k).toInt64) * (c.toInt64))).toInt = k.toInt * p.toInt + (1024 - k.toInt) * c.toInt := by
  have t : (1024 : Int32).toInt = 1024 := by decide
  have d : ((1024 : Int32) - k).toInt = 1024 - k.toInt := by rw [Jvm.Kit.i32_sub (by omega) (by omega), t]
  have b1 := own_bd h1 h2 (own_i32 p).1 (own_i32 p).2
  have b2 := own_bd (k := 1024 - k.toInt) (by omega) (by omega) (own_i32 c).1 (own_i32 c).2
  have m1 : ((k.toInt64) * (p.toInt64)).toInt = k.toInt * p.toInt := by rw [Jvm.Kit.i64_mul (by rw [Int32.toInt_toInt64, Int32.toInt_toInt64]; omega) (by rw [Int32.toInt_toInt64, Int32.toInt_toInt64]; omega), Int32.toInt_toInt64, Int32.toInt_toInt64]
  have m2 : ((((1024 : Int32) - k).toInt64) * (c.toInt64)).toInt = (1024 - k.toInt) * c.toInt := by rw [Jvm.Kit.i64_mul (by rw [Int32.toInt_toInt64, Int32.toInt_toInt64, d]; omega) (by rw [Int32.toInt_toInt64, Int32.toInt_toInt64, d]; omega), Int32.toInt_toInt64, Int32.toInt_toInt64, d]
  rw [Jvm.Kit.i64_add (by rw [m1, m2]; omega) (by rw [m1, m2]; omega), m1, m2]
theorem own_wsum {k p c : Int} (h1 : 0 ≤ k) (h2 : k ≤ 1024) (p1 : -2147483648 ≤ p ∧ p ≤ 2147483648) (c1 : -2147483648 ≤ c ∧ c ≤ 2147483648) : (k * p + (1024 - k) * c).natAbs ≤ 2 ^ 42 := by
  have b1 := own_bd h1 h2 p1.1 p1.2
  have b2 := own_bd (k := 1024 - k) (by omega) (by omega) c1.1 c1.2
  omega

theorem own_f0 : decode jdk_29_method_65_code 0 = .ok (.iload_n 0, 1) := by decide +kernel
theorem own_f1 : decode jdk_29_method_65_code 1 = .ok (.iload_n 1, 1) := by decide +kernel
theorem own_f2 : decode jdk_29_method_65_code 2 = .ok (.if_icmp .lt 7, 3) := by decide +kernel
theorem own_f3 : decode jdk_29_method_65_code 9 = .ok (.iload_n 1, 1) := by decide +kernel
theorem own_f4 : decode jdk_29_method_65_code 10 = .ok (.ireturn, 1) := by decide +kernel
theorem own_f5 : decode jdk_29_method_65_code 5 = .ok (.iload_n 0, 1) := by decide +kernel
theorem own_f6 : decode jdk_29_method_65_code 6 = .ok (.goto 4, 3) := by decide +kernel
theorem own_ef_I (m : MethodId) (p1 : Int32) (p2 : Int32) : entryFrame m #[(.int p1), (.int p2)] 2 = mkF m 0 #[.val (.int p1), .val (.int p2)] [] := by first | (simp [entryFrame, mkF, argsToLocals, Value.category]; done) | rfl
def QI (Z : State) (p1 : Int32) (p2 : Int32) (h0 : Heap) (n0 : Nat) (v : Option Value) (h : Heap) (L : List Loc) : Prop := v = some (.int (own_max p1 p2)) ∧ Fr n0 L ∧ h = h0
set_option maxRecDepth 65536 in
set_option maxHeartbeats 40000000 in
theorem rmI (l : Launch) (Z : State) (a0 : Array Value) (hw : ∀ d ∈ tables_1, d.before a0 Z = true) (ws : List Jvm.Cond) (p1 : Int32) (p2 : Int32) (h0 : Heap) (n0 : Nat) (Z0 : n0 ≤ h0.size)  :
    MetFree l (⟨"java/lang/Math", "max", "(II)I"⟩ : MethodName) (head1 (Jvm.Cond.code (⟨"java/lang/Math", "max", "(II)I"⟩ : MethodName) jdk_29_method_65_code 2 (some .int) :: ws) ({ frames := 0, cells := 0, slots := 0, locals := 0 } : Room)) (fun a U => a = #[(.int p1), (.int p2)] ∧ Z.Warmed39 U.vm ∧ U.heap = h0) (fun _ _ _ _ _ => True) (fun _ U o U' => ∃ v L, o = .returned v ∧ QI Z p1 p2 h0 n0 v U'.heap L ∧ FrameEnd U o U' L ({ frames := 0, cells := 0, slots := 0, locals := 0 } : Room).cells ({ frames := 0, cells := 0, slots := 0, locals := 0 } : Room).slots) := by
  refine MetFree.of_bodySF (Jvm.Free.JP.mathPlain rfl (by decide +kernel)) hisR ?_
  intro p e s m args below meth c s₁ Bd hml0 hP hK
  obtain ⟨rfl, hZ, hh⟩ := hP
  have hx := Bd.exec
  have hby := Bd.bytes
  have hml : c.maxLocals = 2 := hml0
  have hown : s.vm.findClass "java/lang/Math" = some m.cls := findClass_of_methodNamed Bd.named
  have hnm := (name_of_methodNamed Bd.named Bd.method).1
  have X0 : Stand p l e ({ frames := 0, cells := 0, slots := 0, locals := 0 } : Room) s m #[(.int p1), (.int p2)] below meth c s₁ [] 0 0 := Stand.of_body Bd
  have e0 : s₁.heap = h0 := by rw [← hh, Bd.state]; rfl
  have N0 := Fr.nil n0
  refine Go.start (own_ef_I m p1 p2) ?_
  show Go p e below _ s₁ (mkF m 0 #[.val (.int p1), .val (.int p2)] [])
  refine Go.step (fun _ k => XS.iloadN X0.here hx rfl (hb hby own_f0) rfl k) ?_
  show Go p e below _ s₁ (mkF m 1 #[.val (.int p1), .val (.int p2)] [(.int p1)])
  refine Go.step (fun _ k => XS.iloadN X0.here hx rfl (hb hby own_f1) rfl k) ?_
  show Go p e below _ s₁ (mkF m 2 #[.val (.int p1), .val (.int p2)] [(.int p2), (.int p1)])
  by_cases hc2_1 : p1 < p2
  · show Go p e below _ s₁ (mkF m 2 #[.val (.int p1), .val (.int p2)] [(.int p2), (.int p1)])
    refine Go.step (fun _ k => XS.icmpYes X0.here hx rfl (pc0 := 2) (pc' := 9) rfl (hb hby own_f2) rfl (tlt hc2_1).1 (by decide) (by decide) k) ?_
    show Go p e below _ s₁ (mkF m 9 #[.val (.int p1), .val (.int p2)] [])
    refine Go.step (fun _ k => XS.iloadN X0.here hx rfl (hb hby own_f3) rfl k) ?_
    show Go p e below _ s₁ (mkF m 10 #[.val (.int p1), .val (.int p2)] [(.int p2)])
    have er : (own_max p1 p2) = p2 := by simp [own_max, hc2_1]
    obtain ⟨fs, hr, hrun, hended, hW, hsame⟩ := X0.leave (v := some (.int p2)) (fun h => by rw [Bd.returns] at h; cases h)
    refine Go.fin (retI X0 hx Bd.returns (hb hby own_f4) hr) hrun hended ?_
    refine ⟨_, _, rfl, ?_, ⟨_, rfl⟩, hW, hsame.mono (by decide) (by decide)⟩
    show QI Z p1 p2 h0 n0 _ s₁.heap _
    rw [e0]
    exact ⟨by rw [er], N0, rfl⟩
  · show Go p e below _ s₁ (mkF m 2 #[.val (.int p1), .val (.int p2)] [(.int p2), (.int p1)])
    refine Go.step (fun _ k => XS.icmpNo X0.here hx rfl (hb hby own_f2) rfl (flt hc2_1).1 k) ?_
    show Go p e below _ s₁ (mkF m 5 #[.val (.int p1), .val (.int p2)] [])
    refine Go.step (fun _ k => XS.iloadN X0.here hx rfl (hb hby own_f5) rfl k) ?_
    show Go p e below _ s₁ (mkF m 6 #[.val (.int p1), .val (.int p2)] [(.int p1)])
    refine Go.step (fun _ k => XS.goto X0.here hx rfl (pc0 := 6) (pc' := 10) rfl (hb hby own_f6) (by decide) (by decide) k) ?_
    show Go p e below _ s₁ (mkF m 10 #[.val (.int p1), .val (.int p2)] [(.int p1)])
    have er : (own_max p1 p2) = p1 := by simp [own_max, hc2_1]
    obtain ⟨fs, hr, hrun, hended, hW, hsame⟩ := X0.leave (v := some (.int p1)) (fun h => by rw [Bd.returns] at h; cases h)
    refine Go.fin (retI X0 hx Bd.returns (hb hby own_f4) hr) hrun hended ?_
    refine ⟨_, _, rfl, ?_, ⟨_, rfl⟩, hW, hsame.mono (by decide) (by decide)⟩
    show QI Z p1 p2 h0 n0 _ s₁.heap _
    rw [e0]
    exact ⟨by rw [er], N0, rfl⟩
theorem own_f7 : decode prog_1_method_4_code 0 = .ok (.aload_n 0, 1) := by decide +kernel
theorem own_f8 : decode prog_1_method_4_code 1 = .ok (.getstatic 7, 3) := by decide +kernel
theorem own_f9 : decode prog_1_method_4_code 4 = .ok (.if_acmp .ne 12, 3) := by decide +kernel
theorem own_f10 : decode prog_1_method_4_code 16 = .ok (.dload_n 1, 1) := by decide +kernel
theorem own_f11 : decode prog_1_method_4_code 17 = .ok (.dload_n 3, 1) := by decide +kernel
theorem own_f12 : decode prog_1_method_4_code 18 = .ok (.dmul, 1) := by decide +kernel
theorem own_f13 : decode prog_1_method_4_code 19 = .ok (.dconst 1, 1) := by decide +kernel
theorem own_f14 : decode prog_1_method_4_code 20 = .ok (.dload_n 1, 1) := by decide +kernel
theorem own_f15 : decode prog_1_method_4_code 21 = .ok (.dsub, 1) := by decide +kernel
theorem own_f16 : decode prog_1_method_4_code 22 = .ok (.dload 5, 2) := by decide +kernel
theorem own_f17 : decode prog_1_method_4_code 24 = .ok (.dmul, 1) := by decide +kernel
theorem own_f18 : decode prog_1_method_4_code 25 = .ok (.dadd, 1) := by decide +kernel
theorem own_f19 : decode prog_1_method_4_code 26 = .ok (.dreturn, 1) := by decide +kernel
theorem own_f20 : plainName "com/example/vigilant_crawler/vigilantcrawler/crawl/Combination" = true := by first | (simp [plainName, overriddenIn]; done) | decide +kernel
theorem own_ef_W (m : MethodId) (a1 : Addr) (d1 : UInt64) (d2 : UInt64) (d3 : UInt64) : entryFrame m #[(.ref a1), (.double d1), (.double d2), (.double d3)] 7 = mkF m 0 #[.val (.ref a1), .val (.double d1), .second, .val (.double d2), .second, .val (.double d3), .second] [] := by first | (simp [entryFrame, mkF, argsToLocals, Value.category]; done) | rfl
def QW (Z : State) (a1 : Addr) (d1 : UInt64) (d2 : UInt64) (d3 : UInt64) (aM : Addr) (k p' c' : Int) (h0 : Heap) (n0 : Nat) (v : Option Value) (h : Heap) (L : List Loc) : Prop := ∃ r : UInt64, v = some (.double r) ∧ Fr n0 L ∧ h = h0 ∧ own_Is r (k * p' + (1024 - k) * c') 10
set_option maxRecDepth 65536 in
set_option maxHeartbeats 40000000 in
theorem rmW (l : Launch) (Z : State) (a0 : Array Value) (hw : ∀ d ∈ tables_1, d.before a0 Z = true) (ws : List Jvm.Cond) (a1 : Addr) (d1 : UInt64) (d2 : UInt64) (d3 : UInt64) (aM : Addr) (k p' c' : Int) (h0 : Heap) (n0 : Nat) (Z0 : n0 ≤ h0.size) (S_MAX : Sta Z h0 "com/example/vigilant_crawler/vigilantcrawler/crawl/Combination" "MAX" "Lcom/example/vigilant_crawler/vigilantcrawler/crawl/Combination;" (.ref aM)) (hne : a1 ≠ aM) (J_d1 : own_Is d1 k 10) (J_d2 : own_Is d2 p' 0) (J_d3 : own_Is d3 c' 0) (hk1 : 0 ≤ k) (hk2 : k ≤ 1024) (hp : -2147483648 ≤ p' ∧ p' ≤ 2147483648) (hc' : -2147483648 ≤ c' ∧ c' ≤ 2147483648) :
    MetFree l (⟨"com/example/vigilant_crawler/vigilantcrawler/crawl/Combination", "combine", "(DDD)D"⟩ : MethodName) (head1 (Jvm.Cond.code (⟨"com/example/vigilant_crawler/vigilantcrawler/crawl/Combination", "combine", "(DDD)D"⟩ : MethodName) prog_1_method_4_code 7 (some .double) :: ws) ({ frames := 0, cells := 0, slots := 0, locals := 0 } : Room)) (fun a U => a = #[(.ref a1), (.double d1), (.double d2), (.double d3)] ∧ Z.Warmed39 U.vm ∧ U.heap = h0) (fun _ _ _ _ _ => True) (fun _ U o U' => ∃ v L, o = .returned v ∧ QW Z a1 d1 d2 d3 aM k p' c' h0 n0 v U'.heap L ∧ FrameEnd U o U' L ({ frames := 0, cells := 0, slots := 0, locals := 0 } : Room).cells ({ frames := 0, cells := 0, slots := 0, locals := 0 } : Room).slots) := by
  refine MetFree.of_bodySF (plainFor_of_name own_f20) hisR ?_
  intro p e s m args below meth c s₁ Bd hml0 hP hK
  obtain ⟨rfl, hZ, hh⟩ := hP
  have hx := Bd.exec
  have hby := Bd.bytes
  have hml : c.maxLocals = 7 := hml0
  have hown : s.vm.findClass "com/example/vigilant_crawler/vigilantcrawler/crawl/Combination" = some m.cls := findClass_of_methodNamed Bd.named
  have hnm := (name_of_methodNamed Bd.named Bd.method).1
  have X0 : Stand p l e ({ frames := 0, cells := 0, slots := 0, locals := 0 } : Room) s m #[(.ref a1), (.double d1), (.double d2), (.double d3)] below meth c s₁ [] 0 0 := Stand.of_body Bd
  have e0 : s₁.heap = h0 := by rw [← hh, Bd.state]; rfl
  have N0 := Fr.nil n0
  refine Go.start (own_ef_W m a1 d1 d2 d3) ?_
  show Go p e below _ s₁ (mkF m 0 #[.val (.ref a1), .val (.double d1), .second, .val (.double d2), .second, .val (.double d3), .second] [])
  have b1 := own_bd hk1 hk2 hp.1 hp.2
  have b2 := own_bd (k := 1024 - k) (by omega) (by omega) hc'.1 hc'.2
  refine Go.step (fun _ k => XS.aloadN X0.here hx rfl (hb hby own_f7) rfl rfl k) ?_
  show Go p e below _ s₁ (mkF m 1 #[.val (.ref a1), .val (.double d1), .second, .val (.double d2), .second, .val (.double d3), .second] [(.ref a1)])
  obtain ⟨T2, X2, e2, st2⟩ := getS2 X0 hx hZ hown (host := "") (Or.inl (hw _ (List.mem_of_getElem? (i := 10) rfl))) Via.refl e0 S_MAX (g := (mkF m 1 #[.val (.ref a1), .val (.double d1), .second, .val (.double d2), .second, .val (.double d3), .second] [(.ref a1)])) rfl (hb hby own_f8)
  refine Go.step st2 ?_
  show Go p e below _ T2 (mkF m 4 #[.val (.ref a1), .val (.double d1), .second, .val (.double d2), .second, .val (.double d3), .second] [(.ref aM), (.ref a1)])
  refine Go.step (fun _ k => XS.acmpYes X2.here hx rfl (pc0 := 4) (pc' := 16) rfl (hb hby own_f9) rfl (by simp [if_acmp.holds, hne]) (by decide) (by decide) k) ?_
  show Go p e below _ T2 (mkF m 16 #[.val (.ref a1), .val (.double d1), .second, .val (.double d2), .second, .val (.double d3), .second] [])
  refine Go.step (fun _ k => XS.dloadN X2.here hx rfl (hb hby own_f10) rfl k) ?_
  show Go p e below _ T2 (mkF m 17 #[.val (.ref a1), .val (.double d1), .second, .val (.double d2), .second, .val (.double d3), .second] [(.double d1)])
  refine Go.step (fun _ k => XS.dloadN X2.here hx rfl (hb hby own_f11) rfl k) ?_
  show Go p e below _ T2 (mkF m 18 #[.val (.ref a1), .val (.double d1), .second, .val (.double d2), .second, .val (.double d3), .second] [(.double d2), (.double d1)])
  obtain ⟨m1, e_m1⟩ : ∃ z : UInt64, z = FP.dmul d1 d2 := ⟨_, rfl⟩
  have J_m1 : own_Is m1 (k * p') 10 := by rw [e_m1]; exact own_Is.mul J_d1 J_d2 (by omega) (by decide)
  refine Go.step (fun _ k => XS.dmulS X2.here hx rfl (hb hby own_f12) rfl (by rw [← e_m1]; exact J_m1.nn) e_m1.symm k) ?_
  show Go p e below _ T2 (mkF m 19 #[.val (.ref a1), .val (.double d1), .second, .val (.double d2), .second, .val (.double d3), .second] [(.double m1)])
  refine Go.step (fun _ k => XS.dconst1 X2.here hx rfl (hb hby own_f13) rfl k) ?_
  show Go p e below _ T2 (mkF m 20 #[.val (.ref a1), .val (.double d1), .second, .val (.double d2), .second, .val (.double d3), .second] [(.double FP.dconst1), (.double m1)])
  refine Go.step (fun _ k => XS.dloadN X2.here hx rfl (hb hby own_f14) rfl k) ?_
  show Go p e below _ T2 (mkF m 21 #[.val (.ref a1), .val (.double d1), .second, .val (.double d2), .second, .val (.double d3), .second] [(.double d1), (.double FP.dconst1), (.double m1)])
  obtain ⟨s1, e_s1⟩ : ∃ z : UInt64, z = FP.dsub FP.dconst1 d1 := ⟨_, rfl⟩
  have J_s1 : own_Is s1 (1024 - k) 10 := by rw [e_s1]; exact own_Is.sub own_one10 J_d1 (by omega)
  refine Go.step (fun _ k => XS.dsubS X2.here hx rfl (hb hby own_f15) rfl (by rw [← e_s1]; exact J_s1.nn) e_s1.symm k) ?_
  show Go p e below _ T2 (mkF m 22 #[.val (.ref a1), .val (.double d1), .second, .val (.double d2), .second, .val (.double d3), .second] [(.double s1), (.double m1)])
  refine Go.step (fun _ k => XS.dload X2.here hx rfl (hb hby own_f16) rfl k) ?_
  show Go p e below _ T2 (mkF m 24 #[.val (.ref a1), .val (.double d1), .second, .val (.double d2), .second, .val (.double d3), .second] [(.double d3), (.double s1), (.double m1)])
  obtain ⟨m2, e_m2⟩ : ∃ z : UInt64, z = FP.dmul s1 d3 := ⟨_, rfl⟩
  have J_m2 : own_Is m2 ((1024 - k) * c') 10 := by rw [e_m2]; exact own_Is.mul J_s1 J_d3 (by omega) (by decide)
  refine Go.step (fun _ k => XS.dmulS X2.here hx rfl (hb hby own_f17) rfl (by rw [← e_m2]; exact J_m2.nn) e_m2.symm k) ?_
  show Go p e below _ T2 (mkF m 25 #[.val (.ref a1), .val (.double d1), .second, .val (.double d2), .second, .val (.double d3), .second] [(.double m2), (.double m1)])
  obtain ⟨r1, e_r1⟩ : ∃ z : UInt64, z = FP.dadd m1 m2 := ⟨_, rfl⟩
  have J_r1 : own_Is r1 (k * p' + (1024 - k) * c') 10 := by rw [e_r1]; exact own_Is.add J_m1 J_m2 (by omega)
  refine Go.step (fun _ k => XS.daddS X2.here hx rfl (hb hby own_f18) rfl (by rw [← e_r1]; exact J_r1.nn) e_r1.symm k) ?_
  show Go p e below _ T2 (mkF m 26 #[.val (.ref a1), .val (.double d1), .second, .val (.double d2), .second, .val (.double d3), .second] [(.double r1)])
  obtain ⟨fs, hr, hrun, hended, hW, hsame⟩ := X2.leave (v := some (.double r1)) (fun h => by rw [Bd.returns] at h; cases h)
  refine Go.fin (own_retD X2 hx Bd.returns (hb hby own_f19) hr) hrun hended ?_
  refine ⟨_, _, rfl, ?_, ⟨_, rfl⟩, hW, hsame.mono (by decide) (by decide)⟩
  show QW Z a1 d1 d2 d3 aM k p' c' h0 n0 _ T2.heap _
  rw [e2]
  exact ⟨_, rfl, N0, rfl, J_r1⟩
theorem own_f21 : decode prog_1_method_4_code 7 = .ok (.dload_n 3, 1) := by decide +kernel
theorem own_f22 : decode prog_1_method_4_code 8 = .ok (.dload 5, 2) := by decide +kernel
theorem own_f23 : parseMethodDescriptor "(DD)D" = some ⟨[.double, .double], some .double⟩ := by decide +kernel
theorem own_f24 : decode prog_1_method_4_code 10 = .ok (.invokestatic 33, 3) := by decide +kernel
theorem own_f25 : decode prog_1_method_4_code 13 = .ok (.goto 13, 3) := by decide +kernel
theorem own_ef_M (m : MethodId) (a1 : Addr) (d1 : UInt64) (d2 : UInt64) (d3 : UInt64) : entryFrame m #[(.ref a1), (.double d1), (.double d2), (.double d3)] 7 = mkF m 0 #[.val (.ref a1), .val (.double d1), .second, .val (.double d2), .second, .val (.double d3), .second] [] := by first | (simp [entryFrame, mkF, argsToLocals, Value.category]; done) | rfl
def QM (Z : State) (a1 : Addr) (d1 : UInt64) (d2 : UInt64) (d3 : UInt64) (p' c' : Int32) (h0 : Heap) (n0 : Nat) (v : Option Value) (h : Heap) (L : List Loc) : Prop := v = some (.double (FP.i2d (own_max p' c'))) ∧ Fr n0 L ∧ h = h0
set_option maxRecDepth 65536 in
set_option maxHeartbeats 40000000 in
theorem rmM (l : Launch) (Z : State) (a0 : Array Value) (hw : ∀ d ∈ tables_1, d.before a0 Z = true) (ws : List Jvm.Cond) (a1 : Addr) (d1 : UInt64) (d2 : UInt64) (d3 : UInt64) (p' c' : Int32) (h0 : Heap) (n0 : Nat) (Z0 : n0 ≤ h0.size) (S_MAX : Sta Z h0 "com/example/vigilant_crawler/vigilantcrawler/crawl/Combination" "MAX" "Lcom/example/vigilant_crawler/vigilantcrawler/crawl/Combination;" (.ref a1)) (hd2 : d2 = FP.i2d p') (hd3 : d3 = FP.i2d c') :
    MetFree l (⟨"com/example/vigilant_crawler/vigilantcrawler/crawl/Combination", "combine", "(DDD)D"⟩ : MethodName) (head1 (Jvm.Cond.code (⟨"com/example/vigilant_crawler/vigilantcrawler/crawl/Combination", "combine", "(DDD)D"⟩ : MethodName) prog_1_method_4_code 7 (some .double) :: ws) ({ frames := 1, cells := 0, slots := 0, locals := 15 } : Room)) (fun a U => a = #[(.ref a1), (.double d1), (.double d2), (.double d3)] ∧ Z.Warmed39 U.vm ∧ U.heap = h0) (fun _ _ _ _ _ => True) (fun _ U o U' => ∃ v L, o = .returned v ∧ QM Z a1 d1 d2 d3 p' c' h0 n0 v U'.heap L ∧ FrameEnd U o U' L ({ frames := 1, cells := 0, slots := 0, locals := 15 } : Room).cells ({ frames := 1, cells := 0, slots := 0, locals := 15 } : Room).slots) := by
  refine MetFree.of_bodySF (plainFor_of_name own_f20) hisR ?_
  intro p e s m args below meth c s₁ Bd hml0 hP hK
  obtain ⟨rfl, hZ, hh⟩ := hP
  have hx := Bd.exec
  have hby := Bd.bytes
  have hml : c.maxLocals = 7 := hml0
  have hown : s.vm.findClass "com/example/vigilant_crawler/vigilantcrawler/crawl/Combination" = some m.cls := findClass_of_methodNamed Bd.named
  have hnm := (name_of_methodNamed Bd.named Bd.method).1
  have X0 : Stand p l e ({ frames := 1, cells := 0, slots := 0, locals := 15 } : Room) s m #[(.ref a1), (.double d1), (.double d2), (.double d3)] below meth c s₁ [] 0 0 := Stand.of_body Bd
  have e0 : s₁.heap = h0 := by rw [← hh, Bd.state]; rfl
  have N0 := Fr.nil n0
  refine Go.start (own_ef_M m a1 d1 d2 d3) ?_
  show Go p e below _ s₁ (mkF m 0 #[.val (.ref a1), .val (.double d1), .second, .val (.double d2), .second, .val (.double d3), .second] [])
  refine Go.step (fun _ k => XS.aloadN X0.here hx rfl (hb hby own_f7) rfl rfl k) ?_
  show Go p e below _ s₁ (mkF m 1 #[.val (.ref a1), .val (.double d1), .second, .val (.double d2), .second, .val (.double d3), .second] [(.ref a1)])
  obtain ⟨T3, X3, e3, st3⟩ := getS2 X0 hx hZ hown (host := "") (Or.inl (hw _ (List.mem_of_getElem? (i := 10) rfl))) Via.refl e0 S_MAX (g := (mkF m 1 #[.val (.ref a1), .val (.double d1), .second, .val (.double d2), .second, .val (.double d3), .second] [(.ref a1)])) rfl (hb hby own_f8)
  refine Go.step st3 ?_
  show Go p e below _ T3 (mkF m 4 #[.val (.ref a1), .val (.double d1), .second, .val (.double d2), .second, .val (.double d3), .second] [(.ref a1), (.ref a1)])
  refine Go.step (fun _ k => XS.acmpNo X3.here hx rfl (hb hby own_f9) rfl (by simp [if_acmp.holds]) k) ?_
  show Go p e below _ T3 (mkF m 7 #[.val (.ref a1), .val (.double d1), .second, .val (.double d2), .second, .val (.double d3), .second] [])
  refine Go.step (fun _ k => XS.dloadN X3.here hx rfl (hb hby own_f21) rfl k) ?_
  show Go p e below _ T3 (mkF m 8 #[.val (.ref a1), .val (.double d1), .second, .val (.double d2), .second, .val (.double d3), .second] [(.double d2)])
  refine Go.step (fun _ k => XS.dload X3.here hx rfl (hb hby own_f22) rfl k) ?_
  show Go p e below _ T3 (mkF m 10 #[.val (.ref a1), .val (.double d1), .second, .val (.double d2), .second, .val (.double d3), .second] [(.double d3), (.double d2)])
  obtain ⟨T4, X4, e4, st4⟩ := natS X3 hx hZ hown (hw _ (List.mem_of_getElem? (i := 13) rfl)) (hw _ (List.mem_of_getElem? (i := 14) rfl)) (hw _ (List.mem_of_getElem? (i := 15) rfl)) (hw _ (List.mem_of_getElem? (i := 16) rfl)) (by decide) e3 (W := 0) (val' := .double (FP.i2d (own_max p' c'))) (fun hc => Jvm.Free.Fl.Abs.maxD_pays d2 d3 hc (by decide) (by decide)) (g := (mkF m 10 #[.val (.ref a1), .val (.double d1), .second, .val (.double d2), .second, .val (.double d3), .second] [(.double d3), (.double d2)])) rfl (by rw [hml]; rfl) (argsL := [.double d2, .double d3]) (rest := []) (lenOf own_f23 rfl) rfl (by show 2 * 0 + _ ≤ _; exact Nat.le_of_eq rfl) (hb hby own_f24) (by decide) (by decide) ⟨rfl, by rw [hd2]; exact (Jvm.Free.Fl.i2d_fin _).noNaN, by rw [hd3]; exact (Jvm.Free.Fl.i2d_fin _).noNaN⟩ (by rw [hd2, hd3, own_mx])
  refine Go.step st4 ?_
  show Go p e below _ T4 (mkF m 13 #[.val (.ref a1), .val (.double d1), .second, .val (.double d2), .second, .val (.double d3), .second] [(.double (FP.i2d (own_max p' c')))])
  refine Go.step (fun _ k => XS.goto X4.here hx rfl (pc0 := 13) (pc' := 26) rfl (hb hby own_f25) (by decide) (by decide) k) ?_
  show Go p e below _ T4 (mkF m 26 #[.val (.ref a1), .val (.double d1), .second, .val (.double d2), .second, .val (.double d3), .second] [(.double (FP.i2d (own_max p' c')))])
  obtain ⟨fs, hr, hrun, hended, hW, hsame⟩ := X4.leave (v := some (.double (FP.i2d (own_max p' c')))) (fun h => by rw [Bd.returns] at h; cases h)
  refine Go.fin (own_retD X4 hx Bd.returns (hb hby own_f19) hr) hrun hended ?_
  refine ⟨_, _, rfl, ?_, ⟨_, rfl⟩, hW, hsame.mono (by decide) (by decide)⟩
  show QM Z a1 d1 d2 d3 p' c' h0 n0 _ T4.heap _
  rw [e4]
  exact ⟨rfl, N0, rfl⟩
theorem own_f26 : parseMethodDescriptor "(DDD)D" = some ⟨[.double, .double, .double], some .double⟩ := by decide +kernel
theorem own_f27 : parseMethodDescriptor "(II)I" = some ⟨[.int, .int], some .int⟩ := by decide +kernel
theorem own_f28 : plainName "com/example/vigilant_crawler/vigilantcrawler/crawl/CombinationCombinePinLaw" = true := by first | (simp [plainName, overriddenIn]; done) | decide +kernel
theorem own_ef_0 (m : MethodId) (i0 : Int32) (i1 : Int32) (i2 : Int32) (i3 : Int32) : entryFrame m #[(.int i0), (.int i1), (.int i2), (.int i3)] maxLocals = mkF m 0 #[.val (.int i0), .val (.int i1), .val (.int i2), .val (.int i3), .unset, .unset, .unset, .unset, .unset, .unset, .unset, .unset, .unset, .unset, .unset] [] := by first | (simp [entryFrame, mkF, argsToLocals, Value.category, maxLocals]; done) | rfl
def Q0 (Z : State) (i0 : Int32) (i1 : Int32) (i2 : Int32) (i3 : Int32) (aW aM : Addr) (h0 : Heap) (n0 : Nat) (v : Option Value) (h : Heap) (L : List Loc) : Prop := v = some (.int 1) ∧ Fr n0 L
set_option maxRecDepth 65536 in
set_option maxHeartbeats 40000000 in
theorem rm0 (l : Launch) (Z : State) (a0 : Array Value) (hw : ∀ d ∈ tables_1, d.before a0 Z = true) (ws : List Jvm.Cond) (i0 : Int32) (i1 : Int32) (i2 : Int32) (i3 : Int32) (aW aM : Addr) (h0 : Heap) (n0 : Nat) (Z0 : n0 ≤ h0.size) (S_WEIGHTED : Sta Z h0 "com/example/vigilant_crawler/vigilantcrawler/crawl/Combination" "WEIGHTED" "Lcom/example/vigilant_crawler/vigilantcrawler/crawl/Combination;" (.ref aW)) (S_MAX : Sta Z h0 "com/example/vigilant_crawler/vigilantcrawler/crawl/Combination" "MAX" "Lcom/example/vigilant_crawler/vigilantcrawler/crawl/Combination;" (.ref aM)) (E_aW : Exa Z h0 aW "com/example/vigilant_crawler/vigilantcrawler/crawl/Combination") (E_aM : Exa Z h0 aM "com/example/vigilant_crawler/vigilantcrawler/crawl/Combination") (hne : aW ≠ aM) :
    MetFree l x (head1 (Jvm.Cond.code x code maxLocals ret :: ws) room_1) (fun a U => a = #[(.int i0), (.int i1), (.int i2), (.int i3)] ∧ Z.Warmed39 U.vm ∧ U.heap = h0) (fun _ _ _ _ _ => True) (fun _ U o U' => ∃ v L, o = .returned v ∧ Q0 Z i0 i1 i2 i3 aW aM h0 n0 v U'.heap L ∧ FrameEnd U o U' L 0 0) := by
  refine MetFree.of_bodySF (plainFor_of_name own_f28) hisR ?_
  intro p e s m args below meth c s₁ Bd hml0 hP hK
  obtain ⟨rfl, hZ, hh⟩ := hP
  have hx := Bd.exec
  have hby := Bd.bytes
  have hml : c.maxLocals = 15 := hml0
  have hown : s.vm.findClass "com/example/vigilant_crawler/vigilantcrawler/crawl/CombinationCombinePinLaw" = some m.cls := findClass_of_methodNamed Bd.named
  have hnm := (name_of_methodNamed Bd.named Bd.method).1
  have X0 : Stand p l e room_1 s m #[(.int i0), (.int i1), (.int i2), (.int i3)] below meth c s₁ [] 0 0 := Stand.of_body Bd
  have e0 : s₁.heap = h0 := by rw [← hh, Bd.state]; rfl
  have N0 := Fr.nil n0
  refine Go.start (own_ef_0 m i0 i1 i2 i3) ?_
  show Go p e below _ s₁ (mkF m 0 #[.val (.int i0), .val (.int i1), .val (.int i2), .val (.int i3), .unset, .unset, .unset, .unset, .unset, .unset, .unset, .unset, .unset, .unset, .unset] [])
  have Zn := Z0
  have K0 : Keep h0 h0 [] := Keep.refl h0 _
  refine Go.step (fun _ k => XS.iloadN X0.here hx rfl (hb hby at_0) rfl k) ?_
  show Go p e below _ s₁ (mkF m 1 #[.val (.int i0), .val (.int i1), .val (.int i2), .val (.int i3), .unset, .unset, .unset, .unset, .unset, .unset, .unset, .unset, .unset, .unset, .unset] [(.int i1)])
  refine Go.step (X0.ldcInt hx hown (mvT hZ (hw _ (List.mem_of_getElem? (i := 0) rfl))) (g := (mkF m 1 #[.val (.int i0), .val (.int i1), .val (.int i2), .val (.int i3), .unset, .unset, .unset, .unset, .unset, .unset, .unset, .unset, .unset, .unset, .unset] [(.int i1)])) rfl (hb hby at_1)) ?_
  show Go p e below _ s₁ (mkF m 3 #[.val (.int i0), .val (.int i1), .val (.int i2), .val (.int i3), .unset, .unset, .unset, .unset, .unset, .unset, .unset, .unset, .unset, .unset, .unset] [(.int (2147483647 : Int32)), (.int i1)])
  refine Go.step (fun _ k => XS.iand X0.here hx rfl (hb hby at_3) rfl k) ?_
  show Go p e below _ s₁ (mkF m 4 #[.val (.int i0), .val (.int i1), .val (.int i2), .val (.int i3), .unset, .unset, .unset, .unset, .unset, .unset, .unset, .unset, .unset, .unset, .unset] [(.int (i1 &&& (2147483647 : Int32)))])
  refine Go.step (fun _ k => XS.sipush X0.here hx rfl (hb hby at_4) k) ?_
  show Go p e below _ s₁ (mkF m 7 #[.val (.int i0), .val (.int i1), .val (.int i2), .val (.int i3), .unset, .unset, .unset, .unset, .unset, .unset, .unset, .unset, .unset, .unset, .unset] [(.int (1025 : Int32)), (.int (i1 &&& (2147483647 : Int32)))])
  refine Go.step (fun _ k => iremM X0 hx rfl (hb hby at_7) rfl (by decide) k) ?_
  show Go p e below _ s₁ (mkF m 8 #[.val (.int i0), .val (.int i1), .val (.int i2), .val (.int i3), .unset, .unset, .unset, .unset, .unset, .unset, .unset, .unset, .unset, .unset, .unset] [(.int ((i1 &&& (2147483647 : Int32)) % (1025 : Int32)))])
  obtain ⟨kk, e_kk⟩ : ∃ z : Int32, z = ((i1 &&& (2147483647 : Int32)) % (1025 : Int32)) := ⟨_, rfl⟩
  rw [← e_kk]
  show Go p e below _ s₁ (mkF m 8 #[.val (.int i0), .val (.int i1), .val (.int i2), .val (.int i3), .unset, .unset, .unset, .unset, .unset, .unset, .unset, .unset, .unset, .unset, .unset] [(.int kk)])
  have bk := own_k i1
  rw [← e_kk] at bk
  refine Go.step (fun _ k => XS.istore X0.here hx rfl (hb hby at_8) rfl (l' := #[.val (.int i0), .val (.int i1), .val (.int i2), .val (.int i3), .val (.int kk), .unset, .unset, .unset, .unset, .unset, .unset, .unset, .unset, .unset, .unset]) rfl k) ?_
  show Go p e below _ s₁ (mkF m 10 #[.val (.int i0), .val (.int i1), .val (.int i2), .val (.int i3), .val (.int kk), .unset, .unset, .unset, .unset, .unset, .unset, .unset, .unset, .unset, .unset] [])
  refine Go.step (fun _ k => XS.iload X0.here hx rfl (hb hby at_10) rfl k) ?_
  show Go p e below _ s₁ (mkF m 12 #[.val (.int i0), .val (.int i1), .val (.int i2), .val (.int i3), .val (.int kk), .unset, .unset, .unset, .unset, .unset, .unset, .unset, .unset, .unset, .unset] [(.int kk)])
  obtain ⟨fk, e_fk⟩ : ∃ z : UInt64, z = FP.i2d kk := ⟨_, rfl⟩
  have J_fk : own_Is fk kk.toInt 0 := by rw [e_fk]; exact own_Is.i2d _
  refine Go.step (fun _ k => XS.i2dS X0.here hx rfl (hb hby at_12) rfl e_fk.symm k) ?_
  show Go p e below _ s₁ (mkF m 13 #[.val (.int i0), .val (.int i1), .val (.int i2), .val (.int i3), .val (.int kk), .unset, .unset, .unset, .unset, .unset, .unset, .unset, .unset, .unset, .unset] [(.double fk)])
  refine Go.step (X0.ldc2DoubleC hx hown (mvT hZ (hw _ (List.mem_of_getElem? (i := 1) rfl))) (g := (mkF m 13 #[.val (.int i0), .val (.int i1), .val (.int i2), .val (.int i3), .val (.int kk), .unset, .unset, .unset, .unset, .unset, .unset, .unset, .unset, .unset, .unset] [(.double fk)])) rfl (hb hby at_13)) ?_
  show Go p e below _ s₁ (mkF m 16 #[.val (.int i0), .val (.int i1), .val (.int i2), .val (.int i3), .val (.int kk), .unset, .unset, .unset, .unset, .unset, .unset, .unset, .unset, .unset, .unset] [(.double (4652218415073722368 : UInt64)), (.double fk)])
  obtain ⟨beta, e_beta⟩ : ∃ z : UInt64, z = FP.ddiv fk (4652218415073722368 : UInt64) := ⟨_, rfl⟩
  have J_beta : own_Is beta kk.toInt 10 := by rw [e_beta]; exact own_Is.div2 (t := 10) J_fk own_c1024 (by omega) (by decide)
  refine Go.step (fun _ k => XS.ddivS X0.here hx rfl (hb hby at_16) rfl (by rw [← e_beta]; exact J_beta.nn) e_beta.symm k) ?_
  show Go p e below _ s₁ (mkF m 17 #[.val (.int i0), .val (.int i1), .val (.int i2), .val (.int i3), .val (.int kk), .unset, .unset, .unset, .unset, .unset, .unset, .unset, .unset, .unset, .unset] [(.double beta)])
  refine Go.step (fun _ k => XS.dstore X0.here hx rfl (hb hby at_17) rfl (l' := #[.val (.int i0), .val (.int i1), .val (.int i2), .val (.int i3), .val (.int kk), .val (.double beta), .second, .unset, .unset, .unset, .unset, .unset, .unset, .unset, .unset]) rfl k) ?_
  show Go p e below _ s₁ (mkF m 19 #[.val (.int i0), .val (.int i1), .val (.int i2), .val (.int i3), .val (.int kk), .val (.double beta), .second, .unset, .unset, .unset, .unset, .unset, .unset, .unset, .unset] [])
  refine Go.step (fun _ k => XS.iloadN X0.here hx rfl (hb hby at_19) rfl k) ?_
  show Go p e below _ s₁ (mkF m 20 #[.val (.int i0), .val (.int i1), .val (.int i2), .val (.int i3), .val (.int kk), .val (.double beta), .second, .unset, .unset, .unset, .unset, .unset, .unset, .unset, .unset] [(.int i2)])
  obtain ⟨fp, e_fp⟩ : ∃ z : UInt64, z = FP.i2d i2 := ⟨_, rfl⟩
  have J_fp : own_Is fp i2.toInt 0 := by rw [e_fp]; exact own_Is.i2d _
  refine Go.step (fun _ k => XS.i2dS X0.here hx rfl (hb hby at_20) rfl e_fp.symm k) ?_
  show Go p e below _ s₁ (mkF m 21 #[.val (.int i0), .val (.int i1), .val (.int i2), .val (.int i3), .val (.int kk), .val (.double beta), .second, .unset, .unset, .unset, .unset, .unset, .unset, .unset, .unset] [(.double fp)])
  refine Go.step (fun _ k => XS.dstore X0.here hx rfl (hb hby at_21) rfl (l' := #[.val (.int i0), .val (.int i1), .val (.int i2), .val (.int i3), .val (.int kk), .val (.double beta), .second, .val (.double fp), .second, .unset, .unset, .unset, .unset, .unset, .unset]) rfl k) ?_
  show Go p e below _ s₁ (mkF m 23 #[.val (.int i0), .val (.int i1), .val (.int i2), .val (.int i3), .val (.int kk), .val (.double beta), .second, .val (.double fp), .second, .unset, .unset, .unset, .unset, .unset, .unset] [])
  refine Go.step (fun _ k => XS.iloadN X0.here hx rfl (hb hby at_23) rfl k) ?_
  show Go p e below _ s₁ (mkF m 24 #[.val (.int i0), .val (.int i1), .val (.int i2), .val (.int i3), .val (.int kk), .val (.double beta), .second, .val (.double fp), .second, .unset, .unset, .unset, .unset, .unset, .unset] [(.int i3)])
  obtain ⟨fc, e_fc⟩ : ∃ z : UInt64, z = FP.i2d i3 := ⟨_, rfl⟩
  have J_fc : own_Is fc i3.toInt 0 := by rw [e_fc]; exact own_Is.i2d _
  refine Go.step (fun _ k => XS.i2dS X0.here hx rfl (hb hby at_24) rfl e_fc.symm k) ?_
  show Go p e below _ s₁ (mkF m 25 #[.val (.int i0), .val (.int i1), .val (.int i2), .val (.int i3), .val (.int kk), .val (.double beta), .second, .val (.double fp), .second, .unset, .unset, .unset, .unset, .unset, .unset] [(.double fc)])
  refine Go.step (fun _ k => XS.dstore X0.here hx rfl (hb hby at_25) rfl (l' := #[.val (.int i0), .val (.int i1), .val (.int i2), .val (.int i3), .val (.int kk), .val (.double beta), .second, .val (.double fp), .second, .val (.double fc), .second, .unset, .unset, .unset, .unset]) rfl k) ?_
  show Go p e below _ s₁ (mkF m 27 #[.val (.int i0), .val (.int i1), .val (.int i2), .val (.int i3), .val (.int kk), .val (.double beta), .second, .val (.double fp), .second, .val (.double fc), .second, .unset, .unset, .unset, .unset] [])
  refine Go.step (fun _ k => XS.iloadN X0.here hx rfl (hb hby at_27) rfl k) ?_
  show Go p e below _ s₁ (mkF m 28 #[.val (.int i0), .val (.int i1), .val (.int i2), .val (.int i3), .val (.int kk), .val (.double beta), .second, .val (.double fp), .second, .val (.double fc), .second, .unset, .unset, .unset, .unset] [(.int i0)])
  refine Go.step (fun _ k => XS.iconst X0.here hx rfl (hb hby at_28) k) ?_
  show Go p e below _ s₁ (mkF m 29 #[.val (.int i0), .val (.int i1), .val (.int i2), .val (.int i3), .val (.int kk), .val (.double beta), .second, .val (.double fp), .second, .val (.double fc), .second, .unset, .unset, .unset, .unset] [(.int (1 : Int32)), (.int i0)])
  refine Go.step (fun _ k => XS.iand X0.here hx rfl (hb hby at_29) rfl k) ?_
  show Go p e below _ s₁ (mkF m 30 #[.val (.int i0), .val (.int i1), .val (.int i2), .val (.int i3), .val (.int kk), .val (.double beta), .second, .val (.double fp), .second, .val (.double fc), .second, .unset, .unset, .unset, .unset] [(.int (i0 &&& (1 : Int32)))])
  by_cases hc30_5 : (i0 &&& (1 : Int32)) = (0 : Int32)
  · show Go p e below _ s₁ (mkF m 30 #[.val (.int i0), .val (.int i1), .val (.int i2), .val (.int i3), .val (.int kk), .val (.double beta), .second, .val (.double fp), .second, .val (.double fc), .second, .unset, .unset, .unset, .unset] [(.int (i0 &&& (1 : Int32)))])
    refine Go.step (fun _ k => XS.ifYes X0.here hx rfl (pc0 := 30) (pc' := 65) rfl (hb hby at_30) rfl ((if0 _ _).trans (teq hc30_5).1) (by decide) (by decide) k) ?_
    show Go p e below _ s₁ (mkF m 65 #[.val (.int i0), .val (.int i1), .val (.int i2), .val (.int i3), .val (.int kk), .val (.double beta), .second, .val (.double fp), .second, .val (.double fc), .second, .unset, .unset, .unset, .unset] [])
    obtain ⟨T6, X6, e6, st6⟩ := getS2 X0 hx hZ hown (host := "") (Or.inl (hw _ (List.mem_of_getElem? (i := 2) rfl))) Via.refl e0 S_WEIGHTED (g := (mkF m 65 #[.val (.int i0), .val (.int i1), .val (.int i2), .val (.int i3), .val (.int kk), .val (.double beta), .second, .val (.double fp), .second, .val (.double fc), .second, .unset, .unset, .unset, .unset] [])) rfl (hb hby at_65)
    refine Go.step st6 ?_
    show Go p e below _ T6 (mkF m 68 #[.val (.int i0), .val (.int i1), .val (.int i2), .val (.int i3), .val (.int kk), .val (.double beta), .second, .val (.double fp), .second, .val (.double fc), .second, .unset, .unset, .unset, .unset] [(.ref aW)])
    refine Go.step (fun _ k => XS.dload X6.here hx rfl (hb hby at_68) rfl k) ?_
    show Go p e below _ T6 (mkF m 70 #[.val (.int i0), .val (.int i1), .val (.int i2), .val (.int i3), .val (.int kk), .val (.double beta), .second, .val (.double fp), .second, .val (.double fc), .second, .unset, .unset, .unset, .unset] [(.double beta), (.ref aW)])
    refine Go.step (fun _ k => XS.dload X6.here hx rfl (hb hby at_70) rfl k) ?_
    show Go p e below _ T6 (mkF m 72 #[.val (.int i0), .val (.int i1), .val (.int i2), .val (.int i3), .val (.int kk), .val (.double beta), .second, .val (.double fp), .second, .val (.double fc), .second, .unset, .unset, .unset, .unset] [(.double fp), (.double beta), (.ref aW)])
    refine Go.step (fun _ k => XS.dload X6.here hx rfl (hb hby at_72) rfl k) ?_
    show Go p e below _ T6 (mkF m 74 #[.val (.int i0), .val (.int i1), .val (.int i2), .val (.int i3), .val (.int kk), .val (.double beta), .second, .val (.double fp), .second, .val (.double fc), .second, .unset, .unset, .unset, .unset] [(.double fc), (.double fp), (.double beta), (.ref aW)])
    obtain ⟨cq7, kq7, q7a, q7b, q7c⟩ := isOf hZ e6 E_aW
    obtain ⟨_, _, ⟨T7, L7, k7, n7⟩, -, X7, ⟨Lc7, hQ7, l7, y7, z7⟩, st7⟩ := X6.virtualBack hx (y := (⟨"com/example/vigilant_crawler/vigilantcrawler/crawl/Combination", "combine", "(DDD)D"⟩ : MethodName)) (z := (⟨"com/example/vigilant_crawler/vigilantcrawler/crawl/Combination", "combine", "(DDD)D"⟩ : MethodName)) hown (mvT hZ (hw _ (List.mem_of_getElem? (i := 5) rfl))) (mvT hZ (hw _ (List.mem_of_getElem? (i := 6) rfl))) (notFace_of_selects (args := #[]) (mvT hZ (hw _ (List.mem_of_getElem? (i := 8) rfl)))) (mvT hZ (hw _ (List.mem_of_getElem? (i := 8) rfl))) (mvT hZ (hw _ (List.mem_of_getElem? (i := 7) rfl))) (by decide) (backOf (W := 0) (rmW l Z a0 hw [] aW beta fp fc aM kk.toInt i2.toInt i3.toInt h0 n0 Zn S_MAX hne J_beta J_fp J_fc bk.1 bk.2 (own_i32 _) (own_i32 _)) hZ (hw _ (List.mem_of_getElem? (i := 9) rfl)) (hw _ (List.mem_of_getElem? (i := 3) rfl)) (by decide) (by decide)) q7a q7c (g := (mkF m 74 #[.val (.int i0), .val (.int i1), .val (.int i2), .val (.int i3), .val (.int kk), .val (.double beta), .second, .val (.double fp), .second, .val (.double fc), .second, .unset, .unset, .unset, .unset] [(.double fc), (.double fp), (.double beta), (.ref aW)])) rfl (by rw [hml]; rfl) (Steps.refl _) (argsL := [(.double beta), (.double fp), (.double fc)]) (rest := []) (lenOf own_f26 rfl) rfl (by show 2 * 0 + _ ≤ _; exact Nat.le_of_eq rfl) (hb hby at_74) (fun _ _ => ⟨rfl, e6, (by dsimp only [Pt.cells, Pt.slots]; decide), (by dsimp only [Pt.cells, Pt.slots]; decide)⟩)
    dsimp only [Pt.U, Pt.locs, Pt.cells, Pt.slots] at X7 l7 y7 z7 st7 hQ7
    subst l7 y7 z7
    obtain ⟨rr, rfl, N7q, e7, J_rr⟩ := hQ7
    have N7 := Fr.app N0 N7q
    refine Go.step (fun _ k => st7.trans k) ?_
    show Go p e below _ T7 (mkF m 77 #[.val (.int i0), .val (.int i1), .val (.int i2), .val (.int i3), .val (.int kk), .val (.double beta), .second, .val (.double fp), .second, .val (.double fc), .second, .unset, .unset, .unset, .unset] [(.double rr)])
    refine Go.step (fun _ k => XS.dstore X7.here hx rfl (hb hby at_77) rfl (l' := #[.val (.int i0), .val (.int i1), .val (.int i2), .val (.int i3), .val (.int kk), .val (.double beta), .second, .val (.double fp), .second, .val (.double fc), .second, .val (.double rr), .second, .unset, .unset]) rfl k) ?_
    show Go p e below _ T7 (mkF m 79 #[.val (.int i0), .val (.int i1), .val (.int i2), .val (.int i3), .val (.int kk), .val (.double beta), .second, .val (.double fp), .second, .val (.double fc), .second, .val (.double rr), .second, .unset, .unset] [])
    refine Go.step (fun _ k => XS.iload X7.here hx rfl (hb hby at_79) rfl k) ?_
    show Go p e below _ T7 (mkF m 81 #[.val (.int i0), .val (.int i1), .val (.int i2), .val (.int i3), .val (.int kk), .val (.double beta), .second, .val (.double fp), .second, .val (.double fc), .second, .val (.double rr), .second, .unset, .unset] [(.int kk)])
    refine Go.step (fun _ k => XS.i2l X7.here hx rfl (hb hby at_81) rfl k) ?_
    show Go p e below _ T7 (mkF m 82 #[.val (.int i0), .val (.int i1), .val (.int i2), .val (.int i3), .val (.int kk), .val (.double beta), .second, .val (.double fp), .second, .val (.double fc), .second, .val (.double rr), .second, .unset, .unset] [(.long (kk.toInt64))])
    refine Go.step (fun _ k => XS.iloadN X7.here hx rfl (hb hby at_82) rfl k) ?_
    show Go p e below _ T7 (mkF m 83 #[.val (.int i0), .val (.int i1), .val (.int i2), .val (.int i3), .val (.int kk), .val (.double beta), .second, .val (.double fp), .second, .val (.double fc), .second, .val (.double rr), .second, .unset, .unset] [(.int i2), (.long (kk.toInt64))])
    refine Go.step (fun _ k => XS.i2l X7.here hx rfl (hb hby at_83) rfl k) ?_
    show Go p e below _ T7 (mkF m 84 #[.val (.int i0), .val (.int i1), .val (.int i2), .val (.int i3), .val (.int kk), .val (.double beta), .second, .val (.double fp), .second, .val (.double fc), .second, .val (.double rr), .second, .unset, .unset] [(.long (i2.toInt64)), (.long (kk.toInt64))])
    refine Go.step (fun _ k => XS.lmul X7.here hx rfl (hb hby at_84) rfl k) ?_
    show Go p e below _ T7 (mkF m 85 #[.val (.int i0), .val (.int i1), .val (.int i2), .val (.int i3), .val (.int kk), .val (.double beta), .second, .val (.double fp), .second, .val (.double fc), .second, .val (.double rr), .second, .unset, .unset] [(.long ((kk.toInt64) * (i2.toInt64)))])
    refine Go.step (fun _ k => XS.sipush X7.here hx rfl (hb hby at_85) k) ?_
    show Go p e below _ T7 (mkF m 88 #[.val (.int i0), .val (.int i1), .val (.int i2), .val (.int i3), .val (.int kk), .val (.double beta), .second, .val (.double fp), .second, .val (.double fc), .second, .val (.double rr), .second, .unset, .unset] [(.int (1024 : Int32)), (.long ((kk.toInt64) * (i2.toInt64)))])
    refine Go.step (fun _ k => XS.iload X7.here hx rfl (hb hby at_88) rfl k) ?_
    show Go p e below _ T7 (mkF m 90 #[.val (.int i0), .val (.int i1), .val (.int i2), .val (.int i3), .val (.int kk), .val (.double beta), .second, .val (.double fp), .second, .val (.double fc), .second, .val (.double rr), .second, .unset, .unset] [(.int kk), (.int (1024 : Int32)), (.long ((kk.toInt64) * (i2.toInt64)))])
    refine Go.step (fun _ k => XS.isub X7.here hx rfl (hb hby at_90) rfl k) ?_
    show Go p e below _ T7 (mkF m 91 #[.val (.int i0), .val (.int i1), .val (.int i2), .val (.int i3), .val (.int kk), .val (.double beta), .second, .val (.double fp), .second, .val (.double fc), .second, .val (.double rr), .second, .unset, .unset] [(.int ((1024 : Int32) - kk)), (.long ((kk.toInt64) * (i2.toInt64)))])
    refine Go.step (fun _ k => XS.i2l X7.here hx rfl (hb hby at_91) rfl k) ?_
    show Go p e below _ T7 (mkF m 92 #[.val (.int i0), .val (.int i1), .val (.int i2), .val (.int i3), .val (.int kk), .val (.double beta), .second, .val (.double fp), .second, .val (.double fc), .second, .val (.double rr), .second, .unset, .unset] [(.long (((1024 : Int32) - kk).toInt64)), (.long ((kk.toInt64) * (i2.toInt64)))])
    refine Go.step (fun _ k => XS.iloadN X7.here hx rfl (hb hby at_92) rfl k) ?_
    show Go p e below _ T7 (mkF m 93 #[.val (.int i0), .val (.int i1), .val (.int i2), .val (.int i3), .val (.int kk), .val (.double beta), .second, .val (.double fp), .second, .val (.double fc), .second, .val (.double rr), .second, .unset, .unset] [(.int i3), (.long (((1024 : Int32) - kk).toInt64)), (.long ((kk.toInt64) * (i2.toInt64)))])
    refine Go.step (fun _ k => XS.i2l X7.here hx rfl (hb hby at_93) rfl k) ?_
    show Go p e below _ T7 (mkF m 94 #[.val (.int i0), .val (.int i1), .val (.int i2), .val (.int i3), .val (.int kk), .val (.double beta), .second, .val (.double fp), .second, .val (.double fc), .second, .val (.double rr), .second, .unset, .unset] [(.long (i3.toInt64)), (.long (((1024 : Int32) - kk).toInt64)), (.long ((kk.toInt64) * (i2.toInt64)))])
    refine Go.step (fun _ k => XS.lmul X7.here hx rfl (hb hby at_94) rfl k) ?_
    show Go p e below _ T7 (mkF m 95 #[.val (.int i0), .val (.int i1), .val (.int i2), .val (.int i3), .val (.int kk), .val (.double beta), .second, .val (.double fp), .second, .val (.double fc), .second, .val (.double rr), .second, .unset, .unset] [(.long ((((1024 : Int32) - kk).toInt64) * (i3.toInt64))), (.long ((kk.toInt64) * (i2.toInt64)))])
    refine Go.step (fun _ k => XS.ladd X7.here hx rfl (hb hby at_95) rfl k) ?_
    show Go p e below _ T7 (mkF m 96 #[.val (.int i0), .val (.int i1), .val (.int i2), .val (.int i3), .val (.int kk), .val (.double beta), .second, .val (.double fp), .second, .val (.double fc), .second, .val (.double rr), .second, .unset, .unset] [(.long (((kk.toInt64) * (i2.toInt64)) + ((((1024 : Int32) - kk).toInt64) * (i3.toInt64))))])
    refine Go.step (fun _ k => XS.lstore X7.here hx rfl (hb hby at_96) rfl (l' := #[.val (.int i0), .val (.int i1), .val (.int i2), .val (.int i3), .val (.int kk), .val (.double beta), .second, .val (.double fp), .second, .val (.double fc), .second, .val (.double rr), .second, .val (.long (((kk.toInt64) * (i2.toInt64)) + ((((1024 : Int32) - kk).toInt64) * (i3.toInt64)))), .second]) rfl k) ?_
    show Go p e below _ T7 (mkF m 98 #[.val (.int i0), .val (.int i1), .val (.int i2), .val (.int i3), .val (.int kk), .val (.double beta), .second, .val (.double fp), .second, .val (.double fc), .second, .val (.double rr), .second, .val (.long (((kk.toInt64) * (i2.toInt64)) + ((((1024 : Int32) - kk).toInt64) * (i3.toInt64)))), .second] [])
    refine Go.step (fun _ k => XS.dload X7.here hx rfl (hb hby at_98) rfl k) ?_
    show Go p e below _ T7 (mkF m 100 #[.val (.int i0), .val (.int i1), .val (.int i2), .val (.int i3), .val (.int kk), .val (.double beta), .second, .val (.double fp), .second, .val (.double fc), .second, .val (.double rr), .second, .val (.long (((kk.toInt64) * (i2.toInt64)) + ((((1024 : Int32) - kk).toInt64) * (i3.toInt64)))), .second] [(.double rr)])
    refine Go.step (X7.ldc2DoubleC hx hown (mvT hZ (hw _ (List.mem_of_getElem? (i := 1) rfl))) (g := (mkF m 100 #[.val (.int i0), .val (.int i1), .val (.int i2), .val (.int i3), .val (.int kk), .val (.double beta), .second, .val (.double fp), .second, .val (.double fc), .second, .val (.double rr), .second, .val (.long (((kk.toInt64) * (i2.toInt64)) + ((((1024 : Int32) - kk).toInt64) * (i3.toInt64)))), .second] [(.double rr)])) rfl (hb hby at_100)) ?_
    show Go p e below _ T7 (mkF m 103 #[.val (.int i0), .val (.int i1), .val (.int i2), .val (.int i3), .val (.int kk), .val (.double beta), .second, .val (.double fp), .second, .val (.double fc), .second, .val (.double rr), .second, .val (.long (((kk.toInt64) * (i2.toInt64)) + ((((1024 : Int32) - kk).toInt64) * (i3.toInt64)))), .second] [(.double (4652218415073722368 : UInt64)), (.double rr)])
    obtain ⟨r2, e_r2⟩ : ∃ z : UInt64, z = FP.dmul rr (4652218415073722368 : UInt64) := ⟨_, rfl⟩
    have J_r2 : own_Is r2 ((kk.toInt * i2.toInt + (1024 - kk.toInt) * i3.toInt) * 1024) 10 := by rw [e_r2]; exact own_Is.mul J_rr own_c1024' (by have := own_wsum bk.1 bk.2 (own_i32 i2) (own_i32 i3); omega) (by decide)
    refine Go.step (fun _ k => XS.dmulS X7.here hx rfl (hb hby at_103) rfl (by rw [← e_r2]; exact J_r2.nn) e_r2.symm k) ?_
    show Go p e below _ T7 (mkF m 104 #[.val (.int i0), .val (.int i1), .val (.int i2), .val (.int i3), .val (.int kk), .val (.double beta), .second, .val (.double fp), .second, .val (.double fc), .second, .val (.double rr), .second, .val (.long (((kk.toInt64) * (i2.toInt64)) + ((((1024 : Int32) - kk).toInt64) * (i3.toInt64)))), .second] [(.double r2)])
    refine Go.step (fun _ k => XS.lload X7.here hx rfl (hb hby at_104) rfl k) ?_
    show Go p e below _ T7 (mkF m 106 #[.val (.int i0), .val (.int i1), .val (.int i2), .val (.int i3), .val (.int kk), .val (.double beta), .second, .val (.double fp), .second, .val (.double fc), .second, .val (.double rr), .second, .val (.long (((kk.toInt64) * (i2.toInt64)) + ((((1024 : Int32) - kk).toInt64) * (i3.toInt64)))), .second] [(.long (((kk.toInt64) * (i2.toInt64)) + ((((1024 : Int32) - kk).toInt64) * (i3.toInt64)))), (.double r2)])
    have hsc := own_scaled i2 i3 bk.1 bk.2
    have hwb := own_wsum bk.1 bk.2 (own_i32 i2) (own_i32 i3)
    obtain ⟨ls, e_ls⟩ : ∃ z : UInt64, z = FP.l2d (((kk.toInt64) * (i2.toInt64)) + ((((1024 : Int32) - kk).toInt64) * (i3.toInt64))) := ⟨_, rfl⟩
    have J_ls : own_Is ls (kk.toInt * i2.toInt + (1024 - kk.toInt) * i3.toInt) 0 := by rw [e_ls]; exact hsc ▸ own_Is.l2d (by rw [hsc]; omega)
    refine Go.step (fun _ k => XS.l2dS X7.here hx rfl (hb hby at_106) rfl e_ls.symm k) ?_
    show Go p e below _ T7 (mkF m 107 #[.val (.int i0), .val (.int i1), .val (.int i2), .val (.int i3), .val (.int kk), .val (.double beta), .second, .val (.double fp), .second, .val (.double fc), .second, .val (.double rr), .second, .val (.long (((kk.toInt64) * (i2.toInt64)) + ((((1024 : Int32) - kk).toInt64) * (i3.toInt64)))), .second] [(.double ls), (.double r2)])
    have J_l10 := own_Is.up J_ls 10 (by decide)
    refine Go.step (fun _ k => XS.dcmpS X7.here hx rfl (hb hby at_107) rfl rfl k) ?_
    show Go p e below _ T7 (mkF m 108 #[.val (.int i0), .val (.int i1), .val (.int i2), .val (.int i3), .val (.int kk), .val (.double beta), .second, .val (.double fp), .second, .val (.double fc), .second, .val (.double rr), .second, .val (.long (((kk.toInt64) * (i2.toInt64)) + ((((1024 : Int32) - kk).toInt64) * (i3.toInt64)))), .second] [(.int (cmpValue (FP.dcmp r2 ls) .l))])
    refine Go.step (fun _ k => XS.ifNo X7.here hx rfl (hb hby at_108) rfl ((if0 _ _).trans (teq ((own_Is.cv J_r2 J_l10 .l).2.2.mpr rfl)).2) k) ?_
    show Go p e below _ T7 (mkF m 111 #[.val (.int i0), .val (.int i1), .val (.int i2), .val (.int i3), .val (.int kk), .val (.double beta), .second, .val (.double fp), .second, .val (.double fc), .second, .val (.double rr), .second, .val (.long (((kk.toInt64) * (i2.toInt64)) + ((((1024 : Int32) - kk).toInt64) * (i3.toInt64)))), .second] [])
    refine Go.step (fun _ k => XS.iconst X7.here hx rfl (hb hby at_111) k) ?_
    show Go p e below _ T7 (mkF m 112 #[.val (.int i0), .val (.int i1), .val (.int i2), .val (.int i3), .val (.int kk), .val (.double beta), .second, .val (.double fp), .second, .val (.double fc), .second, .val (.double rr), .second, .val (.long (((kk.toInt64) * (i2.toInt64)) + ((((1024 : Int32) - kk).toInt64) * (i3.toInt64)))), .second] [(.int (1 : Int32))])
    refine Go.step (fun _ k => XS.goto X7.here hx rfl (pc0 := 112) (pc' := 116) rfl (hb hby at_112) (by decide) (by decide) k) ?_
    show Go p e below _ T7 (mkF m 116 #[.val (.int i0), .val (.int i1), .val (.int i2), .val (.int i3), .val (.int kk), .val (.double beta), .second, .val (.double fp), .second, .val (.double fc), .second, .val (.double rr), .second, .val (.long (((kk.toInt64) * (i2.toInt64)) + ((((1024 : Int32) - kk).toInt64) * (i3.toInt64)))), .second] [(.int (1 : Int32))])
    obtain ⟨fs, hr, hrun, hended, hW, hsame⟩ := X7.leave (v := some (.int (1 : Int32))) (fun h => by rw [Bd.returns] at h; cases h)
    refine Go.fin (retN X7 hx (t := .boolean) Bd.returns (by simp) (hb hby at_116) hr) hrun hended ?_
    refine ⟨_, _, rfl, ?_, ⟨_, rfl⟩, hW, hsame.mono (by decide) (by decide)⟩
    show Q0 Z i0 i1 i2 i3 aW aM h0 n0 _ T7.heap _
    rw [e7]
    exact ⟨rfl, N7⟩
  · show Go p e below _ s₁ (mkF m 30 #[.val (.int i0), .val (.int i1), .val (.int i2), .val (.int i3), .val (.int kk), .val (.double beta), .second, .val (.double fp), .second, .val (.double fc), .second, .unset, .unset, .unset, .unset] [(.int (i0 &&& (1 : Int32)))])
    refine Go.step (fun _ k => XS.ifNo X0.here hx rfl (hb hby at_30) rfl ((if0 _ _).trans (feq hc30_5).1) k) ?_
    show Go p e below _ s₁ (mkF m 33 #[.val (.int i0), .val (.int i1), .val (.int i2), .val (.int i3), .val (.int kk), .val (.double beta), .second, .val (.double fp), .second, .val (.double fc), .second, .unset, .unset, .unset, .unset] [])
    obtain ⟨T8, X8, e8, st8⟩ := getS2 X0 hx hZ hown (host := "") (Or.inl (hw _ (List.mem_of_getElem? (i := 12) rfl))) Via.refl e0 S_MAX (g := (mkF m 33 #[.val (.int i0), .val (.int i1), .val (.int i2), .val (.int i3), .val (.int kk), .val (.double beta), .second, .val (.double fp), .second, .val (.double fc), .second, .unset, .unset, .unset, .unset] [])) rfl (hb hby at_33)
    refine Go.step st8 ?_
    show Go p e below _ T8 (mkF m 36 #[.val (.int i0), .val (.int i1), .val (.int i2), .val (.int i3), .val (.int kk), .val (.double beta), .second, .val (.double fp), .second, .val (.double fc), .second, .unset, .unset, .unset, .unset] [(.ref aM)])
    refine Go.step (fun _ k => XS.dload X8.here hx rfl (hb hby at_36) rfl k) ?_
    show Go p e below _ T8 (mkF m 38 #[.val (.int i0), .val (.int i1), .val (.int i2), .val (.int i3), .val (.int kk), .val (.double beta), .second, .val (.double fp), .second, .val (.double fc), .second, .unset, .unset, .unset, .unset] [(.double beta), (.ref aM)])
    refine Go.step (fun _ k => XS.dload X8.here hx rfl (hb hby at_38) rfl k) ?_
    show Go p e below _ T8 (mkF m 40 #[.val (.int i0), .val (.int i1), .val (.int i2), .val (.int i3), .val (.int kk), .val (.double beta), .second, .val (.double fp), .second, .val (.double fc), .second, .unset, .unset, .unset, .unset] [(.double fp), (.double beta), (.ref aM)])
    refine Go.step (fun _ k => XS.dload X8.here hx rfl (hb hby at_40) rfl k) ?_
    show Go p e below _ T8 (mkF m 42 #[.val (.int i0), .val (.int i1), .val (.int i2), .val (.int i3), .val (.int kk), .val (.double beta), .second, .val (.double fp), .second, .val (.double fc), .second, .unset, .unset, .unset, .unset] [(.double fc), (.double fp), (.double beta), (.ref aM)])
    obtain ⟨cq9, kq9, q9a, q9b, q9c⟩ := isOf hZ e8 E_aM
    obtain ⟨_, _, ⟨T9, L9, k9, n9⟩, -, X9, ⟨Lc9, hQ9, l9, y9, z9⟩, st9⟩ := X8.virtualBack hx (y := (⟨"com/example/vigilant_crawler/vigilantcrawler/crawl/Combination", "combine", "(DDD)D"⟩ : MethodName)) (z := (⟨"com/example/vigilant_crawler/vigilantcrawler/crawl/Combination", "combine", "(DDD)D"⟩ : MethodName)) hown (mvT hZ (hw _ (List.mem_of_getElem? (i := 5) rfl))) (mvT hZ (hw _ (List.mem_of_getElem? (i := 6) rfl))) (notFace_of_selects (args := #[]) (mvT hZ (hw _ (List.mem_of_getElem? (i := 8) rfl)))) (mvT hZ (hw _ (List.mem_of_getElem? (i := 8) rfl))) (mvT hZ (hw _ (List.mem_of_getElem? (i := 7) rfl))) (by decide) (backOf (W := 0) (rmM l Z a0 hw [] aM beta fp fc i2 i3 h0 n0 Zn S_MAX e_fp e_fc) hZ (hw _ (List.mem_of_getElem? (i := 9) rfl)) (hw _ (List.mem_of_getElem? (i := 3) rfl)) (by decide) (by decide)) q9a q9c (g := (mkF m 42 #[.val (.int i0), .val (.int i1), .val (.int i2), .val (.int i3), .val (.int kk), .val (.double beta), .second, .val (.double fp), .second, .val (.double fc), .second, .unset, .unset, .unset, .unset] [(.double fc), (.double fp), (.double beta), (.ref aM)])) rfl (by rw [hml]; rfl) (Steps.refl _) (argsL := [(.double beta), (.double fp), (.double fc)]) (rest := []) (lenOf own_f26 rfl) rfl (by show 2 * 0 + _ ≤ _; exact Nat.le_of_eq rfl) (hb hby at_42) (fun _ _ => ⟨rfl, e8, (by dsimp only [Pt.cells, Pt.slots]; decide), (by dsimp only [Pt.cells, Pt.slots]; decide)⟩)
    dsimp only [Pt.U, Pt.locs, Pt.cells, Pt.slots] at X9 l9 y9 z9 st9 hQ9
    subst l9 y9 z9
    obtain ⟨rfl, N9q, e9⟩ := hQ9
    have N9 := Fr.app N0 N9q
    refine Go.step (fun _ k => st9.trans k) ?_
    show Go p e below _ T9 (mkF m 45 #[.val (.int i0), .val (.int i1), .val (.int i2), .val (.int i3), .val (.int kk), .val (.double beta), .second, .val (.double fp), .second, .val (.double fc), .second, .unset, .unset, .unset, .unset] [(.double (FP.i2d (own_max i2 i3)))])
    refine Go.step (fun _ k => XS.dstore X9.here hx rfl (hb hby at_45) rfl (l' := #[.val (.int i0), .val (.int i1), .val (.int i2), .val (.int i3), .val (.int kk), .val (.double beta), .second, .val (.double fp), .second, .val (.double fc), .second, .val (.double (FP.i2d (own_max i2 i3))), .second, .unset, .unset]) rfl k) ?_
    show Go p e below _ T9 (mkF m 47 #[.val (.int i0), .val (.int i1), .val (.int i2), .val (.int i3), .val (.int kk), .val (.double beta), .second, .val (.double fp), .second, .val (.double fc), .second, .val (.double (FP.i2d (own_max i2 i3))), .second, .unset, .unset] [])
    refine Go.step (fun _ k => XS.dload X9.here hx rfl (hb hby at_47) rfl k) ?_
    show Go p e below _ T9 (mkF m 49 #[.val (.int i0), .val (.int i1), .val (.int i2), .val (.int i3), .val (.int kk), .val (.double beta), .second, .val (.double fp), .second, .val (.double fc), .second, .val (.double (FP.i2d (own_max i2 i3))), .second, .unset, .unset] [(.double (FP.i2d (own_max i2 i3)))])
    refine Go.step (fun _ k => XS.iloadN X9.here hx rfl (hb hby at_49) rfl k) ?_
    show Go p e below _ T9 (mkF m 50 #[.val (.int i0), .val (.int i1), .val (.int i2), .val (.int i3), .val (.int kk), .val (.double beta), .second, .val (.double fp), .second, .val (.double fc), .second, .val (.double (FP.i2d (own_max i2 i3))), .second, .unset, .unset] [(.int i2), (.double (FP.i2d (own_max i2 i3)))])
    refine Go.step (fun _ k => XS.iloadN X9.here hx rfl (hb hby at_50) rfl k) ?_
    show Go p e below _ T9 (mkF m 51 #[.val (.int i0), .val (.int i1), .val (.int i2), .val (.int i3), .val (.int kk), .val (.double beta), .second, .val (.double fp), .second, .val (.double fc), .second, .val (.double (FP.i2d (own_max i2 i3))), .second, .unset, .unset] [(.int i3), (.int i2), (.double (FP.i2d (own_max i2 i3)))])
    obtain ⟨_, _, ⟨T10, L10, k10, n10⟩, -, X10, ⟨Lc10, hQ10, l10, y10, z10⟩, st10⟩ := Jvm.LawKit.callS X9 hx (y := (⟨"java/lang/Math", "max", "(II)I"⟩ : MethodName)) hown (mvT hZ (hw _ (List.mem_of_getElem? (i := 17) rfl))) (mvT hZ (hw _ (List.mem_of_getElem? (i := 18) rfl))) (mvT hZ (hw _ (List.mem_of_getElem? (i := 15) rfl))) (mvT hZ (hw _ (List.mem_of_getElem? (i := 19) rfl))) (by decide) (backOf (W := 2) (rmI l Z a0 hw [] i2 i3 h0 n0 Zn) hZ (hw _ (List.mem_of_getElem? (i := 19) rfl)) (hw _ (List.mem_of_getElem? (i := 15) rfl)) (by decide) (by decide)) (g := (mkF m 51 #[.val (.int i0), .val (.int i1), .val (.int i2), .val (.int i3), .val (.int kk), .val (.double beta), .second, .val (.double fp), .second, .val (.double fc), .second, .val (.double (FP.i2d (own_max i2 i3))), .second, .unset, .unset] [(.int i3), (.int i2), (.double (FP.i2d (own_max i2 i3)))])) rfl (by rw [hml]; rfl) (argsL := [(.int i2), (.int i3)]) (rest := [(.double (FP.i2d (own_max i2 i3)))]) (lenOf own_f27 rfl) rfl (by show 2 * 0 + _ ≤ _; exact Nat.le_of_eq rfl) (hb hby at_51) (fun _ _ => ⟨rfl, e9, (by dsimp only [Pt.cells, Pt.slots]; decide), (by dsimp only [Pt.cells, Pt.slots]; decide)⟩)
    dsimp only [Pt.U, Pt.locs, Pt.cells, Pt.slots] at X10 l10 y10 z10 st10 hQ10
    subst l10 y10 z10
    obtain ⟨rfl, N10q, e10⟩ := hQ10
    have N10 := Fr.app N9 N10q
    refine Go.step (st10) ?_
    show Go p e below _ T10 (mkF m 54 #[.val (.int i0), .val (.int i1), .val (.int i2), .val (.int i3), .val (.int kk), .val (.double beta), .second, .val (.double fp), .second, .val (.double fc), .second, .val (.double (FP.i2d (own_max i2 i3))), .second, .unset, .unset] [(.int (own_max i2 i3)), (.double (FP.i2d (own_max i2 i3)))])
    refine Go.step (fun _ k => XS.i2dS X10.here hx rfl (hb hby at_54) rfl rfl k) ?_
    show Go p e below _ T10 (mkF m 55 #[.val (.int i0), .val (.int i1), .val (.int i2), .val (.int i3), .val (.int kk), .val (.double beta), .second, .val (.double fp), .second, .val (.double fc), .second, .val (.double (FP.i2d (own_max i2 i3))), .second, .unset, .unset] [(.double (FP.i2d (own_max i2 i3))), (.double (FP.i2d (own_max i2 i3)))])
    refine Go.step (fun _ k => XS.dcmpS X10.here hx rfl (hb hby at_55) rfl rfl k) ?_
    show Go p e below _ T10 (mkF m 56 #[.val (.int i0), .val (.int i1), .val (.int i2), .val (.int i3), .val (.int kk), .val (.double beta), .second, .val (.double fp), .second, .val (.double fc), .second, .val (.double (FP.i2d (own_max i2 i3))), .second, .unset, .unset] [(.int (cmpValue (FP.dcmp (FP.i2d (own_max i2 i3)) (FP.i2d (own_max i2 i3))) .l))])
    refine Go.step (fun _ k => XS.ifNo X10.here hx rfl (hb hby at_56) rfl ((if0 _ _).trans (teq (dcmpV_self (Jvm.Free.Fl.i2d_fin _).noNaN .l)).2) k) ?_
    show Go p e below _ T10 (mkF m 59 #[.val (.int i0), .val (.int i1), .val (.int i2), .val (.int i3), .val (.int kk), .val (.double beta), .second, .val (.double fp), .second, .val (.double fc), .second, .val (.double (FP.i2d (own_max i2 i3))), .second, .unset, .unset] [])
    refine Go.step (fun _ k => XS.iconst X10.here hx rfl (hb hby at_59) k) ?_
    show Go p e below _ T10 (mkF m 60 #[.val (.int i0), .val (.int i1), .val (.int i2), .val (.int i3), .val (.int kk), .val (.double beta), .second, .val (.double fp), .second, .val (.double fc), .second, .val (.double (FP.i2d (own_max i2 i3))), .second, .unset, .unset] [(.int (1 : Int32))])
    refine Go.step (fun _ k => XS.goto X10.here hx rfl (pc0 := 60) (pc' := 64) rfl (hb hby at_60) (by decide) (by decide) k) ?_
    show Go p e below _ T10 (mkF m 64 #[.val (.int i0), .val (.int i1), .val (.int i2), .val (.int i3), .val (.int kk), .val (.double beta), .second, .val (.double fp), .second, .val (.double fc), .second, .val (.double (FP.i2d (own_max i2 i3))), .second, .unset, .unset] [(.int (1 : Int32))])
    obtain ⟨fs, hr, hrun, hended, hW, hsame⟩ := X10.leave (v := some (.int (1 : Int32))) (fun h => by rw [Bd.returns] at h; cases h)
    refine Go.fin (retN X10 hx (t := .boolean) Bd.returns (by simp) (hb hby at_64) hr) hrun hended ?_
    refine ⟨_, _, rfl, ?_, ⟨_, rfl⟩, hW, hsame.mono (by decide) (by decide)⟩
    show Q0 Z i0 i1 i2 i3 aW aM h0 n0 _ T10.heap _
    rw [e10]
    exact ⟨rfl, N10⟩
set_option maxRecDepth 65536 in
set_option maxHeartbeats 40000000 in
theorem comes_1 {Post : Tables → Env → Array Value → State → Outcome → State → Prop} (hpost : ∀ tb e args s v u, (limb_1_1.after args s (.returned v) u = true ∧ limb_1_2.after args s (.returned v) u = true ∧ True) → FrameEnd s (.returned v) u (Jvm.fieldLocs frame_1_writes args s ++ Jvm.arrayLocs frame_1_arrays args s ++ Jvm.staticLocs frame_1_statics s) 0 0 → Post tb e args s (.returned v) u) :
    ArmFor flags0 classFile x code maxLocals ret World_1 tables_1 room_1 Calls_1 rest_1 Pre_1 Post := by
  intro l hfl _ _ p e ha hc hk s m args below hf hA hF happ hP
  obtain ⟨hcalls, hrest, hpre⟩ := hP
  obtain ⟨-, -, -, hnamed, -, -, -, hat⟩ := (Spec.applies_iff hf).mp happ
  obtain ⟨hg, hn⟩ := and_e (Cond.before_iff.mp (show (Jvm.Cond.and given_1 narrow_1).before args s = true from hpre))
  obtain ⟨hg1, hg2⟩ := and_e hg
  obtain ⟨hg3, hg4⟩ := and_e hg2
  obtain ⟨hg5, hg6⟩ := and_e hg4
  obtain ⟨hg7, hg8⟩ := and_e hg6
  obtain ⟨w0, w1, w2, w3, rfl⟩ : ∃ w0 w1 w2 w3 : Value, args = #[w0, w1, w2, w3] := by
    have hs : args.size = 4 := by simpa [Cond.value, given_1] using hg1
    obtain ⟨L⟩ := args
    match L, hs with
    | [w0, w1, w2, w3], _ => exact ⟨w0, w1, w2, w3, rfl⟩
  have hw := fun d (hd : d ∈ tables_1) => atoms_spec (ws := Jvm.Cond.code x code maxLocals ret :: tables_1) hat d (List.mem_cons_of_mem _ hd)
  have hfit : Fit s := fun {y c} hc i hi => by
    obtain ⟨ha, rfl⟩ := Array.getElem?_eq_some_iff.mp hc
    have q := List.all_eq_true.mp ((Array.all_eq_true_iff_forall_mem.mp hF) _ (Array.getElem_mem ha)) i (List.mem_range.mpr hi)
    simpa [Array.getElem?_eq_getElem hi] using q
  obtain ⟨i0, ei0⟩ := is_v hg3
  obtain rfl : w0 = (.int i0) := Option.some.inj ei0
  obtain ⟨i1, ei1⟩ := is_v hg5
  obtain rfl : w1 = (.int i1) := Option.some.inj ei1
  obtain ⟨i2, ei2⟩ := is_v hg7
  obtain rfl : w2 = (.int i2) := Option.some.inj ei2
  obtain ⟨i3, ei3⟩ := is_v hg8
  obtain rfl : w3 = (.int i3) := Option.some.inj ei3
  obtain ⟨n1, n23⟩ := and_e (show (narrow_1).value _ s none s [] = some true from hn)
  obtain ⟨n2, n33⟩ := and_e n23
  obtain ⟨n3, n4⟩ := and_e n33
  obtain ⟨aW, evW⟩ := exa_v n1
  obtain ⟨aM, evM⟩ := exa_v n2
  have EW := Exa.start evW n1
  have EM := Exa.start evM n2
  have FW := own_fldI evW n3
  have FM := own_fldI evM n4
  have hne : aW ≠ aM := Fld.ne FW FM (by simp)
  have SW := Sta.start evW (Or.inr ⟨(hw _ (List.mem_of_getElem? (i := 3) rfl)), (hw _ (List.mem_of_getElem? (i := 4) rfl))⟩)
  have SM := Sta.start evM (Or.inr ⟨(hw _ (List.mem_of_getElem? (i := 3) rfl)), (hw _ (List.mem_of_getElem? (i := 11) rfl))⟩)
  obtain ⟨n, o, h1, h2, h3, _, L, rfl, ⟨rfl, N⟩, hq⟩ := rm0 l s _ hw tables_1 i0 i1 i2 i3 aW aM s.heap s.heap.size (Nat.le_refl _) SW SM EW EM hne p e ha hc hk s m _ below hf ((Spec.applies_iff_loose hf).mp happ).1 ⟨rfl, State.Warmed39.refl s, rfl⟩ trivial
  refine ⟨n, _, h1, h2, h3, hpost _ _ _ _ _ _ ⟨Cond.after_iff.mpr rfl, Cond.after_iff.mpr (eq_i res_at (Term.int_eval (1)) rfl), trivial⟩ ⟨hq.1, hq.2.1, (hq.2.2.sift fun y hy => Or.inr (N y hy)).mono (by decide) (by decide)⟩⟩
theorem main_1_1 : Claimed_1_1 := comes_1 fun _ _ _ _ _ _ h hF => ⟨h.1, hF⟩
theorem main_1_2 : Claimed_1_2 := comes_1 fun _ _ _ _ _ _ h hF => ⟨h.2.1, hF⟩
end Jvm.Pilot.@@N@@
namespace Jvm.Pilot.@@N@@
open Jvm Jvm.ClassFile Sem Op Lib Jvm.Free Jvm.Stand Jvm.Pilot.@@N@@.Jvm.D
/-! MADE BY PROGRAM (witnessworld.py) out of the Statement's table words and the real class files: 13 classes; the members and pool entries that the words name. The judged class is class 1, her method 1. -/
namespace start1
open Jvm.ClassFile
def u (s : String) : CpInfo := .utf8 (stringToUtf16 s)
/-- a pool by its gaps: so many unusable entries, then the entry; so many at the end -/
def gap : Nat → List CpInfo → List CpInfo
  | 0, r => r
  | n + 1, r => .unusable :: gap n r
def poolList (es : List (Nat × CpInfo)) (last : Nat) : List CpInfo := es.foldr (fun e r => gap e.1 (e.2 :: r)) (gap last [])
def pool (es : List (Nat × CpInfo)) (last : Nat) : Array CpInfo := ⟨poolList es last⟩
def fileOf (pool : Array CpInfo) (this : Nat) (attrs : Array Attribute := #[]) (ms : Array MethodInfo := #[]) (fl : Nat := 33) (sup : Nat := 0) (ifs : Array Nat := #[]) (fds : Array FieldInfo := #[]) : ClassFile where
  minorVersion := 0
  majorVersion := 65
  constantPool := pool
  accessFlags := fl
  thisClass := this
  superClass := sup
  interfaces := ifs
  fields := fds
  methods := ms
  attributes := attrs
def plain (name : String) (sup : Option ClassId) : Class where
  name := name
  kind := .ordinary
  loader := none
  accessFlags := 33
  super := sup
  interfaces := #[]
  cf := none
  fields := #[]
  methods := #[]
  instanceTypes := #[]
  staticTypes := #[]
  resolved := #[]
  callSites := []
  init := .initialized
  statics := none
  mirror := none

def pool0 : Array CpInfo := pool [(5, u "<init>"), (0, u "()V"), (1, .class_ 10), (1, u "java/lang/Object")] 113

def k0m0 : Method := { name := "<init>", desc := "()V", sig := { parameters := [], returnType := none }, accessFlags := 1, code := none }
/-- java/lang/Object -/
def k0 : Class := { plain "java/lang/Object" none with
  accessFlags := 33
  interfaces := #[]
  cf := some (fileOf pool0 8 #[] #[{ accessFlags := 1, nameIndex := 5, descriptorIndex := 6, attributes := #[] }] 33 0 #[] #[])
  fields := #[]
  methods := #[k0m0]
  instanceTypes := #[]
  staticTypes := #[]
  resolved := Array.replicate 124 none
  statics := none }

def pool1 : Array CpInfo := pool [(2, .class_ 4), (1, u "java/lang/Object"), (0, u "<init>"), (0, u "()V"), (0, .integer 2147483647), (0, .double 4652218415073722368), (1, .fieldref 11 12), (0, .class_ 13), (0, .nameAndType 14 15), (0, u "com/example/vigilant_crawler/vigilantcrawler/crawl/Combination"), (0, u "MAX"), (0, u "Lcom/example/vigilant_crawler/vigilantcrawler/crawl/Combination;"), (0, .methodref 11 17), (0, .nameAndType 18 19), (0, u "combine"), (0, u "(DDD)D"), (0, .methodref 21 22), (0, .class_ 23), (0, .nameAndType 24 25), (0, u "java/lang/Math"), (0, u "max"), (0, u "(II)I"), (0, .fieldref 11 27), (0, .nameAndType 28 15), (0, u "WEIGHTED"), (0, .class_ 30), (0, u "com/example/vigilant_crawler/vigilantcrawler/crawl/CombinationCombinePinLaw"), (2, u "law"), (0, u "(IIII)Z")] 3

def k1m0 : Method := { name := "<init>", desc := "()V", sig := { parameters := [], returnType := none }, accessFlags := 1, code := none }
def k1c1 : Code := { maxStack := 7, maxLocals := 15, code := code, exceptionTable := #[], attributes := #[] }
def k1m1 : Method := { name := "law", desc := "(IIII)Z", sig := { parameters := [.int, .int, .int, .int], returnType := some .boolean }, accessFlags := 9, code := some k1c1 }
/-- com/example/vigilant_crawler/vigilantcrawler/crawl/CombinationCombinePinLaw -/
def k1 : Class := { plain "com/example/vigilant_crawler/vigilantcrawler/crawl/CombinationCombinePinLaw" (some 0) with
  accessFlags := 49
  interfaces := #[]
  cf := some (fileOf pool1 29 #[] #[{ accessFlags := 1, nameIndex := 5, descriptorIndex := 6, attributes := #[] }, { accessFlags := 9, nameIndex := 33, descriptorIndex := 34, attributes := #[] }] 49 2 #[] #[])
  fields := #[]
  methods := #[k1m0, k1m1]
  instanceTypes := #[]
  staticTypes := #[]
  resolved := Array.replicate 38 none
  statics := none }

def pool2 : Array CpInfo := pool [(1, .class_ 2), (0, u "java/lang/constant/Constable"), (0, .class_ 4), (0, u "java/lang/Object")] 6

/-- java/lang/constant/Constable -/
def k2 : Class := { plain "java/lang/constant/Constable" (some 0) with
  accessFlags := 1537
  interfaces := #[]
  cf := some (fileOf pool2 1 #[] #[] 1537 3 #[] #[])
  fields := #[]
  methods := #[]
  instanceTypes := #[]
  staticTypes := #[]
  resolved := Array.replicate 11 none
  statics := none }

def pool3 : Array CpInfo := pool [(1, .class_ 2), (0, u "java/lang/Comparable"), (0, .class_ 4), (0, u "java/lang/Object")] 7

/-- java/lang/Comparable -/
def k3 : Class := { plain "java/lang/Comparable" (some 0) with
  accessFlags := 1537
  interfaces := #[]
  cf := some (fileOf pool3 1 #[] #[] 1537 3 #[] #[])
  fields := #[]
  methods := #[]
  instanceTypes := #[]
  staticTypes := #[]
  resolved := Array.replicate 12 none
  statics := none }

def pool4 : Array CpInfo := pool [(1, .class_ 2), (0, u "java/io/Serializable"), (0, .class_ 4), (0, u "java/lang/Object")] 2

/-- java/io/Serializable -/
def k4 : Class := { plain "java/io/Serializable" (some 0) with
  accessFlags := 1537
  interfaces := #[]
  cf := some (fileOf pool4 1 #[] #[] 1537 3 #[] #[])
  fields := #[]
  methods := #[]
  instanceTypes := #[]
  staticTypes := #[]
  resolved := Array.replicate 7 none
  statics := none }

def pool5 : Array CpInfo := pool [(2, .class_ 4), (1, u "java/lang/Enum"), (0, u "name"), (0, u "Ljava/lang/String;"), (2, u "ordinal"), (0, u "I"), (1, .class_ 14), (1, u "java/lang/Object"), (4, u "hash"), (86, .class_ 108), (1, u "java/lang/Enum$EnumDesc"), (2, .class_ 112), (0, u "java/lang/constant/Constable"), (0, .class_ 114), (0, u "java/lang/Comparable"), (0, .class_ 116), (0, u "java/io/Serializable")] 87

/-- java/lang/Enum -/
def k5 : Class := { plain "java/lang/Enum" (some 0) with
  accessFlags := 1057
  interfaces := #[2, 3, 4]
  cf := some (fileOf pool5 2 #[.nestMembers #[106]] #[] 1057 12 #[111, 113, 115] #[{ accessFlags := 18, nameIndex := 5, descriptorIndex := 6, attributes := #[] }, { accessFlags := 18, nameIndex := 9, descriptorIndex := 10, attributes := #[] }, { accessFlags := 2, nameIndex := 19, descriptorIndex := 10, attributes := #[] }])
  fields := #[{ name := "name", type := (.object "java/lang/String"), accessFlags := 18, slot := 0, constantValue := 0 }, { name := "ordinal", type := .int, accessFlags := 18, slot := 1, constantValue := 0 }, { name := "hash", type := .int, accessFlags := 2, slot := 2, constantValue := 0 }]
  methods := #[]
  instanceTypes := #[(.object "java/lang/String"), .int, .int]
  staticTypes := #[]
  resolved := Array.replicate 204 none
  statics := none }

def pool6 : Array CpInfo := pool [(1, .class_ 2), (0, u "com/example/vigilant_crawler/vigilantcrawler/crawl/Combination"), (2, u "WEIGHTED"), (0, u "Lcom/example/vigilant_crawler/vigilantcrawler/crawl/Combination;"), (0, .fieldref 1 8), (0, .nameAndType 9 6), (0, u "MAX"), (2, u "$VALUES"), (0, u "[Lcom/example/vigilant_crawler/vigilantcrawler/crawl/Combination;"), (6, .class_ 22), (1, u "java/lang/Enum"), (8, u "name"), (0, u "Ljava/lang/String;"), (0, .methodref 34 35), (0, .class_ 36), (0, .nameAndType 37 38), (0, u "java/lang/Math"), (0, u "max"), (0, u "(DD)D"), (19, u "combine"), (0, u "(DDD)D")] 8

def k6c0 : Code := { maxStack := 6, maxLocals := 7, code := prog_1_method_4_code, exceptionTable := #[], attributes := #[] }
def k6m0 : Method := { name := "combine", desc := "(DDD)D", sig := { parameters := [.double, .double, .double], returnType := some .double }, accessFlags := 1, code := some k6c0 }
/-- com/example/vigilant_crawler/vigilantcrawler/crawl/Combination -/
def k6 : Class := { plain "com/example/vigilant_crawler/vigilantcrawler/crawl/Combination" (some 5) with
  accessFlags := 16433
  interfaces := #[]
  cf := some (fileOf pool6 1 #[] #[{ accessFlags := 1, nameIndex := 58, descriptorIndex := 59, attributes := #[] }] 16433 20 #[] #[{ accessFlags := 16409, nameIndex := 5, descriptorIndex := 6, attributes := #[] }, { accessFlags := 16409, nameIndex := 9, descriptorIndex := 6, attributes := #[] }, { accessFlags := 18, nameIndex := 31, descriptorIndex := 32, attributes := #[] }, { accessFlags := 4122, nameIndex := 12, descriptorIndex := 13, attributes := #[] }])
  fields := #[{ name := "WEIGHTED", type := (.object "com/example/vigilant_crawler/vigilantcrawler/crawl/Combination"), accessFlags := 16409, slot := 0, constantValue := 0 }, { name := "MAX", type := (.object "com/example/vigilant_crawler/vigilantcrawler/crawl/Combination"), accessFlags := 16409, slot := 1, constantValue := 0 }, { name := "name", type := (.object "java/lang/String"), accessFlags := 18, slot := 3, constantValue := 0 }, { name := "$VALUES", type := (.array (.object "com/example/vigilant_crawler/vigilantcrawler/crawl/Combination")), accessFlags := 4122, slot := 2, constantValue := 0 }]
  methods := #[k6m0]
  instanceTypes := #[(.object "java/lang/String"), .int, .int, (.object "java/lang/String")]
  staticTypes := #[(.object "com/example/vigilant_crawler/vigilantcrawler/crawl/Combination"), (.object "com/example/vigilant_crawler/vigilantcrawler/crawl/Combination"), (.array (.object "com/example/vigilant_crawler/vigilantcrawler/crawl/Combination"))]
  resolved := Array.replicate 68 none
  statics := some 0 }

def pool7 : Array CpInfo := pool [(1, .class_ 2), (0, u "java/lang/Math"), (1, .class_ 6), (1, u "java/lang/Object"), (0, u "<init>"), (0, u "()V"), (43, u "(DD)D"), (45, .class_ 100), (1, u "java/lang/Math$RandomNumberGeneratorHolder"), (71, u "negativeZeroFloatBits"), (0, u "J"), (2, u "negativeZeroDoubleBits"), (21, u "max"), (46, u "$assertionsDisabled"), (0, u "Z"), (88, u "(II)I"), (2, u "twoToTheDoubleScaleDown"), (0, u "D"), (4, u "twoToTheDoubleScaleUp"), (9, u "E"), (3, u "PI"), (2, u "TAU"), (2, u "DEGREES_TO_RADIANS"), (0, u "RADIANS_TO_DEGREES")] 94

def k7m0 : Method := { name := "<init>", desc := "()V", sig := { parameters := [], returnType := none }, accessFlags := 2, code := none }
def k7c1 : Code := { maxStack := 2, maxLocals := 2, code := jdk_29_method_65_code, exceptionTable := #[], attributes := #[] }
def k7m1 : Method := { name := "max", desc := "(II)I", sig := { parameters := [.int, .int], returnType := some .int }, accessFlags := 9, code := some k7c1 }
def k7c2 : Code := { maxStack := 4, maxLocals := 4, code := jdk_29_method_68_code, exceptionTable := #[], attributes := #[] }
def k7m2 : Method := { name := "max", desc := "(DD)D", sig := { parameters := [.double, .double], returnType := some .double }, accessFlags := 9, code := some k7c2 }
/-- java/lang/Math -/
def k7 : Class := { plain "java/lang/Math" (some 0) with
  accessFlags := 49
  interfaces := #[]
  cf := some (fileOf pool7 1 #[.nestMembers #[98]] #[{ accessFlags := 2, nameIndex := 7, descriptorIndex := 8, attributes := #[] }, { accessFlags := 9, nameIndex := 198, descriptorIndex := 335, attributes := #[] }, { accessFlags := 9, nameIndex := 198, descriptorIndex := 52, attributes := #[] }] 49 4 #[] #[{ accessFlags := 25, nameIndex := 354, descriptorIndex := 339, attributes := #[] }, { accessFlags := 25, nameIndex := 358, descriptorIndex := 339, attributes := #[] }, { accessFlags := 25, nameIndex := 361, descriptorIndex := 339, attributes := #[] }, { accessFlags := 26, nameIndex := 364, descriptorIndex := 339, attributes := #[] }, { accessFlags := 26, nameIndex := 365, descriptorIndex := 339, attributes := #[] }, { accessFlags := 26, nameIndex := 172, descriptorIndex := 173, attributes := #[] }, { accessFlags := 26, nameIndex := 176, descriptorIndex := 173, attributes := #[] }, { accessFlags := 8, nameIndex := 344, descriptorIndex := 339, attributes := #[] }, { accessFlags := 8, nameIndex := 338, descriptorIndex := 339, attributes := #[] }, { accessFlags := 4120, nameIndex := 245, descriptorIndex := 246, attributes := #[] }])
  fields := #[{ name := "E", type := .double, accessFlags := 25, slot := 0, constantValue := 0 }, { name := "PI", type := .double, accessFlags := 25, slot := 1, constantValue := 0 }, { name := "TAU", type := .double, accessFlags := 25, slot := 2, constantValue := 0 }, { name := "DEGREES_TO_RADIANS", type := .double, accessFlags := 26, slot := 3, constantValue := 0 }, { name := "RADIANS_TO_DEGREES", type := .double, accessFlags := 26, slot := 4, constantValue := 0 }, { name := "negativeZeroFloatBits", type := .long, accessFlags := 26, slot := 5, constantValue := 0 }, { name := "negativeZeroDoubleBits", type := .long, accessFlags := 26, slot := 6, constantValue := 0 }, { name := "twoToTheDoubleScaleUp", type := .double, accessFlags := 8, slot := 7, constantValue := 0 }, { name := "twoToTheDoubleScaleDown", type := .double, accessFlags := 8, slot := 8, constantValue := 0 }, { name := "$assertionsDisabled", type := .boolean, accessFlags := 4120, slot := 9, constantValue := 0 }]
  methods := #[k7m0, k7m1, k7m2]
  instanceTypes := #[]
  staticTypes := #[.double, .double, .double, .double, .double, .long, .long, .double, .double, .boolean]
  resolved := Array.replicate 460 none
  statics := none }

def pool8 : Array CpInfo := pool [(1, u "java/lang/Cloneable"), (0, .class_ 1), (0, u "java/lang/Object"), (0, .class_ 3)] 3

/-- java/lang/Cloneable -/
def k8 : Class := { plain "java/lang/Cloneable" (some 0) with
  accessFlags := 1537
  interfaces := #[]
  cf := some (fileOf pool8 2 #[] #[] 1537 4 #[] #[])
  fields := #[]
  methods := #[]
  instanceTypes := #[]
  staticTypes := #[]
  resolved := Array.replicate 8 none
  statics := none }

/-- the primitive byte -/
def k9 : Class := { plain "byte" none with kind := .primitive 'B', accessFlags := 0x411 }
/-- [B -/
def k10 : Class := { plain "[B" (some 0) with kind := .array 9 .byte, interfaces := #[8, 4], accessFlags := 1041 }

/-- the primitive int -/
def k11 : Class := { plain "int" none with kind := .primitive 'I', accessFlags := 0x411 }
/-- [I -/
def k12 : Class := { plain "[I" (some 0) with kind := .array 11 .int, interfaces := #[8, 4], accessFlags := 1041 }

def heap : Heap := #[{ cls := 6, slots := #[.ref 1, .ref 2, .null], vm := .statics 6 },
  { cls := 6, slots := #[.null, .int 0, .int 0, .null], vm := .none },
  { cls := 6, slots := #[.null, .int 1, .int 0, .null], vm := .none }]
def classes : Array Class := #[k0, k1, k2, k3, k4, k5, k6, k7, k8, k9, k10, k11, k12]
def interned : List (Array UInt16 × Addr) := []
def slotsUsed : Nat := 11
def theMethod : MethodId := ⟨1, 1⟩
def args0 : Array Value := #[.int 5, .int 7, .int 3, .int 4]
def aboutOver (below : List Frame) : State where
  vm := { classes := classes, interned := interned.toArray }
  heap := heap
  slotsUsed := slotsUsed
  threads := #[{ frames := .invoking theMethod args0 :: below }]
def below0 : List Frame := [.native { method := ⟨0, 0⟩, args := #[] }]
def about1 : State := aboutOver below0
def p0 : Program := .bare "" "" ""
def e0 : Env := launch0.env 0 0 0
theorem w_frames : about1.frames = Frame.invoking theMethod args0 :: below0 := rfl
set_option maxRecDepth 65536 in
theorem w_args : argsFit about1.vm theMethod args0 = true := by decide +kernel
set_option maxRecDepth 65536 in
theorem w_heap : heapFits about1 = true := by decide +kernel
set_option maxRecDepth 65536 in
theorem w_runnable : about1.curStatus? = some .runnable := by decide +kernel
set_option maxRecDepth 65536 in
theorem w_alone : about1.alone = true := by decide +kernel
set_option maxRecDepth 65536 in
theorem w_named : about1.methodNamed? x = some theMethod := by decide +kernel
set_option maxRecDepth 65536 in
theorem w_hears : about1.hears theMethod below0 = true := by decide +kernel
set_option maxRecDepth 65536 in
theorem w_ripe : about1.ripe theMethod args0 below0 = true := by decide +kernel
theorem w_running : about1.status = .running := rfl
set_option maxRecDepth 65536 in
theorem w_room : about1.hasRoom e0.platform room_1 = true :=
  launch0.hasRoom_least _ room_1 (by decide +kernel) (by decide +kernel) (by decide +kernel) (by decide +kernel) (by decide +kernel) (by decide +kernel)
theorem allAtoms_all (ts : List Jvm.Cond) (a : Array Jvm.Value) (st : Jvm.State) : (allAtoms ts).before a st = ts.all (fun c => c.before a st) := by
  induction ts with
  | nil => rfl
  | cons c t ih =>
    show (Jvm.Cond.and c (allAtoms t)).before a st = _
    rw [Jvm.Cond.before_and, ih, List.all_cons]
def words1 : List Jvm.Cond := Jvm.Cond.code x code maxLocals ret :: tables_1
/-- a 'code' word, met by the world's own term for the bytes: nothing is compared byte by byte -/
theorem code_word {y : MethodName} {bytes : ByteArray} {mx : Nat} {rt : Option FieldType} {a : Array Value} {s : State} {m : MethodId} {meth : Method} {c : Code} (h1 : s.methodNamed? y = some m) (h2 : s.vm.method? m = some meth) (h3 : meth.code = some c) (h4 : c.code = bytes)
    (h5 : (c.maxLocals == mx && c.exceptionTable.isEmpty && decide (c.maxStack ≤ mostOperands) && decide (meth.sig.returnType = rt) && !meth.locks && decide (parseMethodDescriptor y.desc = some meth.sig)) = true) : (Jvm.Cond.code y bytes mx rt).before a s = true := by
  simp only [Bool.and_eq_true, beq_iff_eq, Bool.not_eq_true', decide_eq_true_eq] at h5
  obtain ⟨⟨⟨⟨⟨g1, g2⟩, g3⟩, g4⟩, g5⟩, g6⟩ := h5
  simp [Cond.before, Cond.holds, Cond.value, h1, h2, h3, h4, g1, g2, g3, g4, g5, g6]
def isCode : Jvm.Cond → Bool
  | .code _ _ _ _ => true
  | _ => false
theorem all_split {L : List Jvm.Cond} {P : Jvm.Cond → Bool} (h1 : L.all (fun c => isCode c || P c) = true) (h2 : ∀ c ∈ L.filter isCode, P c = true) : L.all P = true := by
  refine List.all_eq_true.mpr fun c hc => ?_
  have h := List.all_eq_true.mp h1 c hc
  rcases Bool.eq_false_or_eq_true (isCode c) with hi | hi
  · exact h2 c (List.mem_filter.mpr ⟨hc, hi⟩)
  · simpa [hi] using h
set_option maxRecDepth 65536 in
theorem w_c0 : (Jvm.Cond.code x code maxLocals ret).before args0 about1 = true := code_word (m := ⟨1, 1⟩) (meth := k1m1) (c := k1c1) (by decide +kernel) rfl rfl rfl (by decide +kernel)
set_option maxRecDepth 65536 in
theorem w_c1 : (Jvm.Cond.code ({ cls := "com/example/vigilant_crawler/vigilantcrawler/crawl/Combination", name := "combine", desc := "(DDD)D" } : Jvm.MethodName) prog_1_method_4_code (7 : Nat) (Option.some Jvm.ClassFile.FieldType.double)).before args0 about1 = true := code_word (m := ⟨6, 0⟩) (meth := k6m0) (c := k6c0) (by decide +kernel) rfl rfl rfl (by decide +kernel)
set_option maxRecDepth 65536 in
theorem w_c2 : (Jvm.Cond.code ({ cls := "java/lang/Math", name := "max", desc := "(DD)D" } : Jvm.MethodName) jdk_29_method_68_code (4 : Nat) (Option.some Jvm.ClassFile.FieldType.double)).before args0 about1 = true := code_word (m := ⟨7, 2⟩) (meth := k7m2) (c := k7c2) (by decide +kernel) rfl rfl rfl (by decide +kernel)
set_option maxRecDepth 65536 in
theorem w_c3 : (Jvm.Cond.code ({ cls := "java/lang/Math", name := "max", desc := "(II)I" } : Jvm.MethodName) jdk_29_method_65_code (2 : Nat) (Option.some Jvm.ClassFile.FieldType.int)).before args0 about1 = true := code_word (m := ⟨7, 1⟩) (meth := k7m1) (c := k7c1) (by decide +kernel) rfl rfl rfl (by decide +kernel)
def codes1 : List Jvm.Cond := [Jvm.Cond.code x code maxLocals ret, Jvm.Cond.code ({ cls := "com/example/vigilant_crawler/vigilantcrawler/crawl/Combination", name := "combine", desc := "(DDD)D" } : Jvm.MethodName) prog_1_method_4_code (7 : Nat) (Option.some Jvm.ClassFile.FieldType.double), Jvm.Cond.code ({ cls := "java/lang/Math", name := "max", desc := "(DD)D" } : Jvm.MethodName) jdk_29_method_68_code (4 : Nat) (Option.some Jvm.ClassFile.FieldType.double), Jvm.Cond.code ({ cls := "java/lang/Math", name := "max", desc := "(II)I" } : Jvm.MethodName) jdk_29_method_65_code (2 : Nat) (Option.some Jvm.ClassFile.FieldType.int)]
set_option maxRecDepth 65536 in
theorem codes_eq : words1.filter isCode = codes1 := rfl
theorem w_codes : ∀ c ∈ words1.filter isCode, c.before args0 about1 = true := by
  rw [codes_eq]
  intro c hc
  simp only [codes1, List.mem_cons, List.not_mem_nil, or_false] at hc
  rcases hc with rfl | rfl | rfl | rfl
  · exact w_c0
  · exact w_c1
  · exact w_c2
  · exact w_c3
set_option maxRecDepth 65536 in
theorem w_t1 : words1.all (fun c => isCode c || c.before args0 about1) = true := by decide +kernel
theorem w_tables : (allAtoms (Jvm.Cond.code x code maxLocals ret :: tables_1)).before args0 about1 = true := by
  rw [allAtoms_all]
  show words1.all (fun c => c.before args0 about1) = true
  refine all_split ?_ w_codes
  rw [w_t1]
set_option maxRecDepth 65536 in
theorem w_case : (Jvm.Cond.and given_1 narrow_1).before args0 about1 = true := by decide +kernel
theorem w_applies : (headSpec (Jvm.Cond.code x code maxLocals ret :: tables_1) room_1).applies x e0.platform about1 = true :=
  (Spec.applies_iff w_frames).mpr ⟨w_running, w_runnable, w_alone, w_named, w_hears, w_ripe, w_room, w_tables⟩
theorem atStart : AtStart classFile x code maxLocals ret World_1 tables_1 room_1 Calls_1 rest_1 Pre_1 launch0 p0 e0 about1 theMethod args0 below0 :=
  ⟨lists_1, trivial, launch0.admits_env _ _ _, launch0.least_env, fairChoices_fair.cas, fairChoices_fair.clock, w_frames, w_args, w_heap, w_applies, trivial, trivial, w_case⟩
end start1
theorem witness_1 : WitnessClaimed_1 := ⟨start1.p0, start1.e0, start1.about1, start1.theMethod, start1.args0, start1.below0, start1.atStart⟩
end Jvm.Pilot.@@N@@
