import JvmDerived
import JvmDerived.Pilot.@@N@@Statement
import JvmDerived.Pilot.@@N@@Code
set_option linter.unusedVariables false
set_option linter.unusedSimpArgs false
@@BLOCK:NumsL.lean.txt@@
namespace Jvm.RoadKit
open Sem ClassFile Op Lib Jvm.Stand Jvm.Free Jvm.LawKit
/-- from the frame f over T the run ends as R says -/
def Go (p : Program) (e : Env) (below : List Frame) (R : State → Outcome → Prop) (T : State) (f : JFrame) : Prop := ∃ s₂ o, Steps p.tables e below (T.setTop f) s₂ ∧ s₂.status = .running ∧ Ended s₂ below o ∧ R s₂ o
section New
variable {p : Program} {l : Launch} {e : Env} {R : Room} {s : State} {m : MethodId} {args : Array Value} {below : List Frame} {meth : Method} {c : Code} {T T' : State} {locs : List Loc} {cells slots : Nat} {K : State → Outcome → Prop} {f f' : JFrame}
theorem Go.start (q : f = f') (k : Go p e below K T f') : ∃ s₂ o, Steps p.tables e below (T.setTop f) s₂ ∧ s₂.status = .running ∧ Ended s₂ below o ∧ K s₂ o := q ▸ k
theorem Go.step (h : ∀ t, Steps p.tables e below (T'.setTop f') t → Steps p.tables e below (T.setTop f) t) (k : Go p e below K T' f') : Go p e below K T f := by
  obtain ⟨s₂, o, h1, h2⟩ := k
  exact ⟨s₂, o, h _ h1, h2⟩
theorem Go.fin {S2 : State} {o : Outcome} (hs : Steps p.tables e below (T.setTop f) S2) (h1 : S2.status = .running) (h2 : Ended S2 below o) (h3 : K S2 o) : Go p e below K T f := ⟨_, _, hs, h1, h2, h3⟩
theorem retI (X : Stand p l e R s m args below meth c T locs cells slots) (hx : p.tables.exec = Jvm.exec) {pc : Nat} {Ls : Array Slot} {z : Int32} {rest : List Value} (hret : meth.sig.returnType = some .int) (hd : decode c.code pc = .ok (.ireturn, 1)) {fs : List Frame}
    (hl : ∀ (f : JFrame) (acts : List Action), f.method = m → f.locked = none → f.entered = [] → (doReturn e (T.setTop f) acts (some (.int z))).1 = T.setFrames fs) : Steps p.tables e below (T.setTop (mkF m pc Ls (.int z :: rest))) (T.setFrames fs) := by
  have hm' : T.vm.method? m = some meth := X.method'
  have hn : narrow .int (.int z) = .int z := rfl
  show Steps p.tables e below (T.setTop { method := m, pc := pc, locals := Ls, stack := _ :: rest, locked := none }) _
  jvm_step X.here [X.here.top, hx, hd, hm', hret, hn]
  first | (intro acts; rw [hl _ acts rfl rfl rfl]) | rw [hl _ _ rfl rfl rfl]
  exact Steps.refl _
theorem own_retD (X : Stand p l e R s m args below meth c T locs cells slots) (hx : p.tables.exec = Jvm.exec) {pc : Nat} {Ls : Array Slot} {z : UInt64} {rest : List Value} (hret : meth.sig.returnType = some .double) (hd : decode c.code pc = .ok (.dreturn, 1)) {fs : List Frame}
    (hl : ∀ (f : JFrame) (acts : List Action), f.method = m → f.locked = none → f.entered = [] → (doReturn e (T.setTop f) acts (some (.double z))).1 = T.setFrames fs) : Steps p.tables e below (T.setTop (mkF m pc Ls (.double z :: rest))) (T.setFrames fs) := by
  have hm' : T.vm.method? m = some meth := X.method'
  have hn : narrow .double (.double z) = .double z := rfl
  show Steps p.tables e below (T.setTop { method := m, pc := pc, locals := Ls, stack := _ :: rest, locked := none }) _
  jvm_step X.here [X.here.top, hx, hd, hm', hret, hn]
  first | (intro acts; rw [hl _ acts rfl rfl rfl]) | rw [hl _ _ rfl rfl rfl]
  exact Steps.refl _
theorem own_retJ (X : Stand p l e R s m args below meth c T locs cells slots) (hx : p.tables.exec = Jvm.exec) {pc : Nat} {Ls : Array Slot} {z : Int64} {rest : List Value} (hret : meth.sig.returnType = some .long) (hd : decode c.code pc = .ok (.lreturn, 1)) {fs : List Frame}
    (hl : ∀ (f : JFrame) (acts : List Action), f.method = m → f.locked = none → f.entered = [] → (doReturn e (T.setTop f) acts (some (.long z))).1 = T.setFrames fs) : Steps p.tables e below (T.setTop (mkF m pc Ls (.long z :: rest))) (T.setFrames fs) := by
  have hm' : T.vm.method? m = some meth := X.method'
  have hn : narrow .long (.long z) = .long z := rfl
  show Steps p.tables e below (T.setTop { method := m, pc := pc, locals := Ls, stack := _ :: rest, locked := none }) _
  jvm_step X.here [X.here.top, hx, hd, hm', hret, hn]
  first | (intro acts; rw [hl _ acts rfl rfl rfl]) | rw [hl _ _ rfl rfl rfl]
  exact Steps.refl _
end New
end Jvm.RoadKit
namespace Jvm.RoadKit
open Sem Op Jvm.FP Jvm.FP.Core
/-- a double's worth, in units of the least double -/
def own_z (x : UInt64) : Int := zval b64 (val64 x)
theorem own_top : b64.tails * 2 ^ (b64.exps - 2) = 2 ^ 2098 := by decide +kernel
theorem own_fin_z {x : UInt64} (hn : val64 x ≠ .nan) (h : (own_z x).natAbs < 2 ^ 2098) : DFin x := by
  unfold own_z at h
  cases e : val64 x with
  | nan => exact absurd e hn
  | inf s =>
    exfalso
    rw [e] at h
    unfold zval at h
    rw [natAbs_signed] at h
    simp only [zmag] at h
    rw [own_top] at h
    exact Nat.lt_irrefl _ h
  | fin s c q => exact ⟨s, c, q, e⟩
theorem own_z_lt {x : UInt64} (h : DFin x) : (own_z x).natAbs < 2 ^ 2098 := by
  have q := h.zval_lt
  rw [own_top] at q
  unfold own_z zval
  rw [natAbs_signed]
  exact q
theorem own_signed_abs (n : Int) (k : Nat) : signed (decide (n < 0)) (n.natAbs * k) = n * (k : Int) := by
  rw [signed_mul]
  congr 1
  unfold signed
  by_cases h : n < 0 <;> simp [h] <;> omega
theorem own_rep (n : Int) (j : Nat) (hn : n.natAbs < 2 ^ 53) (hj : j ≤ 2045) : ∃ V, DFin V ∧ own_z V = n * ((2 ^ j : Nat) : Int) := by
  have q1 : b64.qmin = -1074 := qmin_b64
  have q2 : b64.qmax = 971 := by decide
  obtain ⟨c', q', h1, h2⟩ := round_exact good_b64 (decide (n < 0)) (c := n.natAbs) (q := (j : Int) - 1074) hn (by omega) (by omega)
  have hf : Core.fits b64 (Datum.fin (decide (n < 0)) c' q') := h1 ▸ round_fits good_b64 _
  refine ⟨of64 (Datum.fin (decide (n < 0)) c' q'), ⟨_, _, _, val64_of64 hf⟩, ?_⟩
  unfold own_z
  rw [val64_of64 hf]
  show signed (decide (n < 0)) (inUnits c' q' b64.qmin) = _
  rw [h2]
  unfold inUnits
  rw [show ((j : Int) - 1074 - b64.qmin).toNat = j by omega]
  exact own_signed_abs n _
theorem own_cmp {a b : UInt64} (ha : DFin a) (hb : DFin b) : FP.dcmp a b = some (compare (own_z a) (own_z b)) := dcmp_zval ha.ne_nan hb.ne_nan
theorem own_add_le {a b V : UInt64} (ha : DFin a) (hb : DFin b) (hV : DFin V) (h : own_z a + own_z b ≤ own_z V) : own_z (FP.dadd a b) ≤ own_z V := by
  show zval b64 (val64 (Core.dadd a b)) ≤ _
  rw [val64_dadd]
  exact sum_le good_b64 ha hb (val64_fits a) (val64_fits b) (val64_fits V) hV.ne_nan h
theorem own_add_ge {a b V : UInt64} (ha : DFin a) (hb : DFin b) (hV : DFin V) (h : own_z V ≤ own_z a + own_z b) : own_z V ≤ own_z (FP.dadd a b) := by
  show _ ≤ zval b64 (val64 (Core.dadd a b))
  rw [val64_dadd]
  exact sum_ge good_b64 ha hb (val64_fits a) (val64_fits b) (val64_fits V) hV.ne_nan h
theorem own_neg_fin {b : UInt64} (hb : DFin b) : ∃ s c q, negate (val64 b) = .fin s c q := by
  obtain ⟨s, c, q, h⟩ := hb
  exact ⟨!s, c, q, by rw [h]; rfl⟩
theorem own_sub_le {a b V : UInt64} (ha : DFin a) (hb : DFin b) (hV : DFin V) (h : own_z a - own_z b ≤ own_z V) : own_z (FP.dsub a b) ≤ own_z V := by
  show zval b64 (val64 (Core.dsub a b)) ≤ _
  rw [val64_dsub]
  refine sum_le good_b64 ha (own_neg_fin hb) (val64_fits a) (negate_fits (val64_fits b)) (val64_fits V) hV.ne_nan ?_
  rw [zval_negate]; exact h
theorem own_sub_ge {a b V : UInt64} (ha : DFin a) (hb : DFin b) (hV : DFin V) (h : own_z V ≤ own_z a - own_z b) : own_z V ≤ own_z (FP.dsub a b) := by
  show _ ≤ zval b64 (val64 (Core.dsub a b))
  rw [val64_dsub]
  refine sum_ge good_b64 ha (own_neg_fin hb) (val64_fits a) (negate_fits (val64_fits b)) (val64_fits V) hV.ne_nan ?_
  rw [zval_negate]; exact h
theorem own_mul_le {a b V : UInt64} (ha : DFin a) (hb : DFin b) (hV : DFin V) (h : own_z a * own_z b ≤ own_z V * ((2 ^ 1074 : Nat) : Int)) : own_z (FP.dmul a b) ≤ own_z V := by
  obtain ⟨s, c, q, e1⟩ := ha
  obtain ⟨t, d, r, e2⟩ := hb
  have f1 := val64_fits a; rw [e1] at f1
  have f2 := val64_fits b; rw [e2] at f2
  obtain ⟨h1, h2, h3⟩ := product_units f1 f2
  have q1 : b64.qmin = -1074 := qmin_b64
  show zval b64 (val64 (Core.dmul a b)) ≤ zval b64 (val64 V)
  rw [val64_dmul, e1, e2, h1]
  refine zval_round_le good_b64 (val64_fits V) hV.ne_nan (e0 := 2 * b64.qmin) (by omega) h2 ?_
  rw [h3, signed_xor, show (b64.qmin - 2 * b64.qmin).toNat = 1074 by omega]
  unfold own_z at h
  rw [e1, e2] at h
  exact h
theorem own_mul_ge {a b V : UInt64} (ha : DFin a) (hb : DFin b) (hV : DFin V) (h : own_z V * ((2 ^ 1074 : Nat) : Int) ≤ own_z a * own_z b) : own_z V ≤ own_z (FP.dmul a b) := by
  obtain ⟨s, c, q, e1⟩ := ha
  obtain ⟨t, d, r, e2⟩ := hb
  have f1 := val64_fits a; rw [e1] at f1
  have f2 := val64_fits b; rw [e2] at f2
  obtain ⟨h1, h2, h3⟩ := product_units f1 f2
  have q1 : b64.qmin = -1074 := qmin_b64
  show zval b64 (val64 V) ≤ zval b64 (val64 (Core.dmul a b))
  rw [val64_dmul, e1, e2, h1]
  refine zval_round_ge good_b64 (val64_fits V) hV.ne_nan (e0 := 2 * b64.qmin) (by omega) h2 ?_
  rw [h3, signed_xor, show (b64.qmin - 2 * b64.qmin).toNat = 1074 by omega]
  unfold own_z at h
  rw [e1, e2] at h
  exact h
theorem own_div_le {a b V : UInt64} (ha : DFin a) (hb : DFin b) (hp : 0 < own_z b) (hV : DFin V) (h : own_z a * ((2 ^ 1074 : Nat) : Int) ≤ own_z V * own_z b) : own_z (FP.ddiv a b) ≤ own_z V := by
  obtain ⟨s, c, q, e1⟩ := ha
  obtain ⟨t, d, r, e2⟩ := hb
  have f1 := val64_fits a; rw [e1] at f1
  have f2 := val64_fits b; rw [e2] at f2
  have g1 := f1.2.1
  have g2 := f2.2.1
  have q1 : b64.qmin = -1074 := qmin_b64
  unfold own_z at h hp
  rw [e1, e2] at h
  rw [e2] at hp
  obtain ⟨hs, hm⟩ := signed_pos hp
  have ht : t = false := by cases t with
    | false => rfl
    | true => exfalso; have : signed true (zmag b64 (.fin true d r)) ≤ 0 := by simp [signed]
              exact absurd hp (by show ¬ 0 < signed true _; omega)
  subst ht
  have hd : 0 < d := by
    rcases Nat.eq_zero_or_pos d with z | z
    · exfalso; subst z
      simp [zmag, inUnits, sgn] at hm
    · exact z
  show zval b64 (val64 (Core.ddiv a b)) ≤ zval b64 (val64 V)
  rw [val64_ddiv, e1, e2]
  have eq0 : quotient b64 (.fin s c q) (.fin false d r) = roundRatio b64 s c d (q - r) := by
    show (if d = 0 then _ else roundRatio b64 (s != false) c d (q - r)) = _
    rw [if_neg (by omega)]; cases s <;> rfl
  rw [eq0]
  have hle := zmag_roundRatio_le good_b64 (s := s) (A := c) (B := d) (e := q - r) (e0 := 2 * b64.qmin - r) (V := val64 V) hd (val64_fits V) hV.ne_nan (by omega) (by omega)
  have hge := zmag_roundRatio_ge good_b64 (s := s) (A := c) (B := d) (e := q - r) (e0 := 2 * b64.qmin - r) (V := val64 V) hd (val64_fits V) (by omega) (by omega)
  have u1 : inUnits c (q - r) (2 * b64.qmin - r) = zmag b64 (.fin s c q) * 2 ^ 1074 := by
    show _ = inUnits c q b64.qmin * 2 ^ 1074
    unfold inUnits
    rw [Nat.mul_assoc, ← Nat.pow_add]; congr 2; omega
  have u2 : zmag b64 (val64 V) * 2 ^ (b64.qmin - (2 * b64.qmin - r)).toNat * d = zmag b64 (val64 V) * zmag b64 (.fin false d r) := by
    show _ = _ * inUnits d r b64.qmin
    unfold inUnits
    rw [Nat.mul_assoc, Nat.mul_comm (2 ^ _) d]; congr 3; omega
  rw [u1, u2] at hle hge
  unfold zval at h ⊢
  rw [sgn_roundRatio]
  rw [show sgn (Datum.fin s c q) = s from rfl, show sgn (Datum.fin false d r) = false from rfl] at h
  rw [← signed_mul, show signed false (zmag b64 (.fin false d r)) = ((zmag b64 (.fin false d r) : Nat) : Int) from rfl, ← signed_mul] at h
  have hz : zmag b64 (val64 V) * zmag b64 (.fin false d r) = 0 → zmag b64 (val64 V) = 0 := fun h => by
    rcases Nat.mul_eq_zero.mp h with h | h
    · exact h
    · have : 0 < zmag b64 (.fin false d r) := by
        show 0 < inUnits d r b64.qmin
        unfold inUnits; exact Nat.mul_pos hd (Nat.two_pow_pos _)
      omega
  generalize zmag b64 (val64 V) * zmag b64 (.fin false d r) = vP at *
  generalize zmag b64 (.fin s c q) * 2 ^ 1074 = aP at *
  generalize sgn (val64 V) = t at *
  cases s <;> cases t <;> simp only [signed, if_true, Bool.false_eq_true, if_false] at h ⊢
  · have := hle (by omega); omega
  · have := hle (by omega); have := hz (by omega); omega
  · omega
  · have := hge (by omega); omega
theorem own_zneg {x y : UInt64} (h : val64 y = negate (val64 x)) : own_z y = - own_z x := by unfold own_z; rw [h, zval_negate]
theorem own_dneg_fin {x : UInt64} (h : DFin x) : DFin (Core.dneg x) ∧ own_z (Core.dneg x) = - own_z x := by
  refine ⟨?_, own_zneg (Core.val64_dneg x)⟩
  obtain ⟨s, c, q, e⟩ := own_neg_fin h
  exact ⟨s, c, q, by rw [Core.val64_dneg]; exact e⟩
theorem own_div_ge {a b V : UInt64} (ha : DFin a) (hb : DFin b) (hp : 0 < own_z b) (hV : DFin V) (h : own_z V * own_z b ≤ own_z a * ((2 ^ 1074 : Nat) : Int)) : own_z V ≤ own_z (FP.ddiv a b) := by
  have q := own_div_le (own_dneg_fin ha).1 hb hp (own_dneg_fin hV).1 (by rw [(own_dneg_fin ha).2, (own_dneg_fin hV).2, Int.neg_mul, Int.neg_mul]; omega)
  have e : FP.ddiv (Core.dneg a) b = Core.dneg (FP.ddiv a b) := ddiv_dneg a b
  rw [e, own_zneg (Core.val64_dneg _), (own_dneg_fin hV).2] at q
  omega
/-- a sum, a difference, a product, a quotient that is a double comes out exactly -/
theorem own_addx {a b V : UInt64} (ha : DFin a) (hb : DFin b) (hV : DFin V) (h : own_z a + own_z b = own_z V) : DFin (FP.dadd a b) ∧ own_z (FP.dadd a b) = own_z V := by
  have e : own_z (FP.dadd a b) = own_z V := Int.le_antisymm (own_add_le ha hb hV (Int.le_of_eq h)) (own_add_ge ha hb hV (Int.le_of_eq h.symm))
  exact ⟨own_fin_z ((notNaN_iff _).mp (dadd_out ha.notNaN hb)) (by rw [e]; exact own_z_lt hV), e⟩
theorem own_subx {a b V : UInt64} (ha : DFin a) (hb : DFin b) (hV : DFin V) (h : own_z a - own_z b = own_z V) : DFin (FP.dsub a b) ∧ own_z (FP.dsub a b) = own_z V := by
  have e : own_z (FP.dsub a b) = own_z V := Int.le_antisymm (own_sub_le ha hb hV (Int.le_of_eq h)) (own_sub_ge ha hb hV (Int.le_of_eq h.symm))
  exact ⟨own_fin_z ((notNaN_iff _).mp (dsub_out ha.notNaN hb)) (by rw [e]; exact own_z_lt hV), e⟩
theorem own_mulx {a b V : UInt64} (ha : DFin a) (hb : DFin b) (hV : DFin V) (h : own_z a * own_z b = own_z V * ((2 ^ 1074 : Nat) : Int)) : DFin (FP.dmul a b) ∧ own_z (FP.dmul a b) = own_z V := by
  have e : own_z (FP.dmul a b) = own_z V := Int.le_antisymm (own_mul_le ha hb hV (Int.le_of_eq h)) (own_mul_ge ha hb hV (Int.le_of_eq h.symm))
  exact ⟨own_fin_z ((notNaN_iff _).mp (dmul_out ha hb)) (by rw [e]; exact own_z_lt hV), e⟩
theorem own_nz {b : UInt64} (hp : 0 < own_z b) : ¬ DZero b := fun ⟨s, q, e⟩ => by
  unfold own_z at hp; rw [e] at hp
  simp [zval, zmag, inUnits, sgn, signed] at hp
theorem own_divx {a b V : UInt64} (ha : DFin a) (hb : DFin b) (hp : 0 < own_z b) (hV : DFin V) (h : own_z a * ((2 ^ 1074 : Nat) : Int) = own_z V * own_z b) : DFin (FP.ddiv a b) ∧ own_z (FP.ddiv a b) = own_z V := by
  have e : own_z (FP.ddiv a b) = own_z V := Int.le_antisymm (own_div_le ha hb hp hV (Int.le_of_eq h)) (own_div_ge ha hb hp hV (Int.le_of_eq h.symm))
  exact ⟨own_fin_z ((notNaN_iff _).mp (ddiv_out ha.notNaN hb (own_nz hp))) (by rw [e]; exact own_z_lt hV), e⟩
theorem own_z_int {i : Int} {a : UInt64} (h : DInt i a) : own_z a = i * ((2 ^ 1074 : Nat) : Int) := DInt_zval h
theorem own_i2d (a : Int32) : DFin (FP.i2d a) ∧ own_z (FP.i2d a) = a.toInt * ((2 ^ 1074 : Nat) : Int) := ⟨Core.i2d_fin a, own_z_int (i2d_int a)⟩
theorem own_l2d {a : Int64} (h : a.toInt.natAbs ≤ 2 ^ 53) : DFin (FP.l2d a) ∧ own_z (FP.l2d a) = a.toInt * ((2 ^ 1074 : Nat) : Int) := ⟨Core.l2d_fin a, own_z_int (l2d_int h)⟩
/-- x is the number n / 2^k -/
def own_Is (x : UInt64) (n : Int) (k : Nat) : Prop := DFin x ∧ own_z x = n * ((2 ^ (1074 - k) : Nat) : Int)
theorem own_Is.nn {x : UInt64} {n : Int} {k : Nat} (h : own_Is x n k) : Jvm.Free.Fl.NoNaN64 x := (Jvm.Free.Fl.fin64_core.mpr h.1).noNaN
theorem own_Is.add {a b : UInt64} {n m : Int} {k : Nat} (ha : own_Is a n k) (hb : own_Is b m k) (h : (n + m).natAbs < 2 ^ 53) : own_Is (FP.dadd a b) (n + m) k := by
  obtain ⟨V, v1, v2⟩ := own_rep (n + m) (1074 - k) h (by omega)
  have q := own_addx ha.1 hb.1 v1 (by rw [ha.2, hb.2, v2, Int.add_mul])
  exact ⟨q.1, q.2.trans v2⟩
theorem own_Is.sub {a b : UInt64} {n m : Int} {k : Nat} (ha : own_Is a n k) (hb : own_Is b m k) (h : (n - m).natAbs < 2 ^ 53) : own_Is (FP.dsub a b) (n - m) k := by
  obtain ⟨V, v1, v2⟩ := own_rep (n - m) (1074 - k) h (by omega)
  have q := own_subx ha.1 hb.1 v1 (by rw [ha.2, hb.2, v2, Int.sub_mul])
  exact ⟨q.1, q.2.trans v2⟩
theorem own_Is.mul {a b : UInt64} {n m : Int} {k j : Nat} (ha : own_Is a n k) (hb : own_Is b m j) (h : (n * m).natAbs < 2 ^ 53) (hk : k + j ≤ 1074) : own_Is (FP.dmul a b) (n * m) (k + j) := by
  obtain ⟨V, v1, v2⟩ := own_rep (n * m) (1074 - (k + j)) h (by omega)
  have e : 2 ^ (1074 - k) * 2 ^ (1074 - j) = 2 ^ (1074 - (k + j)) * 2 ^ 1074 := by rw [← Nat.pow_add, ← Nat.pow_add]; congr 1; omega
  have q := own_mulx ha.1 hb.1 v1 (by
    rw [ha.2, hb.2, v2, Int.mul_assoc (n * m), ← Int.natCast_mul, ← e, Int.natCast_mul]
    generalize ((2 ^ (1074 - k) : Nat) : Int) = A
    generalize ((2 ^ (1074 - j) : Nat) : Int) = B
    simp only [Int.mul_assoc, Int.mul_left_comm, Int.mul_comm])
  exact ⟨q.1, q.2.trans v2⟩
theorem own_Is.div2 {a b : UInt64} {n : Int} {k t : Nat} (ha : own_Is a n k) (hb : own_Is b ((2 ^ t : Nat) : Int) 0) (h : n.natAbs < 2 ^ 53) (hk : k + t ≤ 1074) : own_Is (FP.ddiv a b) n (k + t) := by
  obtain ⟨V, v1, v2⟩ := own_rep n (1074 - (k + t)) h (by omega)
  have hp : 0 < own_z b := by
    rw [hb.2, ← Int.natCast_mul]
    have := Nat.mul_pos (Nat.two_pow_pos t) (Nat.two_pow_pos (1074 - 0)); omega
  have e : 2 ^ (1074 - k) = 2 ^ (1074 - (k + t)) * 2 ^ t := by rw [← Nat.pow_add]; congr 1; omega
  have q := own_divx ha.1 hb.1 hp v1 (by
    rw [ha.2, hb.2, v2, e, Int.natCast_mul]
    show _ = _ * (_ * ((2 ^ 1074 : Nat) : Int))
    generalize ((2 ^ (1074 - (k + t)) : Nat) : Int) = A
    generalize ((2 ^ t : Nat) : Int) = B
    generalize ((2 ^ 1074 : Nat) : Int) = D
    simp only [Int.mul_assoc])
  exact ⟨q.1, q.2.trans v2⟩
theorem own_mul_lt {n m : Int} {D : Nat} (hD : 0 < D) : (n * (D : Int) < m * (D : Int) ↔ n < m) := by
  have : (0 : Int) < (D : Int) := by omega
  exact ⟨fun h => Int.lt_of_mul_lt_mul_right h (Int.le_of_lt this), fun h => Int.mul_lt_mul_of_pos_right h this⟩
theorem own_Is.cmp {a b : UInt64} {n m : Int} {k : Nat} (ha : own_Is a n k) (hb : own_Is b m k) : FP.dcmp a b = some (compare n m) := by
  rw [own_cmp ha.1 hb.1, ha.2, hb.2, compare_mul_pos _ _ _ (by have := Nat.two_pow_pos (1074 - k); omega)]
theorem own_Is.cv {a b : UInt64} {n m : Int} {k : Nat} (ha : own_Is a n k) (hb : own_Is b m k) (o : ClassFile.CmpOp) : (cmpValue (FP.dcmp a b) o < (0 : Int32) ↔ n < m) ∧ ((0 : Int32) < cmpValue (FP.dcmp a b) o ↔ m < n) ∧ (cmpValue (FP.dcmp a b) o = (0 : Int32) ↔ n = m) := by
  rw [ha.cmp hb, compare_ite]
  by_cases h1 : n < m
  · rw [if_pos h1]; cases o <;> refine ⟨⟨fun q => ?_, fun q => ?_⟩, ⟨fun q => ?_, fun q => ?_⟩, ⟨fun q => ?_, fun q => ?_⟩⟩ <;> first | omega | decide | exact absurd q (by decide)
  · rw [if_neg h1]
    by_cases h2 : n = m
    · rw [if_pos h2]; cases o <;> refine ⟨⟨fun q => ?_, fun q => ?_⟩, ⟨fun q => ?_, fun q => ?_⟩, ⟨fun q => ?_, fun q => ?_⟩⟩ <;> first | omega | decide | exact absurd q (by decide)
    · rw [if_neg h2]; cases o <;> refine ⟨⟨fun q => ?_, fun q => ?_⟩, ⟨fun q => ?_, fun q => ?_⟩, ⟨fun q => ?_, fun q => ?_⟩⟩ <;> first | omega | decide | exact absurd q (by decide)
theorem own_Is.i2d (a : Int32) : own_Is (FP.i2d a) a.toInt 0 := own_i2d a
theorem own_Is.l2d {a : Int64} (h : a.toInt.natAbs ≤ 2 ^ 53) : own_Is (FP.l2d a) a.toInt 0 := own_l2d h
theorem own_Is.up {a : UInt64} {n : Int} {k : Nat} (h : own_Is a n k) (j : Nat) (hj : k + j ≤ 1074) : own_Is a (n * ((2 ^ j : Nat) : Int)) (k + j) := by
  refine ⟨h.1, h.2.trans ?_⟩
  rw [Int.mul_assoc, ← Int.natCast_mul, ← Nat.pow_add]; congr 3; omega
theorem own_Is.zero (k : Nat) : own_Is FP.dconst0 0 k := ⟨(fin_bits _).mpr (by decide), by rw [Int.zero_mul]; exact zval64_zero⟩
end Jvm.RoadKit
namespace Jvm.RoadKit
open Sem Op Jvm.FP Jvm.FP.Core
theorem own_iu (c : Nat) {q e0 : Int} (h0 : e0 ≤ b64.qmin) (h : b64.qmin ≤ q) : inUnits c q e0 = inUnits c q b64.qmin * 2 ^ (b64.qmin - e0).toNat := inUnits_move c h0 h
theorem own_zmag_sign (s t : Bool) (A : Nat) (e : Int) : zmag b64 (roundRatio b64 s A 1 e) = zmag b64 (roundRatio b64 t A 1 e) := by
  have q := negate_roundRatio b64 s A 1 e
  have z : ∀ d : Datum, zmag b64 (negate d) = zmag b64 d := fun d => by cases d <;> rfl
  by_cases h : s = t
  · rw [h]
  · have : t = !s := by cases s <;> cases t <;> simp_all
    rw [this, ← q, z]
theorem own_same_val {s : Bool} {A1 A2 : Nat} {e1 e2 e0 : Int} (h1 : e0 ≤ e1) (h2 : e0 ≤ e2) (h : inUnits A1 e1 e0 = inUnits A2 e2 e0) : roundRatio b64 s A1 1 e1 = roundRatio b64 s A2 1 e2 := by
  refine roundRatio_congr (by decide) (by decide) ?_
  unfold inUnits at h
  rw [Nat.mul_one, Nat.mul_one]
  by_cases q : e1 ≤ e2
  · rw [show (e1 - e2).toNat = 0 by omega, Nat.pow_zero, Nat.mul_one]
    rw [show (e2 - e0).toNat = (e2 - e1).toNat + (e1 - e0).toNat by omega, Nat.pow_add, ← Nat.mul_assoc] at h
    exact Nat.eq_of_mul_eq_mul_right (Nat.two_pow_pos _) h
  · rw [show (e2 - e1).toNat = 0 by omega, Nat.pow_zero, Nat.mul_one]
    rw [show (e1 - e0).toNat = (e1 - e2).toNat + (e2 - e0).toNat by omega, Nat.pow_add, ← Nat.mul_assoc] at h
    exact Nat.eq_of_mul_eq_mul_right (Nat.two_pow_pos _) h
theorem own_mono_mag {s1 s2 : Bool} {A1 A2 c1 c2 : Nat} {e1 e2 q1 q2 e0 : Int} (hR1 : roundRatio b64 s1 A1 1 e1 = .fin s1 c1 q1) (hR2 : roundRatio b64 s2 A2 1 e2 = .fin s2 c2 q2) (h0 : e0 ≤ b64.qmin) (h1 : e0 ≤ e1) (h2 : e0 ≤ e2) (h : inUnits A1 e1 e0 ≤ inUnits A2 e2 e0) :
    inUnits c1 q1 b64.qmin ≤ inUnits c2 q2 b64.qmin := by
  have f1 : Core.fits b64 (.fin s1 c1 q1) := hR1 ▸ roundRatio_fits good_b64 s1 A1 (by decide) e1
  have f2 : Core.fits b64 (.fin s2 c2 q2) := hR2 ▸ roundRatio_fits good_b64 s2 A2 (by decide) e2
  refine Nat.le_of_not_lt fun hlt => ?_
  have n1 := roundRatio_nearest good_b64 (by decide) hR1 f2.1 f2.2.1 h0 h1
  have n2 := roundRatio_nearest good_b64 (by decide) hR2 f1.1 f1.2.1 h0 h2
  unfold distance at n1 n2
  rw [own_iu c1 h0 f1.2.1, own_iu c2 h0 f2.2.1] at n1 n2
  have hP := Nat.two_pow_pos (b64.qmin - e0).toNat
  have hlt' : inUnits c2 q2 b64.qmin * 2 ^ (b64.qmin - e0).toNat < inUnits c1 q1 b64.qmin * 2 ^ (b64.qmin - e0).toNat := Nat.mul_lt_mul_of_pos_right hlt hP
  have key : inUnits A1 e1 e0 = inUnits A2 e2 e0 := by
    generalize inUnits c2 q2 b64.qmin * 2 ^ (b64.qmin - e0).toNat = v at *
    generalize inUnits c1 q1 b64.qmin * 2 ^ (b64.qmin - e0).toNat = u at *
    generalize inUnits A1 e1 e0 = x at *
    generalize inUnits A2 e2 e0 = y at *
    omega
  have e := own_same_val (s := s1) h1 h2 key
  have z := own_zmag_sign s1 s2 A2 e2
  rw [← e, hR1, hR2] at z
  have : inUnits c1 q1 b64.qmin = inUnits c2 q2 b64.qmin := z
  omega
theorem own_iu0 {A : Nat} {e e0 : Int} (h : inUnits A e e0 = 0) : A = 0 := by
  unfold inUnits at h
  rcases Nat.mul_eq_zero.mp h with h | h
  · exact h
  · have := Nat.two_pow_pos (e - e0).toNat; omega
theorem own_mono {s1 s2 : Bool} {A1 A2 c1 c2 : Nat} {e1 e2 q1 q2 e0 : Int} (hR1 : roundRatio b64 s1 A1 1 e1 = .fin s1 c1 q1) (hR2 : roundRatio b64 s2 A2 1 e2 = .fin s2 c2 q2) (h0 : e0 ≤ b64.qmin) (h1 : e0 ≤ e1) (h2 : e0 ≤ e2) (h : signed s1 (inUnits A1 e1 e0) ≤ signed s2 (inUnits A2 e2 e0)) :
    signed s1 (inUnits c1 q1 b64.qmin) ≤ signed s2 (inUnits c2 q2 b64.qmin) := by
  have a := own_mono_mag hR1 hR2 h0 h1 h2
  have b := own_mono_mag hR2 hR1 h0 h2 h1
  cases s1 <;> cases s2 <;> simp only [signed, if_true, Bool.false_eq_true, if_false] at h ⊢
  · have := a (by omega); omega
  · have z1 : inUnits A1 e1 e0 = 0 := by omega
    have z2 : inUnits A2 e2 e0 = 0 := by omega
    have w1 := own_iu0 z1
    have w2 := own_iu0 z2
    subst w1 w2
    have g1 : roundRatio b64 false 0 1 e1 = .fin false 0 b64.qmin := if_pos rfl
    have g2 : roundRatio b64 true 0 1 e2 = .fin true 0 b64.qmin := if_pos rfl
    rw [g1] at hR1; rw [g2] at hR2
    cases hR1; cases hR2
    simp [inUnits]
  · omega
  · have := b (by omega); omega
/-- how a finite double came of a rounding: its sign, the exact number in units of 2^e0 -/
def own_Rd (x : UInt64) (N : Int) (e0 : Int) : Prop := ∃ s A e, val64 x = roundRatio b64 s A 1 e ∧ e0 ≤ e ∧ signed s (inUnits A e e0) = N
theorem own_rr_fin {x : UInt64} (hx : DFin x) {s : Bool} {A : Nat} {e : Int} (h : val64 x = roundRatio b64 s A 1 e) : ∃ c q, roundRatio b64 s A 1 e = .fin s c q ∧ own_z x = signed s (inUnits c q b64.qmin) := by
  obtain ⟨s', c, q, hv⟩ := hx
  have hs : s' = s := by
    have := sgn_roundRatio b64 s A 1 e
    rw [← h, hv] at this; exact this
  subst hs
  refine ⟨c, q, by rw [← h, hv], ?_⟩
  unfold own_z; rw [hv]; rfl
theorem own_Rd.le {x y : UInt64} {N M e0 : Int} (hx : DFin x) (hy : DFin y) (rx : own_Rd x N e0) (ry : own_Rd y M e0) (h0 : e0 ≤ b64.qmin) (h : N ≤ M) : own_z x ≤ own_z y := by
  obtain ⟨s1, A1, e1, v1, l1, u1⟩ := rx
  obtain ⟨s2, A2, e2, v2, l2, u2⟩ := ry
  obtain ⟨c1, q1, r1, z1⟩ := own_rr_fin hx v1
  obtain ⟨c2, q2, r2, z2⟩ := own_rr_fin hy v2
  rw [z1, z2]
  exact own_mono r1 r2 h0 l1 l2 (by rw [u1, u2]; exact h)
theorem own_Rd.eq {x y : UInt64} {N e0 : Int} (hx : DFin x) (hy : DFin y) (rx : own_Rd x N e0) (ry : own_Rd y N e0) (h0 : e0 ≤ b64.qmin) : own_z x = own_z y := Int.le_antisymm (own_Rd.le hx hy rx ry h0 (Int.le_refl _)) (own_Rd.le hy hx ry rx h0 (Int.le_refl _))
theorem own_Rd.mul {a b : UInt64} (ha : DFin a) (hb : DFin b) : own_Rd (FP.dmul a b) (own_z a * own_z b) (2 * b64.qmin) := by
  obtain ⟨s, c, q, e1⟩ := ha
  obtain ⟨t, d, r, e2⟩ := hb
  have f1 := val64_fits a; rw [e1] at f1
  have f2 := val64_fits b; rw [e2] at f2
  obtain ⟨h1, h2, h3⟩ := product_units f1 f2
  refine ⟨s != t, c * d, q + r, ?_, h2, ?_⟩
  · show val64 (Core.dmul a b) = _
    rw [val64_dmul, e1, e2, h1]; rfl
  · rw [h3, signed_xor]; unfold own_z; rw [e1, e2]; rfl
theorem own_Rd.add {a b : UInt64} (ha : DFin a) (hb : DFin b) : own_Rd (FP.dadd a b) (own_z a + own_z b) b64.qmin := by
  obtain ⟨s, c, q, e1⟩ := ha
  obtain ⟨t, d, r, e2⟩ := hb
  have f1 := val64_fits a; rw [e1] at f1
  have f2 := val64_fits b; rw [e2] at f2
  obtain ⟨sg, n, e, h1, h2, h3⟩ := sum_units f1 f2
  refine ⟨sg, n, e, ?_, h2, ?_⟩
  · show val64 (Core.dadd a b) = _
    rw [val64_dadd, e1, e2, h1]; rfl
  · rw [h3]; unfold own_z; rw [e1, e2]
theorem own_Rd.sub {a b : UInt64} (ha : DFin a) (hb : DFin b) : own_Rd (FP.dsub a b) (own_z a - own_z b) b64.qmin := by
  obtain ⟨s, c, q, e1⟩ := ha
  obtain ⟨t, d, r, e2⟩ := hb
  have f1 := val64_fits a; rw [e1] at f1
  have f2 := val64_fits b; rw [e2] at f2
  have f2' : Core.fits b64 (.fin (!t) d r) := f2
  obtain ⟨sg, n, e, h1, h2, h3⟩ := sum_units f1 f2'
  refine ⟨sg, n, e, ?_, h2, ?_⟩
  · show val64 (Core.dsub a b) = _
    rw [val64_dsub, e1, e2]
    show round b64 (exactSum (.fin s c q) (.fin (!t) d r)) = _
    rw [h1]; rfl
  · rw [h3]; unfold own_z; rw [e1, e2]
    have : zval b64 (.fin (!t) d r) = - zval b64 (.fin t d r) := zval_negate b64 (.fin t d r)
    rw [this]; omega
theorem own_Rd.l2d (n : Int64) {e0 : Int} {k : Nat} (h0 : e0 = -(k : Int)) : own_Rd (FP.l2d n) (n.toInt * ((2 ^ k : Nat) : Int)) e0 := by
  refine ⟨decide (n.toInt < 0), n.toInt.natAbs, 0, ?_, by omega, ?_⟩
  · show val64 (Core.l2d n) = _
    rw [val64_l2d]; rfl
  · unfold inUnits
    rw [show (0 - e0).toNat = k by omega]
    exact own_signed_abs _ _
theorem own_scale {s : Bool} {n : Nat} {q : Int} (hn : n ≠ 0) (hb : n < 2 ^ 100) (h1 : -900 ≤ q) (h2 : q ≤ 100) : ∃ c Q, b64.qmin ≤ Q ∧ roundRatio b64 s n 1 q = .fin s c Q ∧ roundRatio b64 s n 1 (q + 1) = .fin s c (Q + 1) := by
  have q1 : b64.qmin = -1074 := qmin_b64
  have q2 : b64.qmax = 971 := by decide
  have p1 : ((b64.p : Nat) : Int) = 53 := by decide
  have lg : n.log2 < 100 := (Nat.log2_lt hn).mpr hb
  have L : ∃ L : Int, leading n 1 = L ∧ -1 ≤ L ∧ L ≤ 100 := by
    refine ⟨_, rfl, ?_, ?_⟩ <;> (unfold leading; simp only [show Nat.log2 1 = 0 by decide]; split <;> omega)
  obtain ⟨L, eL, l1, l2⟩ := L
  have Q1 : quantum b64 n 1 q = L + q - 52 := by unfold quantum; rw [eL, p1]; omega
  have Q2 : quantum b64 n 1 (q + 1) = L + q - 52 + 1 := by unfold quantum; rw [eL, p1]; omega
  unfold roundRatio
  rw [if_neg hn, if_neg hn, Q1, Q2]
  unfold roundAt
  have u1 : unitsNum n (q + 1) (L + q - 52 + 1) = unitsNum n q (L + q - 52) := by unfold unitsNum; congr 2; omega
  have u2 : unitsDen 1 (q + 1) (L + q - 52 + 1) = unitsDen 1 q (L + q - 52) := by unfold unitsDen; congr 2; omega
  rw [u1, u2]
  generalize nearest (unitsNum n q (L + q - 52)) (unitsDen 1 q (L + q - 52)) = m
  unfold settle bound
  by_cases hm : m < 2 ^ b64.p
  · rw [if_pos hm, if_pos hm, if_pos (by omega), if_pos (by omega)]
    exact ⟨m, L + q - 52, by omega, rfl, rfl⟩
  · rw [if_neg hm, if_neg hm, if_pos (by omega), if_pos (by omega)]
    exact ⟨b64.tails, L + q - 52 + 1, by omega, rfl, rfl⟩
/-- the rounding of half of a whole number is half of its rounding -/
theorem own_half {x : UInt64} {t : Int64} (hx : DFin x) (ht : t.toInt ≠ 0) (rx : own_Rd x (t.toInt * ((2 ^ 2147 : Nat) : Int)) (2 * b64.qmin)) : own_z x * 2 = own_z (FP.l2d t) := by
  have q1 : b64.qmin = -1074 := qmin_b64
  obtain ⟨s, A, e, v, l, u⟩ := rx
  have e0 : 2 * b64.qmin = -2148 := by omega
  rw [e0] at l u
  have hA : A ≠ 0 := fun z => by
    subst z
    rw [show inUnits 0 e (-2148) = 0 by unfold inUnits; simp, signed_zero] at u
    have := Nat.two_pow_pos 2147
    rcases Int.mul_eq_zero.mp u.symm with h | h
    · exact ht h
    · omega
  have hs : s = decide (t.toInt < 0) := by
    have hp : 0 < inUnits A e (-2148) := by unfold inUnits; exact Nat.mul_pos (by omega) (Nat.two_pow_pos _)
    have d := signed_lt_zero s hp
    rw [u] at d
    rw [← d, decide_eq_decide]
    have := Nat.two_pow_pos 2147
    have pp : (0 : Int) < ((2 ^ 2147 : Nat) : Int) := by omega
    constructor
    · intro h; exact Int.lt_of_mul_lt_mul_right (by rw [Int.zero_mul]; exact h) (Int.le_of_lt pp)
    · intro h; exact Int.mul_neg_of_neg_of_pos h pp
  have hu : inUnits A e (-2148) = inUnits t.toInt.natAbs (-1) (-2148) := by
    have := congrArg Int.natAbs u
    rw [natAbs_signed, Int.natAbs_mul, Int.natAbs_natCast] at this
    rw [this]; unfold inUnits; rfl
  have r1 := own_same_val (s := s) l (by omega) hu
  obtain ⟨c, Q, g0, g1, g2⟩ := own_scale (s := s) (n := t.toInt.natAbs) (q := -1) (by omega) (by have := int64_abs t; omega) (by omega) (by omega)
  have z1 : own_z x = signed s (inUnits c Q b64.qmin) := by unfold own_z; rw [v, r1, g1]; rfl
  have z2 : own_z (FP.l2d t) = signed s (inUnits c (Q + 1) b64.qmin) := by
    unfold own_z
    show zval b64 (val64 (Core.l2d t)) = _
    rw [val64_l2d]
    show zval b64 (roundRatio b64 (decide (t.toInt < 0)) t.toInt.natAbs 1 0) = _
    rw [← hs, show (0 : Int) = -1 + 1 by omega, g2]; rfl
  rw [z1, z2]
  have : inUnits c (Q + 1) b64.qmin = inUnits c Q b64.qmin * 2 := by
    unfold inUnits
    rw [show (Q + 1 - b64.qmin).toNat = (Q - b64.qmin).toNat + 1 by omega, Nat.pow_succ, Nat.mul_assoc]
  rw [this, signed_mul]; rfl
end Jvm.RoadKit
namespace Jvm.Pilot.@@N@@
open Jvm Jvm.ClassFile Sem Op Lib Jvm.Free Jvm.Stand Jvm.LawKit Jvm.RoadKit Bundle Jvm.Pilot.@@N@@.Jvm.D
section Fare
abbrev own_P : Int := ((2 ^ 1074 : Nat) : Int)
abbrev own_K : UInt64 := (4652007308841189376 : UInt64)
abbrev own_T : UInt64 := (4611686018427387904 : UInt64)
theorem own_K_is : own_Is own_K 1000 0 := ⟨(Jvm.FP.Core.fin_bits _).mpr (by decide), by decide +kernel⟩
theorem own_T_is : own_Is own_T 2 0 := ⟨(Jvm.FP.Core.fin_bits _).mpr (by decide), by decide +kernel⟩
theorem own_P_pos : 0 < own_P := by have := Nat.two_pow_pos 1074; show (0 : Int) < ((2 ^ 1074 : Nat) : Int); omega
theorem own_Kz : own_z own_K = 1000 * own_P := own_K_is.2
theorem own_Tz : own_z own_T = 2 * own_P := own_T_is.2
theorem own_PP : ((2 ^ 2148 : Nat) : Int) = own_P * own_P := by
  show _ = ((2 ^ 1074 : Nat) : Int) * ((2 ^ 1074 : Nat) : Int)
  rw [← Int.natCast_mul, ← Nat.pow_add]
theorem own_P3 : own_P = ((2 ^ 1073 : Nat) : Int) * 2 := by
  show ((2 ^ 1074 : Nat) : Int) = _
  rw [show (2 : Nat) ^ 1074 = 2 ^ 1073 * 2 from Nat.pow_succ .., Int.natCast_mul]; rfl
theorem own_P47 : ((2 ^ 2147 : Nat) : Int) = own_P * ((2 ^ 1073 : Nat) : Int) := by
  show _ = ((2 ^ 1074 : Nat) : Int) * _
  rw [← Int.natCast_mul, ← Nat.pow_add]
def own_Leg (rate : Int32) (d r : UInt64) : Prop := (rate.toInt = 0 ∧ r = FP.dconst0) ∨ (¬ rate.toInt = 0 ∧ r = FP.dmul (FP.i2d rate) (FP.ddiv d own_K))
theorem own_zcv {x y : UInt64} (hx : Jvm.FP.Core.DFin x) (hy : Jvm.FP.Core.DFin y) (o : CmpOp) : (cmpValue (FP.dcmp x y) o < (0 : Int32) ↔ own_z x < own_z y) ∧ ((0 : Int32) < cmpValue (FP.dcmp x y) o ↔ own_z y < own_z x) ∧ (cmpValue (FP.dcmp x y) o = (0 : Int32) ↔ own_z x = own_z y) := by
  rw [own_cmp hx hy, Jvm.FP.Core.compare_ite]
  by_cases h1 : own_z x < own_z y
  · rw [if_pos h1]; cases o <;> refine ⟨⟨fun q => ?_, fun q => ?_⟩, ⟨fun q => ?_, fun q => ?_⟩, ⟨fun q => ?_, fun q => ?_⟩⟩ <;> first | omega | decide | exact absurd q (by decide)
  · rw [if_neg h1]
    by_cases h2 : own_z x = own_z y
    · rw [if_pos h2]; cases o <;> refine ⟨⟨fun q => ?_, fun q => ?_⟩, ⟨fun q => ?_, fun q => ?_⟩, ⟨fun q => ?_, fun q => ?_⟩⟩ <;> first | omega | decide | exact absurd q (by decide)
    · rw [if_neg h2]; cases o <;> refine ⟨⟨fun q => ?_, fun q => ?_⟩, ⟨fun q => ?_, fun q => ?_⟩, ⟨fun q => ?_, fun q => ?_⟩⟩ <;> first | omega | decide | exact absurd q (by decide)
theorem own_nn {x : UInt64} (h : Jvm.FP.Core.DFin x) : Jvm.Free.Fl.NoNaN64 x := (Jvm.Free.Fl.fin64_core.mpr h).noNaN
theorem own_zero_fin : Jvm.FP.Core.DFin FP.dconst0 ∧ own_z FP.dconst0 = 0 := ⟨(own_Is.zero 0).1, by rw [(own_Is.zero 0).2, Int.zero_mul]⟩
theorem own_bound {x : UInt64} (hn : Jvm.FP.Core.val64 x ≠ .nan) {V W : UInt64} (hV : Jvm.FP.Core.DFin V) (hW : Jvm.FP.Core.DFin W) (h1 : own_z V ≤ own_z x) (h2 : own_z x ≤ own_z W) : Jvm.FP.Core.DFin x := by
  refine own_fin_z hn ?_
  have a := own_z_lt hV
  have b := own_z_lt hW
  generalize own_z x = X at *
  generalize own_z V = Y at *
  generalize own_z W = U at *
  generalize (2 : Nat) ^ 2098 = B at *
  omega
end Fare
section Kahan
theorem own_sm (x : Int32) : -2147483648 ≤ x.toInt ∧ x.toInt ≤ 2147483647 := by have := x.toInt_lt; have := x.le_toInt; omega
theorem own_la {a b : Int64} {A B : Int} (ha : a.toInt = A) (hb : b.toInt = B) (h1 : -9223372036854775808 ≤ A + B) (h2 : A + B < 9223372036854775808) : (a + b).toInt = A + B := by rw [Jvm.Kit.i64_add (by rw [ha, hb]; omega) (by rw [ha, hb]; omega), ha, hb]
theorem own_l2dx {n : Int64} {V : UInt64} (hV : Jvm.FP.Core.DFin V) (h : own_z V = n.toInt * own_P) : own_z (FP.l2d n) = n.toInt * own_P := by
  have a := Jvm.FP.Core.l2d_zval_ge (n := n) hV.ne_nan (Int.le_of_eq h)
  have b := Jvm.FP.Core.l2d_zval_le (n := n) hV.ne_nan (Int.le_of_eq h.symm)
  have e : own_z (FP.l2d n) = own_z V := Int.le_antisymm b a
  rw [e, h]
theorem own_e10 (j : Nat) : ((2 ^ (1074 + j) : Nat) : Int) = ((2 ^ j : Nat) : Int) * own_P := by rw [Nat.pow_add, Int.natCast_mul, Int.mul_comm]
theorem own_round {n : Int64} (h1 : -4611687117939015680 ≤ n.toInt) (h2 : n.toInt ≤ 4611687117939015680) : ∃ S : Int, own_z (FP.l2d n) = S * own_P ∧ -1024 ≤ S - n.toInt ∧ S - n.toInt ≤ 1024 := by
  have hP := own_P_pos
  by_cases hs : n.toInt.natAbs ≤ 2 ^ 53
  · exact ⟨n.toInt, (own_l2d hs).2, by omega, by omega⟩
  · have lf := Jvm.FP.Core.l2d_fin n
    obtain ⟨V, v1, v2⟩ := own_rep (n.toInt / 1024) (1074 + 10) (by omega) (by decide)
    obtain ⟨W, w1, w2⟩ := own_rep (n.toInt / 1024 + 1) (1074 + 10) (by omega) (by decide)
    rw [own_e10] at v2 w2
    have e10 : ((2 ^ 10 : Nat) : Int) = 1024 := by decide
    rw [e10] at v2 w2
    have a : own_z V ≤ own_z (FP.l2d n) := Jvm.FP.Core.l2d_zval_ge (n := n) v1.ne_nan (by
      show own_z V ≤ n.toInt * own_P
      rw [v2, ← Int.mul_assoc]
      exact Int.mul_le_mul_of_nonneg_right (by omega) (Int.le_of_lt hP))
    have b : own_z (FP.l2d n) ≤ own_z W := Jvm.FP.Core.l2d_zval_le (n := n) w1.ne_nan (by
      show n.toInt * own_P ≤ own_z W
      rw [w2, ← Int.mul_assoc]
      exact Int.mul_le_mul_of_nonneg_right (by omega) (Int.le_of_lt hP))
    rw [v2, ← Int.mul_assoc] at a
    rw [w2, ← Int.mul_assoc] at b
    obtain ⟨s, c, q, e⟩ := lf
    have ff := Jvm.FP.Core.val64_fits (FP.l2d n)
    rw [show Jvm.FP.Core.val64 (FP.l2d n) = _ from e] at ff
    have q1 : Jvm.FP.Core.b64.qmin = -1074 := Jvm.FP.Core.qmin_b64
    have hc : c < 2 ^ 53 := ff.1
    have zz : own_z (FP.l2d n) = Jvm.FP.Core.signed s (Jvm.FP.Core.inUnits c q Jvm.FP.Core.b64.qmin) := by
      unfold own_z; rw [show Jvm.FP.Core.val64 (FP.l2d n) = _ from e]; rfl
    have big : 2 ^ 53 * 2 ^ 1074 ≤ (own_z (FP.l2d n)).natAbs := by
      have P0 : own_P.natAbs = 2 ^ 1074 := rfl
      have e53 : (9007199254740992 : Int).natAbs = 2 ^ 53 := by decide
      have e53' : (-9007199254740992 : Int).natAbs = 2 ^ 53 := by decide
      by_cases hp : 0 ≤ n.toInt
      · have k1 : 9007199254740992 * own_P ≤ own_z (FP.l2d n) := Int.le_trans (Int.mul_le_mul_of_nonneg_right (show (9007199254740992 : Int) ≤ n.toInt / 1024 * 1024 by omega) (Int.le_of_lt hP)) a
        have : (9007199254740992 * own_P).natAbs ≤ (own_z (FP.l2d n)).natAbs := by generalize own_z (FP.l2d n) = X at *; generalize own_P = D at *; omega
        rw [Int.natAbs_mul, P0, e53] at this; exact this
      · have k1 : own_z (FP.l2d n) ≤ (-9007199254740992) * own_P := Int.le_trans b (Int.mul_le_mul_of_nonneg_right (show (n.toInt / 1024 + 1) * 1024 ≤ (-9007199254740992 : Int) by omega) (Int.le_of_lt hP))
        have : ((-9007199254740992) * own_P).natAbs ≤ (own_z (FP.l2d n)).natAbs := by generalize own_z (FP.l2d n) = X at *; generalize own_P = D at *; omega
        rw [Int.natAbs_mul, P0, e53'] at this; exact this
    rw [zz, Jvm.FP.Core.natAbs_signed] at big
    unfold Jvm.FP.Core.inUnits at big
    have hq : 0 ≤ q := by
      refine Int.not_lt.mp fun hq => ?_
      have l : 2 ^ (q - Jvm.FP.Core.b64.qmin).toNat ≤ 2 ^ 1074 := Nat.pow_le_pow_right (by decide) (by omega)
      have : c * 2 ^ (q - Jvm.FP.Core.b64.qmin).toNat < 2 ^ 53 * 2 ^ 1074 := Nat.lt_of_le_of_lt (Nat.mul_le_mul_left c l) (Nat.mul_lt_mul_of_pos_right hc (Nat.two_pow_pos _))
      omega
    refine ⟨Jvm.FP.Core.signed s (c * 2 ^ q.toNat), ?_, ?_, ?_⟩
    · rw [zz]; unfold Jvm.FP.Core.inUnits
      rw [show (q - Jvm.FP.Core.b64.qmin).toNat = q.toNat + 1074 by omega, Nat.pow_add, ← Nat.mul_assoc, Jvm.FP.Core.signed_mul]
    all_goals
      have zS : own_z (FP.l2d n) = Jvm.FP.Core.signed s (c * 2 ^ q.toNat) * own_P := by
        rw [zz]; unfold Jvm.FP.Core.inUnits
        rw [show (q - Jvm.FP.Core.b64.qmin).toNat = q.toNat + 1074 by omega, Nat.pow_add, ← Nat.mul_assoc, Jvm.FP.Core.signed_mul]
      rw [zS] at a b
      have a' := Int.le_of_mul_le_mul_right a hP
      have b' := Int.le_of_mul_le_mul_right b hP
      omega
theorem own_lim : ∃ V W : UInt64, Jvm.FP.Core.DFin V ∧ Jvm.FP.Core.DFin W ∧ own_z V = -(9223372036854775808 * own_P) ∧ own_z W = 9223372036854775808 * own_P := by
  obtain ⟨V, v1, v2⟩ := own_rep (-1) (1074 + 63) (by decide) (by decide)
  obtain ⟨W, w1, w2⟩ := own_rep 1 (1074 + 63) (by decide) (by decide)
  rw [own_e10] at v2 w2
  have e : ((2 ^ 63 : Nat) : Int) = 9223372036854775808 := by decide
  rw [e] at v2 w2
  exact ⟨V, W, v1, w1, by rw [v2]; omega, by rw [w2]; omega⟩
theorem own_nP (n : Int64) : -(9223372036854775808 * own_P) ≤ n.toInt * own_P ∧ n.toInt * own_P ≤ 9223372036854775808 * own_P := by
  have hP := own_P_pos
  have h1 := n.toInt_lt
  have h2 := n.le_toInt
  constructor
  · have := Int.mul_le_mul_of_nonneg_right (show (-9223372036854775808 : Int) ≤ n.toInt by omega) (Int.le_of_lt hP)
    rw [Int.neg_mul] at this; exact this
  · exact Int.mul_le_mul_of_nonneg_right (by omega) (Int.le_of_lt hP)
theorem own_add_l2d {a b : UInt64} (ha : Jvm.FP.Core.DFin a) (hb : Jvm.FP.Core.DFin b) {n : Int64} (h : own_z a + own_z b = n.toInt * own_P) : Jvm.FP.Core.DFin (FP.dadd a b) ∧ own_z (FP.dadd a b) = own_z (FP.l2d n) := by
  obtain ⟨V, W, v1, w1, v2, w2⟩ := own_lim
  have l := own_nP n
  have f : Jvm.FP.Core.DFin (FP.dadd a b) := own_bound ((Jvm.FP.Core.notNaN_iff _).mp (Jvm.FP.Core.dadd_out ha.notNaN hb)) v1 w1 (own_add_ge ha hb v1 (by rw [h, v2]; exact l.1)) (own_add_le ha hb w1 (by rw [h, w2]; exact l.2))
  refine ⟨f, own_Rd.eq f (Jvm.FP.Core.l2d_fin n) (own_Rd.add ha hb) ?_ (Int.le_refl _)⟩
  rw [h]; exact own_Rd.l2d n (by rw [Jvm.FP.Core.qmin_b64]; rfl)
theorem own_sub_l2d {a b : UInt64} (ha : Jvm.FP.Core.DFin a) (hb : Jvm.FP.Core.DFin b) {n : Int64} (h : own_z a - own_z b = n.toInt * own_P) : Jvm.FP.Core.DFin (FP.dsub a b) ∧ own_z (FP.dsub a b) = own_z (FP.l2d n) := by
  obtain ⟨V, W, v1, w1, v2, w2⟩ := own_lim
  have l := own_nP n
  have f : Jvm.FP.Core.DFin (FP.dsub a b) := own_bound ((Jvm.FP.Core.notNaN_iff _).mp (Jvm.FP.Core.dsub_out ha.notNaN hb)) v1 w1 (own_sub_ge ha hb v1 (by rw [h, v2]; exact l.1)) (own_sub_le ha hb w1 (by rw [h, w2]; exact l.2))
  refine ⟨f, own_Rd.eq f (Jvm.FP.Core.l2d_fin n) (own_Rd.sub ha hb) ?_ (Int.le_refl _)⟩
  rw [h]; exact own_Rd.l2d n (by rw [Jvm.FP.Core.qmin_b64]; rfl)
/-- x is the whole number N -/
abbrev own_W (x : UInt64) (N : Int) : Prop := Jvm.FP.Core.DFin x ∧ own_z x = N * own_P
/-- the state of the sum: what is summed so far is n -/
def own_St (sm er : UInt64) (n : Int64) : Prop := ∃ S E : Int, own_W sm S ∧ own_W er E ∧ S - E = n.toInt ∧ -1024 ≤ E ∧ E ≤ 1024
/-- one step of the summing: v is X; from n to n' -/
theorem own_kstep {sm er v : UInt64} {n n' : Int64} {X : Int} (hS : own_St sm er n) (hv : own_W v X) (hn' : n'.toInt = n.toInt + X) (hb : -4611687117939015680 ≤ n'.toInt ∧ n'.toInt ≤ 4611687117939015680)
    (hx : (n.toInt = 0 ∧ own_z sm = 0 ∧ own_z er = 0) ∨ (-4294967296 ≤ X ∧ X ≤ 4294967296)) :
    Jvm.FP.Core.DFin (FP.dsub v er) ∧ Jvm.FP.Core.DFin (FP.dadd sm (FP.dsub v er)) ∧ Jvm.FP.Core.DFin (FP.dsub (FP.dadd sm (FP.dsub v er)) sm) ∧ Jvm.FP.Core.DFin (FP.dsub (FP.dsub (FP.dadd sm (FP.dsub v er)) sm) (FP.dsub v er)) ∧
      own_St (FP.dadd sm (FP.dsub v er)) (FP.dsub (FP.dsub (FP.dadd sm (FP.dsub v er)) sm) (FP.dsub v er)) n' := by
  obtain ⟨S, E, ⟨s1, s2⟩, ⟨e1, e2⟩, hSE, hE1, hE2⟩ := hS
  have hP := own_P_pos
  have hP0 : own_P ≠ 0 := by omega
  have y : own_W (FP.dsub v er) (X - E) := by
    rcases hx with ⟨-, -, z⟩ | hx
    · have e0 : E = 0 := by
        rw [e2] at z
        rcases Int.mul_eq_zero.mp z with h | h
        · exact h
        · exact absurd h hP0
      have q := own_subx hv.1 e1 hv.1 (by rw [z]; omega)
      exact ⟨q.1, by rw [q.2, hv.2, e0]; congr 1; omega⟩
    · obtain ⟨V, v1, v2⟩ := own_rep (X - E) 1074 (by omega) (by decide)
      have q := own_subx hv.1 e1 v1 (by rw [hv.2, e2, v2]; exact (Int.sub_mul X E own_P).symm)
      exact ⟨q.1, q.2.trans v2⟩
  generalize FP.dsub v er = yy at *
  have t := own_add_l2d s1 y.1 (n := n') (by rw [s2, y.2, ← Int.add_mul]; congr 1; omega)
  obtain ⟨S', r1, r2, r3⟩ := own_round hb.1 hb.2
  have t2 : own_W (FP.dadd sm yy) S' := ⟨t.1, t.2.trans r1⟩
  generalize FP.dadd sm yy = tt at *
  have d : own_W (FP.dsub tt sm) (S' - S) := by
    rcases hx with ⟨z0, z, -⟩ | hx
    · have s0 : S = 0 := by
        rw [s2] at z
        rcases Int.mul_eq_zero.mp z with h | h
        · exact h
        · exact absurd h hP0
      have q := own_subx t2.1 s1 t2.1 (by rw [z]; omega)
      exact ⟨q.1, by rw [q.2, t2.2, s0]; congr 1; omega⟩
    · obtain ⟨V, v1, v2⟩ := own_rep (S' - S) 1074 (by omega) (by decide)
      have q := own_subx t2.1 s1 v1 (by rw [t2.2, s2, v2]; exact (Int.sub_mul S' S own_P).symm)
      exact ⟨q.1, q.2.trans v2⟩
  generalize FP.dsub tt sm = dd at *
  have eN : own_W (FP.dsub dd yy) (S' - n'.toInt) := by
    obtain ⟨V, v1, v2⟩ := own_rep (S' - n'.toInt) 1074 (by omega) (by decide)
    have q := own_subx d.1 y.1 v1 (by rw [d.2, y.2, v2, ← Int.sub_mul]; show _ * own_P = _ * own_P; congr 1; omega)
    exact ⟨q.1, q.2.trans v2⟩
  exact ⟨y.1, t2.1, d.1, eN.1, S', S' - n'.toInt, t2, eN, by omega, r2, r3⟩
theorem own_kval {sm er : UInt64} {n : Int64} (hS : own_St sm er n) : Jvm.FP.Core.DFin (FP.dsub sm er) ∧ own_z (FP.dsub sm er) = own_z (FP.l2d n) := by
  obtain ⟨S, E, ⟨s1, s2⟩, ⟨e1, e2⟩, hSE, -, -⟩ := hS
  exact own_sub_l2d s1 e1 (by rw [s2, e2, ← Int.sub_mul, hSE])
theorem own_st0 : own_St 0 0 0 := by
  have z : own_W 0 0 := ⟨(own_Is.zero 0).1, by rw [Int.zero_mul]; exact Jvm.FP.Core.zval64_zero⟩
  exact ⟨0, 0, z, z, by decide, by decide, by decide⟩
end Kahan
set_option maxRecDepth 65536 in
theorem own_shl {m : Int64} {sh : Int32} (hm : -128 ≤ m.toInt ∧ m.toInt ≤ 127) (h : sh = 0 ∨ sh = 1 ∨ sh = 2 ∨ sh = 3 ∨ sh = 4 ∨ sh = 5 ∨ sh = 6 ∨ sh = 7 ∨ sh = 8 ∨ sh = 9 ∨ sh = 10 ∨ sh = 11 ∨ sh = 12 ∨ sh = 13 ∨ sh = 14 ∨ sh = 15 ∨ sh = 16 ∨ sh = 17 ∨ sh = 18 ∨ sh = 19 ∨ sh = 20 ∨ sh = 21 ∨ sh = 22 ∨ sh = 23 ∨ sh = 24 ∨ sh = 25 ∨ sh = 26 ∨ sh = 27 ∨ sh = 28 ∨ sh = 29 ∨ sh = 30 ∨ sh = 31 ∨ sh = 32 ∨ sh = 33 ∨ sh = 34 ∨ sh = 35 ∨ sh = 36 ∨ sh = 37 ∨ sh = 38 ∨ sh = 39 ∨ sh = 40 ∨ sh = 41 ∨ sh = 42 ∨ sh = 43 ∨ sh = 44 ∨ sh = 45 ∨ sh = 46 ∨ sh = 47 ∨ sh = 48 ∨ sh = 49 ∨ sh = 50 ∨ sh = 51 ∨ sh = 52 ∨ sh = 53 ∨ sh = 54 ∨ sh = 55) : ∃ k : Nat, k ≤ 55 ∧ (m <<< ((sh &&& 0x3f).toInt64)).toInt = m.toInt * ((2 ^ k : Nat) : Int) := by
  rcases h with rfl | rfl | rfl | rfl | rfl | rfl | rfl | rfl | rfl | rfl | rfl | rfl | rfl | rfl | rfl | rfl | rfl | rfl | rfl | rfl | rfl | rfl | rfl | rfl | rfl | rfl | rfl | rfl | rfl | rfl | rfl | rfl | rfl | rfl | rfl | rfl | rfl | rfl | rfl | rfl | rfl | rfl | rfl | rfl | rfl | rfl | rfl | rfl | rfl | rfl | rfl | rfl | rfl | rfl | rfl | rfl
  · exact ⟨0, by decide, Jvm.Kit.i64_shl m _ (k := 0) (by decide) (by omega) (by omega)⟩
  · exact ⟨1, by decide, Jvm.Kit.i64_shl m _ (k := 1) (by decide) (by omega) (by omega)⟩
  · exact ⟨2, by decide, Jvm.Kit.i64_shl m _ (k := 2) (by decide) (by omega) (by omega)⟩
  · exact ⟨3, by decide, Jvm.Kit.i64_shl m _ (k := 3) (by decide) (by omega) (by omega)⟩
  · exact ⟨4, by decide, Jvm.Kit.i64_shl m _ (k := 4) (by decide) (by omega) (by omega)⟩
  · exact ⟨5, by decide, Jvm.Kit.i64_shl m _ (k := 5) (by decide) (by omega) (by omega)⟩
  · exact ⟨6, by decide, Jvm.Kit.i64_shl m _ (k := 6) (by decide) (by omega) (by omega)⟩
  · exact ⟨7, by decide, Jvm.Kit.i64_shl m _ (k := 7) (by decide) (by omega) (by omega)⟩
  · exact ⟨8, by decide, Jvm.Kit.i64_shl m _ (k := 8) (by decide) (by omega) (by omega)⟩
  · exact ⟨9, by decide, Jvm.Kit.i64_shl m _ (k := 9) (by decide) (by omega) (by omega)⟩
  · exact ⟨10, by decide, Jvm.Kit.i64_shl m _ (k := 10) (by decide) (by omega) (by omega)⟩
  · exact ⟨11, by decide, Jvm.Kit.i64_shl m _ (k := 11) (by decide) (by omega) (by omega)⟩
  · exact ⟨12, by decide, Jvm.Kit.i64_shl m _ (k := 12) (by decide) (by omega) (by omega)⟩
  · exact ⟨13, by decide, Jvm.Kit.i64_shl m _ (k := 13) (by decide) (by omega) (by omega)⟩
  · exact ⟨14, by decide, Jvm.Kit.i64_shl m _ (k := 14) (by decide) (by omega) (by omega)⟩
  · exact ⟨15, by decide, Jvm.Kit.i64_shl m _ (k := 15) (by decide) (by omega) (by omega)⟩
  · exact ⟨16, by decide, Jvm.Kit.i64_shl m _ (k := 16) (by decide) (by omega) (by omega)⟩
  · exact ⟨17, by decide, Jvm.Kit.i64_shl m _ (k := 17) (by decide) (by omega) (by omega)⟩
  · exact ⟨18, by decide, Jvm.Kit.i64_shl m _ (k := 18) (by decide) (by omega) (by omega)⟩
  · exact ⟨19, by decide, Jvm.Kit.i64_shl m _ (k := 19) (by decide) (by omega) (by omega)⟩
  · exact ⟨20, by decide, Jvm.Kit.i64_shl m _ (k := 20) (by decide) (by omega) (by omega)⟩
  · exact ⟨21, by decide, Jvm.Kit.i64_shl m _ (k := 21) (by decide) (by omega) (by omega)⟩
  · exact ⟨22, by decide, Jvm.Kit.i64_shl m _ (k := 22) (by decide) (by omega) (by omega)⟩
  · exact ⟨23, by decide, Jvm.Kit.i64_shl m _ (k := 23) (by decide) (by omega) (by omega)⟩
  · exact ⟨24, by decide, Jvm.Kit.i64_shl m _ (k := 24) (by decide) (by omega) (by omega)⟩
  · exact ⟨25, by decide, Jvm.Kit.i64_shl m _ (k := 25) (by decide) (by omega) (by omega)⟩
  · exact ⟨26, by decide, Jvm.Kit.i64_shl m _ (k := 26) (by decide) (by omega) (by omega)⟩
  · exact ⟨27, by decide, Jvm.Kit.i64_shl m _ (k := 27) (by decide) (by omega) (by omega)⟩
  · exact ⟨28, by decide, Jvm.Kit.i64_shl m _ (k := 28) (by decide) (by omega) (by omega)⟩
  · exact ⟨29, by decide, Jvm.Kit.i64_shl m _ (k := 29) (by decide) (by omega) (by omega)⟩
  · exact ⟨30, by decide, Jvm.Kit.i64_shl m _ (k := 30) (by decide) (by omega) (by omega)⟩
  · exact ⟨31, by decide, Jvm.Kit.i64_shl m _ (k := 31) (by decide) (by omega) (by omega)⟩
  · exact ⟨32, by decide, Jvm.Kit.i64_shl m _ (k := 32) (by decide) (by omega) (by omega)⟩
  · exact ⟨33, by decide, Jvm.Kit.i64_shl m _ (k := 33) (by decide) (by omega) (by omega)⟩
  · exact ⟨34, by decide, Jvm.Kit.i64_shl m _ (k := 34) (by decide) (by omega) (by omega)⟩
  · exact ⟨35, by decide, Jvm.Kit.i64_shl m _ (k := 35) (by decide) (by omega) (by omega)⟩
  · exact ⟨36, by decide, Jvm.Kit.i64_shl m _ (k := 36) (by decide) (by omega) (by omega)⟩
  · exact ⟨37, by decide, Jvm.Kit.i64_shl m _ (k := 37) (by decide) (by omega) (by omega)⟩
  · exact ⟨38, by decide, Jvm.Kit.i64_shl m _ (k := 38) (by decide) (by omega) (by omega)⟩
  · exact ⟨39, by decide, Jvm.Kit.i64_shl m _ (k := 39) (by decide) (by omega) (by omega)⟩
  · exact ⟨40, by decide, Jvm.Kit.i64_shl m _ (k := 40) (by decide) (by omega) (by omega)⟩
  · exact ⟨41, by decide, Jvm.Kit.i64_shl m _ (k := 41) (by decide) (by omega) (by omega)⟩
  · exact ⟨42, by decide, Jvm.Kit.i64_shl m _ (k := 42) (by decide) (by omega) (by omega)⟩
  · exact ⟨43, by decide, Jvm.Kit.i64_shl m _ (k := 43) (by decide) (by omega) (by omega)⟩
  · exact ⟨44, by decide, Jvm.Kit.i64_shl m _ (k := 44) (by decide) (by omega) (by omega)⟩
  · exact ⟨45, by decide, Jvm.Kit.i64_shl m _ (k := 45) (by decide) (by omega) (by omega)⟩
  · exact ⟨46, by decide, Jvm.Kit.i64_shl m _ (k := 46) (by decide) (by omega) (by omega)⟩
  · exact ⟨47, by decide, Jvm.Kit.i64_shl m _ (k := 47) (by decide) (by omega) (by omega)⟩
  · exact ⟨48, by decide, Jvm.Kit.i64_shl m _ (k := 48) (by decide) (by omega) (by omega)⟩
  · exact ⟨49, by decide, Jvm.Kit.i64_shl m _ (k := 49) (by decide) (by omega) (by omega)⟩
  · exact ⟨50, by decide, Jvm.Kit.i64_shl m _ (k := 50) (by decide) (by omega) (by omega)⟩
  · exact ⟨51, by decide, Jvm.Kit.i64_shl m _ (k := 51) (by decide) (by omega) (by omega)⟩
  · exact ⟨52, by decide, Jvm.Kit.i64_shl m _ (k := 52) (by decide) (by omega) (by omega)⟩
  · exact ⟨53, by decide, Jvm.Kit.i64_shl m _ (k := 53) (by decide) (by omega) (by omega)⟩
  · exact ⟨54, by decide, Jvm.Kit.i64_shl m _ (k := 54) (by decide) (by omega) (by omega)⟩
  · exact ⟨55, by decide, Jvm.Kit.i64_shl m _ (k := 55) (by decide) (by omega) (by omega)⟩
set_option maxRecDepth 65536 in
theorem own_s56 (x : Int32) (sh : Int32) (e : sh = ((x &&& (63 : Int32)) % (56 : Int32))) : sh = 0 ∨ sh = 1 ∨ sh = 2 ∨ sh = 3 ∨ sh = 4 ∨ sh = 5 ∨ sh = 6 ∨ sh = 7 ∨ sh = 8 ∨ sh = 9 ∨ sh = 10 ∨ sh = 11 ∨ sh = 12 ∨ sh = 13 ∨ sh = 14 ∨ sh = 15 ∨ sh = 16 ∨ sh = 17 ∨ sh = 18 ∨ sh = 19 ∨ sh = 20 ∨ sh = 21 ∨ sh = 22 ∨ sh = 23 ∨ sh = 24 ∨ sh = 25 ∨ sh = 26 ∨ sh = 27 ∨ sh = 28 ∨ sh = 29 ∨ sh = 30 ∨ sh = 31 ∨ sh = 32 ∨ sh = 33 ∨ sh = 34 ∨ sh = 35 ∨ sh = 36 ∨ sh = 37 ∨ sh = 38 ∨ sh = 39 ∨ sh = 40 ∨ sh = 41 ∨ sh = 42 ∨ sh = 43 ∨ sh = 44 ∨ sh = 45 ∨ sh = 46 ∨ sh = 47 ∨ sh = 48 ∨ sh = 49 ∨ sh = 50 ∨ sh = 51 ∨ sh = 52 ∨ sh = 53 ∨ sh = 54 ∨ sh = 55 := by
  have q := Jvm.Kit.i32_mask x 63 (k := 6) (by decide) (by decide)
  have t : (56 : Int32).toInt = 56 := by decide
  have f : sh.toInt = (x &&& (63 : Int32)).toInt % 56 := by rw [e, Jvm.Kit.i32_rem_nonneg (by omega), t]
  have g : 0 ≤ sh.toInt ∧ sh.toInt < 56 := by omega
  clear e f
  have c : sh.toInt = 0 ∨ sh.toInt = 1 ∨ sh.toInt = 2 ∨ sh.toInt = 3 ∨ sh.toInt = 4 ∨ sh.toInt = 5 ∨ sh.toInt = 6 ∨ sh.toInt = 7 ∨ sh.toInt = 8 ∨ sh.toInt = 9 ∨ sh.toInt = 10 ∨ sh.toInt = 11 ∨ sh.toInt = 12 ∨ sh.toInt = 13 ∨ sh.toInt = 14 ∨ sh.toInt = 15 ∨ sh.toInt = 16 ∨ sh.toInt = 17 ∨ sh.toInt = 18 ∨ sh.toInt = 19 ∨ sh.toInt = 20 ∨ sh.toInt = 21 ∨ sh.toInt = 22 ∨ sh.toInt = 23 ∨ sh.toInt = 24 ∨ sh.toInt = 25 ∨ sh.toInt = 26 ∨ sh.toInt = 27 ∨ sh.toInt = 28 ∨ sh.toInt = 29 ∨ sh.toInt = 30 ∨ sh.toInt = 31 ∨ sh.toInt = 32 ∨ sh.toInt = 33 ∨ sh.toInt = 34 ∨ sh.toInt = 35 ∨ sh.toInt = 36 ∨ sh.toInt = 37 ∨ sh.toInt = 38 ∨ sh.toInt = 39 ∨ sh.toInt = 40 ∨ sh.toInt = 41 ∨ sh.toInt = 42 ∨ sh.toInt = 43 ∨ sh.toInt = 44 ∨ sh.toInt = 45 ∨ sh.toInt = 46 ∨ sh.toInt = 47 ∨ sh.toInt = 48 ∨ sh.toInt = 49 ∨ sh.toInt = 50 ∨ sh.toInt = 51 ∨ sh.toInt = 52 ∨ sh.toInt = 53 ∨ sh.toInt = 54 ∨ sh.toInt = 55 := by omega
  rcases c with h | h | h | h | h | h | h | h | h | h | h | h | h | h | h | h | h | h | h | h | h | h | h | h | h | h | h | h | h | h | h | h | h | h | h | h | h | h | h | h | h | h | h | h | h | h | h | h | h | h | h | h | h | h | h | h
  · exact Or.inl (Int32.toInt_inj.mp (by rw [h]; decide))
  · exact Or.inr (Or.inl (Int32.toInt_inj.mp (by rw [h]; decide)))
  · exact Or.inr (Or.inr (Or.inl (Int32.toInt_inj.mp (by rw [h]; decide))))
  · exact Or.inr (Or.inr (Or.inr (Or.inl (Int32.toInt_inj.mp (by rw [h]; decide)))))
  · exact Or.inr (Or.inr (Or.inr (Or.inr (Or.inl (Int32.toInt_inj.mp (by rw [h]; decide))))))
  · exact Or.inr (Or.inr (Or.inr (Or.inr (Or.inr (Or.inl (Int32.toInt_inj.mp (by rw [h]; decide)))))))
  · exact Or.inr (Or.inr (Or.inr (Or.inr (Or.inr (Or.inr (Or.inl (Int32.toInt_inj.mp (by rw [h]; decide))))))))
  · exact Or.inr (Or.inr (Or.inr (Or.inr (Or.inr (Or.inr (Or.inr (Or.inl (Int32.toInt_inj.mp (by rw [h]; decide)))))))))
  · exact Or.inr (Or.inr (Or.inr (Or.inr (Or.inr (Or.inr (Or.inr (Or.inr (Or.inl (Int32.toInt_inj.mp (by rw [h]; decide))))))))))
  · exact Or.inr (Or.inr (Or.inr (Or.inr (Or.inr (Or.inr (Or.inr (Or.inr (Or.inr (Or.inl (Int32.toInt_inj.mp (by rw [h]; decide)))))))))))
  · exact Or.inr (Or.inr (Or.inr (Or.inr (Or.inr (Or.inr (Or.inr (Or.inr (Or.inr (Or.inr (Or.inl (Int32.toInt_inj.mp (by rw [h]; decide))))))))))))
  · exact Or.inr (Or.inr (Or.inr (Or.inr (Or.inr (Or.inr (Or.inr (Or.inr (Or.inr (Or.inr (Or.inr (Or.inl (Int32.toInt_inj.mp (by rw [h]; decide)))))))))))))
  · exact Or.inr (Or.inr (Or.inr (Or.inr (Or.inr (Or.inr (Or.inr (Or.inr (Or.inr (Or.inr (Or.inr (Or.inr (Or.inl (Int32.toInt_inj.mp (by rw [h]; decide))))))))))))))
  · exact Or.inr (Or.inr (Or.inr (Or.inr (Or.inr (Or.inr (Or.inr (Or.inr (Or.inr (Or.inr (Or.inr (Or.inr (Or.inr (Or.inl (Int32.toInt_inj.mp (by rw [h]; decide)))))))))))))))
  · exact Or.inr (Or.inr (Or.inr (Or.inr (Or.inr (Or.inr (Or.inr (Or.inr (Or.inr (Or.inr (Or.inr (Or.inr (Or.inr (Or.inr (Or.inl (Int32.toInt_inj.mp (by rw [h]; decide))))))))))))))))
  · exact Or.inr (Or.inr (Or.inr (Or.inr (Or.inr (Or.inr (Or.inr (Or.inr (Or.inr (Or.inr (Or.inr (Or.inr (Or.inr (Or.inr (Or.inr (Or.inl (Int32.toInt_inj.mp (by rw [h]; decide)))))))))))))))))
  · exact Or.inr (Or.inr (Or.inr (Or.inr (Or.inr (Or.inr (Or.inr (Or.inr (Or.inr (Or.inr (Or.inr (Or.inr (Or.inr (Or.inr (Or.inr (Or.inr (Or.inl (Int32.toInt_inj.mp (by rw [h]; decide))))))))))))))))))
  · exact Or.inr (Or.inr (Or.inr (Or.inr (Or.inr (Or.inr (Or.inr (Or.inr (Or.inr (Or.inr (Or.inr (Or.inr (Or.inr (Or.inr (Or.inr (Or.inr (Or.inr (Or.inl (Int32.toInt_inj.mp (by rw [h]; decide)))))))))))))))))))
  · exact Or.inr (Or.inr (Or.inr (Or.inr (Or.inr (Or.inr (Or.inr (Or.inr (Or.inr (Or.inr (Or.inr (Or.inr (Or.inr (Or.inr (Or.inr (Or.inr (Or.inr (Or.inr (Or.inl (Int32.toInt_inj.mp (by rw [h]; decide))))))))))))))))))))
  · exact Or.inr (Or.inr (Or.inr (Or.inr (Or.inr (Or.inr (Or.inr (Or.inr (Or.inr (Or.inr (Or.inr (Or.inr (Or.inr (Or.inr (Or.inr (Or.inr (Or.inr (Or.inr (Or.inr (Or.inl (Int32.toInt_inj.mp (by rw [h]; decide)))))))))))))))))))))
  · exact Or.inr (Or.inr (Or.inr (Or.inr (Or.inr (Or.inr (Or.inr (Or.inr (Or.inr (Or.inr (Or.inr (Or.inr (Or.inr (Or.inr (Or.inr (Or.inr (Or.inr (Or.inr (Or.inr (Or.inr (Or.inl (Int32.toInt_inj.mp (by rw [h]; decide))))))))))))))))))))))
  · exact Or.inr (Or.inr (Or.inr (Or.inr (Or.inr (Or.inr (Or.inr (Or.inr (Or.inr (Or.inr (Or.inr (Or.inr (Or.inr (Or.inr (Or.inr (Or.inr (Or.inr (Or.inr (Or.inr (Or.inr (Or.inr (Or.inl (Int32.toInt_inj.mp (by rw [h]; decide)))))))))))))))))))))))
  · exact Or.inr (Or.inr (Or.inr (Or.inr (Or.inr (Or.inr (Or.inr (Or.inr (Or.inr (Or.inr (Or.inr (Or.inr (Or.inr (Or.inr (Or.inr (Or.inr (Or.inr (Or.inr (Or.inr (Or.inr (Or.inr (Or.inr (Or.inl (Int32.toInt_inj.mp (by rw [h]; decide))))))))))))))))))))))))
  · exact Or.inr (Or.inr (Or.inr (Or.inr (Or.inr (Or.inr (Or.inr (Or.inr (Or.inr (Or.inr (Or.inr (Or.inr (Or.inr (Or.inr (Or.inr (Or.inr (Or.inr (Or.inr (Or.inr (Or.inr (Or.inr (Or.inr (Or.inr (Or.inl (Int32.toInt_inj.mp (by rw [h]; decide)))))))))))))))))))))))))
  · exact Or.inr (Or.inr (Or.inr (Or.inr (Or.inr (Or.inr (Or.inr (Or.inr (Or.inr (Or.inr (Or.inr (Or.inr (Or.inr (Or.inr (Or.inr (Or.inr (Or.inr (Or.inr (Or.inr (Or.inr (Or.inr (Or.inr (Or.inr (Or.inr (Or.inl (Int32.toInt_inj.mp (by rw [h]; decide))))))))))))))))))))))))))
  · exact Or.inr (Or.inr (Or.inr (Or.inr (Or.inr (Or.inr (Or.inr (Or.inr (Or.inr (Or.inr (Or.inr (Or.inr (Or.inr (Or.inr (Or.inr (Or.inr (Or.inr (Or.inr (Or.inr (Or.inr (Or.inr (Or.inr (Or.inr (Or.inr (Or.inr (Or.inl (Int32.toInt_inj.mp (by rw [h]; decide)))))))))))))))))))))))))))
  · exact Or.inr (Or.inr (Or.inr (Or.inr (Or.inr (Or.inr (Or.inr (Or.inr (Or.inr (Or.inr (Or.inr (Or.inr (Or.inr (Or.inr (Or.inr (Or.inr (Or.inr (Or.inr (Or.inr (Or.inr (Or.inr (Or.inr (Or.inr (Or.inr (Or.inr (Or.inr (Or.inl (Int32.toInt_inj.mp (by rw [h]; decide))))))))))))))))))))))))))))
  · exact Or.inr (Or.inr (Or.inr (Or.inr (Or.inr (Or.inr (Or.inr (Or.inr (Or.inr (Or.inr (Or.inr (Or.inr (Or.inr (Or.inr (Or.inr (Or.inr (Or.inr (Or.inr (Or.inr (Or.inr (Or.inr (Or.inr (Or.inr (Or.inr (Or.inr (Or.inr (Or.inr (Or.inl (Int32.toInt_inj.mp (by rw [h]; decide)))))))))))))))))))))))))))))
  · exact Or.inr (Or.inr (Or.inr (Or.inr (Or.inr (Or.inr (Or.inr (Or.inr (Or.inr (Or.inr (Or.inr (Or.inr (Or.inr (Or.inr (Or.inr (Or.inr (Or.inr (Or.inr (Or.inr (Or.inr (Or.inr (Or.inr (Or.inr (Or.inr (Or.inr (Or.inr (Or.inr (Or.inr (Or.inl (Int32.toInt_inj.mp (by rw [h]; decide))))))))))))))))))))))))))))))
  · exact Or.inr (Or.inr (Or.inr (Or.inr (Or.inr (Or.inr (Or.inr (Or.inr (Or.inr (Or.inr (Or.inr (Or.inr (Or.inr (Or.inr (Or.inr (Or.inr (Or.inr (Or.inr (Or.inr (Or.inr (Or.inr (Or.inr (Or.inr (Or.inr (Or.inr (Or.inr (Or.inr (Or.inr (Or.inr (Or.inl (Int32.toInt_inj.mp (by rw [h]; decide)))))))))))))))))))))))))))))))
  · exact Or.inr (Or.inr (Or.inr (Or.inr (Or.inr (Or.inr (Or.inr (Or.inr (Or.inr (Or.inr (Or.inr (Or.inr (Or.inr (Or.inr (Or.inr (Or.inr (Or.inr (Or.inr (Or.inr (Or.inr (Or.inr (Or.inr (Or.inr (Or.inr (Or.inr (Or.inr (Or.inr (Or.inr (Or.inr (Or.inr (Or.inl (Int32.toInt_inj.mp (by rw [h]; decide))))))))))))))))))))))))))))))))
  · exact Or.inr (Or.inr (Or.inr (Or.inr (Or.inr (Or.inr (Or.inr (Or.inr (Or.inr (Or.inr (Or.inr (Or.inr (Or.inr (Or.inr (Or.inr (Or.inr (Or.inr (Or.inr (Or.inr (Or.inr (Or.inr (Or.inr (Or.inr (Or.inr (Or.inr (Or.inr (Or.inr (Or.inr (Or.inr (Or.inr (Or.inr (Or.inl (Int32.toInt_inj.mp (by rw [h]; decide)))))))))))))))))))))))))))))))))
  · exact Or.inr (Or.inr (Or.inr (Or.inr (Or.inr (Or.inr (Or.inr (Or.inr (Or.inr (Or.inr (Or.inr (Or.inr (Or.inr (Or.inr (Or.inr (Or.inr (Or.inr (Or.inr (Or.inr (Or.inr (Or.inr (Or.inr (Or.inr (Or.inr (Or.inr (Or.inr (Or.inr (Or.inr (Or.inr (Or.inr (Or.inr (Or.inr (Or.inl (Int32.toInt_inj.mp (by rw [h]; decide))))))))))))))))))))))))))))))))))
  · exact Or.inr (Or.inr (Or.inr (Or.inr (Or.inr (Or.inr (Or.inr (Or.inr (Or.inr (Or.inr (Or.inr (Or.inr (Or.inr (Or.inr (Or.inr (Or.inr (Or.inr (Or.inr (Or.inr (Or.inr (Or.inr (Or.inr (Or.inr (Or.inr (Or.inr (Or.inr (Or.inr (Or.inr (Or.inr (Or.inr (Or.inr (Or.inr (Or.inr (Or.inl (Int32.toInt_inj.mp (by rw [h]; decide)))))))))))))))))))))))))))))))))))
  · exact Or.inr (Or.inr (Or.inr (Or.inr (Or.inr (Or.inr (Or.inr (Or.inr (Or.inr (Or.inr (Or.inr (Or.inr (Or.inr (Or.inr (Or.inr (Or.inr (Or.inr (Or.inr (Or.inr (Or.inr (Or.inr (Or.inr (Or.inr (Or.inr (Or.inr (Or.inr (Or.inr (Or.inr (Or.inr (Or.inr (Or.inr (Or.inr (Or.inr (Or.inr (Or.inl (Int32.toInt_inj.mp (by rw [h]; decide))))))))))))))))))))))))))))))))))))
  · exact Or.inr (Or.inr (Or.inr (Or.inr (Or.inr (Or.inr (Or.inr (Or.inr (Or.inr (Or.inr (Or.inr (Or.inr (Or.inr (Or.inr (Or.inr (Or.inr (Or.inr (Or.inr (Or.inr (Or.inr (Or.inr (Or.inr (Or.inr (Or.inr (Or.inr (Or.inr (Or.inr (Or.inr (Or.inr (Or.inr (Or.inr (Or.inr (Or.inr (Or.inr (Or.inr (Or.inl (Int32.toInt_inj.mp (by rw [h]; decide)))))))))))))))))))))))))))))))))))))
  · exact Or.inr (Or.inr (Or.inr (Or.inr (Or.inr (Or.inr (Or.inr (Or.inr (Or.inr (Or.inr (Or.inr (Or.inr (Or.inr (Or.inr (Or.inr (Or.inr (Or.inr (Or.inr (Or.inr (Or.inr (Or.inr (Or.inr (Or.inr (Or.inr (Or.inr (Or.inr (Or.inr (Or.inr (Or.inr (Or.inr (Or.inr (Or.inr (Or.inr (Or.inr (Or.inr (Or.inr (Or.inl (Int32.toInt_inj.mp (by rw [h]; decide))))))))))))))))))))))))))))))))))))))
  · exact Or.inr (Or.inr (Or.inr (Or.inr (Or.inr (Or.inr (Or.inr (Or.inr (Or.inr (Or.inr (Or.inr (Or.inr (Or.inr (Or.inr (Or.inr (Or.inr (Or.inr (Or.inr (Or.inr (Or.inr (Or.inr (Or.inr (Or.inr (Or.inr (Or.inr (Or.inr (Or.inr (Or.inr (Or.inr (Or.inr (Or.inr (Or.inr (Or.inr (Or.inr (Or.inr (Or.inr (Or.inr (Or.inl (Int32.toInt_inj.mp (by rw [h]; decide)))))))))))))))))))))))))))))))))))))))
  · exact Or.inr (Or.inr (Or.inr (Or.inr (Or.inr (Or.inr (Or.inr (Or.inr (Or.inr (Or.inr (Or.inr (Or.inr (Or.inr (Or.inr (Or.inr (Or.inr (Or.inr (Or.inr (Or.inr (Or.inr (Or.inr (Or.inr (Or.inr (Or.inr (Or.inr (Or.inr (Or.inr (Or.inr (Or.inr (Or.inr (Or.inr (Or.inr (Or.inr (Or.inr (Or.inr (Or.inr (Or.inr (Or.inr (Or.inl (Int32.toInt_inj.mp (by rw [h]; decide))))))))))))))))))))))))))))))))))))))))
  · exact Or.inr (Or.inr (Or.inr (Or.inr (Or.inr (Or.inr (Or.inr (Or.inr (Or.inr (Or.inr (Or.inr (Or.inr (Or.inr (Or.inr (Or.inr (Or.inr (Or.inr (Or.inr (Or.inr (Or.inr (Or.inr (Or.inr (Or.inr (Or.inr (Or.inr (Or.inr (Or.inr (Or.inr (Or.inr (Or.inr (Or.inr (Or.inr (Or.inr (Or.inr (Or.inr (Or.inr (Or.inr (Or.inr (Or.inr (Or.inl (Int32.toInt_inj.mp (by rw [h]; decide)))))))))))))))))))))))))))))))))))))))))
  · exact Or.inr (Or.inr (Or.inr (Or.inr (Or.inr (Or.inr (Or.inr (Or.inr (Or.inr (Or.inr (Or.inr (Or.inr (Or.inr (Or.inr (Or.inr (Or.inr (Or.inr (Or.inr (Or.inr (Or.inr (Or.inr (Or.inr (Or.inr (Or.inr (Or.inr (Or.inr (Or.inr (Or.inr (Or.inr (Or.inr (Or.inr (Or.inr (Or.inr (Or.inr (Or.inr (Or.inr (Or.inr (Or.inr (Or.inr (Or.inr (Or.inl (Int32.toInt_inj.mp (by rw [h]; decide))))))))))))))))))))))))))))))))))))))))))
  · exact Or.inr (Or.inr (Or.inr (Or.inr (Or.inr (Or.inr (Or.inr (Or.inr (Or.inr (Or.inr (Or.inr (Or.inr (Or.inr (Or.inr (Or.inr (Or.inr (Or.inr (Or.inr (Or.inr (Or.inr (Or.inr (Or.inr (Or.inr (Or.inr (Or.inr (Or.inr (Or.inr (Or.inr (Or.inr (Or.inr (Or.inr (Or.inr (Or.inr (Or.inr (Or.inr (Or.inr (Or.inr (Or.inr (Or.inr (Or.inr (Or.inr (Or.inl (Int32.toInt_inj.mp (by rw [h]; decide)))))))))))))))))))))))))))))))))))))))))))
  · exact Or.inr (Or.inr (Or.inr (Or.inr (Or.inr (Or.inr (Or.inr (Or.inr (Or.inr (Or.inr (Or.inr (Or.inr (Or.inr (Or.inr (Or.inr (Or.inr (Or.inr (Or.inr (Or.inr (Or.inr (Or.inr (Or.inr (Or.inr (Or.inr (Or.inr (Or.inr (Or.inr (Or.inr (Or.inr (Or.inr (Or.inr (Or.inr (Or.inr (Or.inr (Or.inr (Or.inr (Or.inr (Or.inr (Or.inr (Or.inr (Or.inr (Or.inr (Or.inl (Int32.toInt_inj.mp (by rw [h]; decide))))))))))))))))))))))))))))))))))))))))))))
  · exact Or.inr (Or.inr (Or.inr (Or.inr (Or.inr (Or.inr (Or.inr (Or.inr (Or.inr (Or.inr (Or.inr (Or.inr (Or.inr (Or.inr (Or.inr (Or.inr (Or.inr (Or.inr (Or.inr (Or.inr (Or.inr (Or.inr (Or.inr (Or.inr (Or.inr (Or.inr (Or.inr (Or.inr (Or.inr (Or.inr (Or.inr (Or.inr (Or.inr (Or.inr (Or.inr (Or.inr (Or.inr (Or.inr (Or.inr (Or.inr (Or.inr (Or.inr (Or.inr (Or.inl (Int32.toInt_inj.mp (by rw [h]; decide)))))))))))))))))))))))))))))))))))))))))))))
  · exact Or.inr (Or.inr (Or.inr (Or.inr (Or.inr (Or.inr (Or.inr (Or.inr (Or.inr (Or.inr (Or.inr (Or.inr (Or.inr (Or.inr (Or.inr (Or.inr (Or.inr (Or.inr (Or.inr (Or.inr (Or.inr (Or.inr (Or.inr (Or.inr (Or.inr (Or.inr (Or.inr (Or.inr (Or.inr (Or.inr (Or.inr (Or.inr (Or.inr (Or.inr (Or.inr (Or.inr (Or.inr (Or.inr (Or.inr (Or.inr (Or.inr (Or.inr (Or.inr (Or.inr (Or.inl (Int32.toInt_inj.mp (by rw [h]; decide))))))))))))))))))))))))))))))))))))))))))))))
  · exact Or.inr (Or.inr (Or.inr (Or.inr (Or.inr (Or.inr (Or.inr (Or.inr (Or.inr (Or.inr (Or.inr (Or.inr (Or.inr (Or.inr (Or.inr (Or.inr (Or.inr (Or.inr (Or.inr (Or.inr (Or.inr (Or.inr (Or.inr (Or.inr (Or.inr (Or.inr (Or.inr (Or.inr (Or.inr (Or.inr (Or.inr (Or.inr (Or.inr (Or.inr (Or.inr (Or.inr (Or.inr (Or.inr (Or.inr (Or.inr (Or.inr (Or.inr (Or.inr (Or.inr (Or.inr (Or.inl (Int32.toInt_inj.mp (by rw [h]; decide)))))))))))))))))))))))))))))))))))))))))))))))
  · exact Or.inr (Or.inr (Or.inr (Or.inr (Or.inr (Or.inr (Or.inr (Or.inr (Or.inr (Or.inr (Or.inr (Or.inr (Or.inr (Or.inr (Or.inr (Or.inr (Or.inr (Or.inr (Or.inr (Or.inr (Or.inr (Or.inr (Or.inr (Or.inr (Or.inr (Or.inr (Or.inr (Or.inr (Or.inr (Or.inr (Or.inr (Or.inr (Or.inr (Or.inr (Or.inr (Or.inr (Or.inr (Or.inr (Or.inr (Or.inr (Or.inr (Or.inr (Or.inr (Or.inr (Or.inr (Or.inr (Or.inl (Int32.toInt_inj.mp (by rw [h]; decide))))))))))))))))))))))))))))))))))))))))))))))))
  · exact Or.inr (Or.inr (Or.inr (Or.inr (Or.inr (Or.inr (Or.inr (Or.inr (Or.inr (Or.inr (Or.inr (Or.inr (Or.inr (Or.inr (Or.inr (Or.inr (Or.inr (Or.inr (Or.inr (Or.inr (Or.inr (Or.inr (Or.inr (Or.inr (Or.inr (Or.inr (Or.inr (Or.inr (Or.inr (Or.inr (Or.inr (Or.inr (Or.inr (Or.inr (Or.inr (Or.inr (Or.inr (Or.inr (Or.inr (Or.inr (Or.inr (Or.inr (Or.inr (Or.inr (Or.inr (Or.inr (Or.inr (Or.inl (Int32.toInt_inj.mp (by rw [h]; decide)))))))))))))))))))))))))))))))))))))))))))))))))
  · exact Or.inr (Or.inr (Or.inr (Or.inr (Or.inr (Or.inr (Or.inr (Or.inr (Or.inr (Or.inr (Or.inr (Or.inr (Or.inr (Or.inr (Or.inr (Or.inr (Or.inr (Or.inr (Or.inr (Or.inr (Or.inr (Or.inr (Or.inr (Or.inr (Or.inr (Or.inr (Or.inr (Or.inr (Or.inr (Or.inr (Or.inr (Or.inr (Or.inr (Or.inr (Or.inr (Or.inr (Or.inr (Or.inr (Or.inr (Or.inr (Or.inr (Or.inr (Or.inr (Or.inr (Or.inr (Or.inr (Or.inr (Or.inr (Or.inl (Int32.toInt_inj.mp (by rw [h]; decide))))))))))))))))))))))))))))))))))))))))))))))))))
  · exact Or.inr (Or.inr (Or.inr (Or.inr (Or.inr (Or.inr (Or.inr (Or.inr (Or.inr (Or.inr (Or.inr (Or.inr (Or.inr (Or.inr (Or.inr (Or.inr (Or.inr (Or.inr (Or.inr (Or.inr (Or.inr (Or.inr (Or.inr (Or.inr (Or.inr (Or.inr (Or.inr (Or.inr (Or.inr (Or.inr (Or.inr (Or.inr (Or.inr (Or.inr (Or.inr (Or.inr (Or.inr (Or.inr (Or.inr (Or.inr (Or.inr (Or.inr (Or.inr (Or.inr (Or.inr (Or.inr (Or.inr (Or.inr (Or.inr (Or.inl (Int32.toInt_inj.mp (by rw [h]; decide)))))))))))))))))))))))))))))))))))))))))))))))))))
  · exact Or.inr (Or.inr (Or.inr (Or.inr (Or.inr (Or.inr (Or.inr (Or.inr (Or.inr (Or.inr (Or.inr (Or.inr (Or.inr (Or.inr (Or.inr (Or.inr (Or.inr (Or.inr (Or.inr (Or.inr (Or.inr (Or.inr (Or.inr (Or.inr (Or.inr (Or.inr (Or.inr (Or.inr (Or.inr (Or.inr (Or.inr (Or.inr (Or.inr (Or.inr (Or.inr (Or.inr (Or.inr (Or.inr (Or.inr (Or.inr (Or.inr (Or.inr (Or.inr (Or.inr (Or.inr (Or.inr (Or.inr (Or.inr (Or.inr (Or.inr (Or.inl (Int32.toInt_inj.mp (by rw [h]; decide))))))))))))))))))))))))))))))))))))))))))))))))))))
  · exact Or.inr (Or.inr (Or.inr (Or.inr (Or.inr (Or.inr (Or.inr (Or.inr (Or.inr (Or.inr (Or.inr (Or.inr (Or.inr (Or.inr (Or.inr (Or.inr (Or.inr (Or.inr (Or.inr (Or.inr (Or.inr (Or.inr (Or.inr (Or.inr (Or.inr (Or.inr (Or.inr (Or.inr (Or.inr (Or.inr (Or.inr (Or.inr (Or.inr (Or.inr (Or.inr (Or.inr (Or.inr (Or.inr (Or.inr (Or.inr (Or.inr (Or.inr (Or.inr (Or.inr (Or.inr (Or.inr (Or.inr (Or.inr (Or.inr (Or.inr (Or.inr (Or.inl (Int32.toInt_inj.mp (by rw [h]; decide)))))))))))))))))))))))))))))))))))))))))))))))))))))
  · exact Or.inr (Or.inr (Or.inr (Or.inr (Or.inr (Or.inr (Or.inr (Or.inr (Or.inr (Or.inr (Or.inr (Or.inr (Or.inr (Or.inr (Or.inr (Or.inr (Or.inr (Or.inr (Or.inr (Or.inr (Or.inr (Or.inr (Or.inr (Or.inr (Or.inr (Or.inr (Or.inr (Or.inr (Or.inr (Or.inr (Or.inr (Or.inr (Or.inr (Or.inr (Or.inr (Or.inr (Or.inr (Or.inr (Or.inr (Or.inr (Or.inr (Or.inr (Or.inr (Or.inr (Or.inr (Or.inr (Or.inr (Or.inr (Or.inr (Or.inr (Or.inr (Or.inr (Or.inl (Int32.toInt_inj.mp (by rw [h]; decide))))))))))))))))))))))))))))))))))))))))))))))))))))))
  · exact Or.inr (Or.inr (Or.inr (Or.inr (Or.inr (Or.inr (Or.inr (Or.inr (Or.inr (Or.inr (Or.inr (Or.inr (Or.inr (Or.inr (Or.inr (Or.inr (Or.inr (Or.inr (Or.inr (Or.inr (Or.inr (Or.inr (Or.inr (Or.inr (Or.inr (Or.inr (Or.inr (Or.inr (Or.inr (Or.inr (Or.inr (Or.inr (Or.inr (Or.inr (Or.inr (Or.inr (Or.inr (Or.inr (Or.inr (Or.inr (Or.inr (Or.inr (Or.inr (Or.inr (Or.inr (Or.inr (Or.inr (Or.inr (Or.inr (Or.inr (Or.inr (Or.inr (Or.inr (Or.inl (Int32.toInt_inj.mp (by rw [h]; decide)))))))))))))))))))))))))))))))))))))))))))))))))))))))
  · exact Or.inr (Or.inr (Or.inr (Or.inr (Or.inr (Or.inr (Or.inr (Or.inr (Or.inr (Or.inr (Or.inr (Or.inr (Or.inr (Or.inr (Or.inr (Or.inr (Or.inr (Or.inr (Or.inr (Or.inr (Or.inr (Or.inr (Or.inr (Or.inr (Or.inr (Or.inr (Or.inr (Or.inr (Or.inr (Or.inr (Or.inr (Or.inr (Or.inr (Or.inr (Or.inr (Or.inr (Or.inr (Or.inr (Or.inr (Or.inr (Or.inr (Or.inr (Or.inr (Or.inr (Or.inr (Or.inr (Or.inr (Or.inr (Or.inr (Or.inr (Or.inr (Or.inr (Or.inr (Or.inr (Or.inl (Int32.toInt_inj.mp (by rw [h]; decide))))))))))))))))))))))))))))))))))))))))))))))))))))))))
  · exact Or.inr (Or.inr (Or.inr (Or.inr (Or.inr (Or.inr (Or.inr (Or.inr (Or.inr (Or.inr (Or.inr (Or.inr (Or.inr (Or.inr (Or.inr (Or.inr (Or.inr (Or.inr (Or.inr (Or.inr (Or.inr (Or.inr (Or.inr (Or.inr (Or.inr (Or.inr (Or.inr (Or.inr (Or.inr (Or.inr (Or.inr (Or.inr (Or.inr (Or.inr (Or.inr (Or.inr (Or.inr (Or.inr (Or.inr (Or.inr (Or.inr (Or.inr (Or.inr (Or.inr (Or.inr (Or.inr (Or.inr (Or.inr (Or.inr (Or.inr (Or.inr (Or.inr (Or.inr (Or.inr (Or.inr (Int32.toInt_inj.mp (by rw [h]; decide))))))))))))))))))))))))))))))))))))))))))))))))))))))))
theorem own_m (x : Int32) : -128 ≤ (((x &&& (255 : Int32)) - (128 : Int32)).toInt64).toInt ∧ (((x &&& (255 : Int32)) - (128 : Int32)).toInt64).toInt ≤ 127 := by
  have q := Jvm.Kit.i32_mask x 255 (k := 8) (by decide) (by decide)
  have t : (128 : Int32).toInt = 128 := by decide
  rw [Int32.toInt_toInt64, Jvm.Kit.i32_sub (by omega) (by omega), t]; omega
theorem own_big {big : Int64} {x y sh : Int32} (es : sh = ((y &&& (63 : Int32)) % (56 : Int32))) (eb : big = ((((x &&& (255 : Int32)) - (128 : Int32)).toInt64) <<< ((sh &&& 0x3f).toInt64))) : own_W (FP.l2d big) big.toInt ∧ -4611686018427387904 ≤ big.toInt ∧ big.toInt ≤ 4611686018427387904 := by
  have hm := own_m x
  obtain ⟨k, k1, k2⟩ := own_shl hm (own_s56 y sh es)
  rw [← eb] at k2
  generalize (((x &&& (255 : Int32)) - (128 : Int32)).toInt64).toInt = m at *
  obtain ⟨V, v1, v2⟩ := own_rep m (1074 + k) (by omega) (by omega)
  rw [own_e10, ← Int.mul_assoc, ← k2] at v2
  have p : 2 ^ k ≤ 2 ^ 55 := Nat.pow_le_pow_right (by decide) k1
  have b : (m * ((2 ^ k : Nat) : Int)).natAbs ≤ 128 * 2 ^ 55 := by rw [Int.natAbs_mul, Int.natAbs_natCast]; exact Nat.mul_le_mul (by omega) p
  rw [← k2] at b
  exact ⟨⟨Jvm.FP.Core.l2d_fin big, own_l2dx v1 v2⟩, by omega, by omega⟩

theorem own_f0 : decode prog_10_method_1_code 0 = .ok (.aload_n 0, 1) := by decide +kernel
theorem own_f1 : decode prog_10_method_1_code 1 = .ok (.invokespecial 1, 3) := by decide +kernel
theorem own_f2 : decode prog_10_method_1_code 4 = .ok (.return_, 1) := by decide +kernel
theorem own_f3 : plainName "com/example/mazu/mazu/base/CompensatedSum" = true := by first | (simp [plainName, overriddenIn]; done) | decide +kernel
theorem own_ef_I (m : MethodId) (a1 : Addr) : entryFrame m #[(.ref a1)] 1 = mkF m 0 #[.val (.ref a1)] [] := by first | (simp [entryFrame, mkF, argsToLocals, Value.category]; done) | rfl
def QI (Z : State) (a1 : Addr) (h0 : Heap) (n0 : Nat) (v : Option Value) (h : Heap) (L : List Loc) : Prop := v = none ∧ Fr n0 L ∧ h = h0
set_option maxRecDepth 65536 in
set_option maxHeartbeats 40000000 in
theorem rmI (l : Launch) (Z : State) (a0 : Array Value) (hw : ∀ d ∈ tables_1, d.before a0 Z = true) (ws : List Jvm.Cond) (a1 : Addr) (h0 : Heap) (n0 : Nat) (Z0 : n0 ≤ h0.size)  :
    MetFree l (⟨"com/example/mazu/mazu/base/CompensatedSum", "<init>", "()V"⟩ : MethodName) (head1 (Jvm.Cond.code (⟨"com/example/mazu/mazu/base/CompensatedSum", "<init>", "()V"⟩ : MethodName) prog_10_method_1_code 1 none :: ws) ({ frames := 1, cells := 0, slots := 0, locals := 12 } : Room)) (fun a U => a = #[(.ref a1)] ∧ Z.Warmed39 U.vm ∧ U.heap = h0) (fun _ _ _ _ _ => True) (fun _ U o U' => ∃ v L, o = .returned v ∧ QI Z a1 h0 n0 v U'.heap L ∧ FrameEnd U o U' L ({ frames := 1, cells := 0, slots := 0, locals := 12 } : Room).cells ({ frames := 1, cells := 0, slots := 0, locals := 12 } : Room).slots) := by
  refine MetFree.of_bodySF (plainFor_of_name own_f3) hisR ?_
  intro p e s m args below meth c s₁ Bd hml0 hP hK
  obtain ⟨rfl, hZ, hh⟩ := hP
  have hx := Bd.exec
  have hby := Bd.bytes
  have hml : c.maxLocals = 1 := hml0
  have hown : s.vm.findClass "com/example/mazu/mazu/base/CompensatedSum" = some m.cls := findClass_of_methodNamed Bd.named
  have hnm := (name_of_methodNamed Bd.named Bd.method).1
  have X0 : Stand p l e ({ frames := 1, cells := 0, slots := 0, locals := 12 } : Room) s m #[(.ref a1)] below meth c s₁ [] 0 0 := Stand.of_body Bd
  have e0 : s₁.heap = h0 := by rw [← hh, Bd.state]; rfl
  have N0 := Fr.nil n0
  refine Go.start (own_ef_I m a1) ?_
  show Go p e below _ s₁ (mkF m 0 #[.val (.ref a1)] [])
  refine Go.step (fun _ k => XS.aloadN X0.here hx rfl (hb hby own_f0) rfl rfl k) ?_
  show Go p e below _ s₁ (mkF m 1 #[.val (.ref a1)] [(.ref a1)])
  obtain ⟨T1, X1, e1, st1⟩ := initO X0 hx hZ hown (hw _ (List.mem_of_getElem? (i := 6) rfl)) (hw _ (List.mem_of_getElem? (i := 7) rfl)) (hw _ (List.mem_of_getElem? (i := 8) rfl)) e0 (g := (mkF m 1 #[.val (.ref a1)] [(.ref a1)])) rfl (by rw [hml]; rfl) rfl (hb hby own_f1) (by decide) (W := 0) (by show 2 * 0 + _ ≤ _; exact Nat.le_of_eq rfl) (by decide)
  refine Go.step st1 ?_
  show Go p e below _ T1 (mkF m 4 #[.val (.ref a1)] [])
  obtain ⟨fs, hr, hrun, hended, hW, hsame⟩ := X1.leave (v := none) (fun _ => rfl)
  refine Go.fin (X1.returnOut hx Bd.returns (hb hby own_f2) hr) hrun hended ?_
  refine ⟨_, _, rfl, ?_, ⟨_, rfl⟩, hW, hsame.mono (by decide) (by decide)⟩
  show QI Z a1 h0 n0 _ T1.heap _
  rw [e1]
  exact ⟨rfl, N0, rfl⟩
theorem own_f4 : decode prog_10_method_2_code 0 = .ok (.dload_n 1, 1) := by decide +kernel
theorem own_f5 : decode prog_10_method_2_code 1 = .ok (.aload_n 0, 1) := by decide +kernel
theorem own_f6 : decode prog_10_method_2_code 2 = .ok (.getfield 7, 3) := by decide +kernel
theorem own_f7 : decode prog_10_method_2_code 5 = .ok (.dsub, 1) := by decide +kernel
theorem own_f8 : decode prog_10_method_2_code 6 = .ok (.dstore_n 3, 1) := by decide +kernel
theorem own_f9 : decode prog_10_method_2_code 7 = .ok (.aload_n 0, 1) := by decide +kernel
theorem own_f10 : decode prog_10_method_2_code 8 = .ok (.getfield 13, 3) := by decide +kernel
theorem own_f11 : decode prog_10_method_2_code 11 = .ok (.dload_n 3, 1) := by decide +kernel
theorem own_f12 : decode prog_10_method_2_code 12 = .ok (.dadd, 1) := by decide +kernel
theorem own_f13 : decode prog_10_method_2_code 13 = .ok (.dstore 5, 2) := by decide +kernel
theorem own_f14 : decode prog_10_method_2_code 15 = .ok (.aload_n 0, 1) := by decide +kernel
theorem own_f15 : decode prog_10_method_2_code 16 = .ok (.dload 5, 2) := by decide +kernel
theorem own_f16 : decode prog_10_method_2_code 18 = .ok (.aload_n 0, 1) := by decide +kernel
theorem own_f17 : decode prog_10_method_2_code 19 = .ok (.getfield 13, 3) := by decide +kernel
theorem own_f18 : decode prog_10_method_2_code 22 = .ok (.dsub, 1) := by decide +kernel
theorem own_f19 : decode prog_10_method_2_code 23 = .ok (.dload_n 3, 1) := by decide +kernel
theorem own_f20 : decode prog_10_method_2_code 24 = .ok (.dsub, 1) := by decide +kernel
theorem own_f21 : decode prog_10_method_2_code 25 = .ok (.putfield 7, 3) := by decide +kernel
theorem own_f22 : decode prog_10_method_2_code 28 = .ok (.aload_n 0, 1) := by decide +kernel
theorem own_f23 : decode prog_10_method_2_code 29 = .ok (.dload 5, 2) := by decide +kernel
theorem own_f24 : decode prog_10_method_2_code 31 = .ok (.putfield 13, 3) := by decide +kernel
theorem own_f25 : decode prog_10_method_2_code 34 = .ok (.aload_n 0, 1) := by decide +kernel
theorem own_f26 : decode prog_10_method_2_code 35 = .ok (.dup, 1) := by decide +kernel
theorem own_f27 : decode prog_10_method_2_code 36 = .ok (.getfield 16, 3) := by decide +kernel
theorem own_f28 : decode prog_10_method_2_code 39 = .ok (.dload_n 1, 1) := by decide +kernel
theorem own_f29 : decode prog_10_method_2_code 40 = .ok (.dadd, 1) := by decide +kernel
theorem own_f30 : decode prog_10_method_2_code 41 = .ok (.putfield 16, 3) := by decide +kernel
theorem own_f31 : decode prog_10_method_2_code 44 = .ok (.aload_n 0, 1) := by decide +kernel
theorem own_f32 : decode prog_10_method_2_code 45 = .ok (.dup, 1) := by decide +kernel
theorem own_f33 : decode prog_10_method_2_code 46 = .ok (.getfield 19, 3) := by decide +kernel
theorem own_f34 : decode prog_10_method_2_code 49 = .ok (.lconst 1, 1) := by decide +kernel
theorem own_f35 : decode prog_10_method_2_code 50 = .ok (.ladd, 1) := by decide +kernel
theorem own_f36 : decode prog_10_method_2_code 51 = .ok (.putfield 19, 3) := by decide +kernel
theorem own_f37 : decode prog_10_method_2_code 54 = .ok (.return_, 1) := by decide +kernel
theorem own_ef_A (m : MethodId) (a1 : Addr) (d1 : UInt64) : entryFrame m #[(.ref a1), (.double d1)] 7 = mkF m 0 #[.val (.ref a1), .val (.double d1), .second, .unset, .unset, .unset, .unset] [] := by first | (simp [entryFrame, mkF, argsToLocals, Value.category]; done) | rfl
def QA (Z : State) (a1 : Addr) (d1 : UInt64) (sm er pl : UInt64) (cn n n' : Int64) (X : Int) (h0 : Heap) (n0 : Nat) (v : Option Value) (h : Heap) (L : List Loc) : Prop := ∃ sm' er' pl' : UInt64, v = none ∧ Fr n0 L ∧ Keep h0 h [a1] ∧ Fld Z h a1 "com/example/mazu/mazu/base/CompensatedSum" "sum" "D" (.double sm') ∧ Fld Z h a1 "com/example/mazu/mazu/base/CompensatedSum" "error" "D" (.double er') ∧ Fld Z h a1 "com/example/mazu/mazu/base/CompensatedSum" "plain" "D" (.double pl') ∧ Fld Z h a1 "com/example/mazu/mazu/base/CompensatedSum" "count" "J" (.long (cn + (1 : Int64))) ∧ own_St sm' er' n' ∧ Jvm.Free.Fl.NoNaN64 pl'
set_option maxRecDepth 65536 in
set_option maxHeartbeats 40000000 in
theorem rmA (l : Launch) (Z : State) (a0 : Array Value) (hw : ∀ d ∈ tables_1, d.before a0 Z = true) (ws : List Jvm.Cond) (a1 : Addr) (d1 : UInt64) (sm er pl : UInt64) (cn n n' : Int64) (X : Int) (h0 : Heap) (n0 : Nat) (Z0 : n0 ≤ h0.size) (E_a1 : Exa Z h0 a1 "com/example/mazu/mazu/base/CompensatedSum") (F_sum_a1 : Fld Z h0 a1 "com/example/mazu/mazu/base/CompensatedSum" "sum" "D" (.double sm)) (F_error_a1 : Fld Z h0 a1 "com/example/mazu/mazu/base/CompensatedSum" "error" "D" (.double er)) (F_plain_a1 : Fld Z h0 a1 "com/example/mazu/mazu/base/CompensatedSum" "plain" "D" (.double pl)) (F_count_a1 : Fld Z h0 a1 "com/example/mazu/mazu/base/CompensatedSum" "count" "J" (.long cn)) (g_a1 : n0 ≤ a1) (hS : own_St sm er n) (hv : own_W d1 X) (hn1 : n'.toInt = n.toInt + X) (hbd : -4611687117939015680 ≤ n'.toInt ∧ n'.toInt ≤ 4611687117939015680) (hxx : (n.toInt = 0 ∧ own_z sm = 0 ∧ own_z er = 0) ∨ (-4294967296 ≤ X ∧ X ≤ 4294967296)) (hpl : Jvm.Free.Fl.NoNaN64 pl) :
    MetFree l (⟨"com/example/mazu/mazu/base/CompensatedSum", "add", "(D)V"⟩ : MethodName) (head1 (Jvm.Cond.code (⟨"com/example/mazu/mazu/base/CompensatedSum", "add", "(D)V"⟩ : MethodName) prog_10_method_2_code 7 none :: ws) ({ frames := 0, cells := 0, slots := 0, locals := 0 } : Room)) (fun a U => a = #[(.ref a1), (.double d1)] ∧ Z.Warmed39 U.vm ∧ U.heap = h0) (fun _ _ _ _ _ => True) (fun _ U o U' => ∃ v L, o = .returned v ∧ QA Z a1 d1 sm er pl cn n n' X h0 n0 v U'.heap L ∧ FrameEnd U o U' L ({ frames := 0, cells := 0, slots := 0, locals := 0 } : Room).cells ({ frames := 0, cells := 0, slots := 0, locals := 0 } : Room).slots) := by
  refine MetFree.of_bodySF (plainFor_of_name own_f3) hisR ?_
  intro p e s m args below meth c s₁ Bd hml0 hP hK
  obtain ⟨rfl, hZ, hh⟩ := hP
  have hx := Bd.exec
  have hby := Bd.bytes
  have hml : c.maxLocals = 7 := hml0
  have hown : s.vm.findClass "com/example/mazu/mazu/base/CompensatedSum" = some m.cls := findClass_of_methodNamed Bd.named
  have hnm := (name_of_methodNamed Bd.named Bd.method).1
  have X0 : Stand p l e ({ frames := 0, cells := 0, slots := 0, locals := 0 } : Room) s m #[(.ref a1), (.double d1)] below meth c s₁ [] 0 0 := Stand.of_body Bd
  have e0 : s₁.heap = h0 := by rw [← hh, Bd.state]; rfl
  have N0 := Fr.nil n0
  refine Go.start (own_ef_A m a1 d1) ?_
  show Go p e below _ s₁ (mkF m 0 #[.val (.ref a1), .val (.double d1), .second, .unset, .unset, .unset, .unset] [])
  have Zn := Z0
  have K0 : Keep h0 h0 [a1] := Keep.refl h0 _
  have hk := own_kstep hS hv hn1 hbd hxx
  refine Go.step (fun _ k => XS.dloadN X0.here hx rfl (hb hby own_f4) rfl k) ?_
  show Go p e below _ s₁ (mkF m 1 #[.val (.ref a1), .val (.double d1), .second, .unset, .unset, .unset, .unset] [(.double d1)])
  refine Go.step (fun _ k => XS.aloadN X0.here hx rfl (hb hby own_f5) rfl rfl k) ?_
  show Go p e below _ s₁ (mkF m 2 #[.val (.ref a1), .val (.double d1), .second, .unset, .unset, .unset, .unset] [(.ref a1), (.double d1)])
  obtain ⟨T2, X2, e2, st2⟩ := getF X0 hx hZ hown (host := "") (Or.inl (hw _ (List.mem_of_getElem? (i := 14) rfl))) Via.refl e0 F_error_a1 (g := (mkF m 2 #[.val (.ref a1), .val (.double d1), .second, .unset, .unset, .unset, .unset] [(.ref a1), (.double d1)])) rfl rfl (hb hby own_f6)
  refine Go.step st2 ?_
  show Go p e below _ T2 (mkF m 5 #[.val (.ref a1), .val (.double d1), .second, .unset, .unset, .unset, .unset] [(.double er), (.double d1)])
  obtain ⟨yy, e_yy⟩ : ∃ z : UInt64, z = FP.dsub d1 er := ⟨_, rfl⟩
  refine Go.step (fun _ k => XS.dsubS X2.here hx rfl (hb hby own_f7) rfl (own_nn hk.1) e_yy.symm k) ?_
  show Go p e below _ T2 (mkF m 6 #[.val (.ref a1), .val (.double d1), .second, .unset, .unset, .unset, .unset] [(.double yy)])
  rw [← e_yy] at hk
  refine Go.step (fun _ k => XS.dstoreN X2.here hx rfl (hb hby own_f8) rfl (l' := #[.val (.ref a1), .val (.double d1), .second, .val (.double yy), .second, .unset, .unset]) rfl k) ?_
  show Go p e below _ T2 (mkF m 7 #[.val (.ref a1), .val (.double d1), .second, .val (.double yy), .second, .unset, .unset] [])
  refine Go.step (fun _ k => XS.aloadN X2.here hx rfl (hb hby own_f9) rfl rfl k) ?_
  show Go p e below _ T2 (mkF m 8 #[.val (.ref a1), .val (.double d1), .second, .val (.double yy), .second, .unset, .unset] [(.ref a1)])
  obtain ⟨T3, X3, e3, st3⟩ := getF X2 hx hZ hown (host := "") (Or.inl (hw _ (List.mem_of_getElem? (i := 16) rfl))) Via.refl e2 F_sum_a1 (g := (mkF m 8 #[.val (.ref a1), .val (.double d1), .second, .val (.double yy), .second, .unset, .unset] [(.ref a1)])) rfl rfl (hb hby own_f10)
  refine Go.step st3 ?_
  show Go p e below _ T3 (mkF m 11 #[.val (.ref a1), .val (.double d1), .second, .val (.double yy), .second, .unset, .unset] [(.double sm)])
  refine Go.step (fun _ k => XS.dloadN X3.here hx rfl (hb hby own_f11) rfl k) ?_
  show Go p e below _ T3 (mkF m 12 #[.val (.ref a1), .val (.double d1), .second, .val (.double yy), .second, .unset, .unset] [(.double yy), (.double sm)])
  obtain ⟨tt, e_tt⟩ : ∃ z : UInt64, z = FP.dadd sm yy := ⟨_, rfl⟩
  refine Go.step (fun _ k => XS.daddS X3.here hx rfl (hb hby own_f12) rfl (own_nn hk.2.1) e_tt.symm k) ?_
  show Go p e below _ T3 (mkF m 13 #[.val (.ref a1), .val (.double d1), .second, .val (.double yy), .second, .unset, .unset] [(.double tt)])
  rw [← e_tt] at hk
  refine Go.step (fun _ k => XS.dstore X3.here hx rfl (hb hby own_f13) rfl (l' := #[.val (.ref a1), .val (.double d1), .second, .val (.double yy), .second, .val (.double tt), .second]) rfl k) ?_
  show Go p e below _ T3 (mkF m 15 #[.val (.ref a1), .val (.double d1), .second, .val (.double yy), .second, .val (.double tt), .second] [])
  refine Go.step (fun _ k => XS.aloadN X3.here hx rfl (hb hby own_f14) rfl rfl k) ?_
  show Go p e below _ T3 (mkF m 16 #[.val (.ref a1), .val (.double d1), .second, .val (.double yy), .second, .val (.double tt), .second] [(.ref a1)])
  refine Go.step (fun _ k => XS.dload X3.here hx rfl (hb hby own_f15) rfl k) ?_
  show Go p e below _ T3 (mkF m 18 #[.val (.ref a1), .val (.double d1), .second, .val (.double yy), .second, .val (.double tt), .second] [(.double tt), (.ref a1)])
  refine Go.step (fun _ k => XS.aloadN X3.here hx rfl (hb hby own_f16) rfl rfl k) ?_
  show Go p e below _ T3 (mkF m 19 #[.val (.ref a1), .val (.double d1), .second, .val (.double yy), .second, .val (.double tt), .second] [(.ref a1), (.double tt), (.ref a1)])
  obtain ⟨T4, X4, e4, st4⟩ := getF X3 hx hZ hown (host := "") (Or.inl (hw _ (List.mem_of_getElem? (i := 16) rfl))) Via.refl e3 F_sum_a1 (g := (mkF m 19 #[.val (.ref a1), .val (.double d1), .second, .val (.double yy), .second, .val (.double tt), .second] [(.ref a1), (.double tt), (.ref a1)])) rfl rfl (hb hby own_f17)
  refine Go.step st4 ?_
  show Go p e below _ T4 (mkF m 22 #[.val (.ref a1), .val (.double d1), .second, .val (.double yy), .second, .val (.double tt), .second] [(.double sm), (.double tt), (.ref a1)])
  obtain ⟨dd, e_dd⟩ : ∃ z : UInt64, z = FP.dsub tt sm := ⟨_, rfl⟩
  refine Go.step (fun _ k => XS.dsubS X4.here hx rfl (hb hby own_f18) rfl (own_nn hk.2.2.1) e_dd.symm k) ?_
  show Go p e below _ T4 (mkF m 23 #[.val (.ref a1), .val (.double d1), .second, .val (.double yy), .second, .val (.double tt), .second] [(.double dd), (.ref a1)])
  rw [← e_dd] at hk
  refine Go.step (fun _ k => XS.dloadN X4.here hx rfl (hb hby own_f19) rfl k) ?_
  show Go p e below _ T4 (mkF m 24 #[.val (.ref a1), .val (.double d1), .second, .val (.double yy), .second, .val (.double tt), .second] [(.double yy), (.double dd), (.ref a1)])
  obtain ⟨ee, e_ee⟩ : ∃ z : UInt64, z = FP.dsub dd yy := ⟨_, rfl⟩
  refine Go.step (fun _ k => XS.dsubS X4.here hx rfl (hb hby own_f20) rfl (own_nn hk.2.2.2.1) e_ee.symm k) ?_
  show Go p e below _ T4 (mkF m 25 #[.val (.ref a1), .val (.double d1), .second, .val (.double yy), .second, .val (.double tt), .second] [(.double ee), (.ref a1)])
  rw [← e_ee] at hk
  obtain ⟨T5, h5, X5, e5, W5, st5⟩ := putF X4 hx hZ hown (host := "") (Or.inl (hw _ (List.mem_of_getElem? (i := 14) rfl))) Via.refl e4 F_error_a1 E_a1 (Or.inl (hw _ (List.mem_of_getElem? (i := 15) rfl))) (hw _ (List.mem_of_getElem? (i := 1) rfl)) (ty := .double) (by decide) rfl rfl (g := (mkF m 25 #[.val (.ref a1), .val (.double d1), .second, .val (.double yy), .second, .val (.double tt), .second] [(.double ee), (.ref a1)])) rfl rfl (hb hby own_f21)
  have Fw5 := F_error_a1.same W5
  replace E_a1 := E_a1.wr W5
  replace F_sum_a1 := F_sum_a1.other W5 (Or.inr (slot_ne (Or.inl (hw _ (List.mem_of_getElem? (i := 17) rfl))) (Or.inl (hw _ (List.mem_of_getElem? (i := 15) rfl))) (by decide) (t := .double) (t' := .double) (by decide) (by decide)))
  replace F_plain_a1 := F_plain_a1.other W5 (Or.inr (slot_ne (Or.inl (hw _ (List.mem_of_getElem? (i := 19) rfl))) (Or.inl (hw _ (List.mem_of_getElem? (i := 15) rfl))) (by decide) (t := .double) (t' := .double) (by decide) (by decide)))
  replace F_count_a1 := F_count_a1.other W5 (Or.inr (slot_ne (Or.inl (hw _ (List.mem_of_getElem? (i := 21) rfl))) (Or.inl (hw _ (List.mem_of_getElem? (i := 15) rfl))) (by decide) (t := .long) (t' := .double) (by decide) (by decide)))
  replace F_error_a1 := Fw5
  replace K0 := K0.wr W5 (Or.inl (List.mem_of_getElem? (i := 0) rfl))
  replace Zn := Nat.le_trans Zn (Nat.le_of_eq W5.size.symm)
  have N5 := Fr.snoc X5 N0 g_a1
  refine Go.step st5 ?_
  show Go p e below _ T5 (mkF m 28 #[.val (.ref a1), .val (.double d1), .second, .val (.double yy), .second, .val (.double tt), .second] [])
  refine Go.step (fun _ k => XS.aloadN X5.here hx rfl (hb hby own_f22) rfl rfl k) ?_
  show Go p e below _ T5 (mkF m 29 #[.val (.ref a1), .val (.double d1), .second, .val (.double yy), .second, .val (.double tt), .second] [(.ref a1)])
  refine Go.step (fun _ k => XS.dload X5.here hx rfl (hb hby own_f23) rfl k) ?_
  show Go p e below _ T5 (mkF m 31 #[.val (.ref a1), .val (.double d1), .second, .val (.double yy), .second, .val (.double tt), .second] [(.double tt), (.ref a1)])
  obtain ⟨T6, h6, X6, e6, W6, st6⟩ := putF X5 hx hZ hown (host := "") (Or.inl (hw _ (List.mem_of_getElem? (i := 16) rfl))) Via.refl e5 F_sum_a1 E_a1 (Or.inl (hw _ (List.mem_of_getElem? (i := 17) rfl))) (hw _ (List.mem_of_getElem? (i := 1) rfl)) (ty := .double) (by decide) rfl rfl (g := (mkF m 31 #[.val (.ref a1), .val (.double d1), .second, .val (.double yy), .second, .val (.double tt), .second] [(.double tt), (.ref a1)])) rfl rfl (hb hby own_f24)
  have Fw6 := F_sum_a1.same W6
  replace E_a1 := E_a1.wr W6
  replace F_plain_a1 := F_plain_a1.other W6 (Or.inr (slot_ne (Or.inl (hw _ (List.mem_of_getElem? (i := 19) rfl))) (Or.inl (hw _ (List.mem_of_getElem? (i := 17) rfl))) (by decide) (t := .double) (t' := .double) (by decide) (by decide)))
  replace F_count_a1 := F_count_a1.other W6 (Or.inr (slot_ne (Or.inl (hw _ (List.mem_of_getElem? (i := 21) rfl))) (Or.inl (hw _ (List.mem_of_getElem? (i := 17) rfl))) (by decide) (t := .long) (t' := .double) (by decide) (by decide)))
  replace F_error_a1 := F_error_a1.other W6 (Or.inr (slot_ne (Or.inl (hw _ (List.mem_of_getElem? (i := 15) rfl))) (Or.inl (hw _ (List.mem_of_getElem? (i := 17) rfl))) (by decide) (t := .double) (t' := .double) (by decide) (by decide)))
  replace F_sum_a1 := Fw6
  replace K0 := K0.wr W6 (Or.inl (List.mem_of_getElem? (i := 0) rfl))
  replace Zn := Nat.le_trans Zn (Nat.le_of_eq W6.size.symm)
  have N6 := Fr.snoc X6 N5 g_a1
  refine Go.step st6 ?_
  show Go p e below _ T6 (mkF m 34 #[.val (.ref a1), .val (.double d1), .second, .val (.double yy), .second, .val (.double tt), .second] [])
  refine Go.step (fun _ k => XS.aloadN X6.here hx rfl (hb hby own_f25) rfl rfl k) ?_
  show Go p e below _ T6 (mkF m 35 #[.val (.ref a1), .val (.double d1), .second, .val (.double yy), .second, .val (.double tt), .second] [(.ref a1)])
  refine Go.step (fun _ k => XS.dup X6.here hx rfl (hb hby own_f26) rfl rfl k) ?_
  show Go p e below _ T6 (mkF m 36 #[.val (.ref a1), .val (.double d1), .second, .val (.double yy), .second, .val (.double tt), .second] [(.ref a1), (.ref a1)])
  obtain ⟨T7, X7, e7, st7⟩ := getF X6 hx hZ hown (host := "") (Or.inl (hw _ (List.mem_of_getElem? (i := 18) rfl))) Via.refl e6 F_plain_a1 (g := (mkF m 36 #[.val (.ref a1), .val (.double d1), .second, .val (.double yy), .second, .val (.double tt), .second] [(.ref a1), (.ref a1)])) rfl rfl (hb hby own_f27)
  refine Go.step st7 ?_
  show Go p e below _ T7 (mkF m 39 #[.val (.ref a1), .val (.double d1), .second, .val (.double yy), .second, .val (.double tt), .second] [(.double pl), (.ref a1)])
  refine Go.step (fun _ k => XS.dloadN X7.here hx rfl (hb hby own_f28) rfl k) ?_
  show Go p e below _ T7 (mkF m 40 #[.val (.ref a1), .val (.double d1), .second, .val (.double yy), .second, .val (.double tt), .second] [(.double d1), (.double pl), (.ref a1)])
  obtain ⟨pp, e_pp⟩ : ∃ z : UInt64, z = FP.dadd pl d1 := ⟨_, rfl⟩
  refine Go.step (fun _ k => XS.daddS X7.here hx rfl (hb hby own_f29) rfl (Jvm.Free.Fl.dadd_out hpl (Jvm.Free.Fl.fin64_core.mpr hv.1)) e_pp.symm k) ?_
  show Go p e below _ T7 (mkF m 41 #[.val (.ref a1), .val (.double d1), .second, .val (.double yy), .second, .val (.double tt), .second] [(.double pp), (.ref a1)])
  have hpp : Jvm.Free.Fl.NoNaN64 pp := by rw [e_pp]; exact Jvm.Free.Fl.dadd_out hpl (Jvm.Free.Fl.fin64_core.mpr hv.1)
  obtain ⟨T8, h8, X8, e8, W8, st8⟩ := putF X7 hx hZ hown (host := "") (Or.inl (hw _ (List.mem_of_getElem? (i := 18) rfl))) Via.refl e7 F_plain_a1 E_a1 (Or.inl (hw _ (List.mem_of_getElem? (i := 19) rfl))) (hw _ (List.mem_of_getElem? (i := 1) rfl)) (ty := .double) (by decide) rfl rfl (g := (mkF m 41 #[.val (.ref a1), .val (.double d1), .second, .val (.double yy), .second, .val (.double tt), .second] [(.double pp), (.ref a1)])) rfl rfl (hb hby own_f30)
  have Fw8 := F_plain_a1.same W8
  replace E_a1 := E_a1.wr W8
  replace F_count_a1 := F_count_a1.other W8 (Or.inr (slot_ne (Or.inl (hw _ (List.mem_of_getElem? (i := 21) rfl))) (Or.inl (hw _ (List.mem_of_getElem? (i := 19) rfl))) (by decide) (t := .long) (t' := .double) (by decide) (by decide)))
  replace F_error_a1 := F_error_a1.other W8 (Or.inr (slot_ne (Or.inl (hw _ (List.mem_of_getElem? (i := 15) rfl))) (Or.inl (hw _ (List.mem_of_getElem? (i := 19) rfl))) (by decide) (t := .double) (t' := .double) (by decide) (by decide)))
  replace F_sum_a1 := F_sum_a1.other W8 (Or.inr (slot_ne (Or.inl (hw _ (List.mem_of_getElem? (i := 17) rfl))) (Or.inl (hw _ (List.mem_of_getElem? (i := 19) rfl))) (by decide) (t := .double) (t' := .double) (by decide) (by decide)))
  replace F_plain_a1 := Fw8
  replace K0 := K0.wr W8 (Or.inl (List.mem_of_getElem? (i := 0) rfl))
  replace Zn := Nat.le_trans Zn (Nat.le_of_eq W8.size.symm)
  have N8 := Fr.snoc X8 N6 g_a1
  refine Go.step st8 ?_
  show Go p e below _ T8 (mkF m 44 #[.val (.ref a1), .val (.double d1), .second, .val (.double yy), .second, .val (.double tt), .second] [])
  refine Go.step (fun _ k => XS.aloadN X8.here hx rfl (hb hby own_f31) rfl rfl k) ?_
  show Go p e below _ T8 (mkF m 45 #[.val (.ref a1), .val (.double d1), .second, .val (.double yy), .second, .val (.double tt), .second] [(.ref a1)])
  refine Go.step (fun _ k => XS.dup X8.here hx rfl (hb hby own_f32) rfl rfl k) ?_
  show Go p e below _ T8 (mkF m 46 #[.val (.ref a1), .val (.double d1), .second, .val (.double yy), .second, .val (.double tt), .second] [(.ref a1), (.ref a1)])
  obtain ⟨T9, X9, e9, st9⟩ := getF X8 hx hZ hown (host := "") (Or.inl (hw _ (List.mem_of_getElem? (i := 20) rfl))) Via.refl e8 F_count_a1 (g := (mkF m 46 #[.val (.ref a1), .val (.double d1), .second, .val (.double yy), .second, .val (.double tt), .second] [(.ref a1), (.ref a1)])) rfl rfl (hb hby own_f33)
  refine Go.step st9 ?_
  show Go p e below _ T9 (mkF m 49 #[.val (.ref a1), .val (.double d1), .second, .val (.double yy), .second, .val (.double tt), .second] [(.long cn), (.ref a1)])
  refine Go.step (fun _ k => XS.lconst X9.here hx rfl (hb hby own_f34) k) ?_
  show Go p e below _ T9 (mkF m 50 #[.val (.ref a1), .val (.double d1), .second, .val (.double yy), .second, .val (.double tt), .second] [(.long (1 : Int64)), (.long cn), (.ref a1)])
  refine Go.step (fun _ k => XS.ladd X9.here hx rfl (hb hby own_f35) rfl k) ?_
  show Go p e below _ T9 (mkF m 51 #[.val (.ref a1), .val (.double d1), .second, .val (.double yy), .second, .val (.double tt), .second] [(.long (cn + (1 : Int64))), (.ref a1)])
  obtain ⟨T10, h10, X10, e10, W10, st10⟩ := putF X9 hx hZ hown (host := "") (Or.inl (hw _ (List.mem_of_getElem? (i := 20) rfl))) Via.refl e9 F_count_a1 E_a1 (Or.inl (hw _ (List.mem_of_getElem? (i := 21) rfl))) (hw _ (List.mem_of_getElem? (i := 1) rfl)) (ty := .long) (by decide) rfl rfl (g := (mkF m 51 #[.val (.ref a1), .val (.double d1), .second, .val (.double yy), .second, .val (.double tt), .second] [(.long (cn + (1 : Int64))), (.ref a1)])) rfl rfl (hb hby own_f36)
  have Fw10 := F_count_a1.same W10
  replace E_a1 := E_a1.wr W10
  replace F_error_a1 := F_error_a1.other W10 (Or.inr (slot_ne (Or.inl (hw _ (List.mem_of_getElem? (i := 15) rfl))) (Or.inl (hw _ (List.mem_of_getElem? (i := 21) rfl))) (by decide) (t := .double) (t' := .long) (by decide) (by decide)))
  replace F_sum_a1 := F_sum_a1.other W10 (Or.inr (slot_ne (Or.inl (hw _ (List.mem_of_getElem? (i := 17) rfl))) (Or.inl (hw _ (List.mem_of_getElem? (i := 21) rfl))) (by decide) (t := .double) (t' := .long) (by decide) (by decide)))
  replace F_plain_a1 := F_plain_a1.other W10 (Or.inr (slot_ne (Or.inl (hw _ (List.mem_of_getElem? (i := 19) rfl))) (Or.inl (hw _ (List.mem_of_getElem? (i := 21) rfl))) (by decide) (t := .double) (t' := .long) (by decide) (by decide)))
  replace F_count_a1 := Fw10
  replace K0 := K0.wr W10 (Or.inl (List.mem_of_getElem? (i := 0) rfl))
  replace Zn := Nat.le_trans Zn (Nat.le_of_eq W10.size.symm)
  have N10 := Fr.snoc X10 N8 g_a1
  refine Go.step st10 ?_
  show Go p e below _ T10 (mkF m 54 #[.val (.ref a1), .val (.double d1), .second, .val (.double yy), .second, .val (.double tt), .second] [])
  obtain ⟨fs, hr, hrun, hended, hW, hsame⟩ := X10.leave (v := none) (fun _ => rfl)
  refine Go.fin (X10.returnOut hx Bd.returns (hb hby own_f37) hr) hrun hended ?_
  refine ⟨_, _, rfl, ?_, ⟨_, rfl⟩, hW, hsame.mono (by decide) (by decide)⟩
  show QA Z a1 d1 sm er pl cn n n' X h0 n0 _ T10.heap _
  rw [e10]
  exact ⟨_, _, _, rfl, N10, K0, F_sum_a1, F_error_a1, F_plain_a1, F_count_a1, hk.2.2.2.2, hpp⟩
theorem own_f38 : decode jdk_117_method_6_code 0 = .ok (.dload_n 0, 1) := by decide +kernel
theorem own_f39 : decode jdk_117_method_6_code 1 = .ok (.dload_n 0, 1) := by decide +kernel
theorem own_f40 : decode jdk_117_method_6_code 2 = .ok (.dcmp .l, 1) := by decide +kernel
theorem own_f41 : decode jdk_117_method_6_code 3 = .ok (.ifCond .eq 7, 3) := by decide +kernel
theorem own_f42 : decode jdk_117_method_6_code 10 = .ok (.iconst 0, 1) := by decide +kernel
theorem own_f43 : decode jdk_117_method_6_code 11 = .ok (.ireturn, 1) := by decide +kernel
theorem own_f44 : plainName "java/lang/Double" = true := by first | (simp [plainName, overriddenIn]; done) | decide +kernel
theorem own_ef_N (m : MethodId) (d1 : UInt64) : entryFrame m #[(.double d1)] 2 = mkF m 0 #[.val (.double d1), .second] [] := by first | (simp [entryFrame, mkF, argsToLocals, Value.category]; done) | rfl
def QN (Z : State) (d1 : UInt64) (h0 : Heap) (n0 : Nat) (v : Option Value) (h : Heap) (L : List Loc) : Prop := v = some (.int (0 : Int32)) ∧ Fr n0 L ∧ h = h0
set_option maxRecDepth 65536 in
set_option maxHeartbeats 40000000 in
theorem rmN (l : Launch) (Z : State) (a0 : Array Value) (hw : ∀ d ∈ tables_1, d.before a0 Z = true) (ws : List Jvm.Cond) (d1 : UInt64) (h0 : Heap) (n0 : Nat) (Z0 : n0 ≤ h0.size) (hnn : Jvm.Free.Fl.NoNaN64 d1) :
    MetFree l (⟨"java/lang/Double", "isNaN", "(D)Z"⟩ : MethodName) (head1 (Jvm.Cond.code (⟨"java/lang/Double", "isNaN", "(D)Z"⟩ : MethodName) jdk_117_method_6_code 2 (some .boolean) :: ws) ({ frames := 0, cells := 0, slots := 0, locals := 0 } : Room)) (fun a U => a = #[(.double d1)] ∧ Z.Warmed39 U.vm ∧ U.heap = h0) (fun _ _ _ _ _ => True) (fun _ U o U' => ∃ v L, o = .returned v ∧ QN Z d1 h0 n0 v U'.heap L ∧ FrameEnd U o U' L ({ frames := 0, cells := 0, slots := 0, locals := 0 } : Room).cells ({ frames := 0, cells := 0, slots := 0, locals := 0 } : Room).slots) := by
  refine MetFree.of_bodySF (plainFor_of_name own_f44) hisR ?_
  intro p e s m args below meth c s₁ Bd hml0 hP hK
  obtain ⟨rfl, hZ, hh⟩ := hP
  have hx := Bd.exec
  have hby := Bd.bytes
  have hml : c.maxLocals = 2 := hml0
  have hown : s.vm.findClass "java/lang/Double" = some m.cls := findClass_of_methodNamed Bd.named
  have hnm := (name_of_methodNamed Bd.named Bd.method).1
  have X0 : Stand p l e ({ frames := 0, cells := 0, slots := 0, locals := 0 } : Room) s m #[(.double d1)] below meth c s₁ [] 0 0 := Stand.of_body Bd
  have e0 : s₁.heap = h0 := by rw [← hh, Bd.state]; rfl
  have N0 := Fr.nil n0
  refine Go.start (own_ef_N m d1) ?_
  show Go p e below _ s₁ (mkF m 0 #[.val (.double d1), .second] [])
  refine Go.step (fun _ k => XS.dloadN X0.here hx rfl (hb hby own_f38) rfl k) ?_
  show Go p e below _ s₁ (mkF m 1 #[.val (.double d1), .second] [(.double d1)])
  refine Go.step (fun _ k => XS.dloadN X0.here hx rfl (hb hby own_f39) rfl k) ?_
  show Go p e below _ s₁ (mkF m 2 #[.val (.double d1), .second] [(.double d1), (.double d1)])
  refine Go.step (fun _ k => XS.dcmpS X0.here hx rfl (hb hby own_f40) rfl rfl k) ?_
  show Go p e below _ s₁ (mkF m 3 #[.val (.double d1), .second] [(.int (cmpValue (FP.dcmp d1 d1) .l))])
  refine Go.step (fun _ k => XS.ifYes X0.here hx rfl (pc0 := 3) (pc' := 10) rfl (hb hby own_f41) rfl ((if0 _ _).trans (teq (dcmpV_self hnn .l)).1) (by decide) (by decide) k) ?_
  show Go p e below _ s₁ (mkF m 10 #[.val (.double d1), .second] [])
  refine Go.step (fun _ k => XS.iconst X0.here hx rfl (hb hby own_f42) k) ?_
  show Go p e below _ s₁ (mkF m 11 #[.val (.double d1), .second] [(.int (0 : Int32))])
  obtain ⟨fs, hr, hrun, hended, hW, hsame⟩ := X0.leave (v := some (.int (0 : Int32))) (fun h => by rw [Bd.returns] at h; cases h)
  refine Go.fin (retN X0 hx (t := .boolean) Bd.returns (by simp) (hb hby own_f43) hr) hrun hended ?_
  refine ⟨_, _, rfl, ?_, ⟨_, rfl⟩, hW, hsame.mono (by decide) (by decide)⟩
  show QN Z d1 h0 n0 _ s₁.heap _
  rw [e0]
  exact ⟨rfl, N0, rfl⟩
theorem own_f45 : decode prog_10_method_3_code 0 = .ok (.aload_n 0, 1) := by decide +kernel
theorem own_f46 : decode prog_10_method_3_code 1 = .ok (.getfield 13, 3) := by decide +kernel
theorem own_f47 : decode prog_10_method_3_code 4 = .ok (.aload_n 0, 1) := by decide +kernel
theorem own_f48 : decode prog_10_method_3_code 5 = .ok (.getfield 7, 3) := by decide +kernel
theorem own_f49 : decode prog_10_method_3_code 8 = .ok (.dsub, 1) := by decide +kernel
theorem own_f50 : decode prog_10_method_3_code 9 = .ok (.dstore_n 1, 1) := by decide +kernel
theorem own_f51 : decode prog_10_method_3_code 10 = .ok (.dload_n 1, 1) := by decide +kernel
theorem own_f52 : parseMethodDescriptor "(D)Z" = some ⟨[.double], some .boolean⟩ := by decide +kernel
theorem own_f53 : decode prog_10_method_3_code 11 = .ok (.invokestatic 23, 3) := by decide +kernel
theorem own_f54 : decode prog_10_method_3_code 14 = .ok (.ifCond .eq 18, 3) := by decide +kernel
theorem own_f55 : decode prog_10_method_3_code 32 = .ok (.dload_n 1, 1) := by decide +kernel
theorem own_f56 : decode prog_10_method_3_code 33 = .ok (.dreturn, 1) := by decide +kernel
theorem own_ef_V (m : MethodId) (a1 : Addr) : entryFrame m #[(.ref a1)] 3 = mkF m 0 #[.val (.ref a1), .unset, .unset] [] := by first | (simp [entryFrame, mkF, argsToLocals, Value.category]; done) | rfl
def QV (Z : State) (a1 : Addr) (sm er : UInt64) (n : Int64) (h0 : Heap) (n0 : Nat) (v : Option Value) (h : Heap) (L : List Loc) : Prop := ∃ r : UInt64, v = some (.double r) ∧ Fr n0 L ∧ h = h0 ∧ Jvm.FP.Core.DFin r ∧ own_z r = own_z (FP.l2d n)
set_option maxRecDepth 65536 in
set_option maxHeartbeats 40000000 in
theorem rmV (l : Launch) (Z : State) (a0 : Array Value) (hw : ∀ d ∈ tables_1, d.before a0 Z = true) (ws : List Jvm.Cond) (a1 : Addr) (sm er : UInt64) (n : Int64) (h0 : Heap) (n0 : Nat) (Z0 : n0 ≤ h0.size) (F_sum_a1 : Fld Z h0 a1 "com/example/mazu/mazu/base/CompensatedSum" "sum" "D" (.double sm)) (F_error_a1 : Fld Z h0 a1 "com/example/mazu/mazu/base/CompensatedSum" "error" "D" (.double er)) (hS : own_St sm er n) :
    MetFree l (⟨"com/example/mazu/mazu/base/CompensatedSum", "value", "()D"⟩ : MethodName) (head1 (Jvm.Cond.code (⟨"com/example/mazu/mazu/base/CompensatedSum", "value", "()D"⟩ : MethodName) prog_10_method_3_code 3 (some .double) :: ws) ({ frames := 1, cells := 0, slots := 0, locals := 13 } : Room)) (fun a U => a = #[(.ref a1)] ∧ Z.Warmed39 U.vm ∧ U.heap = h0) (fun _ _ _ _ _ => True) (fun _ U o U' => ∃ v L, o = .returned v ∧ QV Z a1 sm er n h0 n0 v U'.heap L ∧ FrameEnd U o U' L ({ frames := 1, cells := 0, slots := 0, locals := 13 } : Room).cells ({ frames := 1, cells := 0, slots := 0, locals := 13 } : Room).slots) := by
  refine MetFree.of_bodySF (plainFor_of_name own_f3) hisR ?_
  intro p e s m args below meth c s₁ Bd hml0 hP hK
  obtain ⟨rfl, hZ, hh⟩ := hP
  have hx := Bd.exec
  have hby := Bd.bytes
  have hml : c.maxLocals = 3 := hml0
  have hown : s.vm.findClass "com/example/mazu/mazu/base/CompensatedSum" = some m.cls := findClass_of_methodNamed Bd.named
  have hnm := (name_of_methodNamed Bd.named Bd.method).1
  have X0 : Stand p l e ({ frames := 1, cells := 0, slots := 0, locals := 13 } : Room) s m #[(.ref a1)] below meth c s₁ [] 0 0 := Stand.of_body Bd
  have e0 : s₁.heap = h0 := by rw [← hh, Bd.state]; rfl
  have N0 := Fr.nil n0
  refine Go.start (own_ef_V m a1) ?_
  show Go p e below _ s₁ (mkF m 0 #[.val (.ref a1), .unset, .unset] [])
  have hk := own_kval hS
  have Zn := Z0
  refine Go.step (fun _ k => XS.aloadN X0.here hx rfl (hb hby own_f45) rfl rfl k) ?_
  show Go p e below _ s₁ (mkF m 1 #[.val (.ref a1), .unset, .unset] [(.ref a1)])
  obtain ⟨T11, X11, e11, st11⟩ := getF X0 hx hZ hown (host := "") (Or.inl (hw _ (List.mem_of_getElem? (i := 16) rfl))) Via.refl e0 F_sum_a1 (g := (mkF m 1 #[.val (.ref a1), .unset, .unset] [(.ref a1)])) rfl rfl (hb hby own_f46)
  refine Go.step st11 ?_
  show Go p e below _ T11 (mkF m 4 #[.val (.ref a1), .unset, .unset] [(.double sm)])
  refine Go.step (fun _ k => XS.aloadN X11.here hx rfl (hb hby own_f47) rfl rfl k) ?_
  show Go p e below _ T11 (mkF m 5 #[.val (.ref a1), .unset, .unset] [(.ref a1), (.double sm)])
  obtain ⟨T12, X12, e12, st12⟩ := getF X11 hx hZ hown (host := "") (Or.inl (hw _ (List.mem_of_getElem? (i := 14) rfl))) Via.refl e11 F_error_a1 (g := (mkF m 5 #[.val (.ref a1), .unset, .unset] [(.ref a1), (.double sm)])) rfl rfl (hb hby own_f48)
  refine Go.step st12 ?_
  show Go p e below _ T12 (mkF m 8 #[.val (.ref a1), .unset, .unset] [(.double er), (.double sm)])
  obtain ⟨vv, e_vv⟩ : ∃ z : UInt64, z = FP.dsub sm er := ⟨_, rfl⟩
  refine Go.step (fun _ k => XS.dsubS X12.here hx rfl (hb hby own_f49) rfl (own_nn hk.1) e_vv.symm k) ?_
  show Go p e below _ T12 (mkF m 9 #[.val (.ref a1), .unset, .unset] [(.double vv)])
  rw [← e_vv] at hk
  refine Go.step (fun _ k => XS.dstoreN X12.here hx rfl (hb hby own_f50) rfl (l' := #[.val (.ref a1), .val (.double vv), .second]) rfl k) ?_
  show Go p e below _ T12 (mkF m 10 #[.val (.ref a1), .val (.double vv), .second] [])
  refine Go.step (fun _ k => XS.dloadN X12.here hx rfl (hb hby own_f51) rfl k) ?_
  show Go p e below _ T12 (mkF m 11 #[.val (.ref a1), .val (.double vv), .second] [(.double vv)])
  obtain ⟨_, _, ⟨T13, L13, k13, n13⟩, -, X13, ⟨Lc13, hQ13, l13, y13, z13⟩, st13⟩ := Jvm.LawKit.callS X12 hx (y := (⟨"java/lang/Double", "isNaN", "(D)Z"⟩ : MethodName)) hown (mvT hZ (hw _ (List.mem_of_getElem? (i := 27) rfl))) (mvT hZ (hw _ (List.mem_of_getElem? (i := 28) rfl))) (mvT hZ (hw _ (List.mem_of_getElem? (i := 29) rfl))) (mvT hZ (hw _ (List.mem_of_getElem? (i := 30) rfl))) (by decide) (backOf (W := 0) (rmN l Z a0 hw [] vv h0 n0 Zn (own_nn hk.1)) hZ (hw _ (List.mem_of_getElem? (i := 30) rfl)) (hw _ (List.mem_of_getElem? (i := 29) rfl)) (by decide) (by decide)) (g := (mkF m 11 #[.val (.ref a1), .val (.double vv), .second] [(.double vv)])) rfl (by rw [hml]; rfl) (argsL := [(.double vv)]) (rest := []) (lenOf own_f52 rfl) rfl (by show 2 * 0 + _ ≤ _; exact Nat.le_of_eq rfl) (hb hby own_f53) (fun _ _ => ⟨rfl, e12, (by dsimp only [Pt.cells, Pt.slots]; decide), (by dsimp only [Pt.cells, Pt.slots]; decide)⟩)
  dsimp only [Pt.U, Pt.locs, Pt.cells, Pt.slots] at X13 l13 y13 z13 st13 hQ13
  subst l13 y13 z13
  obtain ⟨rfl, N13q, e13⟩ := hQ13
  have N13 := Fr.app N0 N13q
  refine Go.step (st13) ?_
  show Go p e below _ T13 (mkF m 14 #[.val (.ref a1), .val (.double vv), .second] [(.int (0 : Int32))])
  refine Go.step (fun _ k => XS.ifYes X13.here hx rfl (pc0 := 14) (pc' := 32) rfl (hb hby own_f54) rfl ((if0 _ _).trans (teq rfl).1) (by decide) (by decide) k) ?_
  show Go p e below _ T13 (mkF m 32 #[.val (.ref a1), .val (.double vv), .second] [])
  refine Go.step (fun _ k => XS.dloadN X13.here hx rfl (hb hby own_f55) rfl k) ?_
  show Go p e below _ T13 (mkF m 33 #[.val (.ref a1), .val (.double vv), .second] [(.double vv)])
  obtain ⟨fs, hr, hrun, hended, hW, hsame⟩ := X13.leave (v := some (.double vv)) (fun h => by rw [Bd.returns] at h; cases h)
  refine Go.fin (own_retD X13 hx Bd.returns (hb hby own_f56) hr) hrun hended ?_
  refine ⟨_, _, rfl, ?_, ⟨_, rfl⟩, hW, hsame.mono (by decide) (by decide)⟩
  show QV Z a1 sm er n h0 n0 _ T13.heap _
  rw [e13]
  exact ⟨_, rfl, N13, rfl, hk.1, hk.2⟩
theorem own_f57 : decode prog_10_method_4_code 0 = .ok (.aload_n 0, 1) := by decide +kernel
theorem own_f58 : decode prog_10_method_4_code 1 = .ok (.getfield 19, 3) := by decide +kernel
theorem own_f59 : decode prog_10_method_4_code 4 = .ok (.lreturn, 1) := by decide +kernel
theorem own_ef_C (m : MethodId) (a1 : Addr) : entryFrame m #[(.ref a1)] 1 = mkF m 0 #[.val (.ref a1)] [] := by first | (simp [entryFrame, mkF, argsToLocals, Value.category]; done) | rfl
def QC (Z : State) (a1 : Addr) (cn : Int64) (h0 : Heap) (n0 : Nat) (v : Option Value) (h : Heap) (L : List Loc) : Prop := v = some (.long cn) ∧ Fr n0 L ∧ h = h0
set_option maxRecDepth 65536 in
set_option maxHeartbeats 40000000 in
theorem rmC (l : Launch) (Z : State) (a0 : Array Value) (hw : ∀ d ∈ tables_1, d.before a0 Z = true) (ws : List Jvm.Cond) (a1 : Addr) (cn : Int64) (h0 : Heap) (n0 : Nat) (Z0 : n0 ≤ h0.size) (F_count_a1 : Fld Z h0 a1 "com/example/mazu/mazu/base/CompensatedSum" "count" "J" (.long cn)) :
    MetFree l (⟨"com/example/mazu/mazu/base/CompensatedSum", "count", "()J"⟩ : MethodName) (head1 (Jvm.Cond.code (⟨"com/example/mazu/mazu/base/CompensatedSum", "count", "()J"⟩ : MethodName) prog_10_method_4_code 1 (some .long) :: ws) ({ frames := 0, cells := 0, slots := 0, locals := 0 } : Room)) (fun a U => a = #[(.ref a1)] ∧ Z.Warmed39 U.vm ∧ U.heap = h0) (fun _ _ _ _ _ => True) (fun _ U o U' => ∃ v L, o = .returned v ∧ QC Z a1 cn h0 n0 v U'.heap L ∧ FrameEnd U o U' L ({ frames := 0, cells := 0, slots := 0, locals := 0 } : Room).cells ({ frames := 0, cells := 0, slots := 0, locals := 0 } : Room).slots) := by
  refine MetFree.of_bodySF (plainFor_of_name own_f3) hisR ?_
  intro p e s m args below meth c s₁ Bd hml0 hP hK
  obtain ⟨rfl, hZ, hh⟩ := hP
  have hx := Bd.exec
  have hby := Bd.bytes
  have hml : c.maxLocals = 1 := hml0
  have hown : s.vm.findClass "com/example/mazu/mazu/base/CompensatedSum" = some m.cls := findClass_of_methodNamed Bd.named
  have hnm := (name_of_methodNamed Bd.named Bd.method).1
  have X0 : Stand p l e ({ frames := 0, cells := 0, slots := 0, locals := 0 } : Room) s m #[(.ref a1)] below meth c s₁ [] 0 0 := Stand.of_body Bd
  have e0 : s₁.heap = h0 := by rw [← hh, Bd.state]; rfl
  have N0 := Fr.nil n0
  refine Go.start (own_ef_C m a1) ?_
  show Go p e below _ s₁ (mkF m 0 #[.val (.ref a1)] [])
  refine Go.step (fun _ k => XS.aloadN X0.here hx rfl (hb hby own_f57) rfl rfl k) ?_
  show Go p e below _ s₁ (mkF m 1 #[.val (.ref a1)] [(.ref a1)])
  obtain ⟨T14, X14, e14, st14⟩ := getF X0 hx hZ hown (host := "") (Or.inl (hw _ (List.mem_of_getElem? (i := 20) rfl))) Via.refl e0 F_count_a1 (g := (mkF m 1 #[.val (.ref a1)] [(.ref a1)])) rfl rfl (hb hby own_f58)
  refine Go.step st14 ?_
  show Go p e below _ T14 (mkF m 4 #[.val (.ref a1)] [(.long cn)])
  obtain ⟨fs, hr, hrun, hended, hW, hsame⟩ := X14.leave (v := some (.long cn)) (fun h => by rw [Bd.returns] at h; cases h)
  refine Go.fin (own_retJ X14 hx Bd.returns (hb hby own_f59) hr) hrun hended ?_
  refine ⟨_, _, rfl, ?_, ⟨_, rfl⟩, hW, hsame.mono (by decide) (by decide)⟩
  show QC Z a1 cn h0 n0 _ T14.heap _
  rw [e14]
  exact ⟨rfl, N0, rfl⟩
theorem own_f60 : parseMethodDescriptor "()V" = some ⟨[], none⟩ := by decide +kernel
theorem own_f61 : parseMethodDescriptor "(D)V" = some ⟨[.double], none⟩ := by decide +kernel
theorem own_f62 : parseMethodDescriptor "()D" = some ⟨[], some .double⟩ := by decide +kernel
theorem own_f63 : parseMethodDescriptor "()J" = some ⟨[], some .long⟩ := by decide +kernel
theorem own_f64 : plainName "com/example/mazu/mazu/base/CompensatedSumAddPinLaw" = true := by first | (simp [plainName, overriddenIn]; done) | decide +kernel
theorem own_ef_0 (m : MethodId) (i0 : Int32) (i1 : Int32) (i2 : Int32) (i3 : Int32) : entryFrame m #[(.int i0), (.int i1), (.int i2), (.int i3)] maxLocals = mkF m 0 #[.val (.int i0), .val (.int i1), .val (.int i2), .val (.int i3), .unset, .unset, .unset, .unset] [] := by first | (simp [entryFrame, mkF, argsToLocals, Value.category, maxLocals]; done) | rfl
def Q0 (Z : State) (i0 : Int32) (i1 : Int32) (i2 : Int32) (i3 : Int32) (h0 : Heap) (n0 : Nat) (v : Option Value) (h : Heap) (L : List Loc) : Prop := v = some (.int 1) ∧ Fr n0 L
set_option maxRecDepth 65536 in
set_option maxHeartbeats 40000000 in
theorem rm0 (l : Launch) (Z : State) (a0 : Array Value) (hw : ∀ d ∈ tables_1, d.before a0 Z = true) (ws : List Jvm.Cond) (i0 : Int32) (i1 : Int32) (i2 : Int32) (i3 : Int32) (h0 : Heap) (n0 : Nat) (Z0 : n0 ≤ h0.size)  :
    MetFree l x (head1 (Jvm.Cond.code x code maxLocals ret :: ws) room_1) (fun a U => a = #[(.int i0), (.int i1), (.int i2), (.int i3)] ∧ Z.Warmed39 U.vm ∧ U.heap = h0) (fun _ _ _ _ _ => True) (fun _ U o U' => ∃ v L, o = .returned v ∧ Q0 Z i0 i1 i2 i3 h0 n0 v U'.heap L ∧ FrameEnd U o U' L 1 4) := by
  refine MetFree.of_bodySF (plainFor_of_name own_f64) hisR ?_
  intro p e s m args below meth c s₁ Bd hml0 hP hK
  obtain ⟨rfl, hZ, hh⟩ := hP
  have hx := Bd.exec
  have hby := Bd.bytes
  have hml : c.maxLocals = 8 := hml0
  have hown : s.vm.findClass "com/example/mazu/mazu/base/CompensatedSumAddPinLaw" = some m.cls := findClass_of_methodNamed Bd.named
  have hnm := (name_of_methodNamed Bd.named Bd.method).1
  have X0 : Stand p l e room_1 s m #[(.int i0), (.int i1), (.int i2), (.int i3)] below meth c s₁ [] 0 0 := Stand.of_body Bd
  have e0 : s₁.heap = h0 := by rw [← hh, Bd.state]; rfl
  have N0 := Fr.nil n0
  refine Go.start (own_ef_0 m i0 i1 i2 i3) ?_
  show Go p e below _ s₁ (mkF m 0 #[.val (.int i0), .val (.int i1), .val (.int i2), .val (.int i3), .unset, .unset, .unset, .unset] [])
  have Zn := Z0
  have K0 : Keep h0 h0 [] := Keep.refl h0 _
  refine Go.step (fun _ k => XS.iloadN X0.here hx rfl (hb hby at_0) rfl k) ?_
  show Go p e below _ s₁ (mkF m 1 #[.val (.int i0), .val (.int i1), .val (.int i2), .val (.int i3), .unset, .unset, .unset, .unset] [(.int i2)])
  refine Go.step (fun _ k => XS.sipush X0.here hx rfl (hb hby at_1) k) ?_
  show Go p e below _ s₁ (mkF m 4 #[.val (.int i0), .val (.int i1), .val (.int i2), .val (.int i3), .unset, .unset, .unset, .unset] [(.int (255 : Int32)), (.int i2)])
  refine Go.step (fun _ k => XS.iand X0.here hx rfl (hb hby at_4) rfl k) ?_
  show Go p e below _ s₁ (mkF m 5 #[.val (.int i0), .val (.int i1), .val (.int i2), .val (.int i3), .unset, .unset, .unset, .unset] [(.int (i2 &&& (255 : Int32)))])
  refine Go.step (fun _ k => XS.sipush X0.here hx rfl (hb hby at_5) k) ?_
  show Go p e below _ s₁ (mkF m 8 #[.val (.int i0), .val (.int i1), .val (.int i2), .val (.int i3), .unset, .unset, .unset, .unset] [(.int (128 : Int32)), (.int (i2 &&& (255 : Int32)))])
  refine Go.step (fun _ k => XS.isub X0.here hx rfl (hb hby at_8) rfl k) ?_
  show Go p e below _ s₁ (mkF m 9 #[.val (.int i0), .val (.int i1), .val (.int i2), .val (.int i3), .unset, .unset, .unset, .unset] [(.int ((i2 &&& (255 : Int32)) - (128 : Int32)))])
  refine Go.step (fun _ k => XS.i2l X0.here hx rfl (hb hby at_9) rfl k) ?_
  show Go p e below _ s₁ (mkF m 10 #[.val (.int i0), .val (.int i1), .val (.int i2), .val (.int i3), .unset, .unset, .unset, .unset] [(.long (((i2 &&& (255 : Int32)) - (128 : Int32)).toInt64))])
  refine Go.step (fun _ k => XS.iloadN X0.here hx rfl (hb hby at_10) rfl k) ?_
  show Go p e below _ s₁ (mkF m 11 #[.val (.int i0), .val (.int i1), .val (.int i2), .val (.int i3), .unset, .unset, .unset, .unset] [(.int i3), (.long (((i2 &&& (255 : Int32)) - (128 : Int32)).toInt64))])
  refine Go.step (fun _ k => XS.bipush X0.here hx rfl (hb hby at_11) k) ?_
  show Go p e below _ s₁ (mkF m 13 #[.val (.int i0), .val (.int i1), .val (.int i2), .val (.int i3), .unset, .unset, .unset, .unset] [(.int (63 : Int32)), (.int i3), (.long (((i2 &&& (255 : Int32)) - (128 : Int32)).toInt64))])
  refine Go.step (fun _ k => XS.iand X0.here hx rfl (hb hby at_13) rfl k) ?_
  show Go p e below _ s₁ (mkF m 14 #[.val (.int i0), .val (.int i1), .val (.int i2), .val (.int i3), .unset, .unset, .unset, .unset] [(.int (i3 &&& (63 : Int32))), (.long (((i2 &&& (255 : Int32)) - (128 : Int32)).toInt64))])
  refine Go.step (fun _ k => XS.bipush X0.here hx rfl (hb hby at_14) k) ?_
  show Go p e below _ s₁ (mkF m 16 #[.val (.int i0), .val (.int i1), .val (.int i2), .val (.int i3), .unset, .unset, .unset, .unset] [(.int (56 : Int32)), (.int (i3 &&& (63 : Int32))), (.long (((i2 &&& (255 : Int32)) - (128 : Int32)).toInt64))])
  refine Go.step (fun _ k => iremM X0 hx rfl (hb hby at_16) rfl (by decide) k) ?_
  show Go p e below _ s₁ (mkF m 17 #[.val (.int i0), .val (.int i1), .val (.int i2), .val (.int i3), .unset, .unset, .unset, .unset] [(.int ((i3 &&& (63 : Int32)) % (56 : Int32))), (.long (((i2 &&& (255 : Int32)) - (128 : Int32)).toInt64))])
  obtain ⟨sh, e_sh⟩ : ∃ z : Int32, z = ((i3 &&& (63 : Int32)) % (56 : Int32)) := ⟨_, rfl⟩
  rw [← e_sh]
  show Go p e below _ s₁ (mkF m 17 #[.val (.int i0), .val (.int i1), .val (.int i2), .val (.int i3), .unset, .unset, .unset, .unset] [(.int sh), (.long (((i2 &&& (255 : Int32)) - (128 : Int32)).toInt64))])
  refine Go.step (fun _ k => XS.lshl X0.here hx rfl (hb hby at_17) rfl k) ?_
  show Go p e below _ s₁ (mkF m 18 #[.val (.int i0), .val (.int i1), .val (.int i2), .val (.int i3), .unset, .unset, .unset, .unset] [(.long ((((i2 &&& (255 : Int32)) - (128 : Int32)).toInt64) <<< (sh &&& 0x3f).toInt64))])
  obtain ⟨big, e_big⟩ : ∃ z : Int64, z = ((((i2 &&& (255 : Int32)) - (128 : Int32)).toInt64) <<< (sh &&& 0x3f).toInt64) := ⟨_, rfl⟩
  rw [← e_big]
  show Go p e below _ s₁ (mkF m 18 #[.val (.int i0), .val (.int i1), .val (.int i2), .val (.int i3), .unset, .unset, .unset, .unset] [(.long big)])
  have hB := own_big e_sh e_big
  have ia := own_sm i0
  have ib := own_sm i1
  have hN2 : (big + (i0.toInt64)).toInt = big.toInt + i0.toInt := own_la rfl (Int32.toInt_toInt64 i0) (by omega) (by omega)
  have hN3 : ((big + (i0.toInt64)) + (i1.toInt64)).toInt = big.toInt + i0.toInt + i1.toInt := own_la hN2 (Int32.toInt_toInt64 i1) (by omega) (by omega)
  refine Go.step (fun _ k => XS.lstore X0.here hx rfl (hb hby at_18) rfl (l' := #[.val (.int i0), .val (.int i1), .val (.int i2), .val (.int i3), .val (.long big), .second, .unset, .unset]) rfl k) ?_
  show Go p e below _ s₁ (mkF m 20 #[.val (.int i0), .val (.int i1), .val (.int i2), .val (.int i3), .val (.long big), .second, .unset, .unset] [])
  obtain ⟨T15, h15, X15, e15, E15, A15, D15, U15, st15⟩ := newO X0 hx hZ hown (hw _ (List.mem_of_getElem? (i := 0) rfl)) (hw _ (List.mem_of_getElem? (i := 1) rfl)) (hw _ (List.mem_of_getElem? (i := 2) rfl)) e0 (g := (mkF m 20 #[.val (.int i0), .val (.int i1), .val (.int i2), .val (.int i3), .val (.long big), .second, .unset, .unset] [])) rfl (hb hby at_20) (by decide) (by decide)
  obtain ⟨cs, g15⟩ : ∃ z, z = h0.size := ⟨_, rfl⟩
  rw [← g15] at A15 D15 U15 st15
  have g_cs : n0 ≤ cs := Nat.le_trans Zn (Nat.le_of_eq g15.symm)
  have sz_cs : h0.size ≤ cs := Nat.le_trans K0.1 (Nat.le_of_eq g15.symm)
  replace Zn := Nat.le_trans Zn E15.1
  replace K0 := K0.ext E15
  have E_cs := A15
  have F_error_cs : Fld Z h15 cs "com/example/mazu/mazu/base/CompensatedSum" "error" "D" (.double 0) := D15 (Or.inl (hw _ (List.mem_of_getElem? (i := 15) rfl))) (ty := .double) (by decide)
  have F_sum_cs : Fld Z h15 cs "com/example/mazu/mazu/base/CompensatedSum" "sum" "D" (.double 0) := D15 (Or.inl (hw _ (List.mem_of_getElem? (i := 17) rfl))) (ty := .double) (by decide)
  have F_plain_cs : Fld Z h15 cs "com/example/mazu/mazu/base/CompensatedSum" "plain" "D" (.double 0) := D15 (Or.inl (hw _ (List.mem_of_getElem? (i := 19) rfl))) (ty := .double) (by decide)
  have F_count_cs : Fld Z h15 cs "com/example/mazu/mazu/base/CompensatedSum" "count" "J" (.long (0 : Int64)) := D15 (Or.inl (hw _ (List.mem_of_getElem? (i := 21) rfl))) (ty := .long) (by decide)
  refine Go.step st15 ?_
  show Go p e below _ T15 (mkF m 23 #[.val (.int i0), .val (.int i1), .val (.int i2), .val (.int i3), .val (.long big), .second, .unset, .unset] [(.ref cs)])
  refine Go.step (fun _ k => XS.dup X15.here hx rfl (hb hby at_23) rfl rfl k) ?_
  show Go p e below _ T15 (mkF m 24 #[.val (.int i0), .val (.int i1), .val (.int i2), .val (.int i3), .val (.long big), .second, .unset, .unset] [(.ref cs), (.ref cs)])
  obtain ⟨_, _, ⟨T16, L16, k16, n16⟩, -, X16, ⟨Lc16, hQ16, l16, y16, z16⟩, st16⟩ := X15.specialBack hx (y := (⟨"com/example/mazu/mazu/base/CompensatedSum", "<init>", "()V"⟩ : MethodName)) rfl hown (mvT hZ (hw _ (List.mem_of_getElem? (i := 3) rfl))) (mvT hZ (hw _ (List.mem_of_getElem? (i := 4) rfl))) (mvT hZ (hw _ (List.mem_of_getElem? (i := 5) rfl))) (by decide) (backOf (W := 1) (rmI l Z a0 hw [] cs h15 n0 Zn) hZ (hw _ (List.mem_of_getElem? (i := 5) rfl)) (hw _ (List.mem_of_getElem? (i := 2) rfl)) (by decide) (by decide)) (g := (mkF m 24 #[.val (.int i0), .val (.int i1), .val (.int i2), .val (.int i3), .val (.long big), .second, .unset, .unset] [(.ref cs), (.ref cs)])) rfl (by rw [hml]; rfl) (Steps.refl _) (a := cs) (argsL := []) (rest := [(.ref cs)]) (lenOf own_f60 rfl) rfl (by show 2 * 0 + _ ≤ _; exact Nat.le_of_eq rfl) (hb hby at_24) (fun _ _ => ⟨rfl, e15, (by dsimp only [Pt.cells, Pt.slots]; decide), (by dsimp only [Pt.cells, Pt.slots]; decide)⟩)
  dsimp only [Pt.U, Pt.locs, Pt.cells, Pt.slots] at X16 l16 y16 z16 st16 hQ16
  subst l16 y16 z16
  obtain ⟨rfl, N16q, e16⟩ := hQ16
  have N16 := Fr.app N0 N16q
  refine Go.step (fun _ k => st16.trans k) ?_
  show Go p e below _ T16 (mkF m 27 #[.val (.int i0), .val (.int i1), .val (.int i2), .val (.int i3), .val (.long big), .second, .unset, .unset] [(.ref cs)])
  refine Go.step (fun _ k => XS.astore X16.here hx rfl (hb hby at_27) rfl rfl (l' := #[.val (.int i0), .val (.int i1), .val (.int i2), .val (.int i3), .val (.long big), .second, .val (.ref cs), .unset]) rfl k) ?_
  show Go p e below _ T16 (mkF m 29 #[.val (.int i0), .val (.int i1), .val (.int i2), .val (.int i3), .val (.long big), .second, .val (.ref cs), .unset] [])
  refine Go.step (fun _ k => XS.aload X16.here hx rfl (hb hby at_29) rfl rfl k) ?_
  show Go p e below _ T16 (mkF m 31 #[.val (.int i0), .val (.int i1), .val (.int i2), .val (.int i3), .val (.long big), .second, .val (.ref cs), .unset] [(.ref cs)])
  refine Go.step (fun _ k => XS.lload X16.here hx rfl (hb hby at_31) rfl k) ?_
  show Go p e below _ T16 (mkF m 33 #[.val (.int i0), .val (.int i1), .val (.int i2), .val (.int i3), .val (.long big), .second, .val (.ref cs), .unset] [(.long big), (.ref cs)])
  obtain ⟨f33, e_f33⟩ : ∃ z : UInt64, z = FP.l2d big := ⟨_, rfl⟩
  refine Go.step (fun _ k => XS.l2dS X16.here hx rfl (hb hby at_33) rfl e_f33.symm k) ?_
  show Go p e below _ T16 (mkF m 34 #[.val (.int i0), .val (.int i1), .val (.int i2), .val (.int i3), .val (.long big), .second, .val (.ref cs), .unset] [(.double f33), (.ref cs)])
  have hv1 : own_W f33 big.toInt := by rw [e_f33]; exact hB.1
  obtain ⟨cq17, kq17, q17a, q17b, q17c⟩ := isOf hZ e16 E_cs
  obtain ⟨_, _, ⟨T17, L17, k17, n17⟩, -, X17, ⟨Lc17, hQ17, l17, y17, z17⟩, st17⟩ := X16.virtualBack hx (y := (⟨"com/example/mazu/mazu/base/CompensatedSum", "add", "(D)V"⟩ : MethodName)) (z := (⟨"com/example/mazu/mazu/base/CompensatedSum", "add", "(D)V"⟩ : MethodName)) hown (mvT hZ (hw _ (List.mem_of_getElem? (i := 9) rfl))) (mvT hZ (hw _ (List.mem_of_getElem? (i := 10) rfl))) (notFace_of_selects (args := #[]) (mvT hZ (hw _ (List.mem_of_getElem? (i := 12) rfl)))) (mvT hZ (hw _ (List.mem_of_getElem? (i := 12) rfl))) (mvT hZ (hw _ (List.mem_of_getElem? (i := 11) rfl))) (by decide) (backOf (W := 0) (rmA l Z a0 hw [] cs f33 0 0 0 (0 : Int64) 0 big big.toInt h15 n0 Zn E_cs F_sum_cs F_error_cs F_plain_cs F_count_cs g_cs own_st0 hv1 (by show big.toInt = (0 : Int64).toInt + big.toInt; rw [show (0 : Int64).toInt = 0 by decide]; omega) (by omega) (Or.inl ⟨by decide, own_zero_fin.2, own_zero_fin.2⟩) (own_nn (own_Is.zero 0).1)) hZ (hw _ (List.mem_of_getElem? (i := 13) rfl)) (hw _ (List.mem_of_getElem? (i := 2) rfl)) (by decide) (by decide)) q17a q17c (g := (mkF m 34 #[.val (.int i0), .val (.int i1), .val (.int i2), .val (.int i3), .val (.long big), .second, .val (.ref cs), .unset] [(.double f33), (.ref cs)])) rfl (by rw [hml]; rfl) (Steps.refl _) (argsL := [(.double f33)]) (rest := []) (lenOf own_f61 rfl) rfl (by show 2 * 0 + _ ≤ _; exact Nat.le_of_eq rfl) (hb hby at_34) (fun _ _ => ⟨rfl, e16, (by dsimp only [Pt.cells, Pt.slots]; decide), (by dsimp only [Pt.cells, Pt.slots]; decide)⟩)
  dsimp only [Pt.U, Pt.locs, Pt.cells, Pt.slots] at X17 l17 y17 z17 st17 hQ17
  subst l17 y17 z17
  obtain ⟨sm1, er1, pl1, rfl, N17q, K17, F_sum_cs, F_error_cs, F_plain_cs, F_count_cs, hS1, hpl1⟩ := hQ17
  have N17 := Fr.app N16 N17q
  refine Go.step (fun _ k => st17.trans k) ?_
  replace E_cs := E_cs.keep K17
  replace K0 := K0.trans K17 (allS (Or.inr sz_cs) (all0))
  replace Zn := Nat.le_trans Zn K17.1
  show Go p e below _ T17 (mkF m 37 #[.val (.int i0), .val (.int i1), .val (.int i2), .val (.int i3), .val (.long big), .second, .val (.ref cs), .unset] [])
  refine Go.step (fun _ k => XS.aload X17.here hx rfl (hb hby at_37) rfl rfl k) ?_
  show Go p e below _ T17 (mkF m 39 #[.val (.int i0), .val (.int i1), .val (.int i2), .val (.int i3), .val (.long big), .second, .val (.ref cs), .unset] [(.ref cs)])
  obtain ⟨cq18, kq18, q18a, q18b, q18c⟩ := isOf hZ rfl E_cs
  obtain ⟨_, _, ⟨T18, L18, k18, n18⟩, -, X18, ⟨Lc18, hQ18, l18, y18, z18⟩, st18⟩ := X17.virtualBack hx (y := (⟨"com/example/mazu/mazu/base/CompensatedSum", "value", "()D"⟩ : MethodName)) (z := (⟨"com/example/mazu/mazu/base/CompensatedSum", "value", "()D"⟩ : MethodName)) hown (mvT hZ (hw _ (List.mem_of_getElem? (i := 22) rfl))) (mvT hZ (hw _ (List.mem_of_getElem? (i := 23) rfl))) (notFace_of_selects (args := #[]) (mvT hZ (hw _ (List.mem_of_getElem? (i := 25) rfl)))) (mvT hZ (hw _ (List.mem_of_getElem? (i := 25) rfl))) (mvT hZ (hw _ (List.mem_of_getElem? (i := 24) rfl))) (by decide) (backOf (W := 0) (rmV l Z a0 hw [] cs sm1 er1 big T17.heap n0 Zn F_sum_cs F_error_cs hS1) hZ (hw _ (List.mem_of_getElem? (i := 26) rfl)) (hw _ (List.mem_of_getElem? (i := 2) rfl)) (by decide) (by decide)) q18a q18c (g := (mkF m 39 #[.val (.int i0), .val (.int i1), .val (.int i2), .val (.int i3), .val (.long big), .second, .val (.ref cs), .unset] [(.ref cs)])) rfl (by rw [hml]; rfl) (Steps.refl _) (argsL := []) (rest := []) (lenOf own_f62 rfl) rfl (by show 2 * 0 + _ ≤ _; exact Nat.le_of_eq rfl) (hb hby at_39) (fun _ _ => ⟨rfl, rfl, (by dsimp only [Pt.cells, Pt.slots]; decide), (by dsimp only [Pt.cells, Pt.slots]; decide)⟩)
  dsimp only [Pt.U, Pt.locs, Pt.cells, Pt.slots] at X18 l18 y18 z18 st18 hQ18
  subst l18 y18 z18
  obtain ⟨r39, rfl, N18q, e18, hf_r39, hz_r39⟩ := hQ18
  have N18 := Fr.app N17 N18q
  refine Go.step (fun _ k => st18.trans k) ?_
  show Go p e below _ T18 (mkF m 42 #[.val (.int i0), .val (.int i1), .val (.int i2), .val (.int i3), .val (.long big), .second, .val (.ref cs), .unset] [(.double r39)])
  refine Go.step (fun _ k => XS.lload X18.here hx rfl (hb hby at_42) rfl k) ?_
  show Go p e below _ T18 (mkF m 44 #[.val (.int i0), .val (.int i1), .val (.int i2), .val (.int i3), .val (.long big), .second, .val (.ref cs), .unset] [(.long big), (.double r39)])
  obtain ⟨f44, e_f44⟩ : ∃ z : UInt64, z = FP.l2d big := ⟨_, rfl⟩
  refine Go.step (fun _ k => XS.l2dS X18.here hx rfl (hb hby at_44) rfl e_f44.symm k) ?_
  show Go p e below _ T18 (mkF m 45 #[.val (.int i0), .val (.int i1), .val (.int i2), .val (.int i3), .val (.long big), .second, .val (.ref cs), .unset] [(.double f44), (.double r39)])
  refine Go.step (fun _ k => XS.dcmpS X18.here hx rfl (hb hby at_45) rfl rfl k) ?_
  show Go p e below _ T18 (mkF m 46 #[.val (.int i0), .val (.int i1), .val (.int i2), .val (.int i3), .val (.long big), .second, .val (.ref cs), .unset] [(.int (cmpValue (FP.dcmp r39 f44) .l))])
  have ff_f44 : Jvm.FP.Core.DFin f44 := by rw [e_f44]; exact Jvm.FP.Core.l2d_fin _
  rw [← e_f44] at hz_r39
  refine Go.step (fun _ k => XS.ifNo X18.here hx rfl (hb hby at_46) rfl ((if0 _ _).trans (teq ((own_zcv hf_r39 ff_f44 .l).2.2.mpr hz_r39)).2) k) ?_
  show Go p e below _ T18 (mkF m 49 #[.val (.int i0), .val (.int i1), .val (.int i2), .val (.int i3), .val (.long big), .second, .val (.ref cs), .unset] [])
  refine Go.step (fun _ k => XS.aload X18.here hx rfl (hb hby at_49) rfl rfl k) ?_
  show Go p e below _ T18 (mkF m 51 #[.val (.int i0), .val (.int i1), .val (.int i2), .val (.int i3), .val (.long big), .second, .val (.ref cs), .unset] [(.ref cs)])
  obtain ⟨cq19, kq19, q19a, q19b, q19c⟩ := isOf hZ e18 E_cs
  obtain ⟨_, _, ⟨T19, L19, k19, n19⟩, -, X19, ⟨Lc19, hQ19, l19, y19, z19⟩, st19⟩ := X18.virtualBack hx (y := (⟨"com/example/mazu/mazu/base/CompensatedSum", "count", "()J"⟩ : MethodName)) (z := (⟨"com/example/mazu/mazu/base/CompensatedSum", "count", "()J"⟩ : MethodName)) hown (mvT hZ (hw _ (List.mem_of_getElem? (i := 31) rfl))) (mvT hZ (hw _ (List.mem_of_getElem? (i := 32) rfl))) (notFace_of_selects (args := #[]) (mvT hZ (hw _ (List.mem_of_getElem? (i := 34) rfl)))) (mvT hZ (hw _ (List.mem_of_getElem? (i := 34) rfl))) (mvT hZ (hw _ (List.mem_of_getElem? (i := 33) rfl))) (by decide) (backOf (W := 0) (rmC l Z a0 hw [] cs ((0 : Int64) + (1 : Int64)) T17.heap n0 Zn F_count_cs) hZ (hw _ (List.mem_of_getElem? (i := 35) rfl)) (hw _ (List.mem_of_getElem? (i := 2) rfl)) (by decide) (by decide)) q19a q19c (g := (mkF m 51 #[.val (.int i0), .val (.int i1), .val (.int i2), .val (.int i3), .val (.long big), .second, .val (.ref cs), .unset] [(.ref cs)])) rfl (by rw [hml]; rfl) (Steps.refl _) (argsL := []) (rest := []) (lenOf own_f63 rfl) rfl (by show 2 * 0 + _ ≤ _; exact Nat.le_of_eq rfl) (hb hby at_51) (fun _ _ => ⟨rfl, e18, (by dsimp only [Pt.cells, Pt.slots]; decide), (by dsimp only [Pt.cells, Pt.slots]; decide)⟩)
  dsimp only [Pt.U, Pt.locs, Pt.cells, Pt.slots] at X19 l19 y19 z19 st19 hQ19
  subst l19 y19 z19
  obtain ⟨rfl, N19q, e19⟩ := hQ19
  have N19 := Fr.app N18 N19q
  refine Go.step (fun _ k => st19.trans k) ?_
  show Go p e below _ T19 (mkF m 54 #[.val (.int i0), .val (.int i1), .val (.int i2), .val (.int i3), .val (.long big), .second, .val (.ref cs), .unset] [(.long ((0 : Int64) + (1 : Int64)))])
  refine Go.step (fun _ k => XS.lconst X19.here hx rfl (hb hby at_54) k) ?_
  show Go p e below _ T19 (mkF m 55 #[.val (.int i0), .val (.int i1), .val (.int i2), .val (.int i3), .val (.long big), .second, .val (.ref cs), .unset] [(.long (1 : Int64)), (.long ((0 : Int64) + (1 : Int64)))])
  refine Go.step (fun _ k => XS.lcmp X19.here hx rfl (hb hby at_55) rfl k) ?_
  show Go p e below _ T19 (mkF m 56 #[.val (.int i0), .val (.int i1), .val (.int i2), .val (.int i3), .val (.long big), .second, .val (.ref cs), .unset] [(.int (lcmpW ((0 : Int64) + (1 : Int64)) (1 : Int64)))])
  refine Go.step (fun _ k => XS.ifNo X19.here hx rfl (hb hby at_56) rfl ((if0 _ _).trans (teq (by decide)).2) k) ?_
  show Go p e below _ T19 (mkF m 59 #[.val (.int i0), .val (.int i1), .val (.int i2), .val (.int i3), .val (.long big), .second, .val (.ref cs), .unset] [])
  refine Go.step (fun _ k => XS.iconst X19.here hx rfl (hb hby at_59) k) ?_
  show Go p e below _ T19 (mkF m 60 #[.val (.int i0), .val (.int i1), .val (.int i2), .val (.int i3), .val (.long big), .second, .val (.ref cs), .unset] [(.int (1 : Int32))])
  refine Go.step (fun _ k => XS.goto X19.here hx rfl (pc0 := 60) (pc' := 64) rfl (hb hby at_60) (by decide) (by decide) k) ?_
  show Go p e below _ T19 (mkF m 64 #[.val (.int i0), .val (.int i1), .val (.int i2), .val (.int i3), .val (.long big), .second, .val (.ref cs), .unset] [(.int (1 : Int32))])
  refine Go.step (fun _ k => XS.istore X19.here hx rfl (hb hby at_64) rfl (l' := #[.val (.int i0), .val (.int i1), .val (.int i2), .val (.int i3), .val (.long big), .second, .val (.ref cs), .val (.int (1 : Int32))]) rfl k) ?_
  show Go p e below _ T19 (mkF m 66 #[.val (.int i0), .val (.int i1), .val (.int i2), .val (.int i3), .val (.long big), .second, .val (.ref cs), .val (.int (1 : Int32))] [])
  refine Go.step (fun _ k => XS.aload X19.here hx rfl (hb hby at_66) rfl rfl k) ?_
  show Go p e below _ T19 (mkF m 68 #[.val (.int i0), .val (.int i1), .val (.int i2), .val (.int i3), .val (.long big), .second, .val (.ref cs), .val (.int (1 : Int32))] [(.ref cs)])
  refine Go.step (fun _ k => XS.iloadN X19.here hx rfl (hb hby at_68) rfl k) ?_
  show Go p e below _ T19 (mkF m 69 #[.val (.int i0), .val (.int i1), .val (.int i2), .val (.int i3), .val (.long big), .second, .val (.ref cs), .val (.int (1 : Int32))] [(.int i0), (.ref cs)])
  obtain ⟨f69, e_f69⟩ : ∃ z : UInt64, z = FP.i2d i0 := ⟨_, rfl⟩
  refine Go.step (fun _ k => XS.i2dS X19.here hx rfl (hb hby at_69) rfl e_f69.symm k) ?_
  show Go p e below _ T19 (mkF m 70 #[.val (.int i0), .val (.int i1), .val (.int i2), .val (.int i3), .val (.long big), .second, .val (.ref cs), .val (.int (1 : Int32))] [(.double f69), (.ref cs)])
  have hv2 : own_W f69 i0.toInt := by rw [e_f69]; exact own_i2d _
  obtain ⟨cq20, kq20, q20a, q20b, q20c⟩ := isOf hZ e19 E_cs
  obtain ⟨_, _, ⟨T20, L20, k20, n20⟩, -, X20, ⟨Lc20, hQ20, l20, y20, z20⟩, st20⟩ := X19.virtualBack hx (y := (⟨"com/example/mazu/mazu/base/CompensatedSum", "add", "(D)V"⟩ : MethodName)) (z := (⟨"com/example/mazu/mazu/base/CompensatedSum", "add", "(D)V"⟩ : MethodName)) hown (mvT hZ (hw _ (List.mem_of_getElem? (i := 9) rfl))) (mvT hZ (hw _ (List.mem_of_getElem? (i := 10) rfl))) (notFace_of_selects (args := #[]) (mvT hZ (hw _ (List.mem_of_getElem? (i := 12) rfl)))) (mvT hZ (hw _ (List.mem_of_getElem? (i := 12) rfl))) (mvT hZ (hw _ (List.mem_of_getElem? (i := 11) rfl))) (by decide) (backOf (W := 0) (rmA l Z a0 hw [] cs f69 sm1 er1 pl1 ((0 : Int64) + (1 : Int64)) big (big + (i0.toInt64)) i0.toInt T17.heap n0 Zn E_cs F_sum_cs F_error_cs F_plain_cs F_count_cs g_cs hS1 hv2 (by rw [hN2]) (by rw [hN2]; omega) (Or.inr (by omega)) hpl1) hZ (hw _ (List.mem_of_getElem? (i := 13) rfl)) (hw _ (List.mem_of_getElem? (i := 2) rfl)) (by decide) (by decide)) q20a q20c (g := (mkF m 70 #[.val (.int i0), .val (.int i1), .val (.int i2), .val (.int i3), .val (.long big), .second, .val (.ref cs), .val (.int (1 : Int32))] [(.double f69), (.ref cs)])) rfl (by rw [hml]; rfl) (Steps.refl _) (argsL := [(.double f69)]) (rest := []) (lenOf own_f61 rfl) rfl (by show 2 * 0 + _ ≤ _; exact Nat.le_of_eq rfl) (hb hby at_70) (fun _ _ => ⟨rfl, e19, (by dsimp only [Pt.cells, Pt.slots]; decide), (by dsimp only [Pt.cells, Pt.slots]; decide)⟩)
  dsimp only [Pt.U, Pt.locs, Pt.cells, Pt.slots] at X20 l20 y20 z20 st20 hQ20
  subst l20 y20 z20
  obtain ⟨sm2, er2, pl2, rfl, N20q, K20, F_sum_cs, F_error_cs, F_plain_cs, F_count_cs, hS2, hpl2⟩ := hQ20
  have N20 := Fr.app N19 N20q
  refine Go.step (fun _ k => st20.trans k) ?_
  replace E_cs := E_cs.keep K20
  replace K0 := K0.trans K20 (allS (Or.inr sz_cs) (all0))
  replace Zn := Nat.le_trans Zn K20.1
  show Go p e below _ T20 (mkF m 73 #[.val (.int i0), .val (.int i1), .val (.int i2), .val (.int i3), .val (.long big), .second, .val (.ref cs), .val (.int (1 : Int32))] [])
  refine Go.step (fun _ k => XS.iload X20.here hx rfl (hb hby at_73) rfl k) ?_
  show Go p e below _ T20 (mkF m 75 #[.val (.int i0), .val (.int i1), .val (.int i2), .val (.int i3), .val (.long big), .second, .val (.ref cs), .val (.int (1 : Int32))] [(.int (1 : Int32))])
  refine Go.step (fun _ k => XS.ifNo X20.here hx rfl (hb hby at_75) rfl ((if0 _ _).trans (feq (by decide)).1) k) ?_
  show Go p e below _ T20 (mkF m 78 #[.val (.int i0), .val (.int i1), .val (.int i2), .val (.int i3), .val (.long big), .second, .val (.ref cs), .val (.int (1 : Int32))] [])
  refine Go.step (fun _ k => XS.aload X20.here hx rfl (hb hby at_78) rfl rfl k) ?_
  show Go p e below _ T20 (mkF m 80 #[.val (.int i0), .val (.int i1), .val (.int i2), .val (.int i3), .val (.long big), .second, .val (.ref cs), .val (.int (1 : Int32))] [(.ref cs)])
  obtain ⟨cq21, kq21, q21a, q21b, q21c⟩ := isOf hZ rfl E_cs
  obtain ⟨_, _, ⟨T21, L21, k21, n21⟩, -, X21, ⟨Lc21, hQ21, l21, y21, z21⟩, st21⟩ := X20.virtualBack hx (y := (⟨"com/example/mazu/mazu/base/CompensatedSum", "value", "()D"⟩ : MethodName)) (z := (⟨"com/example/mazu/mazu/base/CompensatedSum", "value", "()D"⟩ : MethodName)) hown (mvT hZ (hw _ (List.mem_of_getElem? (i := 22) rfl))) (mvT hZ (hw _ (List.mem_of_getElem? (i := 23) rfl))) (notFace_of_selects (args := #[]) (mvT hZ (hw _ (List.mem_of_getElem? (i := 25) rfl)))) (mvT hZ (hw _ (List.mem_of_getElem? (i := 25) rfl))) (mvT hZ (hw _ (List.mem_of_getElem? (i := 24) rfl))) (by decide) (backOf (W := 0) (rmV l Z a0 hw [] cs sm2 er2 (big + (i0.toInt64)) T20.heap n0 Zn F_sum_cs F_error_cs hS2) hZ (hw _ (List.mem_of_getElem? (i := 26) rfl)) (hw _ (List.mem_of_getElem? (i := 2) rfl)) (by decide) (by decide)) q21a q21c (g := (mkF m 80 #[.val (.int i0), .val (.int i1), .val (.int i2), .val (.int i3), .val (.long big), .second, .val (.ref cs), .val (.int (1 : Int32))] [(.ref cs)])) rfl (by rw [hml]; rfl) (Steps.refl _) (argsL := []) (rest := []) (lenOf own_f62 rfl) rfl (by show 2 * 0 + _ ≤ _; exact Nat.le_of_eq rfl) (hb hby at_80) (fun _ _ => ⟨rfl, rfl, (by dsimp only [Pt.cells, Pt.slots]; decide), (by dsimp only [Pt.cells, Pt.slots]; decide)⟩)
  dsimp only [Pt.U, Pt.locs, Pt.cells, Pt.slots] at X21 l21 y21 z21 st21 hQ21
  subst l21 y21 z21
  obtain ⟨r80, rfl, N21q, e21, hf_r80, hz_r80⟩ := hQ21
  have N21 := Fr.app N20 N21q
  refine Go.step (fun _ k => st21.trans k) ?_
  show Go p e below _ T21 (mkF m 83 #[.val (.int i0), .val (.int i1), .val (.int i2), .val (.int i3), .val (.long big), .second, .val (.ref cs), .val (.int (1 : Int32))] [(.double r80)])
  refine Go.step (fun _ k => XS.lload X21.here hx rfl (hb hby at_83) rfl k) ?_
  show Go p e below _ T21 (mkF m 85 #[.val (.int i0), .val (.int i1), .val (.int i2), .val (.int i3), .val (.long big), .second, .val (.ref cs), .val (.int (1 : Int32))] [(.long big), (.double r80)])
  refine Go.step (fun _ k => XS.iloadN X21.here hx rfl (hb hby at_85) rfl k) ?_
  show Go p e below _ T21 (mkF m 86 #[.val (.int i0), .val (.int i1), .val (.int i2), .val (.int i3), .val (.long big), .second, .val (.ref cs), .val (.int (1 : Int32))] [(.int i0), (.long big), (.double r80)])
  refine Go.step (fun _ k => XS.i2l X21.here hx rfl (hb hby at_86) rfl k) ?_
  show Go p e below _ T21 (mkF m 87 #[.val (.int i0), .val (.int i1), .val (.int i2), .val (.int i3), .val (.long big), .second, .val (.ref cs), .val (.int (1 : Int32))] [(.long (i0.toInt64)), (.long big), (.double r80)])
  refine Go.step (fun _ k => XS.ladd X21.here hx rfl (hb hby at_87) rfl k) ?_
  show Go p e below _ T21 (mkF m 88 #[.val (.int i0), .val (.int i1), .val (.int i2), .val (.int i3), .val (.long big), .second, .val (.ref cs), .val (.int (1 : Int32))] [(.long (big + (i0.toInt64))), (.double r80)])
  obtain ⟨f88, e_f88⟩ : ∃ z : UInt64, z = FP.l2d (big + (i0.toInt64)) := ⟨_, rfl⟩
  refine Go.step (fun _ k => XS.l2dS X21.here hx rfl (hb hby at_88) rfl e_f88.symm k) ?_
  show Go p e below _ T21 (mkF m 89 #[.val (.int i0), .val (.int i1), .val (.int i2), .val (.int i3), .val (.long big), .second, .val (.ref cs), .val (.int (1 : Int32))] [(.double f88), (.double r80)])
  refine Go.step (fun _ k => XS.dcmpS X21.here hx rfl (hb hby at_89) rfl rfl k) ?_
  show Go p e below _ T21 (mkF m 90 #[.val (.int i0), .val (.int i1), .val (.int i2), .val (.int i3), .val (.long big), .second, .val (.ref cs), .val (.int (1 : Int32))] [(.int (cmpValue (FP.dcmp r80 f88) .l))])
  have ff_f88 : Jvm.FP.Core.DFin f88 := by rw [e_f88]; exact Jvm.FP.Core.l2d_fin _
  rw [← e_f88] at hz_r80
  refine Go.step (fun _ k => XS.ifNo X21.here hx rfl (hb hby at_90) rfl ((if0 _ _).trans (teq ((own_zcv hf_r80 ff_f88 .l).2.2.mpr hz_r80)).2) k) ?_
  show Go p e below _ T21 (mkF m 93 #[.val (.int i0), .val (.int i1), .val (.int i2), .val (.int i3), .val (.long big), .second, .val (.ref cs), .val (.int (1 : Int32))] [])
  refine Go.step (fun _ k => XS.aload X21.here hx rfl (hb hby at_93) rfl rfl k) ?_
  show Go p e below _ T21 (mkF m 95 #[.val (.int i0), .val (.int i1), .val (.int i2), .val (.int i3), .val (.long big), .second, .val (.ref cs), .val (.int (1 : Int32))] [(.ref cs)])
  obtain ⟨cq22, kq22, q22a, q22b, q22c⟩ := isOf hZ e21 E_cs
  obtain ⟨_, _, ⟨T22, L22, k22, n22⟩, -, X22, ⟨Lc22, hQ22, l22, y22, z22⟩, st22⟩ := X21.virtualBack hx (y := (⟨"com/example/mazu/mazu/base/CompensatedSum", "count", "()J"⟩ : MethodName)) (z := (⟨"com/example/mazu/mazu/base/CompensatedSum", "count", "()J"⟩ : MethodName)) hown (mvT hZ (hw _ (List.mem_of_getElem? (i := 31) rfl))) (mvT hZ (hw _ (List.mem_of_getElem? (i := 32) rfl))) (notFace_of_selects (args := #[]) (mvT hZ (hw _ (List.mem_of_getElem? (i := 34) rfl)))) (mvT hZ (hw _ (List.mem_of_getElem? (i := 34) rfl))) (mvT hZ (hw _ (List.mem_of_getElem? (i := 33) rfl))) (by decide) (backOf (W := 0) (rmC l Z a0 hw [] cs (((0 : Int64) + (1 : Int64)) + (1 : Int64)) T20.heap n0 Zn F_count_cs) hZ (hw _ (List.mem_of_getElem? (i := 35) rfl)) (hw _ (List.mem_of_getElem? (i := 2) rfl)) (by decide) (by decide)) q22a q22c (g := (mkF m 95 #[.val (.int i0), .val (.int i1), .val (.int i2), .val (.int i3), .val (.long big), .second, .val (.ref cs), .val (.int (1 : Int32))] [(.ref cs)])) rfl (by rw [hml]; rfl) (Steps.refl _) (argsL := []) (rest := []) (lenOf own_f63 rfl) rfl (by show 2 * 0 + _ ≤ _; exact Nat.le_of_eq rfl) (hb hby at_95) (fun _ _ => ⟨rfl, e21, (by dsimp only [Pt.cells, Pt.slots]; decide), (by dsimp only [Pt.cells, Pt.slots]; decide)⟩)
  dsimp only [Pt.U, Pt.locs, Pt.cells, Pt.slots] at X22 l22 y22 z22 st22 hQ22
  subst l22 y22 z22
  obtain ⟨rfl, N22q, e22⟩ := hQ22
  have N22 := Fr.app N21 N22q
  refine Go.step (fun _ k => st22.trans k) ?_
  show Go p e below _ T22 (mkF m 98 #[.val (.int i0), .val (.int i1), .val (.int i2), .val (.int i3), .val (.long big), .second, .val (.ref cs), .val (.int (1 : Int32))] [(.long (((0 : Int64) + (1 : Int64)) + (1 : Int64)))])
  refine Go.step (X22.ldc2Long hx hown (mvT hZ (hw _ (List.mem_of_getElem? (i := 36) rfl))) (g := (mkF m 98 #[.val (.int i0), .val (.int i1), .val (.int i2), .val (.int i3), .val (.long big), .second, .val (.ref cs), .val (.int (1 : Int32))] [(.long (((0 : Int64) + (1 : Int64)) + (1 : Int64)))])) rfl (hb hby at_98)) ?_
  show Go p e below _ T22 (mkF m 101 #[.val (.int i0), .val (.int i1), .val (.int i2), .val (.int i3), .val (.long big), .second, .val (.ref cs), .val (.int (1 : Int32))] [(.long (2 : Int64)), (.long (((0 : Int64) + (1 : Int64)) + (1 : Int64)))])
  refine Go.step (fun _ k => XS.lcmp X22.here hx rfl (hb hby at_101) rfl k) ?_
  show Go p e below _ T22 (mkF m 102 #[.val (.int i0), .val (.int i1), .val (.int i2), .val (.int i3), .val (.long big), .second, .val (.ref cs), .val (.int (1 : Int32))] [(.int (lcmpW (((0 : Int64) + (1 : Int64)) + (1 : Int64)) (2 : Int64)))])
  refine Go.step (fun _ k => XS.ifNo X22.here hx rfl (hb hby at_102) rfl ((if0 _ _).trans (teq (by decide)).2) k) ?_
  show Go p e below _ T22 (mkF m 105 #[.val (.int i0), .val (.int i1), .val (.int i2), .val (.int i3), .val (.long big), .second, .val (.ref cs), .val (.int (1 : Int32))] [])
  refine Go.step (fun _ k => XS.iconst X22.here hx rfl (hb hby at_105) k) ?_
  show Go p e below _ T22 (mkF m 106 #[.val (.int i0), .val (.int i1), .val (.int i2), .val (.int i3), .val (.long big), .second, .val (.ref cs), .val (.int (1 : Int32))] [(.int (1 : Int32))])
  refine Go.step (fun _ k => XS.goto X22.here hx rfl (pc0 := 106) (pc' := 110) rfl (hb hby at_106) (by decide) (by decide) k) ?_
  show Go p e below _ T22 (mkF m 110 #[.val (.int i0), .val (.int i1), .val (.int i2), .val (.int i3), .val (.long big), .second, .val (.ref cs), .val (.int (1 : Int32))] [(.int (1 : Int32))])
  refine Go.step (fun _ k => XS.istore X22.here hx rfl (hb hby at_110) rfl (l' := #[.val (.int i0), .val (.int i1), .val (.int i2), .val (.int i3), .val (.long big), .second, .val (.ref cs), .val (.int (1 : Int32))]) rfl k) ?_
  show Go p e below _ T22 (mkF m 112 #[.val (.int i0), .val (.int i1), .val (.int i2), .val (.int i3), .val (.long big), .second, .val (.ref cs), .val (.int (1 : Int32))] [])
  refine Go.step (fun _ k => XS.aload X22.here hx rfl (hb hby at_112) rfl rfl k) ?_
  show Go p e below _ T22 (mkF m 114 #[.val (.int i0), .val (.int i1), .val (.int i2), .val (.int i3), .val (.long big), .second, .val (.ref cs), .val (.int (1 : Int32))] [(.ref cs)])
  refine Go.step (fun _ k => XS.iloadN X22.here hx rfl (hb hby at_114) rfl k) ?_
  show Go p e below _ T22 (mkF m 115 #[.val (.int i0), .val (.int i1), .val (.int i2), .val (.int i3), .val (.long big), .second, .val (.ref cs), .val (.int (1 : Int32))] [(.int i1), (.ref cs)])
  obtain ⟨f115, e_f115⟩ : ∃ z : UInt64, z = FP.i2d i1 := ⟨_, rfl⟩
  refine Go.step (fun _ k => XS.i2dS X22.here hx rfl (hb hby at_115) rfl e_f115.symm k) ?_
  show Go p e below _ T22 (mkF m 116 #[.val (.int i0), .val (.int i1), .val (.int i2), .val (.int i3), .val (.long big), .second, .val (.ref cs), .val (.int (1 : Int32))] [(.double f115), (.ref cs)])
  have hv3 : own_W f115 i1.toInt := by rw [e_f115]; exact own_i2d _
  obtain ⟨cq23, kq23, q23a, q23b, q23c⟩ := isOf hZ e22 E_cs
  obtain ⟨_, _, ⟨T23, L23, k23, n23⟩, -, X23, ⟨Lc23, hQ23, l23, y23, z23⟩, st23⟩ := X22.virtualBack hx (y := (⟨"com/example/mazu/mazu/base/CompensatedSum", "add", "(D)V"⟩ : MethodName)) (z := (⟨"com/example/mazu/mazu/base/CompensatedSum", "add", "(D)V"⟩ : MethodName)) hown (mvT hZ (hw _ (List.mem_of_getElem? (i := 9) rfl))) (mvT hZ (hw _ (List.mem_of_getElem? (i := 10) rfl))) (notFace_of_selects (args := #[]) (mvT hZ (hw _ (List.mem_of_getElem? (i := 12) rfl)))) (mvT hZ (hw _ (List.mem_of_getElem? (i := 12) rfl))) (mvT hZ (hw _ (List.mem_of_getElem? (i := 11) rfl))) (by decide) (backOf (W := 0) (rmA l Z a0 hw [] cs f115 sm2 er2 pl2 (((0 : Int64) + (1 : Int64)) + (1 : Int64)) (big + (i0.toInt64)) ((big + (i0.toInt64)) + (i1.toInt64)) i1.toInt T20.heap n0 Zn E_cs F_sum_cs F_error_cs F_plain_cs F_count_cs g_cs hS2 hv3 (by rw [hN3, hN2]) (by rw [hN3]; omega) (Or.inr (by omega)) hpl2) hZ (hw _ (List.mem_of_getElem? (i := 13) rfl)) (hw _ (List.mem_of_getElem? (i := 2) rfl)) (by decide) (by decide)) q23a q23c (g := (mkF m 116 #[.val (.int i0), .val (.int i1), .val (.int i2), .val (.int i3), .val (.long big), .second, .val (.ref cs), .val (.int (1 : Int32))] [(.double f115), (.ref cs)])) rfl (by rw [hml]; rfl) (Steps.refl _) (argsL := [(.double f115)]) (rest := []) (lenOf own_f61 rfl) rfl (by show 2 * 0 + _ ≤ _; exact Nat.le_of_eq rfl) (hb hby at_116) (fun _ _ => ⟨rfl, e22, (by dsimp only [Pt.cells, Pt.slots]; decide), (by dsimp only [Pt.cells, Pt.slots]; decide)⟩)
  dsimp only [Pt.U, Pt.locs, Pt.cells, Pt.slots] at X23 l23 y23 z23 st23 hQ23
  subst l23 y23 z23
  obtain ⟨sm3, er3, pl3, rfl, N23q, K23, F_sum_cs, F_error_cs, F_plain_cs, F_count_cs, hS3, hpl3⟩ := hQ23
  have N23 := Fr.app N22 N23q
  refine Go.step (fun _ k => st23.trans k) ?_
  replace E_cs := E_cs.keep K23
  replace K0 := K0.trans K23 (allS (Or.inr sz_cs) (all0))
  replace Zn := Nat.le_trans Zn K23.1
  show Go p e below _ T23 (mkF m 119 #[.val (.int i0), .val (.int i1), .val (.int i2), .val (.int i3), .val (.long big), .second, .val (.ref cs), .val (.int (1 : Int32))] [])
  refine Go.step (fun _ k => XS.iload X23.here hx rfl (hb hby at_119) rfl k) ?_
  show Go p e below _ T23 (mkF m 121 #[.val (.int i0), .val (.int i1), .val (.int i2), .val (.int i3), .val (.long big), .second, .val (.ref cs), .val (.int (1 : Int32))] [(.int (1 : Int32))])
  refine Go.step (fun _ k => XS.ifNo X23.here hx rfl (hb hby at_121) rfl ((if0 _ _).trans (feq (by decide)).1) k) ?_
  show Go p e below _ T23 (mkF m 124 #[.val (.int i0), .val (.int i1), .val (.int i2), .val (.int i3), .val (.long big), .second, .val (.ref cs), .val (.int (1 : Int32))] [])
  refine Go.step (fun _ k => XS.aload X23.here hx rfl (hb hby at_124) rfl rfl k) ?_
  show Go p e below _ T23 (mkF m 126 #[.val (.int i0), .val (.int i1), .val (.int i2), .val (.int i3), .val (.long big), .second, .val (.ref cs), .val (.int (1 : Int32))] [(.ref cs)])
  obtain ⟨cq24, kq24, q24a, q24b, q24c⟩ := isOf hZ rfl E_cs
  obtain ⟨_, _, ⟨T24, L24, k24, n24⟩, -, X24, ⟨Lc24, hQ24, l24, y24, z24⟩, st24⟩ := X23.virtualBack hx (y := (⟨"com/example/mazu/mazu/base/CompensatedSum", "value", "()D"⟩ : MethodName)) (z := (⟨"com/example/mazu/mazu/base/CompensatedSum", "value", "()D"⟩ : MethodName)) hown (mvT hZ (hw _ (List.mem_of_getElem? (i := 22) rfl))) (mvT hZ (hw _ (List.mem_of_getElem? (i := 23) rfl))) (notFace_of_selects (args := #[]) (mvT hZ (hw _ (List.mem_of_getElem? (i := 25) rfl)))) (mvT hZ (hw _ (List.mem_of_getElem? (i := 25) rfl))) (mvT hZ (hw _ (List.mem_of_getElem? (i := 24) rfl))) (by decide) (backOf (W := 0) (rmV l Z a0 hw [] cs sm3 er3 ((big + (i0.toInt64)) + (i1.toInt64)) T23.heap n0 Zn F_sum_cs F_error_cs hS3) hZ (hw _ (List.mem_of_getElem? (i := 26) rfl)) (hw _ (List.mem_of_getElem? (i := 2) rfl)) (by decide) (by decide)) q24a q24c (g := (mkF m 126 #[.val (.int i0), .val (.int i1), .val (.int i2), .val (.int i3), .val (.long big), .second, .val (.ref cs), .val (.int (1 : Int32))] [(.ref cs)])) rfl (by rw [hml]; rfl) (Steps.refl _) (argsL := []) (rest := []) (lenOf own_f62 rfl) rfl (by show 2 * 0 + _ ≤ _; exact Nat.le_of_eq rfl) (hb hby at_126) (fun _ _ => ⟨rfl, rfl, (by dsimp only [Pt.cells, Pt.slots]; decide), (by dsimp only [Pt.cells, Pt.slots]; decide)⟩)
  dsimp only [Pt.U, Pt.locs, Pt.cells, Pt.slots] at X24 l24 y24 z24 st24 hQ24
  subst l24 y24 z24
  obtain ⟨r126, rfl, N24q, e24, hf_r126, hz_r126⟩ := hQ24
  have N24 := Fr.app N23 N24q
  refine Go.step (fun _ k => st24.trans k) ?_
  show Go p e below _ T24 (mkF m 129 #[.val (.int i0), .val (.int i1), .val (.int i2), .val (.int i3), .val (.long big), .second, .val (.ref cs), .val (.int (1 : Int32))] [(.double r126)])
  refine Go.step (fun _ k => XS.lload X24.here hx rfl (hb hby at_129) rfl k) ?_
  show Go p e below _ T24 (mkF m 131 #[.val (.int i0), .val (.int i1), .val (.int i2), .val (.int i3), .val (.long big), .second, .val (.ref cs), .val (.int (1 : Int32))] [(.long big), (.double r126)])
  refine Go.step (fun _ k => XS.iloadN X24.here hx rfl (hb hby at_131) rfl k) ?_
  show Go p e below _ T24 (mkF m 132 #[.val (.int i0), .val (.int i1), .val (.int i2), .val (.int i3), .val (.long big), .second, .val (.ref cs), .val (.int (1 : Int32))] [(.int i0), (.long big), (.double r126)])
  refine Go.step (fun _ k => XS.i2l X24.here hx rfl (hb hby at_132) rfl k) ?_
  show Go p e below _ T24 (mkF m 133 #[.val (.int i0), .val (.int i1), .val (.int i2), .val (.int i3), .val (.long big), .second, .val (.ref cs), .val (.int (1 : Int32))] [(.long (i0.toInt64)), (.long big), (.double r126)])
  refine Go.step (fun _ k => XS.ladd X24.here hx rfl (hb hby at_133) rfl k) ?_
  show Go p e below _ T24 (mkF m 134 #[.val (.int i0), .val (.int i1), .val (.int i2), .val (.int i3), .val (.long big), .second, .val (.ref cs), .val (.int (1 : Int32))] [(.long (big + (i0.toInt64))), (.double r126)])
  refine Go.step (fun _ k => XS.iloadN X24.here hx rfl (hb hby at_134) rfl k) ?_
  show Go p e below _ T24 (mkF m 135 #[.val (.int i0), .val (.int i1), .val (.int i2), .val (.int i3), .val (.long big), .second, .val (.ref cs), .val (.int (1 : Int32))] [(.int i1), (.long (big + (i0.toInt64))), (.double r126)])
  refine Go.step (fun _ k => XS.i2l X24.here hx rfl (hb hby at_135) rfl k) ?_
  show Go p e below _ T24 (mkF m 136 #[.val (.int i0), .val (.int i1), .val (.int i2), .val (.int i3), .val (.long big), .second, .val (.ref cs), .val (.int (1 : Int32))] [(.long (i1.toInt64)), (.long (big + (i0.toInt64))), (.double r126)])
  refine Go.step (fun _ k => XS.ladd X24.here hx rfl (hb hby at_136) rfl k) ?_
  show Go p e below _ T24 (mkF m 137 #[.val (.int i0), .val (.int i1), .val (.int i2), .val (.int i3), .val (.long big), .second, .val (.ref cs), .val (.int (1 : Int32))] [(.long ((big + (i0.toInt64)) + (i1.toInt64))), (.double r126)])
  obtain ⟨f137, e_f137⟩ : ∃ z : UInt64, z = FP.l2d ((big + (i0.toInt64)) + (i1.toInt64)) := ⟨_, rfl⟩
  refine Go.step (fun _ k => XS.l2dS X24.here hx rfl (hb hby at_137) rfl e_f137.symm k) ?_
  show Go p e below _ T24 (mkF m 138 #[.val (.int i0), .val (.int i1), .val (.int i2), .val (.int i3), .val (.long big), .second, .val (.ref cs), .val (.int (1 : Int32))] [(.double f137), (.double r126)])
  refine Go.step (fun _ k => XS.dcmpS X24.here hx rfl (hb hby at_138) rfl rfl k) ?_
  show Go p e below _ T24 (mkF m 139 #[.val (.int i0), .val (.int i1), .val (.int i2), .val (.int i3), .val (.long big), .second, .val (.ref cs), .val (.int (1 : Int32))] [(.int (cmpValue (FP.dcmp r126 f137) .l))])
  have ff_f137 : Jvm.FP.Core.DFin f137 := by rw [e_f137]; exact Jvm.FP.Core.l2d_fin _
  rw [← e_f137] at hz_r126
  refine Go.step (fun _ k => XS.ifNo X24.here hx rfl (hb hby at_139) rfl ((if0 _ _).trans (teq ((own_zcv hf_r126 ff_f137 .l).2.2.mpr hz_r126)).2) k) ?_
  show Go p e below _ T24 (mkF m 142 #[.val (.int i0), .val (.int i1), .val (.int i2), .val (.int i3), .val (.long big), .second, .val (.ref cs), .val (.int (1 : Int32))] [])
  refine Go.step (fun _ k => XS.aload X24.here hx rfl (hb hby at_142) rfl rfl k) ?_
  show Go p e below _ T24 (mkF m 144 #[.val (.int i0), .val (.int i1), .val (.int i2), .val (.int i3), .val (.long big), .second, .val (.ref cs), .val (.int (1 : Int32))] [(.ref cs)])
  obtain ⟨cq25, kq25, q25a, q25b, q25c⟩ := isOf hZ e24 E_cs
  obtain ⟨_, _, ⟨T25, L25, k25, n25⟩, -, X25, ⟨Lc25, hQ25, l25, y25, z25⟩, st25⟩ := X24.virtualBack hx (y := (⟨"com/example/mazu/mazu/base/CompensatedSum", "count", "()J"⟩ : MethodName)) (z := (⟨"com/example/mazu/mazu/base/CompensatedSum", "count", "()J"⟩ : MethodName)) hown (mvT hZ (hw _ (List.mem_of_getElem? (i := 31) rfl))) (mvT hZ (hw _ (List.mem_of_getElem? (i := 32) rfl))) (notFace_of_selects (args := #[]) (mvT hZ (hw _ (List.mem_of_getElem? (i := 34) rfl)))) (mvT hZ (hw _ (List.mem_of_getElem? (i := 34) rfl))) (mvT hZ (hw _ (List.mem_of_getElem? (i := 33) rfl))) (by decide) (backOf (W := 0) (rmC l Z a0 hw [] cs ((((0 : Int64) + (1 : Int64)) + (1 : Int64)) + (1 : Int64)) T23.heap n0 Zn F_count_cs) hZ (hw _ (List.mem_of_getElem? (i := 35) rfl)) (hw _ (List.mem_of_getElem? (i := 2) rfl)) (by decide) (by decide)) q25a q25c (g := (mkF m 144 #[.val (.int i0), .val (.int i1), .val (.int i2), .val (.int i3), .val (.long big), .second, .val (.ref cs), .val (.int (1 : Int32))] [(.ref cs)])) rfl (by rw [hml]; rfl) (Steps.refl _) (argsL := []) (rest := []) (lenOf own_f63 rfl) rfl (by show 2 * 0 + _ ≤ _; exact Nat.le_of_eq rfl) (hb hby at_144) (fun _ _ => ⟨rfl, e24, (by dsimp only [Pt.cells, Pt.slots]; decide), (by dsimp only [Pt.cells, Pt.slots]; decide)⟩)
  dsimp only [Pt.U, Pt.locs, Pt.cells, Pt.slots] at X25 l25 y25 z25 st25 hQ25
  subst l25 y25 z25
  obtain ⟨rfl, N25q, e25⟩ := hQ25
  have N25 := Fr.app N24 N25q
  refine Go.step (fun _ k => st25.trans k) ?_
  show Go p e below _ T25 (mkF m 147 #[.val (.int i0), .val (.int i1), .val (.int i2), .val (.int i3), .val (.long big), .second, .val (.ref cs), .val (.int (1 : Int32))] [(.long ((((0 : Int64) + (1 : Int64)) + (1 : Int64)) + (1 : Int64)))])
  refine Go.step (X25.ldc2Long hx hown (mvT hZ (hw _ (List.mem_of_getElem? (i := 37) rfl))) (g := (mkF m 147 #[.val (.int i0), .val (.int i1), .val (.int i2), .val (.int i3), .val (.long big), .second, .val (.ref cs), .val (.int (1 : Int32))] [(.long ((((0 : Int64) + (1 : Int64)) + (1 : Int64)) + (1 : Int64)))])) rfl (hb hby at_147)) ?_
  show Go p e below _ T25 (mkF m 150 #[.val (.int i0), .val (.int i1), .val (.int i2), .val (.int i3), .val (.long big), .second, .val (.ref cs), .val (.int (1 : Int32))] [(.long (3 : Int64)), (.long ((((0 : Int64) + (1 : Int64)) + (1 : Int64)) + (1 : Int64)))])
  refine Go.step (fun _ k => XS.lcmp X25.here hx rfl (hb hby at_150) rfl k) ?_
  show Go p e below _ T25 (mkF m 151 #[.val (.int i0), .val (.int i1), .val (.int i2), .val (.int i3), .val (.long big), .second, .val (.ref cs), .val (.int (1 : Int32))] [(.int (lcmpW ((((0 : Int64) + (1 : Int64)) + (1 : Int64)) + (1 : Int64)) (3 : Int64)))])
  refine Go.step (fun _ k => XS.ifNo X25.here hx rfl (hb hby at_151) rfl ((if0 _ _).trans (teq (by decide)).2) k) ?_
  show Go p e below _ T25 (mkF m 154 #[.val (.int i0), .val (.int i1), .val (.int i2), .val (.int i3), .val (.long big), .second, .val (.ref cs), .val (.int (1 : Int32))] [])
  refine Go.step (fun _ k => XS.iconst X25.here hx rfl (hb hby at_154) k) ?_
  show Go p e below _ T25 (mkF m 155 #[.val (.int i0), .val (.int i1), .val (.int i2), .val (.int i3), .val (.long big), .second, .val (.ref cs), .val (.int (1 : Int32))] [(.int (1 : Int32))])
  refine Go.step (fun _ k => XS.goto X25.here hx rfl (pc0 := 155) (pc' := 159) rfl (hb hby at_155) (by decide) (by decide) k) ?_
  show Go p e below _ T25 (mkF m 159 #[.val (.int i0), .val (.int i1), .val (.int i2), .val (.int i3), .val (.long big), .second, .val (.ref cs), .val (.int (1 : Int32))] [(.int (1 : Int32))])
  refine Go.step (fun _ k => XS.istore X25.here hx rfl (hb hby at_159) rfl (l' := #[.val (.int i0), .val (.int i1), .val (.int i2), .val (.int i3), .val (.long big), .second, .val (.ref cs), .val (.int (1 : Int32))]) rfl k) ?_
  show Go p e below _ T25 (mkF m 161 #[.val (.int i0), .val (.int i1), .val (.int i2), .val (.int i3), .val (.long big), .second, .val (.ref cs), .val (.int (1 : Int32))] [])
  refine Go.step (fun _ k => XS.iload X25.here hx rfl (hb hby at_161) rfl k) ?_
  show Go p e below _ T25 (mkF m 163 #[.val (.int i0), .val (.int i1), .val (.int i2), .val (.int i3), .val (.long big), .second, .val (.ref cs), .val (.int (1 : Int32))] [(.int (1 : Int32))])
  obtain ⟨fs, hr, hrun, hended, hW, hsame⟩ := X25.leave (v := some (.int (1 : Int32))) (fun h => by rw [Bd.returns] at h; cases h)
  refine Go.fin (retN X25 hx (t := .boolean) Bd.returns (by simp) (hb hby at_163) hr) hrun hended ?_
  refine ⟨_, _, rfl, ?_, ⟨_, rfl⟩, hW, hsame.mono (by decide) (by decide)⟩
  show Q0 Z i0 i1 i2 i3 h0 n0 _ T25.heap _
  rw [e25]
  exact ⟨rfl, N25⟩
set_option maxRecDepth 65536 in
set_option maxHeartbeats 40000000 in
theorem comes_1 {Post : Tables → Env → Array Value → State → Outcome → State → Prop} (hpost : ∀ tb e args s v u, (limb_1_1.after args s (.returned v) u = true ∧ limb_1_2.after args s (.returned v) u = true ∧ True) → FrameEnd s (.returned v) u (Jvm.fieldLocs frame_1_writes args s ++ Jvm.arrayLocs frame_1_arrays args s ++ Jvm.staticLocs frame_1_statics s) 16 128 → Post tb e args s (.returned v) u) :
    ArmFor flags0 classFile x code maxLocals ret World_1 tables_1 room_1 Calls_1 rest_1 Pre_1 Post := by
  intro l hfl _ _ p e ha hc hk s m args below hf hA hF happ hP
  obtain ⟨hcalls, hrest, hpre⟩ := hP
  obtain ⟨-, -, -, hnamed, -, -, -, hat⟩ := (Spec.applies_iff hf).mp happ
  obtain ⟨hg, hn⟩ := and_e (Cond.before_iff.mp (show (Jvm.Cond.and given_1 narrow_1).before args s = true from hpre))
  obtain ⟨hg1, hg2⟩ := and_e hg
  obtain ⟨hg3, hg4⟩ := and_e hg2
  obtain ⟨hg5, hg6⟩ := and_e hg4
  obtain ⟨hg7, hg8⟩ := and_e hg6
  obtain ⟨w0, w1, w2, w3, rfl⟩ : ∃ w0 w1 w2 w3 : Value, args = #[w0, w1, w2, w3] := by
    have hs : args.size = 4 := by simpa [Cond.value, given_1] using hg1
    obtain ⟨L⟩ := args
    match L, hs with
    | [w0, w1, w2, w3], _ => exact ⟨w0, w1, w2, w3, rfl⟩
  have hw := fun d (hd : d ∈ tables_1) => atoms_spec (ws := Jvm.Cond.code x code maxLocals ret :: tables_1) hat d (List.mem_cons_of_mem _ hd)
  have hfit : Fit s := fun {y c} hc i hi => by
    obtain ⟨ha, rfl⟩ := Array.getElem?_eq_some_iff.mp hc
    have q := List.all_eq_true.mp ((Array.all_eq_true_iff_forall_mem.mp hF) _ (Array.getElem_mem ha)) i (List.mem_range.mpr hi)
    simpa [Array.getElem?_eq_getElem hi] using q
  obtain ⟨i0, ei0⟩ := is_v hg3
  obtain rfl : w0 = (.int i0) := Option.some.inj ei0
  obtain ⟨i1, ei1⟩ := is_v hg5
  obtain rfl : w1 = (.int i1) := Option.some.inj ei1
  obtain ⟨i2, ei2⟩ := is_v hg7
  obtain rfl : w2 = (.int i2) := Option.some.inj ei2
  obtain ⟨i3, ei3⟩ := is_v hg8
  obtain rfl : w3 = (.int i3) := Option.some.inj ei3
  obtain ⟨n, o, h1, h2, h3, _, L, rfl, ⟨rfl, N⟩, hq⟩ := rm0 l s _ hw tables_1 i0 i1 i2 i3 s.heap s.heap.size (Nat.le_refl _)  p e ha hc hk s m _ below hf ((Spec.applies_iff_loose hf).mp happ).1 ⟨rfl, State.Warmed39.refl s, rfl⟩ trivial
  refine ⟨n, _, h1, h2, h3, hpost _ _ _ _ _ _ ⟨Cond.after_iff.mpr rfl, Cond.after_iff.mpr (eq_i res_at (Term.int_eval (1)) rfl), trivial⟩ ⟨hq.1, hq.2.1, (hq.2.2.sift fun y hy => Or.inr (N y hy)).mono (by decide) (by decide)⟩⟩
theorem main_1_1 : Claimed_1_1 := comes_1 fun _ _ _ _ _ _ h hF => ⟨h.1, hF⟩
theorem main_1_2 : Claimed_1_2 := comes_1 fun _ _ _ _ _ _ h hF => ⟨h.2.1, hF⟩
end Jvm.Pilot.@@N@@
namespace Jvm.Pilot.@@N@@
open Jvm Jvm.ClassFile Sem Op Lib Jvm.Free Jvm.Stand Jvm.Pilot.@@N@@.Jvm.D
/-! MADE BY PROGRAM (witnessworld.py) out of the Statement's table words and the real class files: 14 classes; the members and pool entries that the words name. The judged class is class 1, her method 1. -/
namespace start1
open Jvm.ClassFile
def u (s : String) : CpInfo := .utf8 (stringToUtf16 s)
/-- a pool by its gaps: so many unusable entries, then the entry; so many at the end -/
def gap : Nat → List CpInfo → List CpInfo
  | 0, r => r
  | n + 1, r => .unusable :: gap n r
def poolList (es : List (Nat × CpInfo)) (last : Nat) : List CpInfo := es.foldr (fun e r => gap e.1 (e.2 :: r)) (gap last [])
def pool (es : List (Nat × CpInfo)) (last : Nat) : Array CpInfo := ⟨poolList es last⟩
def fileOf (pool : Array CpInfo) (this : Nat) (attrs : Array Attribute := #[]) (ms : Array MethodInfo := #[]) (fl : Nat := 33) (sup : Nat := 0) (ifs : Array Nat := #[]) (fds : Array FieldInfo := #[]) : ClassFile where
  minorVersion := 0
  majorVersion := 65
  constantPool := pool
  accessFlags := fl
  thisClass := this
  superClass := sup
  interfaces := ifs
  fields := fds
  methods := ms
  attributes := attrs
def plain (name : String) (sup : Option ClassId) : Class where
  name := name
  kind := .ordinary
  loader := none
  accessFlags := 33
  super := sup
  interfaces := #[]
  cf := none
  fields := #[]
  methods := #[]
  instanceTypes := #[]
  staticTypes := #[]
  resolved := #[]
  callSites := []
  init := .initialized
  statics := none
  mirror := none

def pool0 : Array CpInfo := pool [(5, u "<init>"), (0, u "()V"), (1, .class_ 10), (1, u "java/lang/Object")] 113

def k0c0 : Code := { maxStack := 0, maxLocals := 1, code := object_method_1_code, exceptionTable := #[], attributes := #[] }
def k0m0 : Method := { name := "<init>", desc := "()V", sig := { parameters := [], returnType := none }, accessFlags := 1, code := some k0c0 }
/-- java/lang/Object -/
def k0 : Class := { plain "java/lang/Object" none with
  accessFlags := 33
  interfaces := #[]
  cf := some (fileOf pool0 8 #[] #[{ accessFlags := 1, nameIndex := 5, descriptorIndex := 6, attributes := #[] }] 33 0 #[] #[])
  fields := #[]
  methods := #[k0m0]
  instanceTypes := #[]
  staticTypes := #[]
  resolved := Array.replicate 124 none
  statics := none }

def pool1 : Array CpInfo := pool [(2, .class_ 4), (0, .nameAndType 5 6), (0, u "java/lang/Object"), (0, u "<init>"), (0, u "()V"), (0, .class_ 8), (0, u "com/example/mazu/mazu/base/CompensatedSum"), (0, .methodref 7 3), (0, .methodref 7 11), (0, .nameAndType 12 13), (0, u "add"), (0, u "(D)V"), (0, .methodref 7 15), (0, .nameAndType 16 17), (0, u "value"), (0, u "()D"), (0, .methodref 7 19), (0, .nameAndType 20 21), (0, u "count"), (0, u "()J"), (0, .long 2), (1, .long 3), (1, .class_ 27), (0, u "com/example/mazu/mazu/base/CompensatedSumAddPinLaw"), (2, u "law"), (0, u "(IIII)Z")] 3

def k1m0 : Method := { name := "<init>", desc := "()V", sig := { parameters := [], returnType := none }, accessFlags := 1, code := none }
def k1c1 : Code := { maxStack := 6, maxLocals := 8, code := code, exceptionTable := #[], attributes := #[] }
def k1m1 : Method := { name := "law", desc := "(IIII)Z", sig := { parameters := [.int, .int, .int, .int], returnType := some .boolean }, accessFlags := 9, code := some k1c1 }
/-- com/example/mazu/mazu/base/CompensatedSumAddPinLaw -/
def k1 : Class := { plain "com/example/mazu/mazu/base/CompensatedSumAddPinLaw" (some 0) with
  accessFlags := 49
  interfaces := #[]
  cf := some (fileOf pool1 26 #[] #[{ accessFlags := 1, nameIndex := 5, descriptorIndex := 6, attributes := #[] }, { accessFlags := 9, nameIndex := 30, descriptorIndex := 31, attributes := #[] }] 49 2 #[] #[])
  fields := #[]
  methods := #[k1m0, k1m1]
  instanceTypes := #[]
  staticTypes := #[]
  resolved := Array.replicate 35 none
  statics := none }

def pool2 : Array CpInfo := pool [(1, .methodref 2 3), (0, .class_ 4), (0, .nameAndType 5 6), (0, u "java/lang/Object"), (0, u "<init>"), (0, u "()V"), (0, .fieldref 8 9), (0, .class_ 10), (0, .nameAndType 11 12), (0, u "com/example/mazu/mazu/base/CompensatedSum"), (0, u "error"), (0, u "D"), (0, .fieldref 8 14), (0, .nameAndType 15 12), (0, u "sum"), (0, .fieldref 8 17), (0, .nameAndType 18 12), (0, u "plain"), (0, .fieldref 8 20), (0, .nameAndType 21 22), (0, u "count"), (0, u "J"), (0, .methodref 24 25), (0, .class_ 26), (0, .nameAndType 27 28), (0, u "java/lang/Double"), (0, u "isNaN"), (0, u "(D)Z"), (5, u "add"), (0, u "(D)V"), (0, u "value"), (0, u "()D"), (1, u "()J")] 2

def k2c0 : Code := { maxStack := 1, maxLocals := 1, code := prog_10_method_1_code, exceptionTable := #[], attributes := #[] }
def k2m0 : Method := { name := "<init>", desc := "()V", sig := { parameters := [], returnType := none }, accessFlags := 1, code := some k2c0 }
def k2c1 : Code := { maxStack := 5, maxLocals := 7, code := prog_10_method_2_code, exceptionTable := #[], attributes := #[] }
def k2m1 : Method := { name := "add", desc := "(D)V", sig := { parameters := [.double], returnType := none }, accessFlags := 1, code := some k2c1 }
def k2c2 : Code := { maxStack := 4, maxLocals := 3, code := prog_10_method_3_code, exceptionTable := #[], attributes := #[] }
def k2m2 : Method := { name := "value", desc := "()D", sig := { parameters := [], returnType := some .double }, accessFlags := 1, code := some k2c2 }
def k2c3 : Code := { maxStack := 2, maxLocals := 1, code := prog_10_method_4_code, exceptionTable := #[], attributes := #[] }
def k2m3 : Method := { name := "count", desc := "()J", sig := { parameters := [], returnType := some .long }, accessFlags := 1, code := some k2c3 }
/-- com/example/mazu/mazu/base/CompensatedSum -/
def k2 : Class := { plain "com/example/mazu/mazu/base/CompensatedSum" (some 0) with
  accessFlags := 33
  interfaces := #[]
  cf := some (fileOf pool2 8 #[] #[{ accessFlags := 1, nameIndex := 5, descriptorIndex := 6, attributes := #[] }, { accessFlags := 1, nameIndex := 34, descriptorIndex := 35, attributes := #[] }, { accessFlags := 1, nameIndex := 36, descriptorIndex := 37, attributes := #[] }, { accessFlags := 1, nameIndex := 21, descriptorIndex := 39, attributes := #[] }] 33 2 #[] #[{ accessFlags := 2, nameIndex := 15, descriptorIndex := 12, attributes := #[] }, { accessFlags := 2, nameIndex := 11, descriptorIndex := 12, attributes := #[] }, { accessFlags := 2, nameIndex := 18, descriptorIndex := 12, attributes := #[] }, { accessFlags := 2, nameIndex := 21, descriptorIndex := 22, attributes := #[] }])
  fields := #[{ name := "sum", type := .double, accessFlags := 2, slot := 0, constantValue := 0 }, { name := "error", type := .double, accessFlags := 2, slot := 1, constantValue := 0 }, { name := "plain", type := .double, accessFlags := 2, slot := 2, constantValue := 0 }, { name := "count", type := .long, accessFlags := 2, slot := 3, constantValue := 0 }]
  methods := #[k2m0, k2m1, k2m2, k2m3]
  instanceTypes := #[.double, .double, .double, .long]
  staticTypes := #[]
  resolved := Array.replicate 42 none
  statics := none }

def pool3 : Array CpInfo := pool [(1, .class_ 2), (0, u "java/io/Serializable"), (0, .class_ 4), (0, u "java/lang/Object")] 2

/-- java/io/Serializable -/
def k3 : Class := { plain "java/io/Serializable" (some 0) with
  accessFlags := 1537
  interfaces := #[]
  cf := some (fileOf pool3 1 #[] #[] 1537 3 #[] #[])
  fields := #[]
  methods := #[]
  instanceTypes := #[]
  staticTypes := #[]
  resolved := Array.replicate 7 none
  statics := none }

def pool4 : Array CpInfo := pool [(2, .class_ 4), (1, u "java/lang/Object"), (0, u "<init>"), (0, u "()V"), (1, .class_ 10), (1, u "java/lang/Number"), (2, .class_ 14), (0, u "java/io/Serializable"), (0, u "serialVersionUID"), (0, u "J")] 20

def k4m0 : Method := { name := "<init>", desc := "()V", sig := { parameters := [], returnType := none }, accessFlags := 1, code := none }
/-- java/lang/Number -/
def k4 : Class := { plain "java/lang/Number" (some 0) with
  accessFlags := 1057
  interfaces := #[3]
  cf := some (fileOf pool4 8 #[] #[{ accessFlags := 1, nameIndex := 5, descriptorIndex := 6, attributes := #[] }] 1057 2 #[13] #[{ accessFlags := 26, nameIndex := 15, descriptorIndex := 16, attributes := #[] }])
  fields := #[{ name := "serialVersionUID", type := .long, accessFlags := 26, slot := 0, constantValue := 0 }]
  methods := #[k4m0]
  instanceTypes := #[]
  staticTypes := #[.long]
  resolved := Array.replicate 37 none
  statics := none }

def pool5 : Array CpInfo := pool [(1, .class_ 2), (0, u "java/lang/Comparable"), (0, .class_ 4), (0, u "java/lang/Object")] 7

/-- java/lang/Comparable -/
def k5 : Class := { plain "java/lang/Comparable" (some 0) with
  accessFlags := 1537
  interfaces := #[]
  cf := some (fileOf pool5 1 #[] #[] 1537 3 #[] #[])
  fields := #[]
  methods := #[]
  instanceTypes := #[]
  staticTypes := #[]
  resolved := Array.replicate 12 none
  statics := none }

def pool6 : Array CpInfo := pool [(1, .class_ 2), (0, u "java/lang/constant/Constable"), (0, .class_ 4), (0, u "java/lang/Object")] 6

/-- java/lang/constant/Constable -/
def k6 : Class := { plain "java/lang/constant/Constable" (some 0) with
  accessFlags := 1537
  interfaces := #[]
  cf := some (fileOf pool6 1 #[] #[] 1537 3 #[] #[])
  fields := #[]
  methods := #[]
  instanceTypes := #[]
  staticTypes := #[]
  resolved := Array.replicate 11 none
  statics := none }

def pool7 : Array CpInfo := pool [(1, .class_ 2), (0, u "java/lang/constant/ConstantDesc"), (0, .class_ 4), (0, u "java/lang/Object")] 32

/-- java/lang/constant/ConstantDesc -/
def k7 : Class := { plain "java/lang/constant/ConstantDesc" (some 0) with
  accessFlags := 1537
  interfaces := #[]
  cf := some (fileOf pool7 1 #[] #[] 1537 3 #[] #[])
  fields := #[]
  methods := #[]
  instanceTypes := #[]
  staticTypes := #[]
  resolved := Array.replicate 37 none
  statics := none }

def pool8 : Array CpInfo := pool [(1, .class_ 2), (0, u "java/lang/Double"), (11, u "(D)Z"), (99, .class_ 116), (1, u "java/lang/Number"), (3, u "value"), (0, u "D"), (2, u "isNaN"), (48, u "TYPE"), (0, u "Ljava/lang/Class;"), (0, .class_ 176), (0, u "java/lang/Comparable"), (0, .class_ 178), (0, u "java/lang/constant/Constable"), (0, .class_ 180), (0, u "java/lang/constant/ConstantDesc"), (0, u "POSITIVE_INFINITY"), (3, u "NEGATIVE_INFINITY"), (2, u "NaN"), (2, u "MAX_VALUE"), (0, u "MIN_NORMAL"), (0, u "MIN_VALUE"), (2, u "SIZE"), (0, u "I"), (1, u "PRECISION"), (1, u "MAX_EXPONENT"), (1, u "MIN_EXPONENT"), (1, u "BYTES"), (3, u "serialVersionUID"), (0, u "J")] 79

def k8c0 : Code := { maxStack := 4, maxLocals := 2, code := jdk_117_method_6_code, exceptionTable := #[], attributes := #[] }
def k8m0 : Method := { name := "isNaN", desc := "(D)Z", sig := { parameters := [.double], returnType := some .boolean }, accessFlags := 9, code := some k8c0 }
/-- java/lang/Double -/
def k8 : Class := { plain "java/lang/Double" (some 4) with
  accessFlags := 49
  interfaces := #[5, 6, 7]
  cf := some (fileOf pool8 1 #[] #[{ accessFlags := 9, nameIndex := 124, descriptorIndex := 14, attributes := #[] }] 49 114 #[175, 177, 179] #[{ accessFlags := 25, nameIndex := 181, descriptorIndex := 121, attributes := #[] }, { accessFlags := 25, nameIndex := 185, descriptorIndex := 121, attributes := #[] }, { accessFlags := 25, nameIndex := 188, descriptorIndex := 121, attributes := #[] }, { accessFlags := 25, nameIndex := 191, descriptorIndex := 121, attributes := #[] }, { accessFlags := 25, nameIndex := 192, descriptorIndex := 121, attributes := #[] }, { accessFlags := 25, nameIndex := 193, descriptorIndex := 121, attributes := #[] }, { accessFlags := 25, nameIndex := 196, descriptorIndex := 197, attributes := #[] }, { accessFlags := 25, nameIndex := 199, descriptorIndex := 197, attributes := #[] }, { accessFlags := 25, nameIndex := 201, descriptorIndex := 197, attributes := #[] }, { accessFlags := 25, nameIndex := 203, descriptorIndex := 197, attributes := #[] }, { accessFlags := 25, nameIndex := 205, descriptorIndex := 197, attributes := #[] }, { accessFlags := 25, nameIndex := 173, descriptorIndex := 174, attributes := #[] }, { accessFlags := 18, nameIndex := 120, descriptorIndex := 121, attributes := #[] }, { accessFlags := 26, nameIndex := 209, descriptorIndex := 210, attributes := #[] }])
  fields := #[{ name := "POSITIVE_INFINITY", type := .double, accessFlags := 25, slot := 0, constantValue := 0 }, { name := "NEGATIVE_INFINITY", type := .double, accessFlags := 25, slot := 1, constantValue := 0 }, { name := "NaN", type := .double, accessFlags := 25, slot := 2, constantValue := 0 }, { name := "MAX_VALUE", type := .double, accessFlags := 25, slot := 3, constantValue := 0 }, { name := "MIN_NORMAL", type := .double, accessFlags := 25, slot := 4, constantValue := 0 }, { name := "MIN_VALUE", type := .double, accessFlags := 25, slot := 5, constantValue := 0 }, { name := "SIZE", type := .int, accessFlags := 25, slot := 6, constantValue := 0 }, { name := "PRECISION", type := .int, accessFlags := 25, slot := 7, constantValue := 0 }, { name := "MAX_EXPONENT", type := .int, accessFlags := 25, slot := 8, constantValue := 0 }, { name := "MIN_EXPONENT", type := .int, accessFlags := 25, slot := 9, constantValue := 0 }, { name := "BYTES", type := .int, accessFlags := 25, slot := 10, constantValue := 0 }, { name := "TYPE", type := (.object "java/lang/Class"), accessFlags := 25, slot := 11, constantValue := 0 }, { name := "value", type := .double, accessFlags := 18, slot := 0, constantValue := 0 }, { name := "serialVersionUID", type := .long, accessFlags := 26, slot := 12, constantValue := 0 }]
  methods := #[k8m0]
  instanceTypes := #[.double]
  staticTypes := #[.double, .double, .double, .double, .double, .double, .int, .int, .int, .int, .int, (.object "java/lang/Class"), .long]
  resolved := Array.replicate 290 none
  statics := none }

def pool9 : Array CpInfo := pool [(1, u "java/lang/Cloneable"), (0, .class_ 1), (0, u "java/lang/Object"), (0, .class_ 3)] 3

/-- java/lang/Cloneable -/
def k9 : Class := { plain "java/lang/Cloneable" (some 0) with
  accessFlags := 1537
  interfaces := #[]
  cf := some (fileOf pool9 2 #[] #[] 1537 4 #[] #[])
  fields := #[]
  methods := #[]
  instanceTypes := #[]
  staticTypes := #[]
  resolved := Array.replicate 8 none
  statics := none }

/-- the primitive byte -/
def k10 : Class := { plain "byte" none with kind := .primitive 'B', accessFlags := 0x411 }
/-- [B -/
def k11 : Class := { plain "[B" (some 0) with kind := .array 10 .byte, interfaces := #[9, 3], accessFlags := 1041 }

/-- the primitive int -/
def k12 : Class := { plain "int" none with kind := .primitive 'I', accessFlags := 0x411 }
/-- [I -/
def k13 : Class := { plain "[I" (some 0) with kind := .array 12 .int, interfaces := #[9, 3], accessFlags := 1041 }

def heap : Heap := #[]
def classes : Array Class := #[k0, k1, k2, k3, k4, k5, k6, k7, k8, k9, k10, k11, k12, k13]
def interned : List (Array UInt16 × Addr) := []
def slotsUsed : Nat := 0
def theMethod : MethodId := ⟨1, 1⟩
def args0 : Array Value := #[.int 5, .int 7, .int 3, .int 4]
def aboutOver (below : List Frame) : State where
  vm := { classes := classes, interned := interned.toArray }
  heap := heap
  slotsUsed := slotsUsed
  threads := #[{ frames := .invoking theMethod args0 :: below }]
def below0 : List Frame := [.native { method := ⟨0, 0⟩, args := #[] }]
def about1 : State := aboutOver below0
def p0 : Program := .bare "" "" ""
def e0 : Env := launch0.env 0 0 0
theorem w_frames : about1.frames = Frame.invoking theMethod args0 :: below0 := rfl
set_option maxRecDepth 65536 in
theorem w_args : argsFit about1.vm theMethod args0 = true := by decide +kernel
set_option maxRecDepth 65536 in
theorem w_heap : heapFits about1 = true := by decide +kernel
set_option maxRecDepth 65536 in
theorem w_runnable : about1.curStatus? = some .runnable := by decide +kernel
set_option maxRecDepth 65536 in
theorem w_alone : about1.alone = true := by decide +kernel
set_option maxRecDepth 65536 in
theorem w_named : about1.methodNamed? x = some theMethod := by decide +kernel
set_option maxRecDepth 65536 in
theorem w_hears : about1.hears theMethod below0 = true := by decide +kernel
set_option maxRecDepth 65536 in
theorem w_ripe : about1.ripe theMethod args0 below0 = true := by decide +kernel
theorem w_running : about1.status = .running := rfl
set_option maxRecDepth 65536 in
theorem w_room : about1.hasRoom e0.platform room_1 = true :=
  launch0.hasRoom_least _ room_1 (by decide +kernel) (by decide +kernel) (by decide +kernel) (by decide +kernel) (by decide +kernel) (by decide +kernel)
theorem allAtoms_all (ts : List Jvm.Cond) (a : Array Jvm.Value) (st : Jvm.State) : (allAtoms ts).before a st = ts.all (fun c => c.before a st) := by
  induction ts with
  | nil => rfl
  | cons c t ih =>
    show (Jvm.Cond.and c (allAtoms t)).before a st = _
    rw [Jvm.Cond.before_and, ih, List.all_cons]
def words1 : List Jvm.Cond := Jvm.Cond.code x code maxLocals ret :: tables_1
/-- a 'code' word, met by the world's own term for the bytes: nothing is compared byte by byte -/
theorem code_word {y : MethodName} {bytes : ByteArray} {mx : Nat} {rt : Option FieldType} {a : Array Value} {s : State} {m : MethodId} {meth : Method} {c : Code} (h1 : s.methodNamed? y = some m) (h2 : s.vm.method? m = some meth) (h3 : meth.code = some c) (h4 : c.code = bytes)
    (h5 : (c.maxLocals == mx && c.exceptionTable.isEmpty && decide (c.maxStack ≤ mostOperands) && decide (meth.sig.returnType = rt) && !meth.locks && decide (parseMethodDescriptor y.desc = some meth.sig)) = true) : (Jvm.Cond.code y bytes mx rt).before a s = true := by
  simp only [Bool.and_eq_true, beq_iff_eq, Bool.not_eq_true', decide_eq_true_eq] at h5
  obtain ⟨⟨⟨⟨⟨g1, g2⟩, g3⟩, g4⟩, g5⟩, g6⟩ := h5
  simp [Cond.before, Cond.holds, Cond.value, h1, h2, h3, h4, g1, g2, g3, g4, g5, g6]
def isCode : Jvm.Cond → Bool
  | .code _ _ _ _ => true
  | _ => false
theorem all_split {L : List Jvm.Cond} {P : Jvm.Cond → Bool} (h1 : L.all (fun c => isCode c || P c) = true) (h2 : ∀ c ∈ L.filter isCode, P c = true) : L.all P = true := by
  refine List.all_eq_true.mpr fun c hc => ?_
  have h := List.all_eq_true.mp h1 c hc
  rcases Bool.eq_false_or_eq_true (isCode c) with hi | hi
  · exact h2 c (List.mem_filter.mpr ⟨hc, hi⟩)
  · simpa [hi] using h
set_option maxRecDepth 65536 in
theorem w_c0 : (Jvm.Cond.code x code maxLocals ret).before args0 about1 = true := code_word (m := ⟨1, 1⟩) (meth := k1m1) (c := k1c1) (by decide +kernel) rfl rfl rfl (by decide +kernel)
set_option maxRecDepth 65536 in
theorem w_c1 : (Jvm.Cond.code ({ cls := "com/example/mazu/mazu/base/CompensatedSum", name := "<init>", desc := "()V" } : Jvm.MethodName) prog_10_method_1_code (1 : Nat) (Option.none : Option Jvm.ClassFile.FieldType)).before args0 about1 = true := code_word (m := ⟨2, 0⟩) (meth := k2m0) (c := k2c0) (by decide +kernel) rfl rfl rfl (by decide +kernel)
set_option maxRecDepth 65536 in
theorem w_c2 : (Jvm.Cond.code ({ cls := "java/lang/Object", name := "<init>", desc := "()V" } : Jvm.MethodName) object_method_1_code (1 : Nat) (Option.none : Option Jvm.ClassFile.FieldType)).before args0 about1 = true := code_word (m := ⟨0, 0⟩) (meth := k0m0) (c := k0c0) (by decide +kernel) rfl rfl rfl (by decide +kernel)
set_option maxRecDepth 65536 in
theorem w_c3 : (Jvm.Cond.code ({ cls := "com/example/mazu/mazu/base/CompensatedSum", name := "add", desc := "(D)V" } : Jvm.MethodName) prog_10_method_2_code (7 : Nat) (Option.none : Option Jvm.ClassFile.FieldType)).before args0 about1 = true := code_word (m := ⟨2, 1⟩) (meth := k2m1) (c := k2c1) (by decide +kernel) rfl rfl rfl (by decide +kernel)
set_option maxRecDepth 65536 in
theorem w_c4 : (Jvm.Cond.code ({ cls := "com/example/mazu/mazu/base/CompensatedSum", name := "value", desc := "()D" } : Jvm.MethodName) prog_10_method_3_code (3 : Nat) (Option.some Jvm.ClassFile.FieldType.double)).before args0 about1 = true := code_word (m := ⟨2, 2⟩) (meth := k2m2) (c := k2c2) (by decide +kernel) rfl rfl rfl (by decide +kernel)
set_option maxRecDepth 65536 in
theorem w_c5 : (Jvm.Cond.code ({ cls := "java/lang/Double", name := "isNaN", desc := "(D)Z" } : Jvm.MethodName) jdk_117_method_6_code (2 : Nat) (Option.some Jvm.ClassFile.FieldType.boolean)).before args0 about1 = true := code_word (m := ⟨8, 0⟩) (meth := k8m0) (c := k8c0) (by decide +kernel) rfl rfl rfl (by decide +kernel)
set_option maxRecDepth 65536 in
theorem w_c6 : (Jvm.Cond.code ({ cls := "com/example/mazu/mazu/base/CompensatedSum", name := "count", desc := "()J" } : Jvm.MethodName) prog_10_method_4_code (1 : Nat) (Option.some Jvm.ClassFile.FieldType.long)).before args0 about1 = true := code_word (m := ⟨2, 3⟩) (meth := k2m3) (c := k2c3) (by decide +kernel) rfl rfl rfl (by decide +kernel)
def codes1 : List Jvm.Cond := [Jvm.Cond.code x code maxLocals ret, Jvm.Cond.code ({ cls := "com/example/mazu/mazu/base/CompensatedSum", name := "<init>", desc := "()V" } : Jvm.MethodName) prog_10_method_1_code (1 : Nat) (Option.none : Option Jvm.ClassFile.FieldType), Jvm.Cond.code ({ cls := "java/lang/Object", name := "<init>", desc := "()V" } : Jvm.MethodName) object_method_1_code (1 : Nat) (Option.none : Option Jvm.ClassFile.FieldType), Jvm.Cond.code ({ cls := "com/example/mazu/mazu/base/CompensatedSum", name := "add", desc := "(D)V" } : Jvm.MethodName) prog_10_method_2_code (7 : Nat) (Option.none : Option Jvm.ClassFile.FieldType), Jvm.Cond.code ({ cls := "com/example/mazu/mazu/base/CompensatedSum", name := "value", desc := "()D" } : Jvm.MethodName) prog_10_method_3_code (3 : Nat) (Option.some Jvm.ClassFile.FieldType.double), Jvm.Cond.code ({ cls := "java/lang/Double", name := "isNaN", desc := "(D)Z" } : Jvm.MethodName) jdk_117_method_6_code (2 : Nat) (Option.some Jvm.ClassFile.FieldType.boolean), Jvm.Cond.code ({ cls := "com/example/mazu/mazu/base/CompensatedSum", name := "count", desc := "()J" } : Jvm.MethodName) prog_10_method_4_code (1 : Nat) (Option.some Jvm.ClassFile.FieldType.long)]
set_option maxRecDepth 65536 in
theorem codes_eq : words1.filter isCode = codes1 := rfl
theorem w_codes : ∀ c ∈ words1.filter isCode, c.before args0 about1 = true := by
  rw [codes_eq]
  intro c hc
  simp only [codes1, List.mem_cons, List.not_mem_nil, or_false] at hc
  rcases hc with rfl | rfl | rfl | rfl | rfl | rfl | rfl
  · exact w_c0
  · exact w_c1
  · exact w_c2
  · exact w_c3
  · exact w_c4
  · exact w_c5
  · exact w_c6
set_option maxRecDepth 65536 in
theorem w_t1 : (words1.take 24).all (fun c => isCode c || c.before args0 about1) = true := by decide +kernel
set_option maxRecDepth 65536 in
theorem w_t2 : (words1.drop 24).all (fun c => isCode c || c.before args0 about1) = true := by decide +kernel
theorem w_tables : (allAtoms (Jvm.Cond.code x code maxLocals ret :: tables_1)).before args0 about1 = true := by
  rw [allAtoms_all]
  show words1.all (fun c => c.before args0 about1) = true
  refine all_split ?_ w_codes
  rw [← List.take_append_drop 24 words1, List.all_append, w_t1, w_t2]
  rfl
set_option maxRecDepth 65536 in
theorem w_case : (Jvm.Cond.and given_1 narrow_1).before args0 about1 = true := by decide +kernel
theorem w_applies : (headSpec (Jvm.Cond.code x code maxLocals ret :: tables_1) room_1).applies x e0.platform about1 = true :=
  (Spec.applies_iff w_frames).mpr ⟨w_running, w_runnable, w_alone, w_named, w_hears, w_ripe, w_room, w_tables⟩
theorem atStart : AtStart classFile x code maxLocals ret World_1 tables_1 room_1 Calls_1 rest_1 Pre_1 launch0 p0 e0 about1 theMethod args0 below0 :=
  ⟨lists_1, trivial, launch0.admits_env _ _ _, launch0.least_env, fairChoices_fair.cas, fairChoices_fair.clock, w_frames, w_args, w_heap, w_applies, trivial, trivial, w_case⟩
end start1
theorem witness_1 : WitnessClaimed_1 := ⟨start1.p0, start1.e0, start1.about1, start1.theMethod, start1.args0, start1.below0, start1.atStart⟩
end Jvm.Pilot.@@N@@
