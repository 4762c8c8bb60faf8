import JvmDerived
import JvmDerived.Pilot.@@N@@Statement
import JvmDerived.Pilot.@@N@@Code
set_option linter.unusedVariables false
set_option linter.unusedSimpArgs false
@@BLOCK:NumsL.lean.txt@@
namespace Jvm.RoadKit
open Sem ClassFile Op Lib Jvm.Stand Jvm.Free Jvm.LawKit
/-- from the frame f over T the run ends as R says -/
def Go (p : Program) (e : Env) (below : List Frame) (R : State → Outcome → Prop) (T : State) (f : JFrame) : Prop := ∃ s₂ o, Steps p.tables e below (T.setTop f) s₂ ∧ s₂.status = .running ∧ Ended s₂ below o ∧ R s₂ o
section New
variable {p : Program} {l : Launch} {e : Env} {R : Room} {s : State} {m : MethodId} {args : Array Value} {below : List Frame} {meth : Method} {c : Code} {T T' : State} {locs : List Loc} {cells slots : Nat} {K : State → Outcome → Prop} {f f' : JFrame}
theorem Go.start (q : f = f') (k : Go p e below K T f') : ∃ s₂ o, Steps p.tables e below (T.setTop f) s₂ ∧ s₂.status = .running ∧ Ended s₂ below o ∧ K s₂ o := q ▸ k
theorem Go.step (h : ∀ t, Steps p.tables e below (T'.setTop f') t → Steps p.tables e below (T.setTop f) t) (k : Go p e below K T' f') : Go p e below K T f := by
  obtain ⟨s₂, o, h1, h2⟩ := k
  exact ⟨s₂, o, h _ h1, h2⟩
theorem Go.fin {S2 : State} {o : Outcome} (hs : Steps p.tables e below (T.setTop f) S2) (h1 : S2.status = .running) (h2 : Ended S2 below o) (h3 : K S2 o) : Go p e below K T f := ⟨_, _, hs, h1, h2, h3⟩
theorem retI (X : Stand p l e R s m args below meth c T locs cells slots) (hx : p.tables.exec = Jvm.exec) {pc : Nat} {Ls : Array Slot} {z : Int32} {rest : List Value} (hret : meth.sig.returnType = some .int) (hd : decode c.code pc = .ok (.ireturn, 1)) {fs : List Frame}
    (hl : ∀ (f : JFrame) (acts : List Action), f.method = m → f.locked = none → f.entered = [] → (doReturn e (T.setTop f) acts (some (.int z))).1 = T.setFrames fs) : Steps p.tables e below (T.setTop (mkF m pc Ls (.int z :: rest))) (T.setFrames fs) := by
  have hm' : T.vm.method? m = some meth := X.method'
  have hn : narrow .int (.int z) = .int z := rfl
  show Steps p.tables e below (T.setTop { method := m, pc := pc, locals := Ls, stack := _ :: rest, locked := none }) _
  jvm_step X.here [X.here.top, hx, hd, hm', hret, hn]
  first | (intro acts; rw [hl _ acts rfl rfl rfl]) | rw [hl _ _ rfl rfl rfl]
  exact Steps.refl _
theorem own_retD (X : Stand p l e R s m args below meth c T locs cells slots) (hx : p.tables.exec = Jvm.exec) {pc : Nat} {Ls : Array Slot} {z : UInt64} {rest : List Value} (hret : meth.sig.returnType = some .double) (hd : decode c.code pc = .ok (.dreturn, 1)) {fs : List Frame}
    (hl : ∀ (f : JFrame) (acts : List Action), f.method = m → f.locked = none → f.entered = [] → (doReturn e (T.setTop f) acts (some (.double z))).1 = T.setFrames fs) : Steps p.tables e below (T.setTop (mkF m pc Ls (.double z :: rest))) (T.setFrames fs) := by
  have hm' : T.vm.method? m = some meth := X.method'
  have hn : narrow .double (.double z) = .double z := rfl
  show Steps p.tables e below (T.setTop { method := m, pc := pc, locals := Ls, stack := _ :: rest, locked := none }) _
  jvm_step X.here [X.here.top, hx, hd, hm', hret, hn]
  first | (intro acts; rw [hl _ acts rfl rfl rfl]) | rw [hl _ _ rfl rfl rfl]
  exact Steps.refl _
end New
end Jvm.RoadKit
namespace Jvm.RoadKit
open Sem Op Jvm.FP Jvm.FP.Core
/-- a double's worth, in units of the least double -/
def own_z (x : UInt64) : Int := zval b64 (val64 x)
theorem own_top : b64.tails * 2 ^ (b64.exps - 2) = 2 ^ 2098 := by decide +kernel
theorem own_fin_z {x : UInt64} (hn : val64 x ≠ .nan) (h : (own_z x).natAbs < 2 ^ 2098) : DFin x := by
  unfold own_z at h
  cases e : val64 x with
  | nan => exact absurd e hn
  | inf s =>
    exfalso
    rw [e] at h
    unfold zval at h
    rw [natAbs_signed] at h
    simp only [zmag] at h
    rw [own_top] at h
    exact Nat.lt_irrefl _ h
  | fin s c q => exact ⟨s, c, q, e⟩
theorem own_z_lt {x : UInt64} (h : DFin x) : (own_z x).natAbs < 2 ^ 2098 := by
  have q := h.zval_lt
  rw [own_top] at q
  unfold own_z zval
  rw [natAbs_signed]
  exact q
theorem own_signed_abs (n : Int) (k : Nat) : signed (decide (n < 0)) (n.natAbs * k) = n * (k : Int) := by
  rw [signed_mul]
  congr 1
  unfold signed
  by_cases h : n < 0 <;> simp [h] <;> omega
theorem own_rep (n : Int) (j : Nat) (hn : n.natAbs < 2 ^ 53) (hj : j ≤ 2045) : ∃ V, DFin V ∧ own_z V = n * ((2 ^ j : Nat) : Int) := by
  have q1 : b64.qmin = -1074 := qmin_b64
  have q2 : b64.qmax = 971 := by decide
  obtain ⟨c', q', h1, h2⟩ := round_exact good_b64 (decide (n < 0)) (c := n.natAbs) (q := (j : Int) - 1074) hn (by omega) (by omega)
  have hf : Core.fits b64 (Datum.fin (decide (n < 0)) c' q') := h1 ▸ round_fits good_b64 _
  refine ⟨of64 (Datum.fin (decide (n < 0)) c' q'), ⟨_, _, _, val64_of64 hf⟩, ?_⟩
  unfold own_z
  rw [val64_of64 hf]
  show signed (decide (n < 0)) (inUnits c' q' b64.qmin) = _
  rw [h2]
  unfold inUnits
  rw [show ((j : Int) - 1074 - b64.qmin).toNat = j by omega]
  exact own_signed_abs n _
theorem own_cmp {a b : UInt64} (ha : DFin a) (hb : DFin b) : FP.dcmp a b = some (compare (own_z a) (own_z b)) := dcmp_zval ha.ne_nan hb.ne_nan
theorem own_add_le {a b V : UInt64} (ha : DFin a) (hb : DFin b) (hV : DFin V) (h : own_z a + own_z b ≤ own_z V) : own_z (FP.dadd a b) ≤ own_z V := by
  show zval b64 (val64 (Core.dadd a b)) ≤ _
  rw [val64_dadd]
  exact sum_le good_b64 ha hb (val64_fits a) (val64_fits b) (val64_fits V) hV.ne_nan h
theorem own_add_ge {a b V : UInt64} (ha : DFin a) (hb : DFin b) (hV : DFin V) (h : own_z V ≤ own_z a + own_z b) : own_z V ≤ own_z (FP.dadd a b) := by
  show _ ≤ zval b64 (val64 (Core.dadd a b))
  rw [val64_dadd]
  exact sum_ge good_b64 ha hb (val64_fits a) (val64_fits b) (val64_fits V) hV.ne_nan h
theorem own_neg_fin {b : UInt64} (hb : DFin b) : ∃ s c q, negate (val64 b) = .fin s c q := by
  obtain ⟨s, c, q, h⟩ := hb
  exact ⟨!s, c, q, by rw [h]; rfl⟩
theorem own_sub_le {a b V : UInt64} (ha : DFin a) (hb : DFin b) (hV : DFin V) (h : own_z a - own_z b ≤ own_z V) : own_z (FP.dsub a b) ≤ own_z V := by
  show zval b64 (val64 (Core.dsub a b)) ≤ _
  rw [val64_dsub]
  refine sum_le good_b64 ha (own_neg_fin hb) (val64_fits a) (negate_fits (val64_fits b)) (val64_fits V) hV.ne_nan ?_
  rw [zval_negate]; exact h
theorem own_sub_ge {a b V : UInt64} (ha : DFin a) (hb : DFin b) (hV : DFin V) (h : own_z V ≤ own_z a - own_z b) : own_z V ≤ own_z (FP.dsub a b) := by
  show _ ≤ zval b64 (val64 (Core.dsub a b))
  rw [val64_dsub]
  refine sum_ge good_b64 ha (own_neg_fin hb) (val64_fits a) (negate_fits (val64_fits b)) (val64_fits V) hV.ne_nan ?_
  rw [zval_negate]; exact h
theorem own_mul_le {a b V : UInt64} (ha : DFin a) (hb : DFin b) (hV : DFin V) (h : own_z a * own_z b ≤ own_z V * ((2 ^ 1074 : Nat) : Int)) : own_z (FP.dmul a b) ≤ own_z V := by
  obtain ⟨s, c, q, e1⟩ := ha
  obtain ⟨t, d, r, e2⟩ := hb
  have f1 := val64_fits a; rw [e1] at f1
  have f2 := val64_fits b; rw [e2] at f2
  obtain ⟨h1, h2, h3⟩ := product_units f1 f2
  have q1 : b64.qmin = -1074 := qmin_b64
  show zval b64 (val64 (Core.dmul a b)) ≤ zval b64 (val64 V)
  rw [val64_dmul, e1, e2, h1]
  refine zval_round_le good_b64 (val64_fits V) hV.ne_nan (e0 := 2 * b64.qmin) (by omega) h2 ?_
  rw [h3, signed_xor, show (b64.qmin - 2 * b64.qmin).toNat = 1074 by omega]
  unfold own_z at h
  rw [e1, e2] at h
  exact h
theorem own_mul_ge {a b V : UInt64} (ha : DFin a) (hb : DFin b) (hV : DFin V) (h : own_z V * ((2 ^ 1074 : Nat) : Int) ≤ own_z a * own_z b) : own_z V ≤ own_z (FP.dmul a b) := by
  obtain ⟨s, c, q, e1⟩ := ha
  obtain ⟨t, d, r, e2⟩ := hb
  have f1 := val64_fits a; rw [e1] at f1
  have f2 := val64_fits b; rw [e2] at f2
  obtain ⟨h1, h2, h3⟩ := product_units f1 f2
  have q1 : b64.qmin = -1074 := qmin_b64
  show zval b64 (val64 V) ≤ zval b64 (val64 (Core.dmul a b))
  rw [val64_dmul, e1, e2, h1]
  refine zval_round_ge good_b64 (val64_fits V) hV.ne_nan (e0 := 2 * b64.qmin) (by omega) h2 ?_
  rw [h3, signed_xor, show (b64.qmin - 2 * b64.qmin).toNat = 1074 by omega]
  unfold own_z at h
  rw [e1, e2] at h
  exact h
theorem own_div_le {a b V : UInt64} (ha : DFin a) (hb : DFin b) (hp : 0 < own_z b) (hV : DFin V) (h : own_z a * ((2 ^ 1074 : Nat) : Int) ≤ own_z V * own_z b) : own_z (FP.ddiv a b) ≤ own_z V := by
  obtain ⟨s, c, q, e1⟩ := ha
  obtain ⟨t, d, r, e2⟩ := hb
  have f1 := val64_fits a; rw [e1] at f1
  have f2 := val64_fits b; rw [e2] at f2
  have g1 := f1.2.1
  have g2 := f2.2.1
  have q1 : b64.qmin = -1074 := qmin_b64
  unfold own_z at h hp
  rw [e1, e2] at h
  rw [e2] at hp
  obtain ⟨hs, hm⟩ := signed_pos hp
  have ht : t = false := by cases t with
    | false => rfl
    | true => exfalso; have : signed true (zmag b64 (.fin true d r)) ≤ 0 := by simp [signed]
              exact absurd hp (by show ¬ 0 < signed true _; omega)
  subst ht
  have hd : 0 < d := by
    rcases Nat.eq_zero_or_pos d with z | z
    · exfalso; subst z
      simp [zmag, inUnits, sgn] at hm
    · exact z
  show zval b64 (val64 (Core.ddiv a b)) ≤ zval b64 (val64 V)
  rw [val64_ddiv, e1, e2]
  have eq0 : quotient b64 (.fin s c q) (.fin false d r) = roundRatio b64 s c d (q - r) := by
    show (if d = 0 then _ else roundRatio b64 (s != false) c d (q - r)) = _
    rw [if_neg (by omega)]; cases s <;> rfl
  rw [eq0]
  have hle := zmag_roundRatio_le good_b64 (s := s) (A := c) (B := d) (e := q - r) (e0 := 2 * b64.qmin - r) (V := val64 V) hd (val64_fits V) hV.ne_nan (by omega) (by omega)
  have hge := zmag_roundRatio_ge good_b64 (s := s) (A := c) (B := d) (e := q - r) (e0 := 2 * b64.qmin - r) (V := val64 V) hd (val64_fits V) (by omega) (by omega)
  have u1 : inUnits c (q - r) (2 * b64.qmin - r) = zmag b64 (.fin s c q) * 2 ^ 1074 := by
    show _ = inUnits c q b64.qmin * 2 ^ 1074
    unfold inUnits
    rw [Nat.mul_assoc, ← Nat.pow_add]; congr 2; omega
  have u2 : zmag b64 (val64 V) * 2 ^ (b64.qmin - (2 * b64.qmin - r)).toNat * d = zmag b64 (val64 V) * zmag b64 (.fin false d r) := by
    show _ = _ * inUnits d r b64.qmin
    unfold inUnits
    rw [Nat.mul_assoc, Nat.mul_comm (2 ^ _) d]; congr 3; omega
  rw [u1, u2] at hle hge
  unfold zval at h ⊢
  rw [sgn_roundRatio]
  rw [show sgn (Datum.fin s c q) = s from rfl, show sgn (Datum.fin false d r) = false from rfl] at h
  rw [← signed_mul, show signed false (zmag b64 (.fin false d r)) = ((zmag b64 (.fin false d r) : Nat) : Int) from rfl, ← signed_mul] at h
  have hz : zmag b64 (val64 V) * zmag b64 (.fin false d r) = 0 → zmag b64 (val64 V) = 0 := fun h => by
    rcases Nat.mul_eq_zero.mp h with h | h
    · exact h
    · have : 0 < zmag b64 (.fin false d r) := by
        show 0 < inUnits d r b64.qmin
        unfold inUnits; exact Nat.mul_pos hd (Nat.two_pow_pos _)
      omega
  generalize zmag b64 (val64 V) * zmag b64 (.fin false d r) = vP at *
  generalize zmag b64 (.fin s c q) * 2 ^ 1074 = aP at *
  generalize sgn (val64 V) = t at *
  cases s <;> cases t <;> simp only [signed, if_true, Bool.false_eq_true, if_false] at h ⊢
  · have := hle (by omega); omega
  · have := hle (by omega); have := hz (by omega); omega
  · omega
  · have := hge (by omega); omega
theorem own_zneg {x y : UInt64} (h : val64 y = negate (val64 x)) : own_z y = - own_z x := by unfold own_z; rw [h, zval_negate]
theorem own_dneg_fin {x : UInt64} (h : DFin x) : DFin (Core.dneg x) ∧ own_z (Core.dneg x) = - own_z x := by
  refine ⟨?_, own_zneg (Core.val64_dneg x)⟩
  obtain ⟨s, c, q, e⟩ := own_neg_fin h
  exact ⟨s, c, q, by rw [Core.val64_dneg]; exact e⟩
theorem own_div_ge {a b V : UInt64} (ha : DFin a) (hb : DFin b) (hp : 0 < own_z b) (hV : DFin V) (h : own_z V * own_z b ≤ own_z a * ((2 ^ 1074 : Nat) : Int)) : own_z V ≤ own_z (FP.ddiv a b) := by
  have q := own_div_le (own_dneg_fin ha).1 hb hp (own_dneg_fin hV).1 (by rw [(own_dneg_fin ha).2, (own_dneg_fin hV).2, Int.neg_mul, Int.neg_mul]; omega)
  have e : FP.ddiv (Core.dneg a) b = Core.dneg (FP.ddiv a b) := ddiv_dneg a b
  rw [e, own_zneg (Core.val64_dneg _), (own_dneg_fin hV).2] at q
  omega
/-- a sum, a difference, a product, a quotient that is a double comes out exactly -/
theorem own_addx {a b V : UInt64} (ha : DFin a) (hb : DFin b) (hV : DFin V) (h : own_z a + own_z b = own_z V) : DFin (FP.dadd a b) ∧ own_z (FP.dadd a b) = own_z V := by
  have e : own_z (FP.dadd a b) = own_z V := Int.le_antisymm (own_add_le ha hb hV (Int.le_of_eq h)) (own_add_ge ha hb hV (Int.le_of_eq h.symm))
  exact ⟨own_fin_z ((notNaN_iff _).mp (dadd_out ha.notNaN hb)) (by rw [e]; exact own_z_lt hV), e⟩
theorem own_subx {a b V : UInt64} (ha : DFin a) (hb : DFin b) (hV : DFin V) (h : own_z a - own_z b = own_z V) : DFin (FP.dsub a b) ∧ own_z (FP.dsub a b) = own_z V := by
  have e : own_z (FP.dsub a b) = own_z V := Int.le_antisymm (own_sub_le ha hb hV (Int.le_of_eq h)) (own_sub_ge ha hb hV (Int.le_of_eq h.symm))
  exact ⟨own_fin_z ((notNaN_iff _).mp (dsub_out ha.notNaN hb)) (by rw [e]; exact own_z_lt hV), e⟩
theorem own_mulx {a b V : UInt64} (ha : DFin a) (hb : DFin b) (hV : DFin V) (h : own_z a * own_z b = own_z V * ((2 ^ 1074 : Nat) : Int)) : DFin (FP.dmul a b) ∧ own_z (FP.dmul a b) = own_z V := by
  have e : own_z (FP.dmul a b) = own_z V := Int.le_antisymm (own_mul_le ha hb hV (Int.le_of_eq h)) (own_mul_ge ha hb hV (Int.le_of_eq h.symm))
  exact ⟨own_fin_z ((notNaN_iff _).mp (dmul_out ha hb)) (by rw [e]; exact own_z_lt hV), e⟩
theorem own_nz {b : UInt64} (hp : 0 < own_z b) : ¬ DZero b := fun ⟨s, q, e⟩ => by
  unfold own_z at hp; rw [e] at hp
  simp [zval, zmag, inUnits, sgn, signed] at hp
theorem own_divx {a b V : UInt64} (ha : DFin a) (hb : DFin b) (hp : 0 < own_z b) (hV : DFin V) (h : own_z a * ((2 ^ 1074 : Nat) : Int) = own_z V * own_z b) : DFin (FP.ddiv a b) ∧ own_z (FP.ddiv a b) = own_z V := by
  have e : own_z (FP.ddiv a b) = own_z V := Int.le_antisymm (own_div_le ha hb hp hV (Int.le_of_eq h)) (own_div_ge ha hb hp hV (Int.le_of_eq h.symm))
  exact ⟨own_fin_z ((notNaN_iff _).mp (ddiv_out ha.notNaN hb (own_nz hp))) (by rw [e]; exact own_z_lt hV), e⟩
theorem own_z_int {i : Int} {a : UInt64} (h : DInt i a) : own_z a = i * ((2 ^ 1074 : Nat) : Int) := DInt_zval h
theorem own_i2d (a : Int32) : DFin (FP.i2d a) ∧ own_z (FP.i2d a) = a.toInt * ((2 ^ 1074 : Nat) : Int) := ⟨Core.i2d_fin a, own_z_int (i2d_int a)⟩
theorem own_l2d {a : Int64} (h : a.toInt.natAbs ≤ 2 ^ 53) : DFin (FP.l2d a) ∧ own_z (FP.l2d a) = a.toInt * ((2 ^ 1074 : Nat) : Int) := ⟨Core.l2d_fin a, own_z_int (l2d_int h)⟩
/-- x is the number n / 2^k -/
def own_Is (x : UInt64) (n : Int) (k : Nat) : Prop := DFin x ∧ own_z x = n * ((2 ^ (1074 - k) : Nat) : Int)
theorem own_Is.nn {x : UInt64} {n : Int} {k : Nat} (h : own_Is x n k) : Jvm.Free.Fl.NoNaN64 x := (Jvm.Free.Fl.fin64_core.mpr h.1).noNaN
theorem own_Is.add {a b : UInt64} {n m : Int} {k : Nat} (ha : own_Is a n k) (hb : own_Is b m k) (h : (n + m).natAbs < 2 ^ 53) : own_Is (FP.dadd a b) (n + m) k := by
  obtain ⟨V, v1, v2⟩ := own_rep (n + m) (1074 - k) h (by omega)
  have q := own_addx ha.1 hb.1 v1 (by rw [ha.2, hb.2, v2, Int.add_mul])
  exact ⟨q.1, q.2.trans v2⟩
theorem own_Is.sub {a b : UInt64} {n m : Int} {k : Nat} (ha : own_Is a n k) (hb : own_Is b m k) (h : (n - m).natAbs < 2 ^ 53) : own_Is (FP.dsub a b) (n - m) k := by
  obtain ⟨V, v1, v2⟩ := own_rep (n - m) (1074 - k) h (by omega)
  have q := own_subx ha.1 hb.1 v1 (by rw [ha.2, hb.2, v2, Int.sub_mul])
  exact ⟨q.1, q.2.trans v2⟩
theorem own_Is.mul {a b : UInt64} {n m : Int} {k j : Nat} (ha : own_Is a n k) (hb : own_Is b m j) (h : (n * m).natAbs < 2 ^ 53) (hk : k + j ≤ 1074) : own_Is (FP.dmul a b) (n * m) (k + j) := by
  obtain ⟨V, v1, v2⟩ := own_rep (n * m) (1074 - (k + j)) h (by omega)
  have e : 2 ^ (1074 - k) * 2 ^ (1074 - j) = 2 ^ (1074 - (k + j)) * 2 ^ 1074 := by rw [← Nat.pow_add, ← Nat.pow_add]; congr 1; omega
  have q := own_mulx ha.1 hb.1 v1 (by
    rw [ha.2, hb.2, v2, Int.mul_assoc (n * m), ← Int.natCast_mul, ← e, Int.natCast_mul]
    generalize ((2 ^ (1074 - k) : Nat) : Int) = A
    generalize ((2 ^ (1074 - j) : Nat) : Int) = B
    simp only [Int.mul_assoc, Int.mul_left_comm, Int.mul_comm])
  exact ⟨q.1, q.2.trans v2⟩
theorem own_Is.div2 {a b : UInt64} {n : Int} {k t : Nat} (ha : own_Is a n k) (hb : own_Is b ((2 ^ t : Nat) : Int) 0) (h : n.natAbs < 2 ^ 53) (hk : k + t ≤ 1074) : own_Is (FP.ddiv a b) n (k + t) := by
  obtain ⟨V, v1, v2⟩ := own_rep n (1074 - (k + t)) h (by omega)
  have hp : 0 < own_z b := by
    rw [hb.2, ← Int.natCast_mul]
    have := Nat.mul_pos (Nat.two_pow_pos t) (Nat.two_pow_pos (1074 - 0)); omega
  have e : 2 ^ (1074 - k) = 2 ^ (1074 - (k + t)) * 2 ^ t := by rw [← Nat.pow_add]; congr 1; omega
  have q := own_divx ha.1 hb.1 hp v1 (by
    rw [ha.2, hb.2, v2, e, Int.natCast_mul]
    show _ = _ * (_ * ((2 ^ 1074 : Nat) : Int))
    generalize ((2 ^ (1074 - (k + t)) : Nat) : Int) = A
    generalize ((2 ^ t : Nat) : Int) = B
    generalize ((2 ^ 1074 : Nat) : Int) = D
    simp only [Int.mul_assoc])
  exact ⟨q.1, q.2.trans v2⟩
theorem own_mul_lt {n m : Int} {D : Nat} (hD : 0 < D) : (n * (D : Int) < m * (D : Int) ↔ n < m) := by
  have : (0 : Int) < (D : Int) := by omega
  exact ⟨fun h => Int.lt_of_mul_lt_mul_right h (Int.le_of_lt this), fun h => Int.mul_lt_mul_of_pos_right h this⟩
theorem own_Is.cmp {a b : UInt64} {n m : Int} {k : Nat} (ha : own_Is a n k) (hb : own_Is b m k) : FP.dcmp a b = some (compare n m) := by
  rw [own_cmp ha.1 hb.1, ha.2, hb.2, compare_mul_pos _ _ _ (by have := Nat.two_pow_pos (1074 - k); omega)]
theorem own_Is.cv {a b : UInt64} {n m : Int} {k : Nat} (ha : own_Is a n k) (hb : own_Is b m k) (o : ClassFile.CmpOp) : (cmpValue (FP.dcmp a b) o < (0 : Int32) ↔ n < m) ∧ ((0 : Int32) < cmpValue (FP.dcmp a b) o ↔ m < n) ∧ (cmpValue (FP.dcmp a b) o = (0 : Int32) ↔ n = m) := by
  rw [ha.cmp hb, compare_ite]
  by_cases h1 : n < m
  · rw [if_pos h1]; cases o <;> refine ⟨⟨fun q => ?_, fun q => ?_⟩, ⟨fun q => ?_, fun q => ?_⟩, ⟨fun q => ?_, fun q => ?_⟩⟩ <;> first | omega | decide | exact absurd q (by decide)
  · rw [if_neg h1]
    by_cases h2 : n = m
    · rw [if_pos h2]; cases o <;> refine ⟨⟨fun q => ?_, fun q => ?_⟩, ⟨fun q => ?_, fun q => ?_⟩, ⟨fun q => ?_, fun q => ?_⟩⟩ <;> first | omega | decide | exact absurd q (by decide)
    · rw [if_neg h2]; cases o <;> refine ⟨⟨fun q => ?_, fun q => ?_⟩, ⟨fun q => ?_, fun q => ?_⟩, ⟨fun q => ?_, fun q => ?_⟩⟩ <;> first | omega | decide | exact absurd q (by decide)
theorem own_Is.i2d (a : Int32) : own_Is (FP.i2d a) a.toInt 0 := own_i2d a
theorem own_Is.l2d {a : Int64} (h : a.toInt.natAbs ≤ 2 ^ 53) : own_Is (FP.l2d a) a.toInt 0 := own_l2d h
theorem own_Is.up {a : UInt64} {n : Int} {k : Nat} (h : own_Is a n k) (j : Nat) (hj : k + j ≤ 1074) : own_Is a (n * ((2 ^ j : Nat) : Int)) (k + j) := by
  refine ⟨h.1, h.2.trans ?_⟩
  rw [Int.mul_assoc, ← Int.natCast_mul, ← Nat.pow_add]; congr 3; omega
theorem own_Is.zero (k : Nat) : own_Is FP.dconst0 0 k := ⟨(fin_bits _).mpr (by decide), by rw [Int.zero_mul]; exact zval64_zero⟩
end Jvm.RoadKit
namespace Jvm.Pilot.@@N@@
open Jvm Jvm.ClassFile Sem Op Lib Jvm.Free Jvm.Stand Jvm.LawKit Jvm.RoadKit Bundle Jvm.Pilot.@@N@@.Jvm.D
theorem own_four : own_Is (4616189618054758400 : UInt64) ((2 ^ 2 : Nat) : Int) 0 := ⟨(Jvm.FP.Core.fin_bits _).mpr (by decide), by decide +kernel⟩
theorem own_360 : own_Is (4645040803167600640 : UInt64) 1440 2 := ⟨(Jvm.FP.Core.fin_bits _).mpr (by decide), by decide +kernel⟩
def own_east (d : Int) : Int := if d < 0 then d + 1440 else if d < 1440 then d else d - 1440
theorem own_q (x : Int32) : -720 ≤ (((x &&& (2147483647 : Int32)) % (1441 : Int32)) - (720 : Int32)).toInt ∧ (((x &&& (2147483647 : Int32)) % (1441 : Int32)) - (720 : Int32)).toInt ≤ 720 := by
  have e := Jvm.Kit.i32_mask x 2147483647 (k := 31) (by decide) (by decide)
  have t1 : (1441 : Int32).toInt = 1441 := by decide
  have t2 : (720 : Int32).toInt = 720 := by decide
  have f : ((x &&& (2147483647 : Int32)) % (1441 : Int32)).toInt = (x &&& (2147483647 : Int32)).toInt % 1441 := by rw [Jvm.Kit.i32_rem_nonneg (by omega), t1]
  rw [Jvm.Kit.i32_sub (by omega) (by omega), t2]; omega
theorem own_tm {d : Int} (h1 : -1440 ≤ d) (h2 : d ≤ 1440) : (d.tmod 1440 = d ∧ -1440 < d ∧ d < 1440) ∨ (d.tmod 1440 = 0 ∧ (d = 1440 ∨ d = -1440)) := by
  by_cases c1 : d = 1440
  · subst c1; exact Or.inr ⟨by decide, Or.inl rfl⟩
  · by_cases c2 : d = -1440
    · subst c2; exact Or.inr ⟨by decide, Or.inr rfl⟩
    · refine Or.inl ⟨?_, by omega, by omega⟩
      by_cases c3 : 0 ≤ d
      · exact Int.tmod_eq_of_lt c3 (by omega)
      · have q : (-d).tmod 1440 = -d := Int.tmod_eq_of_lt (by omega) (by omega)
        rw [Int.neg_tmod] at q; omega
theorem own_eq {w l : Int32} (hw : -720 ≤ w.toInt ∧ w.toInt ≤ 720) (hl : -720 ≤ l.toInt ∧ l.toInt ≤ 720) : own_east (l.toInt - w.toInt) = ((((l - w) % (1440 : Int32)) + (1440 : Int32)) % (1440 : Int32)).toInt ∧ 0 ≤ own_east (l.toInt - w.toInt) ∧ own_east (l.toInt - w.toInt) < 1440 := by
  have t : (1440 : Int32).toInt = 1440 := by decide
  have e1 : (l - w).toInt = l.toInt - w.toInt := Jvm.Kit.i32_sub (by omega) (by omega)
  have e2 : ((l - w) % (1440 : Int32)).toInt = (l.toInt - w.toInt).tmod 1440 := by rw [Jvm.Kit.i32_rem, e1, t]
  have b := own_tm (d := l.toInt - w.toInt) (by omega) (by omega)
  have e3 : (((l - w) % (1440 : Int32)) + (1440 : Int32)).toInt = (l.toInt - w.toInt).tmod 1440 + 1440 := by rw [Jvm.Kit.i32_add (by rw [e2, t]; omega) (by rw [e2, t]; omega), e2, t]
  have e4 : ((((l - w) % (1440 : Int32)) + (1440 : Int32)) % (1440 : Int32)).toInt = ((l.toInt - w.toInt).tmod 1440 + 1440) % 1440 := by rw [Jvm.Kit.i32_rem_nonneg (by rw [e3]; omega), e3, t]
  rw [e4]
  generalize l.toInt - w.toInt = d at *
  unfold own_east
  by_cases c1 : d < 0
  · rw [if_pos c1]; omega
  · rw [if_neg c1]
    by_cases c2 : d < 1440
    · rw [if_pos c2]; omega
    · rw [if_neg c2]; omega

theorem own_f0 : decode prog_2_method_9_code 0 = .ok (.dload_n 2, 1) := by decide +kernel
theorem own_f1 : decode prog_2_method_9_code 1 = .ok (.dload_n 0, 1) := by decide +kernel
theorem own_f2 : decode prog_2_method_9_code 2 = .ok (.dsub, 1) := by decide +kernel
theorem own_f3 : decode prog_2_method_9_code 3 = .ok (.dstore 4, 2) := by decide +kernel
theorem own_f4 : decode prog_2_method_9_code 5 = .ok (.dload 4, 2) := by decide +kernel
theorem own_f5 : decode prog_2_method_9_code 7 = .ok (.dconst 0, 1) := by decide +kernel
theorem own_f6 : decode prog_2_method_9_code 8 = .ok (.dcmp .g, 1) := by decide +kernel
theorem own_f7 : decode prog_2_method_9_code 9 = .ok (.ifCond .ge 14, 3) := by decide +kernel
theorem own_f8 : decode prog_2_method_9_code 12 = .ok (.dload 4, 2) := by decide +kernel
theorem own_f9 : decode prog_2_method_9_code 14 = .ok (.ldc2_w 28, 3) := by decide +kernel
theorem own_f10 : decode prog_2_method_9_code 17 = .ok (.dadd, 1) := by decide +kernel
theorem own_f11 : decode prog_2_method_9_code 18 = .ok (.dstore 4, 2) := by decide +kernel
theorem own_f12 : decode prog_2_method_9_code 20 = .ok (.goto 20, 3) := by decide +kernel
theorem own_f13 : decode prog_2_method_9_code 40 = .ok (.dload 4, 2) := by decide +kernel
theorem own_f14 : decode prog_2_method_9_code 42 = .ok (.dreturn, 1) := by decide +kernel
theorem own_f15 : decode prog_2_method_9_code 23 = .ok (.dload 4, 2) := by decide +kernel
theorem own_f16 : decode prog_2_method_9_code 25 = .ok (.ldc2_w 28, 3) := by decide +kernel
theorem own_f17 : decode prog_2_method_9_code 28 = .ok (.dcmp .l, 1) := by decide +kernel
theorem own_f18 : decode prog_2_method_9_code 29 = .ok (.ifCond .lt 11, 3) := by decide +kernel
theorem own_f19 : decode prog_2_method_9_code 32 = .ok (.dload 4, 2) := by decide +kernel
theorem own_f20 : decode prog_2_method_9_code 34 = .ok (.ldc2_w 28, 3) := by decide +kernel
theorem own_f21 : decode prog_2_method_9_code 37 = .ok (.dsub, 1) := by decide +kernel
theorem own_f22 : decode prog_2_method_9_code 38 = .ok (.dstore 4, 2) := by decide +kernel
theorem own_f23 : plainName "com/example/frugal_sieve/frugalsieve/filter/Box" = true := by first | (simp [plainName, overriddenIn]; done) | decide +kernel
theorem own_ef_E (m : MethodId) (d1 : UInt64) (d2 : UInt64) : entryFrame m #[(.double d1), (.double d2)] 6 = mkF m 0 #[.val (.double d1), .second, .val (.double d2), .second, .unset, .unset] [] := by first | (simp [entryFrame, mkF, argsToLocals, Value.category]; done) | rfl
def QE (Z : State) (d1 : UInt64) (d2 : UInt64) (n1 n2 : Int) (h0 : Heap) (n0 : Nat) (v : Option Value) (h : Heap) (L : List Loc) : Prop := ∃ r : UInt64, v = some (.double r) ∧ Fr n0 L ∧ h = h0 ∧ own_Is r (own_east (n2 - n1)) 2
set_option maxRecDepth 65536 in
set_option maxHeartbeats 40000000 in
theorem rmE (l : Launch) (Z : State) (a0 : Array Value) (hw : ∀ d ∈ tables_1, d.before a0 Z = true) (ws : List Jvm.Cond) (d1 : UInt64) (d2 : UInt64) (n1 n2 : Int) (h0 : Heap) (n0 : Nat) (Z0 : n0 ≤ h0.size) (J_d1 : own_Is d1 n1 2) (J_d2 : own_Is d2 n2 2) (hn1 : -720 ≤ n1 ∧ n1 ≤ 720) (hn2 : -720 ≤ n2 ∧ n2 ≤ 720) :
    MetFree l (⟨"com/example/frugal_sieve/frugalsieve/filter/Box", "eastOf", "(DD)D"⟩ : MethodName) (head1 (Jvm.Cond.code (⟨"com/example/frugal_sieve/frugalsieve/filter/Box", "eastOf", "(DD)D"⟩ : MethodName) prog_2_method_9_code 6 (some .double) :: ws) ({ frames := 0, cells := 0, slots := 0, locals := 0 } : Room)) (fun a U => a = #[(.double d1), (.double d2)] ∧ Z.Warmed39 U.vm ∧ U.heap = h0) (fun _ _ _ _ _ => True) (fun _ U o U' => ∃ v L, o = .returned v ∧ QE Z d1 d2 n1 n2 h0 n0 v U'.heap L ∧ FrameEnd U o U' L ({ frames := 0, cells := 0, slots := 0, locals := 0 } : Room).cells ({ frames := 0, cells := 0, slots := 0, locals := 0 } : Room).slots) := by
  refine MetFree.of_bodySF (plainFor_of_name own_f23) hisR ?_
  intro p e s m args below meth c s₁ Bd hml0 hP hK
  obtain ⟨rfl, hZ, hh⟩ := hP
  have hx := Bd.exec
  have hby := Bd.bytes
  have hml : c.maxLocals = 6 := hml0
  have hown : s.vm.findClass "com/example/frugal_sieve/frugalsieve/filter/Box" = some m.cls := findClass_of_methodNamed Bd.named
  have hnm := (name_of_methodNamed Bd.named Bd.method).1
  have X0 : Stand p l e ({ frames := 0, cells := 0, slots := 0, locals := 0 } : Room) s m #[(.double d1), (.double d2)] below meth c s₁ [] 0 0 := Stand.of_body Bd
  have e0 : s₁.heap = h0 := by rw [← hh, Bd.state]; rfl
  have N0 := Fr.nil n0
  refine Go.start (own_ef_E m d1 d2) ?_
  show Go p e below _ s₁ (mkF m 0 #[.val (.double d1), .second, .val (.double d2), .second, .unset, .unset] [])
  refine Go.step (fun _ k => XS.dloadN X0.here hx rfl (hb hby own_f0) rfl k) ?_
  show Go p e below _ s₁ (mkF m 1 #[.val (.double d1), .second, .val (.double d2), .second, .unset, .unset] [(.double d2)])
  refine Go.step (fun _ k => XS.dloadN X0.here hx rfl (hb hby own_f1) rfl k) ?_
  show Go p e below _ s₁ (mkF m 2 #[.val (.double d1), .second, .val (.double d2), .second, .unset, .unset] [(.double d1), (.double d2)])
  obtain ⟨dd, e_dd⟩ : ∃ z : UInt64, z = FP.dsub d2 d1 := ⟨_, rfl⟩
  have J_dd : own_Is dd (n2 - n1) 2 := by rw [e_dd]; exact own_Is.sub J_d2 J_d1 (by omega)
  refine Go.step (fun _ k => XS.dsubS X0.here hx rfl (hb hby own_f2) rfl (by rw [← e_dd]; exact J_dd.nn) e_dd.symm k) ?_
  show Go p e below _ s₁ (mkF m 3 #[.val (.double d1), .second, .val (.double d2), .second, .unset, .unset] [(.double dd)])
  refine Go.step (fun _ k => XS.dstore X0.here hx rfl (hb hby own_f3) rfl (l' := #[.val (.double d1), .second, .val (.double d2), .second, .val (.double dd), .second]) rfl k) ?_
  show Go p e below _ s₁ (mkF m 5 #[.val (.double d1), .second, .val (.double d2), .second, .val (.double dd), .second] [])
  refine Go.step (fun _ k => XS.dload X0.here hx rfl (hb hby own_f4) rfl k) ?_
  show Go p e below _ s₁ (mkF m 7 #[.val (.double d1), .second, .val (.double d2), .second, .val (.double dd), .second] [(.double dd)])
  refine Go.step (fun _ k => XS.dconst0 X0.here hx rfl (hb hby own_f5) rfl k) ?_
  show Go p e below _ s₁ (mkF m 8 #[.val (.double d1), .second, .val (.double d2), .second, .val (.double dd), .second] [(.double FP.dconst0), (.double dd)])
  refine Go.step (fun _ k => XS.dcmpS X0.here hx rfl (hb hby own_f6) rfl rfl k) ?_
  show Go p e below _ s₁ (mkF m 9 #[.val (.double d1), .second, .val (.double d2), .second, .val (.double dd), .second] [(.int (cmpValue (FP.dcmp dd FP.dconst0) .g))])
  by_cases hq9 : n2 - n1 < 0
  · show Go p e below _ s₁ (mkF m 9 #[.val (.double d1), .second, .val (.double d2), .second, .val (.double dd), .second] [(.int (cmpValue (FP.dcmp dd FP.dconst0) .g))])
    refine Go.step (fun _ k => XS.ifNo X0.here hx rfl (hb hby own_f7) rfl ((if0 _ _).trans (tlt ((own_Is.cv J_dd (own_Is.zero 2) .g).1.mpr hq9)).2.1) k) ?_
    show Go p e below _ s₁ (mkF m 12 #[.val (.double d1), .second, .val (.double d2), .second, .val (.double dd), .second] [])
    refine Go.step (fun _ k => XS.dload X0.here hx rfl (hb hby own_f8) rfl k) ?_
    show Go p e below _ s₁ (mkF m 14 #[.val (.double d1), .second, .val (.double d2), .second, .val (.double dd), .second] [(.double dd)])
    refine Go.step (X0.ldc2DoubleC hx hown (mvT hZ (hw _ (List.mem_of_getElem? (i := 6) rfl))) (g := (mkF m 14 #[.val (.double d1), .second, .val (.double d2), .second, .val (.double dd), .second] [(.double dd)])) rfl (hb hby own_f9)) ?_
    show Go p e below _ s₁ (mkF m 17 #[.val (.double d1), .second, .val (.double d2), .second, .val (.double dd), .second] [(.double (4645040803167600640 : UInt64)), (.double dd)])
    obtain ⟨ds, e_ds⟩ : ∃ z : UInt64, z = FP.dadd dd (4645040803167600640 : UInt64) := ⟨_, rfl⟩
    have J_ds : own_Is ds ((n2 - n1) + 1440) 2 := by rw [e_ds]; exact own_Is.add J_dd own_360 (by omega)
    refine Go.step (fun _ k => XS.daddS X0.here hx rfl (hb hby own_f10) rfl (by rw [← e_ds]; exact J_ds.nn) e_ds.symm k) ?_
    show Go p e below _ s₁ (mkF m 18 #[.val (.double d1), .second, .val (.double d2), .second, .val (.double dd), .second] [(.double ds)])
    refine Go.step (fun _ k => XS.dstore X0.here hx rfl (hb hby own_f11) rfl (l' := #[.val (.double d1), .second, .val (.double d2), .second, .val (.double ds), .second]) rfl k) ?_
    show Go p e below _ s₁ (mkF m 20 #[.val (.double d1), .second, .val (.double d2), .second, .val (.double ds), .second] [])
    refine Go.step (fun _ k => XS.goto X0.here hx rfl (pc0 := 20) (pc' := 40) rfl (hb hby own_f12) (by decide) (by decide) k) ?_
    show Go p e below _ s₁ (mkF m 40 #[.val (.double d1), .second, .val (.double d2), .second, .val (.double ds), .second] [])
    refine Go.step (fun _ k => XS.dload X0.here hx rfl (hb hby own_f13) rfl k) ?_
    show Go p e below _ s₁ (mkF m 42 #[.val (.double d1), .second, .val (.double d2), .second, .val (.double ds), .second] [(.double ds)])
    have er : own_east (n2 - n1) = (n2 - n1) + 1440 := by simp [own_east, hq9]
    obtain ⟨fs, hr, hrun, hended, hW, hsame⟩ := X0.leave (v := some (.double ds)) (fun h => by rw [Bd.returns] at h; cases h)
    refine Go.fin (own_retD X0 hx Bd.returns (hb hby own_f14) hr) hrun hended ?_
    refine ⟨_, _, rfl, ?_, ⟨_, rfl⟩, hW, hsame.mono (by decide) (by decide)⟩
    show QE Z d1 d2 n1 n2 h0 n0 _ s₁.heap _
    rw [e0]
    exact ⟨_, rfl, N0, rfl, by rw [er]; exact J_ds⟩
  · show Go p e below _ s₁ (mkF m 9 #[.val (.double d1), .second, .val (.double d2), .second, .val (.double dd), .second] [(.int (cmpValue (FP.dcmp dd FP.dconst0) .g))])
    refine Go.step (fun _ k => XS.ifYes X0.here hx rfl (pc0 := 9) (pc' := 23) rfl (hb hby own_f7) rfl ((if0 _ _).trans (flt (fun q => hq9 ((own_Is.cv J_dd (own_Is.zero 2) .g).1.mp q))).2.1) (by decide) (by decide) k) ?_
    show Go p e below _ s₁ (mkF m 23 #[.val (.double d1), .second, .val (.double d2), .second, .val (.double dd), .second] [])
    refine Go.step (fun _ k => XS.dload X0.here hx rfl (hb hby own_f15) rfl k) ?_
    show Go p e below _ s₁ (mkF m 25 #[.val (.double d1), .second, .val (.double d2), .second, .val (.double dd), .second] [(.double dd)])
    refine Go.step (X0.ldc2DoubleC hx hown (mvT hZ (hw _ (List.mem_of_getElem? (i := 6) rfl))) (g := (mkF m 25 #[.val (.double d1), .second, .val (.double d2), .second, .val (.double dd), .second] [(.double dd)])) rfl (hb hby own_f16)) ?_
    show Go p e below _ s₁ (mkF m 28 #[.val (.double d1), .second, .val (.double d2), .second, .val (.double dd), .second] [(.double (4645040803167600640 : UInt64)), (.double dd)])
    refine Go.step (fun _ k => XS.dcmpS X0.here hx rfl (hb hby own_f17) rfl rfl k) ?_
    show Go p e below _ s₁ (mkF m 29 #[.val (.double d1), .second, .val (.double d2), .second, .val (.double dd), .second] [(.int (cmpValue (FP.dcmp dd (4645040803167600640 : UInt64)) .l))])
    by_cases hq29 : n2 - n1 < 1440
    · show Go p e below _ s₁ (mkF m 29 #[.val (.double d1), .second, .val (.double d2), .second, .val (.double dd), .second] [(.int (cmpValue (FP.dcmp dd (4645040803167600640 : UInt64)) .l))])
      refine Go.step (fun _ k => XS.ifYes X0.here hx rfl (pc0 := 29) (pc' := 40) rfl (hb hby own_f18) rfl ((if0 _ _).trans (tlt ((own_Is.cv J_dd own_360 .l).1.mpr hq29)).1) (by decide) (by decide) k) ?_
      show Go p e below _ s₁ (mkF m 40 #[.val (.double d1), .second, .val (.double d2), .second, .val (.double dd), .second] [])
      refine Go.step (fun _ k => XS.dload X0.here hx rfl (hb hby own_f13) rfl k) ?_
      show Go p e below _ s₁ (mkF m 42 #[.val (.double d1), .second, .val (.double d2), .second, .val (.double dd), .second] [(.double dd)])
      have er : own_east (n2 - n1) = n2 - n1 := by simp [own_east, hq9, hq29]
      obtain ⟨fs, hr, hrun, hended, hW, hsame⟩ := X0.leave (v := some (.double dd)) (fun h => by rw [Bd.returns] at h; cases h)
      refine Go.fin (own_retD X0 hx Bd.returns (hb hby own_f14) hr) hrun hended ?_
      refine ⟨_, _, rfl, ?_, ⟨_, rfl⟩, hW, hsame.mono (by decide) (by decide)⟩
      show QE Z d1 d2 n1 n2 h0 n0 _ s₁.heap _
      rw [e0]
      exact ⟨_, rfl, N0, rfl, by rw [er]; exact J_dd⟩
    · show Go p e below _ s₁ (mkF m 29 #[.val (.double d1), .second, .val (.double d2), .second, .val (.double dd), .second] [(.int (cmpValue (FP.dcmp dd (4645040803167600640 : UInt64)) .l))])
      refine Go.step (fun _ k => XS.ifNo X0.here hx rfl (hb hby own_f18) rfl ((if0 _ _).trans (flt (fun q => hq29 ((own_Is.cv J_dd own_360 .l).1.mp q))).1) k) ?_
      show Go p e below _ s₁ (mkF m 32 #[.val (.double d1), .second, .val (.double d2), .second, .val (.double dd), .second] [])
      refine Go.step (fun _ k => XS.dload X0.here hx rfl (hb hby own_f19) rfl k) ?_
      show Go p e below _ s₁ (mkF m 34 #[.val (.double d1), .second, .val (.double d2), .second, .val (.double dd), .second] [(.double dd)])
      refine Go.step (X0.ldc2DoubleC hx hown (mvT hZ (hw _ (List.mem_of_getElem? (i := 6) rfl))) (g := (mkF m 34 #[.val (.double d1), .second, .val (.double d2), .second, .val (.double dd), .second] [(.double dd)])) rfl (hb hby own_f20)) ?_
      show Go p e below _ s₁ (mkF m 37 #[.val (.double d1), .second, .val (.double d2), .second, .val (.double dd), .second] [(.double (4645040803167600640 : UInt64)), (.double dd)])
      obtain ⟨ds, e_ds⟩ : ∃ z : UInt64, z = FP.dsub dd (4645040803167600640 : UInt64) := ⟨_, rfl⟩
      have J_ds : own_Is ds ((n2 - n1) - 1440) 2 := by rw [e_ds]; exact own_Is.sub J_dd own_360 (by omega)
      refine Go.step (fun _ k => XS.dsubS X0.here hx rfl (hb hby own_f21) rfl (by rw [← e_ds]; exact J_ds.nn) e_ds.symm k) ?_
      show Go p e below _ s₁ (mkF m 38 #[.val (.double d1), .second, .val (.double d2), .second, .val (.double dd), .second] [(.double ds)])
      refine Go.step (fun _ k => XS.dstore X0.here hx rfl (hb hby own_f22) rfl (l' := #[.val (.double d1), .second, .val (.double d2), .second, .val (.double ds), .second]) rfl k) ?_
      show Go p e below _ s₁ (mkF m 40 #[.val (.double d1), .second, .val (.double d2), .second, .val (.double ds), .second] [])
      refine Go.step (fun _ k => XS.dload X0.here hx rfl (hb hby own_f13) rfl k) ?_
      show Go p e below _ s₁ (mkF m 42 #[.val (.double d1), .second, .val (.double d2), .second, .val (.double ds), .second] [(.double ds)])
      have er : own_east (n2 - n1) = (n2 - n1) - 1440 := by simp [own_east, hq9, hq29]
      obtain ⟨fs, hr, hrun, hended, hW, hsame⟩ := X0.leave (v := some (.double ds)) (fun h => by rw [Bd.returns] at h; cases h)
      refine Go.fin (own_retD X0 hx Bd.returns (hb hby own_f14) hr) hrun hended ?_
      refine ⟨_, _, rfl, ?_, ⟨_, rfl⟩, hW, hsame.mono (by decide) (by decide)⟩
      show QE Z d1 d2 n1 n2 h0 n0 _ s₁.heap _
      rw [e0]
      exact ⟨_, rfl, N0, rfl, by rw [er]; exact J_ds⟩
theorem own_f24 : parseMethodDescriptor "(DD)D" = some ⟨[.double, .double], some .double⟩ := by decide +kernel
theorem own_f25 : plainName "com/example/frugal_sieve/frugalsieve/filter/BoxEastOfPinLaw" = true := by first | (simp [plainName, overriddenIn]; done) | decide +kernel
theorem own_ef_0 (m : MethodId) (i0 : Int32) (i1 : Int32) : entryFrame m #[(.int i0), (.int i1)] maxLocals = mkF m 0 #[.val (.int i0), .val (.int i1), .unset, .unset, .unset, .unset, .unset, .unset, .unset, .unset, .unset, .unset, .unset, .unset] [] := by first | (simp [entryFrame, mkF, argsToLocals, Value.category, maxLocals]; done) | rfl
def Q0 (Z : State) (i0 : Int32) (i1 : Int32) (h0 : Heap) (n0 : Nat) (v : Option Value) (h : Heap) (L : List Loc) : Prop := v = some (.int 1) ∧ Fr n0 L
set_option maxRecDepth 65536 in
set_option maxHeartbeats 40000000 in
theorem rm0 (l : Launch) (Z : State) (a0 : Array Value) (hw : ∀ d ∈ tables_1, d.before a0 Z = true) (ws : List Jvm.Cond) (i0 : Int32) (i1 : Int32) (h0 : Heap) (n0 : Nat) (Z0 : n0 ≤ h0.size)  :
    MetFree l x (head1 (Jvm.Cond.code x code maxLocals ret :: ws) room_1) (fun a U => a = #[(.int i0), (.int i1)] ∧ Z.Warmed39 U.vm ∧ U.heap = h0) (fun _ _ _ _ _ => True) (fun _ U o U' => ∃ v L, o = .returned v ∧ Q0 Z i0 i1 h0 n0 v U'.heap L ∧ FrameEnd U o U' L 0 0) := by
  refine MetFree.of_bodySF (plainFor_of_name own_f25) hisR ?_
  intro p e s m args below meth c s₁ Bd hml0 hP hK
  obtain ⟨rfl, hZ, hh⟩ := hP
  have hx := Bd.exec
  have hby := Bd.bytes
  have hml : c.maxLocals = 14 := hml0
  have hown : s.vm.findClass "com/example/frugal_sieve/frugalsieve/filter/BoxEastOfPinLaw" = some m.cls := findClass_of_methodNamed Bd.named
  have hnm := (name_of_methodNamed Bd.named Bd.method).1
  have X0 : Stand p l e room_1 s m #[(.int i0), (.int i1)] below meth c s₁ [] 0 0 := Stand.of_body Bd
  have e0 : s₁.heap = h0 := by rw [← hh, Bd.state]; rfl
  have N0 := Fr.nil n0
  refine Go.start (own_ef_0 m i0 i1) ?_
  show Go p e below _ s₁ (mkF m 0 #[.val (.int i0), .val (.int i1), .unset, .unset, .unset, .unset, .unset, .unset, .unset, .unset, .unset, .unset, .unset, .unset] [])
  have Zn := Z0
  have K0 : Keep h0 h0 [] := Keep.refl h0 _
  refine Go.step (fun _ k => XS.iloadN X0.here hx rfl (hb hby at_0) rfl k) ?_
  show Go p e below _ s₁ (mkF m 1 #[.val (.int i0), .val (.int i1), .unset, .unset, .unset, .unset, .unset, .unset, .unset, .unset, .unset, .unset, .unset, .unset] [(.int i0)])
  refine Go.step (X0.ldcInt hx hown (mvT hZ (hw _ (List.mem_of_getElem? (i := 0) rfl))) (g := (mkF m 1 #[.val (.int i0), .val (.int i1), .unset, .unset, .unset, .unset, .unset, .unset, .unset, .unset, .unset, .unset, .unset, .unset] [(.int i0)])) rfl (hb hby at_1)) ?_
  show Go p e below _ s₁ (mkF m 3 #[.val (.int i0), .val (.int i1), .unset, .unset, .unset, .unset, .unset, .unset, .unset, .unset, .unset, .unset, .unset, .unset] [(.int (2147483647 : Int32)), (.int i0)])
  refine Go.step (fun _ k => XS.iand X0.here hx rfl (hb hby at_3) rfl k) ?_
  show Go p e below _ s₁ (mkF m 4 #[.val (.int i0), .val (.int i1), .unset, .unset, .unset, .unset, .unset, .unset, .unset, .unset, .unset, .unset, .unset, .unset] [(.int (i0 &&& (2147483647 : Int32)))])
  refine Go.step (fun _ k => XS.sipush X0.here hx rfl (hb hby at_4) k) ?_
  show Go p e below _ s₁ (mkF m 7 #[.val (.int i0), .val (.int i1), .unset, .unset, .unset, .unset, .unset, .unset, .unset, .unset, .unset, .unset, .unset, .unset] [(.int (1441 : Int32)), (.int (i0 &&& (2147483647 : Int32)))])
  refine Go.step (fun _ k => iremM X0 hx rfl (hb hby at_7) rfl (by decide) k) ?_
  show Go p e below _ s₁ (mkF m 8 #[.val (.int i0), .val (.int i1), .unset, .unset, .unset, .unset, .unset, .unset, .unset, .unset, .unset, .unset, .unset, .unset] [(.int ((i0 &&& (2147483647 : Int32)) % (1441 : Int32)))])
  refine Go.step (fun _ k => XS.sipush X0.here hx rfl (hb hby at_8) k) ?_
  show Go p e below _ s₁ (mkF m 11 #[.val (.int i0), .val (.int i1), .unset, .unset, .unset, .unset, .unset, .unset, .unset, .unset, .unset, .unset, .unset, .unset] [(.int (720 : Int32)), (.int ((i0 &&& (2147483647 : Int32)) % (1441 : Int32)))])
  refine Go.step (fun _ k => XS.isub X0.here hx rfl (hb hby at_11) rfl k) ?_
  show Go p e below _ s₁ (mkF m 12 #[.val (.int i0), .val (.int i1), .unset, .unset, .unset, .unset, .unset, .unset, .unset, .unset, .unset, .unset, .unset, .unset] [(.int (((i0 &&& (2147483647 : Int32)) % (1441 : Int32)) - (720 : Int32)))])
  obtain ⟨wq, e_wq⟩ : ∃ z : Int32, z = (((i0 &&& (2147483647 : Int32)) % (1441 : Int32)) - (720 : Int32)) := ⟨_, rfl⟩
  rw [← e_wq]
  show Go p e below _ s₁ (mkF m 12 #[.val (.int i0), .val (.int i1), .unset, .unset, .unset, .unset, .unset, .unset, .unset, .unset, .unset, .unset, .unset, .unset] [(.int wq)])
  have b_wq := own_q i0
  rw [← e_wq] at b_wq
  refine Go.step (fun _ k => XS.istoreN X0.here hx rfl (hb hby at_12) rfl (l' := #[.val (.int i0), .val (.int i1), .val (.int wq), .unset, .unset, .unset, .unset, .unset, .unset, .unset, .unset, .unset, .unset, .unset]) rfl k) ?_
  show Go p e below _ s₁ (mkF m 13 #[.val (.int i0), .val (.int i1), .val (.int wq), .unset, .unset, .unset, .unset, .unset, .unset, .unset, .unset, .unset, .unset, .unset] [])
  refine Go.step (fun _ k => XS.iloadN X0.here hx rfl (hb hby at_13) rfl k) ?_
  show Go p e below _ s₁ (mkF m 14 #[.val (.int i0), .val (.int i1), .val (.int wq), .unset, .unset, .unset, .unset, .unset, .unset, .unset, .unset, .unset, .unset, .unset] [(.int i1)])
  refine Go.step (X0.ldcInt hx hown (mvT hZ (hw _ (List.mem_of_getElem? (i := 0) rfl))) (g := (mkF m 14 #[.val (.int i0), .val (.int i1), .val (.int wq), .unset, .unset, .unset, .unset, .unset, .unset, .unset, .unset, .unset, .unset, .unset] [(.int i1)])) rfl (hb hby at_14)) ?_
  show Go p e below _ s₁ (mkF m 16 #[.val (.int i0), .val (.int i1), .val (.int wq), .unset, .unset, .unset, .unset, .unset, .unset, .unset, .unset, .unset, .unset, .unset] [(.int (2147483647 : Int32)), (.int i1)])
  refine Go.step (fun _ k => XS.iand X0.here hx rfl (hb hby at_16) rfl k) ?_
  show Go p e below _ s₁ (mkF m 17 #[.val (.int i0), .val (.int i1), .val (.int wq), .unset, .unset, .unset, .unset, .unset, .unset, .unset, .unset, .unset, .unset, .unset] [(.int (i1 &&& (2147483647 : Int32)))])
  refine Go.step (fun _ k => XS.sipush X0.here hx rfl (hb hby at_17) k) ?_
  show Go p e below _ s₁ (mkF m 20 #[.val (.int i0), .val (.int i1), .val (.int wq), .unset, .unset, .unset, .unset, .unset, .unset, .unset, .unset, .unset, .unset, .unset] [(.int (1441 : Int32)), (.int (i1 &&& (2147483647 : Int32)))])
  refine Go.step (fun _ k => iremM X0 hx rfl (hb hby at_20) rfl (by decide) k) ?_
  show Go p e below _ s₁ (mkF m 21 #[.val (.int i0), .val (.int i1), .val (.int wq), .unset, .unset, .unset, .unset, .unset, .unset, .unset, .unset, .unset, .unset, .unset] [(.int ((i1 &&& (2147483647 : Int32)) % (1441 : Int32)))])
  refine Go.step (fun _ k => XS.sipush X0.here hx rfl (hb hby at_21) k) ?_
  show Go p e below _ s₁ (mkF m 24 #[.val (.int i0), .val (.int i1), .val (.int wq), .unset, .unset, .unset, .unset, .unset, .unset, .unset, .unset, .unset, .unset, .unset] [(.int (720 : Int32)), (.int ((i1 &&& (2147483647 : Int32)) % (1441 : Int32)))])
  refine Go.step (fun _ k => XS.isub X0.here hx rfl (hb hby at_24) rfl k) ?_
  show Go p e below _ s₁ (mkF m 25 #[.val (.int i0), .val (.int i1), .val (.int wq), .unset, .unset, .unset, .unset, .unset, .unset, .unset, .unset, .unset, .unset, .unset] [(.int (((i1 &&& (2147483647 : Int32)) % (1441 : Int32)) - (720 : Int32)))])
  obtain ⟨lq, e_lq⟩ : ∃ z : Int32, z = (((i1 &&& (2147483647 : Int32)) % (1441 : Int32)) - (720 : Int32)) := ⟨_, rfl⟩
  rw [← e_lq]
  show Go p e below _ s₁ (mkF m 25 #[.val (.int i0), .val (.int i1), .val (.int wq), .unset, .unset, .unset, .unset, .unset, .unset, .unset, .unset, .unset, .unset, .unset] [(.int lq)])
  have b_lq := own_q i1
  rw [← e_lq] at b_lq
  refine Go.step (fun _ k => XS.istoreN X0.here hx rfl (hb hby at_25) rfl (l' := #[.val (.int i0), .val (.int i1), .val (.int wq), .val (.int lq), .unset, .unset, .unset, .unset, .unset, .unset, .unset, .unset, .unset, .unset]) rfl k) ?_
  show Go p e below _ s₁ (mkF m 26 #[.val (.int i0), .val (.int i1), .val (.int wq), .val (.int lq), .unset, .unset, .unset, .unset, .unset, .unset, .unset, .unset, .unset, .unset] [])
  refine Go.step (fun _ k => XS.iloadN X0.here hx rfl (hb hby at_26) rfl k) ?_
  show Go p e below _ s₁ (mkF m 27 #[.val (.int i0), .val (.int i1), .val (.int wq), .val (.int lq), .unset, .unset, .unset, .unset, .unset, .unset, .unset, .unset, .unset, .unset] [(.int wq)])
  obtain ⟨f27, e_f27⟩ : ∃ z : UInt64, z = FP.i2d wq := ⟨_, rfl⟩
  have J_f27 : own_Is f27 wq.toInt 0 := by rw [e_f27]; exact own_Is.i2d _
  refine Go.step (fun _ k => XS.i2dS X0.here hx rfl (hb hby at_27) rfl e_f27.symm k) ?_
  show Go p e below _ s₁ (mkF m 28 #[.val (.int i0), .val (.int i1), .val (.int wq), .val (.int lq), .unset, .unset, .unset, .unset, .unset, .unset, .unset, .unset, .unset, .unset] [(.double f27)])
  refine Go.step (X0.ldc2DoubleC hx hown (mvT hZ (hw _ (List.mem_of_getElem? (i := 1) rfl))) (g := (mkF m 28 #[.val (.int i0), .val (.int i1), .val (.int wq), .val (.int lq), .unset, .unset, .unset, .unset, .unset, .unset, .unset, .unset, .unset, .unset] [(.double f27)])) rfl (hb hby at_28)) ?_
  show Go p e below _ s₁ (mkF m 31 #[.val (.int i0), .val (.int i1), .val (.int wq), .val (.int lq), .unset, .unset, .unset, .unset, .unset, .unset, .unset, .unset, .unset, .unset] [(.double (4616189618054758400 : UInt64)), (.double f27)])
  obtain ⟨qwq, e_qwq⟩ : ∃ z : UInt64, z = FP.ddiv f27 (4616189618054758400 : UInt64) := ⟨_, rfl⟩
  have J_qwq : own_Is qwq wq.toInt 2 := by rw [e_qwq]; exact own_Is.div2 (t := 2) J_f27 own_four (by omega) (by decide)
  refine Go.step (fun _ k => XS.ddivS X0.here hx rfl (hb hby at_31) rfl (by rw [← e_qwq]; exact J_qwq.nn) e_qwq.symm k) ?_
  show Go p e below _ s₁ (mkF m 32 #[.val (.int i0), .val (.int i1), .val (.int wq), .val (.int lq), .unset, .unset, .unset, .unset, .unset, .unset, .unset, .unset, .unset, .unset] [(.double qwq)])
  refine Go.step (fun _ k => XS.dstore X0.here hx rfl (hb hby at_32) rfl (l' := #[.val (.int i0), .val (.int i1), .val (.int wq), .val (.int lq), .val (.double qwq), .second, .unset, .unset, .unset, .unset, .unset, .unset, .unset, .unset]) rfl k) ?_
  show Go p e below _ s₁ (mkF m 34 #[.val (.int i0), .val (.int i1), .val (.int wq), .val (.int lq), .val (.double qwq), .second, .unset, .unset, .unset, .unset, .unset, .unset, .unset, .unset] [])
  refine Go.step (fun _ k => XS.iloadN X0.here hx rfl (hb hby at_34) rfl k) ?_
  show Go p e below _ s₁ (mkF m 35 #[.val (.int i0), .val (.int i1), .val (.int wq), .val (.int lq), .val (.double qwq), .second, .unset, .unset, .unset, .unset, .unset, .unset, .unset, .unset] [(.int lq)])
  obtain ⟨f35, e_f35⟩ : ∃ z : UInt64, z = FP.i2d lq := ⟨_, rfl⟩
  have J_f35 : own_Is f35 lq.toInt 0 := by rw [e_f35]; exact own_Is.i2d _
  refine Go.step (fun _ k => XS.i2dS X0.here hx rfl (hb hby at_35) rfl e_f35.symm k) ?_
  show Go p e below _ s₁ (mkF m 36 #[.val (.int i0), .val (.int i1), .val (.int wq), .val (.int lq), .val (.double qwq), .second, .unset, .unset, .unset, .unset, .unset, .unset, .unset, .unset] [(.double f35)])
  refine Go.step (X0.ldc2DoubleC hx hown (mvT hZ (hw _ (List.mem_of_getElem? (i := 1) rfl))) (g := (mkF m 36 #[.val (.int i0), .val (.int i1), .val (.int wq), .val (.int lq), .val (.double qwq), .second, .unset, .unset, .unset, .unset, .unset, .unset, .unset, .unset] [(.double f35)])) rfl (hb hby at_36)) ?_
  show Go p e below _ s₁ (mkF m 39 #[.val (.int i0), .val (.int i1), .val (.int wq), .val (.int lq), .val (.double qwq), .second, .unset, .unset, .unset, .unset, .unset, .unset, .unset, .unset] [(.double (4616189618054758400 : UInt64)), (.double f35)])
  obtain ⟨qlq, e_qlq⟩ : ∃ z : UInt64, z = FP.ddiv f35 (4616189618054758400 : UInt64) := ⟨_, rfl⟩
  have J_qlq : own_Is qlq lq.toInt 2 := by rw [e_qlq]; exact own_Is.div2 (t := 2) J_f35 own_four (by omega) (by decide)
  refine Go.step (fun _ k => XS.ddivS X0.here hx rfl (hb hby at_39) rfl (by rw [← e_qlq]; exact J_qlq.nn) e_qlq.symm k) ?_
  show Go p e below _ s₁ (mkF m 40 #[.val (.int i0), .val (.int i1), .val (.int wq), .val (.int lq), .val (.double qwq), .second, .unset, .unset, .unset, .unset, .unset, .unset, .unset, .unset] [(.double qlq)])
  refine Go.step (fun _ k => XS.dstore X0.here hx rfl (hb hby at_40) rfl (l' := #[.val (.int i0), .val (.int i1), .val (.int wq), .val (.int lq), .val (.double qwq), .second, .val (.double qlq), .second, .unset, .unset, .unset, .unset, .unset, .unset]) rfl k) ?_
  show Go p e below _ s₁ (mkF m 42 #[.val (.int i0), .val (.int i1), .val (.int wq), .val (.int lq), .val (.double qwq), .second, .val (.double qlq), .second, .unset, .unset, .unset, .unset, .unset, .unset] [])
  refine Go.step (fun _ k => XS.dload X0.here hx rfl (hb hby at_42) rfl k) ?_
  show Go p e below _ s₁ (mkF m 44 #[.val (.int i0), .val (.int i1), .val (.int wq), .val (.int lq), .val (.double qwq), .second, .val (.double qlq), .second, .unset, .unset, .unset, .unset, .unset, .unset] [(.double qwq)])
  refine Go.step (fun _ k => XS.dload X0.here hx rfl (hb hby at_44) rfl k) ?_
  show Go p e below _ s₁ (mkF m 46 #[.val (.int i0), .val (.int i1), .val (.int wq), .val (.int lq), .val (.double qwq), .second, .val (.double qlq), .second, .unset, .unset, .unset, .unset, .unset, .unset] [(.double qlq), (.double qwq)])
  obtain ⟨_, _, ⟨T1, L1, k1, n1⟩, -, X1, ⟨Lc1, hQ1, l1, y1, z1⟩, st1⟩ := Jvm.LawKit.callS X0 hx (y := (⟨"com/example/frugal_sieve/frugalsieve/filter/Box", "eastOf", "(DD)D"⟩ : MethodName)) hown (mvT hZ (hw _ (List.mem_of_getElem? (i := 2) rfl))) (mvT hZ (hw _ (List.mem_of_getElem? (i := 3) rfl))) (mvT hZ (hw _ (List.mem_of_getElem? (i := 4) rfl))) (mvT hZ (hw _ (List.mem_of_getElem? (i := 5) rfl))) (by decide) (backOf (W := 0) (rmE l Z a0 hw [] qwq qlq wq.toInt lq.toInt h0 n0 Zn J_qwq J_qlq b_wq b_lq) hZ (hw _ (List.mem_of_getElem? (i := 5) rfl)) (hw _ (List.mem_of_getElem? (i := 4) rfl)) (by decide) (by decide)) (g := (mkF m 46 #[.val (.int i0), .val (.int i1), .val (.int wq), .val (.int lq), .val (.double qwq), .second, .val (.double qlq), .second, .unset, .unset, .unset, .unset, .unset, .unset] [(.double qlq), (.double qwq)])) rfl (by rw [hml]; rfl) (argsL := [(.double qwq), (.double qlq)]) (rest := []) (lenOf own_f24 rfl) rfl (by show 2 * 0 + _ ≤ _; exact Nat.le_of_eq rfl) (hb hby at_46) (fun _ _ => ⟨rfl, e0, (by dsimp only [Pt.cells, Pt.slots]; decide), (by dsimp only [Pt.cells, Pt.slots]; decide)⟩)
  dsimp only [Pt.U, Pt.locs, Pt.cells, Pt.slots] at X1 l1 y1 z1 st1 hQ1
  subst l1 y1 z1
  obtain ⟨rr, rfl, N1q, e1, J_rr⟩ := hQ1
  have N1 := Fr.app N0 N1q
  refine Go.step (st1) ?_
  show Go p e below _ T1 (mkF m 49 #[.val (.int i0), .val (.int i1), .val (.int wq), .val (.int lq), .val (.double qwq), .second, .val (.double qlq), .second, .unset, .unset, .unset, .unset, .unset, .unset] [(.double rr)])
  refine Go.step (fun _ k => XS.dstore X1.here hx rfl (hb hby at_49) rfl (l' := #[.val (.int i0), .val (.int i1), .val (.int wq), .val (.int lq), .val (.double qwq), .second, .val (.double qlq), .second, .val (.double rr), .second, .unset, .unset, .unset, .unset]) rfl k) ?_
  show Go p e below _ T1 (mkF m 51 #[.val (.int i0), .val (.int i1), .val (.int wq), .val (.int lq), .val (.double qwq), .second, .val (.double qlq), .second, .val (.double rr), .second, .unset, .unset, .unset, .unset] [])
  refine Go.step (fun _ k => XS.iloadN X1.here hx rfl (hb hby at_51) rfl k) ?_
  show Go p e below _ T1 (mkF m 52 #[.val (.int i0), .val (.int i1), .val (.int wq), .val (.int lq), .val (.double qwq), .second, .val (.double qlq), .second, .val (.double rr), .second, .unset, .unset, .unset, .unset] [(.int lq)])
  refine Go.step (fun _ k => XS.iloadN X1.here hx rfl (hb hby at_52) rfl k) ?_
  show Go p e below _ T1 (mkF m 53 #[.val (.int i0), .val (.int i1), .val (.int wq), .val (.int lq), .val (.double qwq), .second, .val (.double qlq), .second, .val (.double rr), .second, .unset, .unset, .unset, .unset] [(.int wq), (.int lq)])
  refine Go.step (fun _ k => XS.isub X1.here hx rfl (hb hby at_53) rfl k) ?_
  show Go p e below _ T1 (mkF m 54 #[.val (.int i0), .val (.int i1), .val (.int wq), .val (.int lq), .val (.double qwq), .second, .val (.double qlq), .second, .val (.double rr), .second, .unset, .unset, .unset, .unset] [(.int (lq - wq))])
  refine Go.step (fun _ k => XS.istore X1.here hx rfl (hb hby at_54) rfl (l' := #[.val (.int i0), .val (.int i1), .val (.int wq), .val (.int lq), .val (.double qwq), .second, .val (.double qlq), .second, .val (.double rr), .second, .val (.int (lq - wq)), .unset, .unset, .unset]) rfl k) ?_
  show Go p e below _ T1 (mkF m 56 #[.val (.int i0), .val (.int i1), .val (.int wq), .val (.int lq), .val (.double qwq), .second, .val (.double qlq), .second, .val (.double rr), .second, .val (.int (lq - wq)), .unset, .unset, .unset] [])
  refine Go.step (fun _ k => XS.iload X1.here hx rfl (hb hby at_56) rfl k) ?_
  show Go p e below _ T1 (mkF m 58 #[.val (.int i0), .val (.int i1), .val (.int wq), .val (.int lq), .val (.double qwq), .second, .val (.double qlq), .second, .val (.double rr), .second, .val (.int (lq - wq)), .unset, .unset, .unset] [(.int (lq - wq))])
  refine Go.step (fun _ k => XS.sipush X1.here hx rfl (hb hby at_58) k) ?_
  show Go p e below _ T1 (mkF m 61 #[.val (.int i0), .val (.int i1), .val (.int wq), .val (.int lq), .val (.double qwq), .second, .val (.double qlq), .second, .val (.double rr), .second, .val (.int (lq - wq)), .unset, .unset, .unset] [(.int (1440 : Int32)), (.int (lq - wq))])
  refine Go.step (fun _ k => iremM X1 hx rfl (hb hby at_61) rfl (by decide) k) ?_
  show Go p e below _ T1 (mkF m 62 #[.val (.int i0), .val (.int i1), .val (.int wq), .val (.int lq), .val (.double qwq), .second, .val (.double qlq), .second, .val (.double rr), .second, .val (.int (lq - wq)), .unset, .unset, .unset] [(.int ((lq - wq) % (1440 : Int32)))])
  refine Go.step (fun _ k => XS.sipush X1.here hx rfl (hb hby at_62) k) ?_
  show Go p e below _ T1 (mkF m 65 #[.val (.int i0), .val (.int i1), .val (.int wq), .val (.int lq), .val (.double qwq), .second, .val (.double qlq), .second, .val (.double rr), .second, .val (.int (lq - wq)), .unset, .unset, .unset] [(.int (1440 : Int32)), (.int ((lq - wq) % (1440 : Int32)))])
  refine Go.step (fun _ k => XS.iadd X1.here hx rfl (hb hby at_65) rfl k) ?_
  show Go p e below _ T1 (mkF m 66 #[.val (.int i0), .val (.int i1), .val (.int wq), .val (.int lq), .val (.double qwq), .second, .val (.double qlq), .second, .val (.double rr), .second, .val (.int (lq - wq)), .unset, .unset, .unset] [(.int (((lq - wq) % (1440 : Int32)) + (1440 : Int32)))])
  refine Go.step (fun _ k => XS.sipush X1.here hx rfl (hb hby at_66) k) ?_
  show Go p e below _ T1 (mkF m 69 #[.val (.int i0), .val (.int i1), .val (.int wq), .val (.int lq), .val (.double qwq), .second, .val (.double qlq), .second, .val (.double rr), .second, .val (.int (lq - wq)), .unset, .unset, .unset] [(.int (1440 : Int32)), (.int (((lq - wq) % (1440 : Int32)) + (1440 : Int32)))])
  refine Go.step (fun _ k => iremM X1 hx rfl (hb hby at_69) rfl (by decide) k) ?_
  show Go p e below _ T1 (mkF m 70 #[.val (.int i0), .val (.int i1), .val (.int wq), .val (.int lq), .val (.double qwq), .second, .val (.double qlq), .second, .val (.double rr), .second, .val (.int (lq - wq)), .unset, .unset, .unset] [(.int ((((lq - wq) % (1440 : Int32)) + (1440 : Int32)) % (1440 : Int32)))])
  obtain ⟨eq, e_eq⟩ : ∃ z : Int32, z = ((((lq - wq) % (1440 : Int32)) + (1440 : Int32)) % (1440 : Int32)) := ⟨_, rfl⟩
  rw [← e_eq]
  show Go p e below _ T1 (mkF m 70 #[.val (.int i0), .val (.int i1), .val (.int wq), .val (.int lq), .val (.double qwq), .second, .val (.double qlq), .second, .val (.double rr), .second, .val (.int (lq - wq)), .unset, .unset, .unset] [(.int eq)])
  have hE := own_eq b_wq b_lq
  rw [← e_eq] at hE
  refine Go.step (fun _ k => XS.istore X1.here hx rfl (hb hby at_70) rfl (l' := #[.val (.int i0), .val (.int i1), .val (.int wq), .val (.int lq), .val (.double qwq), .second, .val (.double qlq), .second, .val (.double rr), .second, .val (.int (lq - wq)), .val (.int eq), .unset, .unset]) rfl k) ?_
  show Go p e below _ T1 (mkF m 72 #[.val (.int i0), .val (.int i1), .val (.int wq), .val (.int lq), .val (.double qwq), .second, .val (.double qlq), .second, .val (.double rr), .second, .val (.int (lq - wq)), .val (.int eq), .unset, .unset] [])
  refine Go.step (fun _ k => XS.iload X1.here hx rfl (hb hby at_72) rfl k) ?_
  show Go p e below _ T1 (mkF m 74 #[.val (.int i0), .val (.int i1), .val (.int wq), .val (.int lq), .val (.double qwq), .second, .val (.double qlq), .second, .val (.double rr), .second, .val (.int (lq - wq)), .val (.int eq), .unset, .unset] [(.int eq)])
  obtain ⟨f74, e_f74⟩ : ∃ z : UInt64, z = FP.i2d eq := ⟨_, rfl⟩
  have J_f74 : own_Is f74 eq.toInt 0 := by rw [e_f74]; exact own_Is.i2d _
  refine Go.step (fun _ k => XS.i2dS X1.here hx rfl (hb hby at_74) rfl e_f74.symm k) ?_
  show Go p e below _ T1 (mkF m 75 #[.val (.int i0), .val (.int i1), .val (.int wq), .val (.int lq), .val (.double qwq), .second, .val (.double qlq), .second, .val (.double rr), .second, .val (.int (lq - wq)), .val (.int eq), .unset, .unset] [(.double f74)])
  refine Go.step (X1.ldc2DoubleC hx hown (mvT hZ (hw _ (List.mem_of_getElem? (i := 1) rfl))) (g := (mkF m 75 #[.val (.int i0), .val (.int i1), .val (.int wq), .val (.int lq), .val (.double qwq), .second, .val (.double qlq), .second, .val (.double rr), .second, .val (.int (lq - wq)), .val (.int eq), .unset, .unset] [(.double f74)])) rfl (hb hby at_75)) ?_
  show Go p e below _ T1 (mkF m 78 #[.val (.int i0), .val (.int i1), .val (.int wq), .val (.int lq), .val (.double qwq), .second, .val (.double qlq), .second, .val (.double rr), .second, .val (.int (lq - wq)), .val (.int eq), .unset, .unset] [(.double (4616189618054758400 : UInt64)), (.double f74)])
  obtain ⟨qeq, e_qeq⟩ : ∃ z : UInt64, z = FP.ddiv f74 (4616189618054758400 : UInt64) := ⟨_, rfl⟩
  have J_qeq : own_Is qeq eq.toInt 2 := by rw [e_qeq]; exact own_Is.div2 (t := 2) J_f74 own_four (by have := hE; omega) (by decide)
  refine Go.step (fun _ k => XS.ddivS X1.here hx rfl (hb hby at_78) rfl (by rw [← e_qeq]; exact J_qeq.nn) e_qeq.symm k) ?_
  show Go p e below _ T1 (mkF m 79 #[.val (.int i0), .val (.int i1), .val (.int wq), .val (.int lq), .val (.double qwq), .second, .val (.double qlq), .second, .val (.double rr), .second, .val (.int (lq - wq)), .val (.int eq), .unset, .unset] [(.double qeq)])
  refine Go.step (fun _ k => XS.dstore X1.here hx rfl (hb hby at_79) rfl (l' := #[.val (.int i0), .val (.int i1), .val (.int wq), .val (.int lq), .val (.double qwq), .second, .val (.double qlq), .second, .val (.double rr), .second, .val (.int (lq - wq)), .val (.int eq), .val (.double qeq), .second]) rfl k) ?_
  show Go p e below _ T1 (mkF m 81 #[.val (.int i0), .val (.int i1), .val (.int wq), .val (.int lq), .val (.double qwq), .second, .val (.double qlq), .second, .val (.double rr), .second, .val (.int (lq - wq)), .val (.int eq), .val (.double qeq), .second] [])
  refine Go.step (fun _ k => XS.dload X1.here hx rfl (hb hby at_81) rfl k) ?_
  show Go p e below _ T1 (mkF m 83 #[.val (.int i0), .val (.int i1), .val (.int wq), .val (.int lq), .val (.double qwq), .second, .val (.double qlq), .second, .val (.double rr), .second, .val (.int (lq - wq)), .val (.int eq), .val (.double qeq), .second] [(.double rr)])
  refine Go.step (fun _ k => XS.dload X1.here hx rfl (hb hby at_83) rfl k) ?_
  show Go p e below _ T1 (mkF m 85 #[.val (.int i0), .val (.int i1), .val (.int wq), .val (.int lq), .val (.double qwq), .second, .val (.double qlq), .second, .val (.double rr), .second, .val (.int (lq - wq)), .val (.int eq), .val (.double qeq), .second] [(.double qeq), (.double rr)])
  refine Go.step (fun _ k => XS.dcmpS X1.here hx rfl (hb hby at_85) rfl rfl k) ?_
  show Go p e below _ T1 (mkF m 86 #[.val (.int i0), .val (.int i1), .val (.int wq), .val (.int lq), .val (.double qwq), .second, .val (.double qlq), .second, .val (.double rr), .second, .val (.int (lq - wq)), .val (.int eq), .val (.double qeq), .second] [(.int (cmpValue (FP.dcmp rr qeq) .l))])
  refine Go.step (fun _ k => XS.ifNo X1.here hx rfl (hb hby at_86) rfl ((if0 _ _).trans (teq ((own_Is.cv J_rr J_qeq .l).2.2.mpr hE.1)).2) k) ?_
  show Go p e below _ T1 (mkF m 89 #[.val (.int i0), .val (.int i1), .val (.int wq), .val (.int lq), .val (.double qwq), .second, .val (.double qlq), .second, .val (.double rr), .second, .val (.int (lq - wq)), .val (.int eq), .val (.double qeq), .second] [])
  refine Go.step (fun _ k => XS.dload X1.here hx rfl (hb hby at_89) rfl k) ?_
  show Go p e below _ T1 (mkF m 91 #[.val (.int i0), .val (.int i1), .val (.int wq), .val (.int lq), .val (.double qwq), .second, .val (.double qlq), .second, .val (.double rr), .second, .val (.int (lq - wq)), .val (.int eq), .val (.double qeq), .second] [(.double rr)])
  refine Go.step (fun _ k => XS.dconst0 X1.here hx rfl (hb hby at_91) rfl k) ?_
  show Go p e below _ T1 (mkF m 92 #[.val (.int i0), .val (.int i1), .val (.int wq), .val (.int lq), .val (.double qwq), .second, .val (.double qlq), .second, .val (.double rr), .second, .val (.int (lq - wq)), .val (.int eq), .val (.double qeq), .second] [(.double FP.dconst0), (.double rr)])
  refine Go.step (fun _ k => XS.dcmpS X1.here hx rfl (hb hby at_92) rfl rfl k) ?_
  show Go p e below _ T1 (mkF m 93 #[.val (.int i0), .val (.int i1), .val (.int wq), .val (.int lq), .val (.double qwq), .second, .val (.double qlq), .second, .val (.double rr), .second, .val (.int (lq - wq)), .val (.int eq), .val (.double qeq), .second] [(.int (cmpValue (FP.dcmp rr FP.dconst0) .l))])
  refine Go.step (fun _ k => XS.ifNo X1.here hx rfl (hb hby at_93) rfl ((if0 _ _).trans (flt (fun q => absurd ((own_Is.cv J_rr (own_Is.zero 2) .l).1.mp q) (by have := hE; omega))).1) k) ?_
  show Go p e below _ T1 (mkF m 96 #[.val (.int i0), .val (.int i1), .val (.int wq), .val (.int lq), .val (.double qwq), .second, .val (.double qlq), .second, .val (.double rr), .second, .val (.int (lq - wq)), .val (.int eq), .val (.double qeq), .second] [])
  refine Go.step (fun _ k => XS.dload X1.here hx rfl (hb hby at_96) rfl k) ?_
  show Go p e below _ T1 (mkF m 98 #[.val (.int i0), .val (.int i1), .val (.int wq), .val (.int lq), .val (.double qwq), .second, .val (.double qlq), .second, .val (.double rr), .second, .val (.int (lq - wq)), .val (.int eq), .val (.double qeq), .second] [(.double rr)])
  refine Go.step (X1.ldc2DoubleC hx hown (mvT hZ (hw _ (List.mem_of_getElem? (i := 7) rfl))) (g := (mkF m 98 #[.val (.int i0), .val (.int i1), .val (.int wq), .val (.int lq), .val (.double qwq), .second, .val (.double qlq), .second, .val (.double rr), .second, .val (.int (lq - wq)), .val (.int eq), .val (.double qeq), .second] [(.double rr)])) rfl (hb hby at_98)) ?_
  show Go p e below _ T1 (mkF m 101 #[.val (.int i0), .val (.int i1), .val (.int wq), .val (.int lq), .val (.double qwq), .second, .val (.double qlq), .second, .val (.double rr), .second, .val (.int (lq - wq)), .val (.int eq), .val (.double qeq), .second] [(.double (4645040803167600640 : UInt64)), (.double rr)])
  refine Go.step (fun _ k => XS.dcmpS X1.here hx rfl (hb hby at_101) rfl rfl k) ?_
  show Go p e below _ T1 (mkF m 102 #[.val (.int i0), .val (.int i1), .val (.int wq), .val (.int lq), .val (.double qwq), .second, .val (.double qlq), .second, .val (.double rr), .second, .val (.int (lq - wq)), .val (.int eq), .val (.double qeq), .second] [(.int (cmpValue (FP.dcmp rr (4645040803167600640 : UInt64)) .g))])
  refine Go.step (fun _ k => XS.ifNo X1.here hx rfl (hb hby at_102) rfl ((if0 _ _).trans (tlt ((own_Is.cv J_rr own_360 .g).1.mpr (by have := hE; omega))).2.1) k) ?_
  show Go p e below _ T1 (mkF m 105 #[.val (.int i0), .val (.int i1), .val (.int wq), .val (.int lq), .val (.double qwq), .second, .val (.double qlq), .second, .val (.double rr), .second, .val (.int (lq - wq)), .val (.int eq), .val (.double qeq), .second] [])
  refine Go.step (fun _ k => XS.iconst X1.here hx rfl (hb hby at_105) k) ?_
  show Go p e below _ T1 (mkF m 106 #[.val (.int i0), .val (.int i1), .val (.int wq), .val (.int lq), .val (.double qwq), .second, .val (.double qlq), .second, .val (.double rr), .second, .val (.int (lq - wq)), .val (.int eq), .val (.double qeq), .second] [(.int (1 : Int32))])
  refine Go.step (fun _ k => XS.goto X1.here hx rfl (pc0 := 106) (pc' := 110) rfl (hb hby at_106) (by decide) (by decide) k) ?_
  show Go p e below _ T1 (mkF m 110 #[.val (.int i0), .val (.int i1), .val (.int wq), .val (.int lq), .val (.double qwq), .second, .val (.double qlq), .second, .val (.double rr), .second, .val (.int (lq - wq)), .val (.int eq), .val (.double qeq), .second] [(.int (1 : Int32))])
  obtain ⟨fs, hr, hrun, hended, hW, hsame⟩ := X1.leave (v := some (.int (1 : Int32))) (fun h => by rw [Bd.returns] at h; cases h)
  refine Go.fin (retN X1 hx (t := .boolean) Bd.returns (by simp) (hb hby at_110) hr) hrun hended ?_
  refine ⟨_, _, rfl, ?_, ⟨_, rfl⟩, hW, hsame.mono (by decide) (by decide)⟩
  show Q0 Z i0 i1 h0 n0 _ T1.heap _
  rw [e1]
  exact ⟨rfl, N1⟩
set_option maxRecDepth 65536 in
set_option maxHeartbeats 40000000 in
theorem comes_1 {Post : Tables → Env → Array Value → State → Outcome → State → Prop} (hpost : ∀ tb e args s v u, (limb_1_1.after args s (.returned v) u = true ∧ limb_1_2.after args s (.returned v) u = true ∧ True) → FrameEnd s (.returned v) u (Jvm.fieldLocs frame_1_writes args s ++ Jvm.arrayLocs frame_1_arrays args s ++ Jvm.staticLocs frame_1_statics s) 0 0 → Post tb e args s (.returned v) u) :
    ArmFor flags0 classFile x code maxLocals ret World_1 tables_1 room_1 Calls_1 rest_1 Pre_1 Post := by
  intro l hfl _ _ p e ha hc hk s m args below hf hA hF happ hP
  obtain ⟨hcalls, hrest, hpre⟩ := hP
  obtain ⟨-, -, -, hnamed, -, -, -, hat⟩ := (Spec.applies_iff hf).mp happ
  obtain ⟨hg, hn⟩ := and_e (Cond.before_iff.mp (show (Jvm.Cond.and given_1 narrow_1).before args s = true from hpre))
  obtain ⟨hg1, hg2⟩ := and_e hg
  obtain ⟨hg3, hg4⟩ := and_e hg2
  obtain ⟨w0, w1, rfl⟩ : ∃ w0 w1 : Value, args = #[w0, w1] := by
    have hs : args.size = 2 := by simpa [Cond.value, given_1] using hg1
    obtain ⟨L⟩ := args
    match L, hs with
    | [w0, w1], _ => exact ⟨w0, w1, rfl⟩
  have hw := fun d (hd : d ∈ tables_1) => atoms_spec (ws := Jvm.Cond.code x code maxLocals ret :: tables_1) hat d (List.mem_cons_of_mem _ hd)
  have hfit : Fit s := fun {y c} hc i hi => by
    obtain ⟨ha, rfl⟩ := Array.getElem?_eq_some_iff.mp hc
    have q := List.all_eq_true.mp ((Array.all_eq_true_iff_forall_mem.mp hF) _ (Array.getElem_mem ha)) i (List.mem_range.mpr hi)
    simpa [Array.getElem?_eq_getElem hi] using q
  obtain ⟨i0, ei0⟩ := is_v hg3
  obtain rfl : w0 = (.int i0) := Option.some.inj ei0
  obtain ⟨i1, ei1⟩ := is_v hg4
  obtain rfl : w1 = (.int i1) := Option.some.inj ei1
  obtain ⟨n, o, h1, h2, h3, _, L, rfl, ⟨rfl, N⟩, hq⟩ := rm0 l s _ hw tables_1 i0 i1 s.heap s.heap.size (Nat.le_refl _)  p e ha hc hk s m _ below hf ((Spec.applies_iff_loose hf).mp happ).1 ⟨rfl, State.Warmed39.refl s, rfl⟩ trivial
  refine ⟨n, _, h1, h2, h3, hpost _ _ _ _ _ _ ⟨Cond.after_iff.mpr rfl, Cond.after_iff.mpr (eq_i res_at (Term.int_eval (1)) rfl), trivial⟩ ⟨hq.1, hq.2.1, (hq.2.2.sift fun y hy => Or.inr (N y hy)).mono (by decide) (by decide)⟩⟩
theorem main_1_1 : Claimed_1_1 := comes_1 fun _ _ _ _ _ _ h hF => ⟨h.1, hF⟩
theorem main_1_2 : Claimed_1_2 := comes_1 fun _ _ _ _ _ _ h hF => ⟨h.2.1, hF⟩
end Jvm.Pilot.@@N@@
namespace Jvm.Pilot.@@N@@
open Jvm Jvm.ClassFile Sem Op Lib Jvm.Free Jvm.Stand Jvm.Pilot.@@N@@.Jvm.D
/-! MADE BY PROGRAM (witnessworld.py) out of the Statement's table words and the real class files: 9 classes; the members and pool entries that the words name. The judged class is class 1, her method 1. -/
namespace start1
open Jvm.ClassFile
def u (s : String) : CpInfo := .utf8 (stringToUtf16 s)
/-- a pool by its gaps: so many unusable entries, then the entry; so many at the end -/
def gap : Nat → List CpInfo → List CpInfo
  | 0, r => r
  | n + 1, r => .unusable :: gap n r
def poolList (es : List (Nat × CpInfo)) (last : Nat) : List CpInfo := es.foldr (fun e r => gap e.1 (e.2 :: r)) (gap last [])
def pool (es : List (Nat × CpInfo)) (last : Nat) : Array CpInfo := ⟨poolList es last⟩
def fileOf (pool : Array CpInfo) (this : Nat) (attrs : Array Attribute := #[]) (ms : Array MethodInfo := #[]) (fl : Nat := 33) (sup : Nat := 0) (ifs : Array Nat := #[]) (fds : Array FieldInfo := #[]) : ClassFile where
  minorVersion := 0
  majorVersion := 65
  constantPool := pool
  accessFlags := fl
  thisClass := this
  superClass := sup
  interfaces := ifs
  fields := fds
  methods := ms
  attributes := attrs
def plain (name : String) (sup : Option ClassId) : Class where
  name := name
  kind := .ordinary
  loader := none
  accessFlags := 33
  super := sup
  interfaces := #[]
  cf := none
  fields := #[]
  methods := #[]
  instanceTypes := #[]
  staticTypes := #[]
  resolved := #[]
  callSites := []
  init := .initialized
  statics := none
  mirror := none

def pool0 : Array CpInfo := pool [(5, u "<init>"), (0, u "()V"), (1, .class_ 10), (1, u "java/lang/Object")] 113

def k0m0 : Method := { name := "<init>", desc := "()V", sig := { parameters := [], returnType := none }, accessFlags := 1, code := none }
/-- java/lang/Object -/
def k0 : Class := { plain "java/lang/Object" none with
  accessFlags := 33
  interfaces := #[]
  cf := some (fileOf pool0 8 #[] #[{ accessFlags := 1, nameIndex := 5, descriptorIndex := 6, attributes := #[] }] 33 0 #[] #[])
  fields := #[]
  methods := #[k0m0]
  instanceTypes := #[]
  staticTypes := #[]
  resolved := Array.replicate 124 none
  statics := none }

def pool1 : Array CpInfo := pool [(2, .class_ 4), (1, u "java/lang/Object"), (0, u "<init>"), (0, u "()V"), (0, .integer 2147483647), (0, .double 4616189618054758400), (1, .methodref 11 12), (0, .class_ 13), (0, .nameAndType 14 15), (0, u "com/example/frugal_sieve/frugalsieve/filter/Box"), (0, u "eastOf"), (0, u "(DD)D"), (0, .double 4645040803167600640), (1, .class_ 19), (0, u "com/example/frugal_sieve/frugalsieve/filter/BoxEastOfPinLaw"), (2, u "law"), (0, u "(II)Z")] 3

def k1m0 : Method := { name := "<init>", desc := "()V", sig := { parameters := [], returnType := none }, accessFlags := 1, code := none }
def k1c1 : Code := { maxStack := 4, maxLocals := 14, code := code, exceptionTable := #[], attributes := #[] }
def k1m1 : Method := { name := "law", desc := "(II)Z", sig := { parameters := [.int, .int], returnType := some .boolean }, accessFlags := 9, code := some k1c1 }
/-- com/example/frugal_sieve/frugalsieve/filter/BoxEastOfPinLaw -/
def k1 : Class := { plain "com/example/frugal_sieve/frugalsieve/filter/BoxEastOfPinLaw" (some 0) with
  accessFlags := 49
  interfaces := #[]
  cf := some (fileOf pool1 18 #[] #[{ accessFlags := 1, nameIndex := 5, descriptorIndex := 6, attributes := #[] }, { accessFlags := 9, nameIndex := 22, descriptorIndex := 23, attributes := #[] }] 49 2 #[] #[])
  fields := #[]
  methods := #[k1m0, k1m1]
  instanceTypes := #[]
  staticTypes := #[]
  resolved := Array.replicate 27 none
  statics := none }

def pool2 : Array CpInfo := pool [(2, .class_ 4), (1, u "java/lang/Object"), (9, .class_ 16), (1, u "com/example/frugal_sieve/frugalsieve/filter/Box"), (0, u "north"), (0, u "D"), (2, u "south"), (5, u "west"), (0, .double 4645040803167600640), (3, u "width"), (2, u "eastOf"), (0, u "(DD)D")] 10

def k2c0 : Code := { maxStack := 4, maxLocals := 6, code := prog_2_method_9_code, exceptionTable := #[], attributes := #[] }
def k2m0 : Method := { name := "eastOf", desc := "(DD)D", sig := { parameters := [.double, .double], returnType := some .double }, accessFlags := 8, code := some k2c0 }
/-- com/example/frugal_sieve/frugalsieve/filter/Box -/
def k2 : Class := { plain "com/example/frugal_sieve/frugalsieve/filter/Box" (some 0) with
  accessFlags := 48
  interfaces := #[]
  cf := some (fileOf pool2 14 #[] #[{ accessFlags := 8, nameIndex := 35, descriptorIndex := 36, attributes := #[] }] 48 2 #[] #[{ accessFlags := 18, nameIndex := 17, descriptorIndex := 18, attributes := #[] }, { accessFlags := 18, nameIndex := 21, descriptorIndex := 18, attributes := #[] }, { accessFlags := 18, nameIndex := 27, descriptorIndex := 18, attributes := #[] }, { accessFlags := 18, nameIndex := 32, descriptorIndex := 18, attributes := #[] }])
  fields := #[{ name := "north", type := .double, accessFlags := 18, slot := 0, constantValue := 0 }, { name := "south", type := .double, accessFlags := 18, slot := 1, constantValue := 0 }, { name := "west", type := .double, accessFlags := 18, slot := 2, constantValue := 0 }, { name := "width", type := .double, accessFlags := 18, slot := 3, constantValue := 0 }]
  methods := #[k2m0]
  instanceTypes := #[.double, .double, .double, .double]
  staticTypes := #[]
  resolved := Array.replicate 47 none
  statics := none }

def pool3 : Array CpInfo := pool [(1, u "java/lang/Cloneable"), (0, .class_ 1), (0, u "java/lang/Object"), (0, .class_ 3)] 3

/-- java/lang/Cloneable -/
def k3 : Class := { plain "java/lang/Cloneable" (some 0) with
  accessFlags := 1537
  interfaces := #[]
  cf := some (fileOf pool3 2 #[] #[] 1537 4 #[] #[])
  fields := #[]
  methods := #[]
  instanceTypes := #[]
  staticTypes := #[]
  resolved := Array.replicate 8 none
  statics := none }

def pool4 : Array CpInfo := pool [(1, u "java/io/Serializable"), (0, .class_ 1), (0, u "java/lang/Object"), (0, .class_ 3)] 3

/-- java/io/Serializable -/
def k4 : Class := { plain "java/io/Serializable" (some 0) with
  accessFlags := 1537
  interfaces := #[]
  cf := some (fileOf pool4 2 #[] #[] 1537 4 #[] #[])
  fields := #[]
  methods := #[]
  instanceTypes := #[]
  staticTypes := #[]
  resolved := Array.replicate 8 none
  statics := none }

/-- the primitive byte -/
def k5 : Class := { plain "byte" none with kind := .primitive 'B', accessFlags := 0x411 }
/-- [B -/
def k6 : Class := { plain "[B" (some 0) with kind := .array 5 .byte, interfaces := #[3, 4], accessFlags := 1041 }

/-- the primitive int -/
def k7 : Class := { plain "int" none with kind := .primitive 'I', accessFlags := 0x411 }
/-- [I -/
def k8 : Class := { plain "[I" (some 0) with kind := .array 7 .int, interfaces := #[3, 4], accessFlags := 1041 }

def heap : Heap := #[]
def classes : Array Class := #[k0, k1, k2, k3, k4, k5, k6, k7, k8]
def interned : List (Array UInt16 × Addr) := []
def slotsUsed : Nat := 0
def theMethod : MethodId := ⟨1, 1⟩
def args0 : Array Value := #[.int 5, .int 7]
def aboutOver (below : List Frame) : State where
  vm := { classes := classes, interned := interned.toArray }
  heap := heap
  slotsUsed := slotsUsed
  threads := #[{ frames := .invoking theMethod args0 :: below }]
def below0 : List Frame := [.native { method := ⟨0, 0⟩, args := #[] }]
def about1 : State := aboutOver below0
def p0 : Program := .bare "" "" ""
def e0 : Env := launch0.env 0 0 0
theorem w_frames : about1.frames = Frame.invoking theMethod args0 :: below0 := rfl
set_option maxRecDepth 65536 in
theorem w_args : argsFit about1.vm theMethod args0 = true := by decide +kernel
set_option maxRecDepth 65536 in
theorem w_heap : heapFits about1 = true := by decide +kernel
set_option maxRecDepth 65536 in
theorem w_runnable : about1.curStatus? = some .runnable := by decide +kernel
set_option maxRecDepth 65536 in
theorem w_alone : about1.alone = true := by decide +kernel
set_option maxRecDepth 65536 in
theorem w_named : about1.methodNamed? x = some theMethod := by decide +kernel
set_option maxRecDepth 65536 in
theorem w_hears : about1.hears theMethod below0 = true := by decide +kernel
set_option maxRecDepth 65536 in
theorem w_ripe : about1.ripe theMethod args0 below0 = true := by decide +kernel
theorem w_running : about1.status = .running := rfl
set_option maxRecDepth 65536 in
theorem w_room : about1.hasRoom e0.platform room_1 = true :=
  launch0.hasRoom_least _ room_1 (by decide +kernel) (by decide +kernel) (by decide +kernel) (by decide +kernel) (by decide +kernel) (by decide +kernel)
theorem allAtoms_all (ts : List Jvm.Cond) (a : Array Jvm.Value) (st : Jvm.State) : (allAtoms ts).before a st = ts.all (fun c => c.before a st) := by
  induction ts with
  | nil => rfl
  | cons c t ih =>
    show (Jvm.Cond.and c (allAtoms t)).before a st = _
    rw [Jvm.Cond.before_and, ih, List.all_cons]
def words1 : List Jvm.Cond := Jvm.Cond.code x code maxLocals ret :: tables_1
/-- a 'code' word, met by the world's own term for the bytes: nothing is compared byte by byte -/
theorem code_word {y : MethodName} {bytes : ByteArray} {mx : Nat} {rt : Option FieldType} {a : Array Value} {s : State} {m : MethodId} {meth : Method} {c : Code} (h1 : s.methodNamed? y = some m) (h2 : s.vm.method? m = some meth) (h3 : meth.code = some c) (h4 : c.code = bytes)
    (h5 : (c.maxLocals == mx && c.exceptionTable.isEmpty && decide (c.maxStack ≤ mostOperands) && decide (meth.sig.returnType = rt) && !meth.locks && decide (parseMethodDescriptor y.desc = some meth.sig)) = true) : (Jvm.Cond.code y bytes mx rt).before a s = true := by
  simp only [Bool.and_eq_true, beq_iff_eq, Bool.not_eq_true', decide_eq_true_eq] at h5
  obtain ⟨⟨⟨⟨⟨g1, g2⟩, g3⟩, g4⟩, g5⟩, g6⟩ := h5
  simp [Cond.before, Cond.holds, Cond.value, h1, h2, h3, h4, g1, g2, g3, g4, g5, g6]
def isCode : Jvm.Cond → Bool
  | .code _ _ _ _ => true
  | _ => false
theorem all_split {L : List Jvm.Cond} {P : Jvm.Cond → Bool} (h1 : L.all (fun c => isCode c || P c) = true) (h2 : ∀ c ∈ L.filter isCode, P c = true) : L.all P = true := by
  refine List.all_eq_true.mpr fun c hc => ?_
  have h := List.all_eq_true.mp h1 c hc
  rcases Bool.eq_false_or_eq_true (isCode c) with hi | hi
  · exact h2 c (List.mem_filter.mpr ⟨hc, hi⟩)
  · simpa [hi] using h
set_option maxRecDepth 65536 in
theorem w_c0 : (Jvm.Cond.code x code maxLocals ret).before args0 about1 = true := code_word (m := ⟨1, 1⟩) (meth := k1m1) (c := k1c1) (by decide +kernel) rfl rfl rfl (by decide +kernel)
set_option maxRecDepth 65536 in
theorem w_c1 : (Jvm.Cond.code ({ cls := "com/example/frugal_sieve/frugalsieve/filter/Box", name := "eastOf", desc := "(DD)D" } : Jvm.MethodName) prog_2_method_9_code (6 : Nat) (Option.some Jvm.ClassFile.FieldType.double)).before args0 about1 = true := code_word (m := ⟨2, 0⟩) (meth := k2m0) (c := k2c0) (by decide +kernel) rfl rfl rfl (by decide +kernel)
def codes1 : List Jvm.Cond := [Jvm.Cond.code x code maxLocals ret, Jvm.Cond.code ({ cls := "com/example/frugal_sieve/frugalsieve/filter/Box", name := "eastOf", desc := "(DD)D" } : Jvm.MethodName) prog_2_method_9_code (6 : Nat) (Option.some Jvm.ClassFile.FieldType.double)]
set_option maxRecDepth 65536 in
theorem codes_eq : words1.filter isCode = codes1 := rfl
theorem w_codes : ∀ c ∈ words1.filter isCode, c.before args0 about1 = true := by
  rw [codes_eq]
  intro c hc
  simp only [codes1, List.mem_cons, List.not_mem_nil, or_false] at hc
  rcases hc with rfl | rfl
  · exact w_c0
  · exact w_c1
set_option maxRecDepth 65536 in
theorem w_t1 : words1.all (fun c => isCode c || c.before args0 about1) = true := by decide +kernel
theorem w_tables : (allAtoms (Jvm.Cond.code x code maxLocals ret :: tables_1)).before args0 about1 = true := by
  rw [allAtoms_all]
  show words1.all (fun c => c.before args0 about1) = true
  refine all_split ?_ w_codes
  rw [w_t1]
set_option maxRecDepth 65536 in
theorem w_case : (Jvm.Cond.and given_1 narrow_1).before args0 about1 = true := by decide +kernel
theorem w_applies : (headSpec (Jvm.Cond.code x code maxLocals ret :: tables_1) room_1).applies x e0.platform about1 = true :=
  (Spec.applies_iff w_frames).mpr ⟨w_running, w_runnable, w_alone, w_named, w_hears, w_ripe, w_room, w_tables⟩
theorem atStart : AtStart classFile x code maxLocals ret World_1 tables_1 room_1 Calls_1 rest_1 Pre_1 launch0 p0 e0 about1 theMethod args0 below0 :=
  ⟨lists_1, trivial, launch0.admits_env _ _ _, launch0.least_env, fairChoices_fair.cas, fairChoices_fair.clock, w_frames, w_args, w_heap, w_applies, trivial, trivial, w_case⟩
end start1
theorem witness_1 : WitnessClaimed_1 := ⟨start1.p0, start1.e0, start1.about1, start1.theMethod, start1.args0, start1.below0, start1.atStart⟩
end Jvm.Pilot.@@N@@
