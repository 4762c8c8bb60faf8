import JvmDerived
import JvmDerived.Pilot.@@N@@Statement
import JvmDerived.Pilot.@@N@@Code
set_option linter.unusedVariables false
set_option linter.unusedSimpArgs false
@@BLOCK:NumsL.lean.txt@@
namespace Jvm.RoadKit
open Sem ClassFile Op Lib Jvm.Stand Jvm.Free Jvm.LawKit
/-- from the frame f over T the run ends as R says -/
def Go (p : Program) (e : Env) (below : List Frame) (R : State → Outcome → Prop) (T : State) (f : JFrame) : Prop := ∃ s₂ o, Steps p.tables e below (T.setTop f) s₂ ∧ s₂.status = .running ∧ Ended s₂ below o ∧ R s₂ o
section New
variable {p : Program} {l : Launch} {e : Env} {R : Room} {s : State} {m : MethodId} {args : Array Value} {below : List Frame} {meth : Method} {c : Code} {T T' : State} {locs : List Loc} {cells slots : Nat} {K : State → Outcome → Prop} {f f' : JFrame}
theorem Go.start (q : f = f') (k : Go p e below K T f') : ∃ s₂ o, Steps p.tables e below (T.setTop f) s₂ ∧ s₂.status = .running ∧ Ended s₂ below o ∧ K s₂ o := q ▸ k
theorem Go.step (h : ∀ t, Steps p.tables e below (T'.setTop f') t → Steps p.tables e below (T.setTop f) t) (k : Go p e below K T' f') : Go p e below K T f := by
  obtain ⟨s₂, o, h1, h2⟩ := k
  exact ⟨s₂, o, h _ h1, h2⟩
theorem Go.fin {S2 : State} {o : Outcome} (hs : Steps p.tables e below (T.setTop f) S2) (h1 : S2.status = .running) (h2 : Ended S2 below o) (h3 : K S2 o) : Go p e below K T f := ⟨_, _, hs, h1, h2, h3⟩
theorem retI (X : Stand p l e R s m args below meth c T locs cells slots) (hx : p.tables.exec = Jvm.exec) {pc : Nat} {Ls : Array Slot} {z : Int32} {rest : List Value} (hret : meth.sig.returnType = some .int) (hd : decode c.code pc = .ok (.ireturn, 1)) {fs : List Frame}
    (hl : ∀ (f : JFrame) (acts : List Action), f.method = m → f.locked = none → f.entered = [] → (doReturn e (T.setTop f) acts (some (.int z))).1 = T.setFrames fs) : Steps p.tables e below (T.setTop (mkF m pc Ls (.int z :: rest))) (T.setFrames fs) := by
  have hm' : T.vm.method? m = some meth := X.method'
  have hn : narrow .int (.int z) = .int z := rfl
  show Steps p.tables e below (T.setTop { method := m, pc := pc, locals := Ls, stack := _ :: rest, locked := none }) _
  jvm_step X.here [X.here.top, hx, hd, hm', hret, hn]
  first | (intro acts; rw [hl _ acts rfl rfl rfl]) | rw [hl _ _ rfl rfl rfl]
  exact Steps.refl _
theorem own_retD (X : Stand p l e R s m args below meth c T locs cells slots) (hx : p.tables.exec = Jvm.exec) {pc : Nat} {Ls : Array Slot} {z : UInt64} {rest : List Value} (hret : meth.sig.returnType = some .double) (hd : decode c.code pc = .ok (.dreturn, 1)) {fs : List Frame}
    (hl : ∀ (f : JFrame) (acts : List Action), f.method = m → f.locked = none → f.entered = [] → (doReturn e (T.setTop f) acts (some (.double z))).1 = T.setFrames fs) : Steps p.tables e below (T.setTop (mkF m pc Ls (.double z :: rest))) (T.setFrames fs) := by
  have hm' : T.vm.method? m = some meth := X.method'
  have hn : narrow .double (.double z) = .double z := rfl
  show Steps p.tables e below (T.setTop { method := m, pc := pc, locals := Ls, stack := _ :: rest, locked := none }) _
  jvm_step X.here [X.here.top, hx, hd, hm', hret, hn]
  first | (intro acts; rw [hl _ acts rfl rfl rfl]) | rw [hl _ _ rfl rfl rfl]
  exact Steps.refl _
end New
end Jvm.RoadKit
namespace Jvm.RoadKit
open Sem Op Jvm.FP Jvm.FP.Core
/-- a double's worth, in units of the least double -/
def own_z (x : UInt64) : Int := zval b64 (val64 x)
theorem own_top : b64.tails * 2 ^ (b64.exps - 2) = 2 ^ 2098 := by decide +kernel
theorem own_fin_z {x : UInt64} (hn : val64 x ≠ .nan) (h : (own_z x).natAbs < 2 ^ 2098) : DFin x := by
  unfold own_z at h
  cases e : val64 x with
  | nan => exact absurd e hn
  | inf s =>
    exfalso
    rw [e] at h
    unfold zval at h
    rw [natAbs_signed] at h
    simp only [zmag] at h
    rw [own_top] at h
    exact Nat.lt_irrefl _ h
  | fin s c q => exact ⟨s, c, q, e⟩
theorem own_z_lt {x : UInt64} (h : DFin x) : (own_z x).natAbs < 2 ^ 2098 := by
  have q := h.zval_lt
  rw [own_top] at q
  unfold own_z zval
  rw [natAbs_signed]
  exact q
theorem own_signed_abs (n : Int) (k : Nat) : signed (decide (n < 0)) (n.natAbs * k) = n * (k : Int) := by
  rw [signed_mul]
  congr 1
  unfold signed
  by_cases h : n < 0 <;> simp [h] <;> omega
theorem own_rep (n : Int) (j : Nat) (hn : n.natAbs < 2 ^ 53) (hj : j ≤ 2045) : ∃ V, DFin V ∧ own_z V = n * ((2 ^ j : Nat) : Int) := by
  have q1 : b64.qmin = -1074 := qmin_b64
  have q2 : b64.qmax = 971 := by decide
  obtain ⟨c', q', h1, h2⟩ := round_exact good_b64 (decide (n < 0)) (c := n.natAbs) (q := (j : Int) - 1074) hn (by omega) (by omega)
  have hf : Core.fits b64 (Datum.fin (decide (n < 0)) c' q') := h1 ▸ round_fits good_b64 _
  refine ⟨of64 (Datum.fin (decide (n < 0)) c' q'), ⟨_, _, _, val64_of64 hf⟩, ?_⟩
  unfold own_z
  rw [val64_of64 hf]
  show signed (decide (n < 0)) (inUnits c' q' b64.qmin) = _
  rw [h2]
  unfold inUnits
  rw [show ((j : Int) - 1074 - b64.qmin).toNat = j by omega]
  exact own_signed_abs n _
theorem own_cmp {a b : UInt64} (ha : DFin a) (hb : DFin b) : FP.dcmp a b = some (compare (own_z a) (own_z b)) := dcmp_zval ha.ne_nan hb.ne_nan
theorem own_add_le {a b V : UInt64} (ha : DFin a) (hb : DFin b) (hV : DFin V) (h : own_z a + own_z b ≤ own_z V) : own_z (FP.dadd a b) ≤ own_z V := by
  show zval b64 (val64 (Core.dadd a b)) ≤ _
  rw [val64_dadd]
  exact sum_le good_b64 ha hb (val64_fits a) (val64_fits b) (val64_fits V) hV.ne_nan h
theorem own_add_ge {a b V : UInt64} (ha : DFin a) (hb : DFin b) (hV : DFin V) (h : own_z V ≤ own_z a + own_z b) : own_z V ≤ own_z (FP.dadd a b) := by
  show _ ≤ zval b64 (val64 (Core.dadd a b))
  rw [val64_dadd]
  exact sum_ge good_b64 ha hb (val64_fits a) (val64_fits b) (val64_fits V) hV.ne_nan h
theorem own_neg_fin {b : UInt64} (hb : DFin b) : ∃ s c q, negate (val64 b) = .fin s c q := by
  obtain ⟨s, c, q, h⟩ := hb
  exact ⟨!s, c, q, by rw [h]; rfl⟩
theorem own_sub_le {a b V : UInt64} (ha : DFin a) (hb : DFin b) (hV : DFin V) (h : own_z a - own_z b ≤ own_z V) : own_z (FP.dsub a b) ≤ own_z V := by
  show zval b64 (val64 (Core.dsub a b)) ≤ _
  rw [val64_dsub]
  refine sum_le good_b64 ha (own_neg_fin hb) (val64_fits a) (negate_fits (val64_fits b)) (val64_fits V) hV.ne_nan ?_
  rw [zval_negate]; exact h
theorem own_sub_ge {a b V : UInt64} (ha : DFin a) (hb : DFin b) (hV : DFin V) (h : own_z V ≤ own_z a - own_z b) : own_z V ≤ own_z (FP.dsub a b) := by
  show _ ≤ zval b64 (val64 (Core.dsub a b))
  rw [val64_dsub]
  refine sum_ge good_b64 ha (own_neg_fin hb) (val64_fits a) (negate_fits (val64_fits b)) (val64_fits V) hV.ne_nan ?_
  rw [zval_negate]; exact h
theorem own_mul_le {a b V : UInt64} (ha : DFin a) (hb : DFin b) (hV : DFin V) (h : own_z a * own_z b ≤ own_z V * ((2 ^ 1074 : Nat) : Int)) : own_z (FP.dmul a b) ≤ own_z V := by
  obtain ⟨s, c, q, e1⟩ := ha
  obtain ⟨t, d, r, e2⟩ := hb
  have f1 := val64_fits a; rw [e1] at f1
  have f2 := val64_fits b; rw [e2] at f2
  obtain ⟨h1, h2, h3⟩ := product_units f1 f2
  have q1 : b64.qmin = -1074 := qmin_b64
  show zval b64 (val64 (Core.dmul a b)) ≤ zval b64 (val64 V)
  rw [val64_dmul, e1, e2, h1]
  refine zval_round_le good_b64 (val64_fits V) hV.ne_nan (e0 := 2 * b64.qmin) (by omega) h2 ?_
  rw [h3, signed_xor, show (b64.qmin - 2 * b64.qmin).toNat = 1074 by omega]
  unfold own_z at h
  rw [e1, e2] at h
  exact h
theorem own_mul_ge {a b V : UInt64} (ha : DFin a) (hb : DFin b) (hV : DFin V) (h : own_z V * ((2 ^ 1074 : Nat) : Int) ≤ own_z a * own_z b) : own_z V ≤ own_z (FP.dmul a b) := by
  obtain ⟨s, c, q, e1⟩ := ha
  obtain ⟨t, d, r, e2⟩ := hb
  have f1 := val64_fits a; rw [e1] at f1
  have f2 := val64_fits b; rw [e2] at f2
  obtain ⟨h1, h2, h3⟩ := product_units f1 f2
  have q1 : b64.qmin = -1074 := qmin_b64
  show zval b64 (val64 V) ≤ zval b64 (val64 (Core.dmul a b))
  rw [val64_dmul, e1, e2, h1]
  refine zval_round_ge good_b64 (val64_fits V) hV.ne_nan (e0 := 2 * b64.qmin) (by omega) h2 ?_
  rw [h3, signed_xor, show (b64.qmin - 2 * b64.qmin).toNat = 1074 by omega]
  unfold own_z at h
  rw [e1, e2] at h
  exact h
theorem own_div_le {a b V : UInt64} (ha : DFin a) (hb : DFin b) (hp : 0 < own_z b) (hV : DFin V) (h : own_z a * ((2 ^ 1074 : Nat) : Int) ≤ own_z V * own_z b) : own_z (FP.ddiv a b) ≤ own_z V := by
  obtain ⟨s, c, q, e1⟩ := ha
  obtain ⟨t, d, r, e2⟩ := hb
  have f1 := val64_fits a; rw [e1] at f1
  have f2 := val64_fits b; rw [e2] at f2
  have g1 := f1.2.1
  have g2 := f2.2.1
  have q1 : b64.qmin = -1074 := qmin_b64
  unfold own_z at h hp
  rw [e1, e2] at h
  rw [e2] at hp
  obtain ⟨hs, hm⟩ := signed_pos hp
  have ht : t = false := by cases t with
    | false => rfl
    | true => exfalso; have : signed true (zmag b64 (.fin true d r)) ≤ 0 := by simp [signed]
              exact absurd hp (by show ¬ 0 < signed true _; omega)
  subst ht
  have hd : 0 < d := by
    rcases Nat.eq_zero_or_pos d with z | z
    · exfalso; subst z
      simp [zmag, inUnits, sgn] at hm
    · exact z
  show zval b64 (val64 (Core.ddiv a b)) ≤ zval b64 (val64 V)
  rw [val64_ddiv, e1, e2]
  have eq0 : quotient b64 (.fin s c q) (.fin false d r) = roundRatio b64 s c d (q - r) := by
    show (if d = 0 then _ else roundRatio b64 (s != false) c d (q - r)) = _
    rw [if_neg (by omega)]; cases s <;> rfl
  rw [eq0]
  have hle := zmag_roundRatio_le good_b64 (s := s) (A := c) (B := d) (e := q - r) (e0 := 2 * b64.qmin - r) (V := val64 V) hd (val64_fits V) hV.ne_nan (by omega) (by omega)
  have hge := zmag_roundRatio_ge good_b64 (s := s) (A := c) (B := d) (e := q - r) (e0 := 2 * b64.qmin - r) (V := val64 V) hd (val64_fits V) (by omega) (by omega)
  have u1 : inUnits c (q - r) (2 * b64.qmin - r) = zmag b64 (.fin s c q) * 2 ^ 1074 := by
    show _ = inUnits c q b64.qmin * 2 ^ 1074
    unfold inUnits
    rw [Nat.mul_assoc, ← Nat.pow_add]; congr 2; omega
  have u2 : zmag b64 (val64 V) * 2 ^ (b64.qmin - (2 * b64.qmin - r)).toNat * d = zmag b64 (val64 V) * zmag b64 (.fin false d r) := by
    show _ = _ * inUnits d r b64.qmin
    unfold inUnits
    rw [Nat.mul_assoc, Nat.mul_comm (2 ^ _) d]; congr 3; omega
  rw [u1, u2] at hle hge
  unfold zval at h ⊢
  rw [sgn_roundRatio]
  rw [show sgn (Datum.fin s c q) = s from rfl, show sgn (Datum.fin false d r) = false from rfl] at h
  rw [← signed_mul, show signed false (zmag b64 (.fin false d r)) = ((zmag b64 (.fin false d r) : Nat) : Int) from rfl, ← signed_mul] at h
  have hz : zmag b64 (val64 V) * zmag b64 (.fin false d r) = 0 → zmag b64 (val64 V) = 0 := fun h => by
    rcases Nat.mul_eq_zero.mp h with h | h
    · exact h
    · have : 0 < zmag b64 (.fin false d r) := by
        show 0 < inUnits d r b64.qmin
        unfold inUnits; exact Nat.mul_pos hd (Nat.two_pow_pos _)
      omega
  generalize zmag b64 (val64 V) * zmag b64 (.fin false d r) = vP at *
  generalize zmag b64 (.fin s c q) * 2 ^ 1074 = aP at *
  generalize sgn (val64 V) = t at *
  cases s <;> cases t <;> simp only [signed, if_true, Bool.false_eq_true, if_false] at h ⊢
  · have := hle (by omega); omega
  · have := hle (by omega); have := hz (by omega); omega
  · omega
  · have := hge (by omega); omega
theorem own_zneg {x y : UInt64} (h : val64 y = negate (val64 x)) : own_z y = - own_z x := by unfold own_z; rw [h, zval_negate]
theorem own_dneg_fin {x : UInt64} (h : DFin x) : DFin (Core.dneg x) ∧ own_z (Core.dneg x) = - own_z x := by
  refine ⟨?_, own_zneg (Core.val64_dneg x)⟩
  obtain ⟨s, c, q, e⟩ := own_neg_fin h
  exact ⟨s, c, q, by rw [Core.val64_dneg]; exact e⟩
theorem own_div_ge {a b V : UInt64} (ha : DFin a) (hb : DFin b) (hp : 0 < own_z b) (hV : DFin V) (h : own_z V * own_z b ≤ own_z a * ((2 ^ 1074 : Nat) : Int)) : own_z V ≤ own_z (FP.ddiv a b) := by
  have q := own_div_le (own_dneg_fin ha).1 hb hp (own_dneg_fin hV).1 (by rw [(own_dneg_fin ha).2, (own_dneg_fin hV).2, Int.neg_mul, Int.neg_mul]; omega)
  have e : FP.ddiv (Core.dneg a) b = Core.dneg (FP.ddiv a b) := ddiv_dneg a b
  rw [e, own_zneg (Core.val64_dneg _), (own_dneg_fin hV).2] at q
  omega
/-- a sum, a difference, a product, a quotient that is a double comes out exactly -/
theorem own_addx {a b V : UInt64} (ha : DFin a) (hb : DFin b) (hV : DFin V) (h : own_z a + own_z b = own_z V) : DFin (FP.dadd a b) ∧ own_z (FP.dadd a b) = own_z V := by
  have e : own_z (FP.dadd a b) = own_z V := Int.le_antisymm (own_add_le ha hb hV (Int.le_of_eq h)) (own_add_ge ha hb hV (Int.le_of_eq h.symm))
  exact ⟨own_fin_z ((notNaN_iff _).mp (dadd_out ha.notNaN hb)) (by rw [e]; exact own_z_lt hV), e⟩
theorem own_subx {a b V : UInt64} (ha : DFin a) (hb : DFin b) (hV : DFin V) (h : own_z a - own_z b = own_z V) : DFin (FP.dsub a b) ∧ own_z (FP.dsub a b) = own_z V := by
  have e : own_z (FP.dsub a b) = own_z V := Int.le_antisymm (own_sub_le ha hb hV (Int.le_of_eq h)) (own_sub_ge ha hb hV (Int.le_of_eq h.symm))
  exact ⟨own_fin_z ((notNaN_iff _).mp (dsub_out ha.notNaN hb)) (by rw [e]; exact own_z_lt hV), e⟩
theorem own_mulx {a b V : UInt64} (ha : DFin a) (hb : DFin b) (hV : DFin V) (h : own_z a * own_z b = own_z V * ((2 ^ 1074 : Nat) : Int)) : DFin (FP.dmul a b) ∧ own_z (FP.dmul a b) = own_z V := by
  have e : own_z (FP.dmul a b) = own_z V := Int.le_antisymm (own_mul_le ha hb hV (Int.le_of_eq h)) (own_mul_ge ha hb hV (Int.le_of_eq h.symm))
  exact ⟨own_fin_z ((notNaN_iff _).mp (dmul_out ha hb)) (by rw [e]; exact own_z_lt hV), e⟩
theorem own_nz {b : UInt64} (hp : 0 < own_z b) : ¬ DZero b := fun ⟨s, q, e⟩ => by
  unfold own_z at hp; rw [e] at hp
  simp [zval, zmag, inUnits, sgn, signed] at hp
theorem own_divx {a b V : UInt64} (ha : DFin a) (hb : DFin b) (hp : 0 < own_z b) (hV : DFin V) (h : own_z a * ((2 ^ 1074 : Nat) : Int) = own_z V * own_z b) : DFin (FP.ddiv a b) ∧ own_z (FP.ddiv a b) = own_z V := by
  have e : own_z (FP.ddiv a b) = own_z V := Int.le_antisymm (own_div_le ha hb hp hV (Int.le_of_eq h)) (own_div_ge ha hb hp hV (Int.le_of_eq h.symm))
  exact ⟨own_fin_z ((notNaN_iff _).mp (ddiv_out ha.notNaN hb (own_nz hp))) (by rw [e]; exact own_z_lt hV), e⟩
theorem own_z_int {i : Int} {a : UInt64} (h : DInt i a) : own_z a = i * ((2 ^ 1074 : Nat) : Int) := DInt_zval h
theorem own_i2d (a : Int32) : DFin (FP.i2d a) ∧ own_z (FP.i2d a) = a.toInt * ((2 ^ 1074 : Nat) : Int) := ⟨Core.i2d_fin a, own_z_int (i2d_int a)⟩
theorem own_l2d {a : Int64} (h : a.toInt.natAbs ≤ 2 ^ 53) : DFin (FP.l2d a) ∧ own_z (FP.l2d a) = a.toInt * ((2 ^ 1074 : Nat) : Int) := ⟨Core.l2d_fin a, own_z_int (l2d_int h)⟩
/-- x is the number n / 2^k -/
def own_Is (x : UInt64) (n : Int) (k : Nat) : Prop := DFin x ∧ own_z x = n * ((2 ^ (1074 - k) : Nat) : Int)
theorem own_Is.nn {x : UInt64} {n : Int} {k : Nat} (h : own_Is x n k) : Jvm.Free.Fl.NoNaN64 x := (Jvm.Free.Fl.fin64_core.mpr h.1).noNaN
theorem own_Is.add {a b : UInt64} {n m : Int} {k : Nat} (ha : own_Is a n k) (hb : own_Is b m k) (h : (n + m).natAbs < 2 ^ 53) : own_Is (FP.dadd a b) (n + m) k := by
  obtain ⟨V, v1, v2⟩ := own_rep (n + m) (1074 - k) h (by omega)
  have q := own_addx ha.1 hb.1 v1 (by rw [ha.2, hb.2, v2, Int.add_mul])
  exact ⟨q.1, q.2.trans v2⟩
theorem own_Is.sub {a b : UInt64} {n m : Int} {k : Nat} (ha : own_Is a n k) (hb : own_Is b m k) (h : (n - m).natAbs < 2 ^ 53) : own_Is (FP.dsub a b) (n - m) k := by
  obtain ⟨V, v1, v2⟩ := own_rep (n - m) (1074 - k) h (by omega)
  have q := own_subx ha.1 hb.1 v1 (by rw [ha.2, hb.2, v2, Int.sub_mul])
  exact ⟨q.1, q.2.trans v2⟩
theorem own_Is.mul {a b : UInt64} {n m : Int} {k j : Nat} (ha : own_Is a n k) (hb : own_Is b m j) (h : (n * m).natAbs < 2 ^ 53) (hk : k + j ≤ 1074) : own_Is (FP.dmul a b) (n * m) (k + j) := by
  obtain ⟨V, v1, v2⟩ := own_rep (n * m) (1074 - (k + j)) h (by omega)
  have e : 2 ^ (1074 - k) * 2 ^ (1074 - j) = 2 ^ (1074 - (k + j)) * 2 ^ 1074 := by rw [← Nat.pow_add, ← Nat.pow_add]; congr 1; omega
  have q := own_mulx ha.1 hb.1 v1 (by
    rw [ha.2, hb.2, v2, Int.mul_assoc (n * m), ← Int.natCast_mul, ← e, Int.natCast_mul]
    generalize ((2 ^ (1074 - k) : Nat) : Int) = A
    generalize ((2 ^ (1074 - j) : Nat) : Int) = B
    simp only [Int.mul_assoc, Int.mul_left_comm, Int.mul_comm])
  exact ⟨q.1, q.2.trans v2⟩
theorem own_Is.div2 {a b : UInt64} {n : Int} {k t : Nat} (ha : own_Is a n k) (hb : own_Is b ((2 ^ t : Nat) : Int) 0) (h : n.natAbs < 2 ^ 53) (hk : k + t ≤ 1074) : own_Is (FP.ddiv a b) n (k + t) := by
  obtain ⟨V, v1, v2⟩ := own_rep n (1074 - (k + t)) h (by omega)
  have hp : 0 < own_z b := by
    rw [hb.2, ← Int.natCast_mul]
    have := Nat.mul_pos (Nat.two_pow_pos t) (Nat.two_pow_pos (1074 - 0)); omega
  have e : 2 ^ (1074 - k) = 2 ^ (1074 - (k + t)) * 2 ^ t := by rw [← Nat.pow_add]; congr 1; omega
  have q := own_divx ha.1 hb.1 hp v1 (by
    rw [ha.2, hb.2, v2, e, Int.natCast_mul]
    show _ = _ * (_ * ((2 ^ 1074 : Nat) : Int))
    generalize ((2 ^ (1074 - (k + t)) : Nat) : Int) = A
    generalize ((2 ^ t : Nat) : Int) = B
    generalize ((2 ^ 1074 : Nat) : Int) = D
    simp only [Int.mul_assoc])
  exact ⟨q.1, q.2.trans v2⟩
theorem own_mul_lt {n m : Int} {D : Nat} (hD : 0 < D) : (n * (D : Int) < m * (D : Int) ↔ n < m) := by
  have : (0 : Int) < (D : Int) := by omega
  exact ⟨fun h => Int.lt_of_mul_lt_mul_right h (Int.le_of_lt this), fun h => Int.mul_lt_mul_of_pos_right h this⟩
theorem own_Is.cmp {a b : UInt64} {n m : Int} {k : Nat} (ha : own_Is a n k) (hb : own_Is b m k) : FP.dcmp a b = some (compare n m) := by
  rw [own_cmp ha.1 hb.1, ha.2, hb.2, compare_mul_pos _ _ _ (by have := Nat.two_pow_pos (1074 - k); omega)]
theorem own_Is.cv {a b : UInt64} {n m : Int} {k : Nat} (ha : own_Is a n k) (hb : own_Is b m k) (o : ClassFile.CmpOp) : (cmpValue (FP.dcmp a b) o < (0 : Int32) ↔ n < m) ∧ ((0 : Int32) < cmpValue (FP.dcmp a b) o ↔ m < n) ∧ (cmpValue (FP.dcmp a b) o = (0 : Int32) ↔ n = m) := by
  rw [ha.cmp hb, compare_ite]
  by_cases h1 : n < m
  · rw [if_pos h1]; cases o <;> refine ⟨⟨fun q => ?_, fun q => ?_⟩, ⟨fun q => ?_, fun q => ?_⟩, ⟨fun q => ?_, fun q => ?_⟩⟩ <;> first | omega | decide | exact absurd q (by decide)
  · rw [if_neg h1]
    by_cases h2 : n = m
    · rw [if_pos h2]; cases o <;> refine ⟨⟨fun q => ?_, fun q => ?_⟩, ⟨fun q => ?_, fun q => ?_⟩, ⟨fun q => ?_, fun q => ?_⟩⟩ <;> first | omega | decide | exact absurd q (by decide)
    · rw [if_neg h2]; cases o <;> refine ⟨⟨fun q => ?_, fun q => ?_⟩, ⟨fun q => ?_, fun q => ?_⟩, ⟨fun q => ?_, fun q => ?_⟩⟩ <;> first | omega | decide | exact absurd q (by decide)
theorem own_Is.i2d (a : Int32) : own_Is (FP.i2d a) a.toInt 0 := own_i2d a
theorem own_Is.l2d {a : Int64} (h : a.toInt.natAbs ≤ 2 ^ 53) : own_Is (FP.l2d a) a.toInt 0 := own_l2d h
theorem own_Is.up {a : UInt64} {n : Int} {k : Nat} (h : own_Is a n k) (j : Nat) (hj : k + j ≤ 1074) : own_Is a (n * ((2 ^ j : Nat) : Int)) (k + j) := by
  refine ⟨h.1, h.2.trans ?_⟩
  rw [Int.mul_assoc, ← Int.natCast_mul, ← Nat.pow_add]; congr 3; omega
theorem own_Is.zero (k : Nat) : own_Is FP.dconst0 0 k := ⟨(fin_bits _).mpr (by decide), by rw [Int.zero_mul]; exact zval64_zero⟩
end Jvm.RoadKit
namespace Jvm.RoadKit
open Sem Op Jvm.FP Jvm.FP.Core
theorem own_iu (c : Nat) {q e0 : Int} (h0 : e0 ≤ b64.qmin) (h : b64.qmin ≤ q) : inUnits c q e0 = inUnits c q b64.qmin * 2 ^ (b64.qmin - e0).toNat := inUnits_move c h0 h
theorem own_zmag_sign (s t : Bool) (A : Nat) (e : Int) : zmag b64 (roundRatio b64 s A 1 e) = zmag b64 (roundRatio b64 t A 1 e) := by
  have q := negate_roundRatio b64 s A 1 e
  have z : ∀ d : Datum, zmag b64 (negate d) = zmag b64 d := fun d => by cases d <;> rfl
  by_cases h : s = t
  · rw [h]
  · have : t = !s := by cases s <;> cases t <;> simp_all
    rw [this, ← q, z]
theorem own_same_val {s : Bool} {A1 A2 : Nat} {e1 e2 e0 : Int} (h1 : e0 ≤ e1) (h2 : e0 ≤ e2) (h : inUnits A1 e1 e0 = inUnits A2 e2 e0) : roundRatio b64 s A1 1 e1 = roundRatio b64 s A2 1 e2 := by
  refine roundRatio_congr (by decide) (by decide) ?_
  unfold inUnits at h
  rw [Nat.mul_one, Nat.mul_one]
  by_cases q : e1 ≤ e2
  · rw [show (e1 - e2).toNat = 0 by omega, Nat.pow_zero, Nat.mul_one]
    rw [show (e2 - e0).toNat = (e2 - e1).toNat + (e1 - e0).toNat by omega, Nat.pow_add, ← Nat.mul_assoc] at h
    exact Nat.eq_of_mul_eq_mul_right (Nat.two_pow_pos _) h
  · rw [show (e2 - e1).toNat = 0 by omega, Nat.pow_zero, Nat.mul_one]
    rw [show (e1 - e0).toNat = (e1 - e2).toNat + (e2 - e0).toNat by omega, Nat.pow_add, ← Nat.mul_assoc] at h
    exact Nat.eq_of_mul_eq_mul_right (Nat.two_pow_pos _) h
theorem own_mono_mag {s1 s2 : Bool} {A1 A2 c1 c2 : Nat} {e1 e2 q1 q2 e0 : Int} (hR1 : roundRatio b64 s1 A1 1 e1 = .fin s1 c1 q1) (hR2 : roundRatio b64 s2 A2 1 e2 = .fin s2 c2 q2) (h0 : e0 ≤ b64.qmin) (h1 : e0 ≤ e1) (h2 : e0 ≤ e2) (h : inUnits A1 e1 e0 ≤ inUnits A2 e2 e0) :
    inUnits c1 q1 b64.qmin ≤ inUnits c2 q2 b64.qmin := by
  have f1 : Core.fits b64 (.fin s1 c1 q1) := hR1 ▸ roundRatio_fits good_b64 s1 A1 (by decide) e1
  have f2 : Core.fits b64 (.fin s2 c2 q2) := hR2 ▸ roundRatio_fits good_b64 s2 A2 (by decide) e2
  refine Nat.le_of_not_lt fun hlt => ?_
  have n1 := roundRatio_nearest good_b64 (by decide) hR1 f2.1 f2.2.1 h0 h1
  have n2 := roundRatio_nearest good_b64 (by decide) hR2 f1.1 f1.2.1 h0 h2
  unfold distance at n1 n2
  rw [own_iu c1 h0 f1.2.1, own_iu c2 h0 f2.2.1] at n1 n2
  have hP := Nat.two_pow_pos (b64.qmin - e0).toNat
  have hlt' : inUnits c2 q2 b64.qmin * 2 ^ (b64.qmin - e0).toNat < inUnits c1 q1 b64.qmin * 2 ^ (b64.qmin - e0).toNat := Nat.mul_lt_mul_of_pos_right hlt hP
  have key : inUnits A1 e1 e0 = inUnits A2 e2 e0 := by
    generalize inUnits c2 q2 b64.qmin * 2 ^ (b64.qmin - e0).toNat = v at *
    generalize inUnits c1 q1 b64.qmin * 2 ^ (b64.qmin - e0).toNat = u at *
    generalize inUnits A1 e1 e0 = x at *
    generalize inUnits A2 e2 e0 = y at *
    omega
  have e := own_same_val (s := s1) h1 h2 key
  have z := own_zmag_sign s1 s2 A2 e2
  rw [← e, hR1, hR2] at z
  have : inUnits c1 q1 b64.qmin = inUnits c2 q2 b64.qmin := z
  omega
theorem own_iu0 {A : Nat} {e e0 : Int} (h : inUnits A e e0 = 0) : A = 0 := by
  unfold inUnits at h
  rcases Nat.mul_eq_zero.mp h with h | h
  · exact h
  · have := Nat.two_pow_pos (e - e0).toNat; omega
theorem own_mono {s1 s2 : Bool} {A1 A2 c1 c2 : Nat} {e1 e2 q1 q2 e0 : Int} (hR1 : roundRatio b64 s1 A1 1 e1 = .fin s1 c1 q1) (hR2 : roundRatio b64 s2 A2 1 e2 = .fin s2 c2 q2) (h0 : e0 ≤ b64.qmin) (h1 : e0 ≤ e1) (h2 : e0 ≤ e2) (h : signed s1 (inUnits A1 e1 e0) ≤ signed s2 (inUnits A2 e2 e0)) :
    signed s1 (inUnits c1 q1 b64.qmin) ≤ signed s2 (inUnits c2 q2 b64.qmin) := by
  have a := own_mono_mag hR1 hR2 h0 h1 h2
  have b := own_mono_mag hR2 hR1 h0 h2 h1
  cases s1 <;> cases s2 <;> simp only [signed, if_true, Bool.false_eq_true, if_false] at h ⊢
  · have := a (by omega); omega
  · have z1 : inUnits A1 e1 e0 = 0 := by omega
    have z2 : inUnits A2 e2 e0 = 0 := by omega
    have w1 := own_iu0 z1
    have w2 := own_iu0 z2
    subst w1 w2
    have g1 : roundRatio b64 false 0 1 e1 = .fin false 0 b64.qmin := if_pos rfl
    have g2 : roundRatio b64 true 0 1 e2 = .fin true 0 b64.qmin := if_pos rfl
    rw [g1] at hR1; rw [g2] at hR2
    cases hR1; cases hR2
    simp [inUnits]
  · omega
  · have := b (by omega); omega
/-- how a finite double came of a rounding: its sign, the exact number in units of 2^e0 -/
def own_Rd (x : UInt64) (N : Int) (e0 : Int) : Prop := ∃ s A e, val64 x = roundRatio b64 s A 1 e ∧ e0 ≤ e ∧ signed s (inUnits A e e0) = N
theorem own_rr_fin {x : UInt64} (hx : DFin x) {s : Bool} {A : Nat} {e : Int} (h : val64 x = roundRatio b64 s A 1 e) : ∃ c q, roundRatio b64 s A 1 e = .fin s c q ∧ own_z x = signed s (inUnits c q b64.qmin) := by
  obtain ⟨s', c, q, hv⟩ := hx
  have hs : s' = s := by
    have := sgn_roundRatio b64 s A 1 e
    rw [← h, hv] at this; exact this
  subst hs
  refine ⟨c, q, by rw [← h, hv], ?_⟩
  unfold own_z; rw [hv]; rfl
theorem own_Rd.le {x y : UInt64} {N M e0 : Int} (hx : DFin x) (hy : DFin y) (rx : own_Rd x N e0) (ry : own_Rd y M e0) (h0 : e0 ≤ b64.qmin) (h : N ≤ M) : own_z x ≤ own_z y := by
  obtain ⟨s1, A1, e1, v1, l1, u1⟩ := rx
  obtain ⟨s2, A2, e2, v2, l2, u2⟩ := ry
  obtain ⟨c1, q1, r1, z1⟩ := own_rr_fin hx v1
  obtain ⟨c2, q2, r2, z2⟩ := own_rr_fin hy v2
  rw [z1, z2]
  exact own_mono r1 r2 h0 l1 l2 (by rw [u1, u2]; exact h)
theorem own_Rd.eq {x y : UInt64} {N e0 : Int} (hx : DFin x) (hy : DFin y) (rx : own_Rd x N e0) (ry : own_Rd y N e0) (h0 : e0 ≤ b64.qmin) : own_z x = own_z y := Int.le_antisymm (own_Rd.le hx hy rx ry h0 (Int.le_refl _)) (own_Rd.le hy hx ry rx h0 (Int.le_refl _))
theorem own_Rd.mul {a b : UInt64} (ha : DFin a) (hb : DFin b) : own_Rd (FP.dmul a b) (own_z a * own_z b) (2 * b64.qmin) := by
  obtain ⟨s, c, q, e1⟩ := ha
  obtain ⟨t, d, r, e2⟩ := hb
  have f1 := val64_fits a; rw [e1] at f1
  have f2 := val64_fits b; rw [e2] at f2
  obtain ⟨h1, h2, h3⟩ := product_units f1 f2
  refine ⟨s != t, c * d, q + r, ?_, h2, ?_⟩
  · show val64 (Core.dmul a b) = _
    rw [val64_dmul, e1, e2, h1]; rfl
  · rw [h3, signed_xor]; unfold own_z; rw [e1, e2]; rfl
theorem own_Rd.add {a b : UInt64} (ha : DFin a) (hb : DFin b) : own_Rd (FP.dadd a b) (own_z a + own_z b) b64.qmin := by
  obtain ⟨s, c, q, e1⟩ := ha
  obtain ⟨t, d, r, e2⟩ := hb
  have f1 := val64_fits a; rw [e1] at f1
  have f2 := val64_fits b; rw [e2] at f2
  obtain ⟨sg, n, e, h1, h2, h3⟩ := sum_units f1 f2
  refine ⟨sg, n, e, ?_, h2, ?_⟩
  · show val64 (Core.dadd a b) = _
    rw [val64_dadd, e1, e2, h1]; rfl
  · rw [h3]; unfold own_z; rw [e1, e2]
theorem own_Rd.sub {a b : UInt64} (ha : DFin a) (hb : DFin b) : own_Rd (FP.dsub a b) (own_z a - own_z b) b64.qmin := by
  obtain ⟨s, c, q, e1⟩ := ha
  obtain ⟨t, d, r, e2⟩ := hb
  have f1 := val64_fits a; rw [e1] at f1
  have f2 := val64_fits b; rw [e2] at f2
  have f2' : Core.fits b64 (.fin (!t) d r) := f2
  obtain ⟨sg, n, e, h1, h2, h3⟩ := sum_units f1 f2'
  refine ⟨sg, n, e, ?_, h2, ?_⟩
  · show val64 (Core.dsub a b) = _
    rw [val64_dsub, e1, e2]
    show round b64 (exactSum (.fin s c q) (.fin (!t) d r)) = _
    rw [h1]; rfl
  · rw [h3]; unfold own_z; rw [e1, e2]
    have : zval b64 (.fin (!t) d r) = - zval b64 (.fin t d r) := zval_negate b64 (.fin t d r)
    rw [this]; omega
theorem own_Rd.l2d (n : Int64) {e0 : Int} {k : Nat} (h0 : e0 = -(k : Int)) : own_Rd (FP.l2d n) (n.toInt * ((2 ^ k : Nat) : Int)) e0 := by
  refine ⟨decide (n.toInt < 0), n.toInt.natAbs, 0, ?_, by omega, ?_⟩
  · show val64 (Core.l2d n) = _
    rw [val64_l2d]; rfl
  · unfold inUnits
    rw [show (0 - e0).toNat = k by omega]
    exact own_signed_abs _ _
theorem own_scale {s : Bool} {n : Nat} {q : Int} (hn : n ≠ 0) (hb : n < 2 ^ 100) (h1 : -900 ≤ q) (h2 : q ≤ 100) : ∃ c Q, b64.qmin ≤ Q ∧ roundRatio b64 s n 1 q = .fin s c Q ∧ roundRatio b64 s n 1 (q + 1) = .fin s c (Q + 1) := by
  have q1 : b64.qmin = -1074 := qmin_b64
  have q2 : b64.qmax = 971 := by decide
  have p1 : ((b64.p : Nat) : Int) = 53 := by decide
  have lg : n.log2 < 100 := (Nat.log2_lt hn).mpr hb
  have L : ∃ L : Int, leading n 1 = L ∧ -1 ≤ L ∧ L ≤ 100 := by
    refine ⟨_, rfl, ?_, ?_⟩ <;> (unfold leading; simp only [show Nat.log2 1 = 0 by decide]; split <;> omega)
  obtain ⟨L, eL, l1, l2⟩ := L
  have Q1 : quantum b64 n 1 q = L + q - 52 := by unfold quantum; rw [eL, p1]; omega
  have Q2 : quantum b64 n 1 (q + 1) = L + q - 52 + 1 := by unfold quantum; rw [eL, p1]; omega
  unfold roundRatio
  rw [if_neg hn, if_neg hn, Q1, Q2]
  unfold roundAt
  have u1 : unitsNum n (q + 1) (L + q - 52 + 1) = unitsNum n q (L + q - 52) := by unfold unitsNum; congr 2; omega
  have u2 : unitsDen 1 (q + 1) (L + q - 52 + 1) = unitsDen 1 q (L + q - 52) := by unfold unitsDen; congr 2; omega
  rw [u1, u2]
  generalize nearest (unitsNum n q (L + q - 52)) (unitsDen 1 q (L + q - 52)) = m
  unfold settle bound
  by_cases hm : m < 2 ^ b64.p
  · rw [if_pos hm, if_pos hm, if_pos (by omega), if_pos (by omega)]
    exact ⟨m, L + q - 52, by omega, rfl, rfl⟩
  · rw [if_neg hm, if_neg hm, if_pos (by omega), if_pos (by omega)]
    exact ⟨b64.tails, L + q - 52 + 1, by omega, rfl, rfl⟩
/-- the rounding of half of a whole number is half of its rounding -/
theorem own_half {x : UInt64} {t : Int64} (hx : DFin x) (ht : t.toInt ≠ 0) (rx : own_Rd x (t.toInt * ((2 ^ 2147 : Nat) : Int)) (2 * b64.qmin)) : own_z x * 2 = own_z (FP.l2d t) := by
  have q1 : b64.qmin = -1074 := qmin_b64
  obtain ⟨s, A, e, v, l, u⟩ := rx
  have e0 : 2 * b64.qmin = -2148 := by omega
  rw [e0] at l u
  have hA : A ≠ 0 := fun z => by
    subst z
    rw [show inUnits 0 e (-2148) = 0 by unfold inUnits; simp, signed_zero] at u
    have := Nat.two_pow_pos 2147
    rcases Int.mul_eq_zero.mp u.symm with h | h
    · exact ht h
    · omega
  have hs : s = decide (t.toInt < 0) := by
    have hp : 0 < inUnits A e (-2148) := by unfold inUnits; exact Nat.mul_pos (by omega) (Nat.two_pow_pos _)
    have d := signed_lt_zero s hp
    rw [u] at d
    rw [← d, decide_eq_decide]
    have := Nat.two_pow_pos 2147
    have pp : (0 : Int) < ((2 ^ 2147 : Nat) : Int) := by omega
    constructor
    · intro h; exact Int.lt_of_mul_lt_mul_right (by rw [Int.zero_mul]; exact h) (Int.le_of_lt pp)
    · intro h; exact Int.mul_neg_of_neg_of_pos h pp
  have hu : inUnits A e (-2148) = inUnits t.toInt.natAbs (-1) (-2148) := by
    have := congrArg Int.natAbs u
    rw [natAbs_signed, Int.natAbs_mul, Int.natAbs_natCast] at this
    rw [this]; unfold inUnits; rfl
  have r1 := own_same_val (s := s) l (by omega) hu
  obtain ⟨c, Q, g0, g1, g2⟩ := own_scale (s := s) (n := t.toInt.natAbs) (q := -1) (by omega) (by have := int64_abs t; omega) (by omega) (by omega)
  have z1 : own_z x = signed s (inUnits c Q b64.qmin) := by unfold own_z; rw [v, r1, g1]; rfl
  have z2 : own_z (FP.l2d t) = signed s (inUnits c (Q + 1) b64.qmin) := by
    unfold own_z
    show zval b64 (val64 (Core.l2d t)) = _
    rw [val64_l2d]
    show zval b64 (roundRatio b64 (decide (t.toInt < 0)) t.toInt.natAbs 1 0) = _
    rw [← hs, show (0 : Int) = -1 + 1 by omega, g2]; rfl
  rw [z1, z2]
  have : inUnits c (Q + 1) b64.qmin = inUnits c Q b64.qmin * 2 := by
    unfold inUnits
    rw [show (Q + 1 - b64.qmin).toNat = (Q - b64.qmin).toNat + 1 by omega, Nat.pow_succ, Nat.mul_assoc]
  rw [this, signed_mul]; rfl
end Jvm.RoadKit
namespace Jvm.Pilot.@@N@@
open Jvm Jvm.ClassFile Sem Op Lib Jvm.Free Jvm.Stand Jvm.LawKit Jvm.RoadKit Bundle Jvm.Pilot.@@N@@.Jvm.D
section Fare
abbrev own_P : Int := ((2 ^ 1074 : Nat) : Int)
abbrev own_K : UInt64 := (4652007308841189376 : UInt64)
abbrev own_T : UInt64 := (4611686018427387904 : UInt64)
theorem own_K_is : own_Is own_K 1000 0 := ⟨(Jvm.FP.Core.fin_bits _).mpr (by decide), by decide +kernel⟩
theorem own_T_is : own_Is own_T 2 0 := ⟨(Jvm.FP.Core.fin_bits _).mpr (by decide), by decide +kernel⟩
theorem own_P_pos : 0 < own_P := by have := Nat.two_pow_pos 1074; show (0 : Int) < ((2 ^ 1074 : Nat) : Int); omega
theorem own_Kz : own_z own_K = 1000 * own_P := own_K_is.2
theorem own_Tz : own_z own_T = 2 * own_P := own_T_is.2
theorem own_PP : ((2 ^ 2148 : Nat) : Int) = own_P * own_P := by
  show _ = ((2 ^ 1074 : Nat) : Int) * ((2 ^ 1074 : Nat) : Int)
  rw [← Int.natCast_mul, ← Nat.pow_add]
theorem own_P3 : own_P = ((2 ^ 1073 : Nat) : Int) * 2 := by
  show ((2 ^ 1074 : Nat) : Int) = _
  rw [show (2 : Nat) ^ 1074 = 2 ^ 1073 * 2 from Nat.pow_succ .., Int.natCast_mul]; rfl
theorem own_P47 : ((2 ^ 2147 : Nat) : Int) = own_P * ((2 ^ 1073 : Nat) : Int) := by
  show _ = ((2 ^ 1074 : Nat) : Int) * _
  rw [← Int.natCast_mul, ← Nat.pow_add]
def own_Leg (rate : Int32) (d r : UInt64) : Prop := (rate.toInt = 0 ∧ r = FP.dconst0) ∨ (¬ rate.toInt = 0 ∧ r = FP.dmul (FP.i2d rate) (FP.ddiv d own_K))
theorem own_zcv {x y : UInt64} (hx : Jvm.FP.Core.DFin x) (hy : Jvm.FP.Core.DFin y) (o : CmpOp) : (cmpValue (FP.dcmp x y) o < (0 : Int32) ↔ own_z x < own_z y) ∧ ((0 : Int32) < cmpValue (FP.dcmp x y) o ↔ own_z y < own_z x) ∧ (cmpValue (FP.dcmp x y) o = (0 : Int32) ↔ own_z x = own_z y) := by
  rw [own_cmp hx hy, Jvm.FP.Core.compare_ite]
  by_cases h1 : own_z x < own_z y
  · rw [if_pos h1]; cases o <;> refine ⟨⟨fun q => ?_, fun q => ?_⟩, ⟨fun q => ?_, fun q => ?_⟩, ⟨fun q => ?_, fun q => ?_⟩⟩ <;> first | omega | decide | exact absurd q (by decide)
  · rw [if_neg h1]
    by_cases h2 : own_z x = own_z y
    · rw [if_pos h2]; cases o <;> refine ⟨⟨fun q => ?_, fun q => ?_⟩, ⟨fun q => ?_, fun q => ?_⟩, ⟨fun q => ?_, fun q => ?_⟩⟩ <;> first | omega | decide | exact absurd q (by decide)
    · rw [if_neg h2]; cases o <;> refine ⟨⟨fun q => ?_, fun q => ?_⟩, ⟨fun q => ?_, fun q => ?_⟩, ⟨fun q => ?_, fun q => ?_⟩⟩ <;> first | omega | decide | exact absurd q (by decide)
theorem own_nn {x : UInt64} (h : Jvm.FP.Core.DFin x) : Jvm.Free.Fl.NoNaN64 x := (Jvm.Free.Fl.fin64_core.mpr h).noNaN
theorem own_zero_fin : Jvm.FP.Core.DFin FP.dconst0 ∧ own_z FP.dconst0 = 0 := ⟨(own_Is.zero 0).1, by rw [(own_Is.zero 0).2, Int.zero_mul]⟩
theorem own_bound {x : UInt64} (hn : Jvm.FP.Core.val64 x ≠ .nan) {V W : UInt64} (hV : Jvm.FP.Core.DFin V) (hW : Jvm.FP.Core.DFin W) (h1 : own_z V ≤ own_z x) (h2 : own_z x ≤ own_z W) : Jvm.FP.Core.DFin x := by
  refine own_fin_z hn ?_
  have a := own_z_lt hV
  have b := own_z_lt hW
  generalize own_z x = X at *
  generalize own_z V = Y at *
  generalize own_z W = U at *
  generalize (2 : Nat) ^ 2098 = B at *
  omega
/-- a product of an int and a double between -2^33 and 2^33 is finite -/
theorem own_prod_fin {rate : Int32} {q : UInt64} (hq : Jvm.FP.Core.DFin q) (h1 : -(8589934592 * own_P) ≤ own_z q) (h2 : own_z q ≤ 8589934592 * own_P) : Jvm.FP.Core.DFin (FP.dmul (FP.i2d rate) q) := by
  have r := own_i2d rate
  have b1 := rate.toInt_lt
  have b2 := rate.le_toInt
  have hP := own_P_pos
  have zr : own_z (FP.i2d rate) = rate.toInt * own_P := r.2
  obtain ⟨V, v1, v2⟩ := own_rep 1 (1074 + 64) (by decide) (by decide)
  obtain ⟨W, w1, w2⟩ := own_rep (-1) (1074 + 64) (by decide) (by decide)
  have e64 : ((2 ^ (1074 + 64) : Nat) : Int) = 18446744073709551616 * own_P := by rw [Nat.pow_add, Int.natCast_mul, Int.mul_comm]; rfl
  rw [e64] at v2 w2
  have m1 : (rate.toInt * own_P) * own_z q ≤ 18446744073709551616 * own_P * own_P ∧ -(18446744073709551616 * own_P * own_P) ≤ (rate.toInt * own_P) * own_z q := by
    have e1 : (rate.toInt * own_P) * own_z q = (rate.toInt * own_z q) * own_P := by rw [Int.mul_right_comm]
    rw [e1]
    have k1 : rate.toInt * own_z q ≤ 18446744073709551616 * own_P ∧ -(18446744073709551616 * own_P) ≤ rate.toInt * own_z q := by
      generalize own_z q = Z at *
      generalize rate.toInt = R at *
      generalize own_P = D at *
      have c : (R * Z).natAbs ≤ 2147483648 * (8589934592 * D).natAbs := by rw [Int.natAbs_mul]; exact Nat.mul_le_mul (by omega) (by omega)
      omega
    constructor
    · exact Int.mul_le_mul_of_nonneg_right k1.1 (Int.le_of_lt hP)
    · have := Int.mul_le_mul_of_nonneg_right k1.2 (Int.le_of_lt hP)
      rw [Int.neg_mul] at this; exact this
  refine own_bound ((Jvm.FP.Core.notNaN_iff _).mp (Jvm.FP.Core.dmul_out r.1 hq)) w1 v1 (own_mul_ge r.1 hq w1 ?_) (own_mul_le r.1 hq v1 ?_)
  · rw [zr, w2]; show (-1) * (18446744073709551616 * own_P) * own_P ≤ _
    have := m1.2
    rw [Int.neg_mul, Int.one_mul, Int.neg_mul]; exact this
  · rw [zr, v2]; show _ ≤ 1 * (18446744073709551616 * own_P) * own_P
    rw [Int.one_mul]; exact m1.1
theorem own_sm (x : Int32) : -2147483648 ≤ x.toInt ∧ x.toInt ≤ 2147483647 := by have := x.toInt_lt; have := x.le_toInt; omega
theorem own_lm {a b : Int64} {A B : Int} (ha : a.toInt = A) (hb : b.toInt = B) (h1 : -9223372036854775808 ≤ A * B) (h2 : A * B < 9223372036854775808) : (a * b).toInt = A * B := by rw [Jvm.Kit.i64_mul (by rw [ha, hb]; omega) (by rw [ha, hb]; omega), ha, hb]
theorem own_la {a b : Int64} {A B : Int} (ha : a.toInt = A) (hb : b.toInt = B) (h1 : -9223372036854775808 ≤ A + B) (h2 : A + B < 9223372036854775808) : (a + b).toInt = A + B := by rw [Jvm.Kit.i64_add (by rw [ha, hb]; omega) (by rw [ha, hb]; omega), ha, hb]
theorem own_mb {a b : Int} {A B : Nat} (h1 : a.natAbs ≤ A) (h2 : b.natAbs ≤ B) : (a * b).natAbs ≤ A * B := by rw [Int.natAbs_mul]; exact Nat.mul_le_mul h1 h2
/-- m metres, m between 1000 k and 1000 (k + 1): the kilometres lie between k and k + 1 -/
theorem own_km {m : Int64} {k : Int} (hk : -2147483648 ≤ k ∧ k ≤ 2147483647) (h1 : 1000 * k ≤ m.toInt) (h2 : m.toInt ≤ 1000 * k + 1000) : Jvm.FP.Core.DFin (FP.ddiv (FP.l2d m) own_K) ∧ k * own_P ≤ own_z (FP.ddiv (FP.l2d m) own_K) ∧ own_z (FP.ddiv (FP.l2d m) own_K) ≤ (k + 1) * own_P := by
  have l := own_l2d (a := m) (by omega)
  have hP := own_P_pos
  have hKp : 0 < own_z own_K := by rw [own_Kz]; omega
  obtain ⟨V, v1, v2⟩ := own_rep k 1074 (by omega) (by decide)
  obtain ⟨W, w1, w2⟩ := own_rep (k + 1) 1074 (by omega) (by decide)
  have zl : own_z (FP.l2d m) = m.toInt * own_P := l.2
  have a1 : own_z V ≤ own_z (FP.ddiv (FP.l2d m) own_K) := own_div_ge l.1 own_K_is.1 hKp v1 (by
    rw [zl, v2, own_Kz]
    show k * own_P * (1000 * own_P) ≤ m.toInt * own_P * own_P
    have e : k * own_P * (1000 * own_P) = (1000 * k) * own_P * own_P := by simp only [Int.mul_assoc, Int.mul_left_comm, Int.mul_comm]
    rw [e]
    exact Int.mul_le_mul_of_nonneg_right (Int.mul_le_mul_of_nonneg_right h1 (Int.le_of_lt hP)) (Int.le_of_lt hP))
  have a2 : own_z (FP.ddiv (FP.l2d m) own_K) ≤ own_z W := own_div_le l.1 own_K_is.1 hKp w1 (by
    rw [zl, w2, own_Kz]
    show m.toInt * own_P * own_P ≤ (k + 1) * own_P * (1000 * own_P)
    have e : (k + 1) * own_P * (1000 * own_P) = (1000 * k + 1000) * own_P * own_P := by
      rw [show 1000 * k + 1000 = 1000 * (k + 1) by omega]; simp only [Int.mul_assoc, Int.mul_left_comm, Int.mul_comm]
    rw [e]
    exact Int.mul_le_mul_of_nonneg_right (Int.mul_le_mul_of_nonneg_right h2 (Int.le_of_lt hP)) (Int.le_of_lt hP))
  refine ⟨own_bound ((Jvm.FP.Core.notNaN_iff _).mp (Jvm.FP.Core.ddiv_out l.1.notNaN own_K_is.1 (own_nz hKp))) v1 w1 a1 a2, ?_, ?_⟩
  · rw [v2] at a1; exact a1
  · rw [w2] at a2; exact a2
theorem own_leg_fin {rate : Int32} {m : Int64} {k : Int} {r : UInt64} (hk : -2147483648 ≤ k ∧ k ≤ 2147483647) (h1 : 1000 * k ≤ m.toInt) (h2 : m.toInt ≤ 1000 * k + 1000) (hL : own_Leg rate (FP.l2d m) r) : Jvm.FP.Core.DFin r := by
  obtain ⟨f, g1, g2⟩ := own_km hk h1 h2
  have hP := own_P_pos
  rcases hL with ⟨-, rfl⟩ | ⟨-, rfl⟩
  · exact own_zero_fin.1
  · refine own_prod_fin f ?_ ?_
    · have : -(8589934592 * own_P) ≤ k * own_P := by
        have := Int.mul_le_mul_of_nonneg_right (show (-8589934592 : Int) ≤ k by omega) (Int.le_of_lt hP)
        rw [Int.neg_mul] at this; exact this
      omega
    · have : (k + 1) * own_P ≤ 8589934592 * own_P := Int.mul_le_mul_of_nonneg_right (by omega) (Int.le_of_lt hP)
      omega
/-- the fare over k' kilometres exactly: what the product rounds to -/
theorem own_m0 {rate : Int32} {m n : Int64} {k : Int} {r : UInt64} (hk : -2147483648 ≤ k ∧ k ≤ 2147483647) (hm : m.toInt = 1000 * k) (hn : n.toInt = rate.toInt * k) (hL : own_Leg rate (FP.l2d m) r) : own_z r = own_z (FP.l2d n) := by
  have fr := own_leg_fin hk (by omega) (by omega) hL
  have l := own_l2d (a := m) (by omega)
  have hP := own_P_pos
  have hKp : 0 < own_z own_K := by rw [own_Kz]; omega
  obtain ⟨V, v1, v2⟩ := own_rep k 1074 (by omega) (by decide)
  have zl : own_z (FP.l2d m) = m.toInt * own_P := l.2
  have q := own_divx l.1 own_K_is.1 hKp v1 (by
    rw [zl, v2, own_Kz, hm]
    show 1000 * k * own_P * own_P = k * own_P * (1000 * own_P)
    simp only [Int.mul_assoc, Int.mul_left_comm, Int.mul_comm])
  rcases hL with ⟨h0, rfl⟩ | ⟨h0, rfl⟩
  · have z := own_l2d (a := n) (by rw [hn, h0]; omega)
    rw [own_zero_fin.2, z.2, hn, h0]; omega
  · refine own_Rd.eq fr (Jvm.FP.Core.l2d_fin n) (own_Rd.mul (own_i2d rate).1 q.1) ?_ (by have := Jvm.FP.Core.qmin_b64; omega)
    have g := own_Rd.l2d n (e0 := 2 * Jvm.FP.Core.b64.qmin) (k := 2148) (by have := Jvm.FP.Core.qmin_b64; omega)
    have e : own_z (FP.i2d rate) * own_z (FP.ddiv (FP.l2d m) own_K) = n.toInt * ((2 ^ 2148 : Nat) : Int) := by
      rw [(own_i2d rate).2, q.2, v2, own_PP, hn]
      show rate.toInt * own_P * (k * own_P) = rate.toInt * k * (own_P * own_P)
      simp only [Int.mul_assoc, Int.mul_left_comm, Int.mul_comm]
    rw [e]; exact g
theorem own_m1 {rate : Int32} {m t : Int64} {k : Int} {r : UInt64} (hk : -2147483648 ≤ k ∧ k ≤ 2147483647) (hm : m.toInt = 1000 * k + 500) (ht : t.toInt = rate.toInt * (2 * k + 1)) (hL : own_Leg rate (FP.l2d m) r) :
    Jvm.FP.Core.DFin (FP.ddiv (FP.l2d t) own_T) ∧ own_z (FP.ddiv (FP.l2d t) own_T) = own_z r := by
  have fr := own_leg_fin hk (by omega) (by omega) hL
  have l := own_l2d (a := m) (by omega)
  have hP := own_P_pos
  have hKp : 0 < own_z own_K := by rw [own_Kz]; omega
  have hTp : 0 < own_z own_T := by rw [own_Tz]; omega
  obtain ⟨V, v1, v2⟩ := own_rep (2 * k + 1) 1073 (by omega) (by decide)
  have zl : own_z (FP.l2d m) = m.toInt * own_P := l.2
  have q := own_divx l.1 own_K_is.1 hKp v1 (by
    rw [zl, v2, own_Kz, hm]
    show (1000 * k + 500) * own_P * own_P = (2 * k + 1) * ((2 ^ 1073 : Nat) : Int) * (1000 * own_P)
    have e : (1000 * k + 500) * own_P * own_P = (1000 * k + 500) * (((2 ^ 1073 : Nat) : Int) * 2) * own_P := by rw [← own_P3]
    rw [e]
    generalize ((2 ^ 1073 : Nat) : Int) = H
    generalize own_P = D
    rw [show (1000 * k + 500) * (H * 2) * D = ((1000 * k + 500) * 2) * (H * D) by simp only [Int.mul_assoc, Int.mul_left_comm, Int.mul_comm], show (2 * k + 1) * H * (1000 * D) = ((2 * k + 1) * 1000) * (H * D) by simp only [Int.mul_assoc, Int.mul_left_comm, Int.mul_comm]]
    congr 1; omega)
  rcases hL with ⟨h0, rfl⟩ | ⟨h0, rfl⟩
  · have z := own_l2d (a := t) (by rw [ht, h0]; omega)
    have zz : own_z (FP.l2d t) = 0 := by rw [z.2, ht, h0]; omega
    exact own_divx (Jvm.FP.Core.l2d_fin t) own_T_is.1 hTp own_zero_fin.1 (by rw [zz, own_zero_fin.2]; omega)
  · have tn : t.toInt ≠ 0 := by
      rw [ht]; intro h
      rcases Int.mul_eq_zero.mp h with h | h
      · exact h0 h
      · omega
    have hh := own_half (t := t) fr tn (by
      have g := own_Rd.mul (own_i2d rate).1 q.1
      have e : own_z (FP.i2d rate) * own_z (FP.ddiv (FP.l2d m) own_K) = t.toInt * ((2 ^ 2147 : Nat) : Int) := by
        rw [(own_i2d rate).2, q.2, v2, own_P47, ht]
        show rate.toInt * own_P * ((2 * k + 1) * ((2 ^ 1073 : Nat) : Int)) = _
        generalize ((2 ^ 1073 : Nat) : Int) = H
        generalize own_P = D
        simp only [Int.mul_assoc, Int.mul_left_comm, Int.mul_comm]
      rw [e] at g; exact g)
    exact own_divx (Jvm.FP.Core.l2d_fin t) own_T_is.1 hTp fr (by
      rw [← hh, own_Tz]
      show _ * 2 * own_P = _ * (2 * own_P)
      rw [Int.mul_assoc])
theorem own_m2 {rate : Int32} {m a b : Int64} {k : Int} {r : UInt64} (hk : -2147483648 ≤ k ∧ k ≤ 2147483647) (h1 : 1000 * k ≤ m.toInt) (h2 : m.toInt ≤ 1000 * k + 1000) (ha : a.toInt = rate.toInt * k) (hb : b.toInt = rate.toInt * (k + 1)) (hL : own_Leg rate (FP.l2d m) r) :
    (own_z (FP.l2d a) ≤ own_z r ∧ own_z r ≤ own_z (FP.l2d b)) ∨ (own_z (FP.l2d b) ≤ own_z r ∧ own_z r ≤ own_z (FP.l2d a)) := by
  have fr := own_leg_fin hk h1 h2 hL
  obtain ⟨f, g1, g2⟩ := own_km hk h1 h2
  have hP := own_P_pos
  rcases hL with ⟨h0, rfl⟩ | ⟨h0, rfl⟩
  · have za := own_l2d (a := a) (by rw [ha, h0]; omega)
    have zb := own_l2d (a := b) (by rw [hb, h0]; omega)
    rw [own_zero_fin.2, za.2, zb.2, ha, hb, h0]; omega
  · have q0 : 2 * Jvm.FP.Core.b64.qmin ≤ Jvm.FP.Core.b64.qmin := by have := Jvm.FP.Core.qmin_b64; omega
    have ra := own_Rd.l2d a (e0 := 2 * Jvm.FP.Core.b64.qmin) (k := 2148) (by have := Jvm.FP.Core.qmin_b64; omega)
    have rb := own_Rd.l2d b (e0 := 2 * Jvm.FP.Core.b64.qmin) (k := 2148) (by have := Jvm.FP.Core.qmin_b64; omega)
    have rr := own_Rd.mul (own_i2d rate).1 f
    rw [(own_i2d rate).2] at rr
    have e1 : ∀ X : Int, rate.toInt * X * ((2 ^ 2148 : Nat) : Int) = rate.toInt * own_P * (X * own_P) := fun X => by
      rw [own_PP]; generalize own_P = D; simp only [Int.mul_assoc, Int.mul_left_comm, Int.mul_comm]
    rw [ha, e1] at ra
    rw [hb, e1] at rb
    by_cases hp : 0 < rate.toInt
    · have hR : 0 ≤ rate.toInt * own_P := Int.mul_nonneg (Int.le_of_lt hp) (Int.le_of_lt hP)
      exact Or.inl ⟨own_Rd.le (Jvm.FP.Core.l2d_fin a) fr ra rr q0 (Int.mul_le_mul_of_nonneg_left g1 hR), own_Rd.le fr (Jvm.FP.Core.l2d_fin b) rr rb q0 (Int.mul_le_mul_of_nonneg_left g2 hR)⟩
    · have hR : rate.toInt * own_P ≤ 0 := Int.mul_nonpos_of_nonpos_of_nonneg (by omega) (Int.le_of_lt hP)
      exact Or.inr ⟨own_Rd.le (Jvm.FP.Core.l2d_fin b) fr rb rr q0 (Int.mul_le_mul_of_nonpos_left hR g2), own_Rd.le fr (Jvm.FP.Core.l2d_fin a) rr ra q0 (Int.mul_le_mul_of_nonpos_left hR g1)⟩
end Fare
theorem own_j (x : Int32) : 0 ≤ (((x &&& (2147483647 : Int32)) % (1000 : Int32)).toInt64).toInt ∧ (((x &&& (2147483647 : Int32)) % (1000 : Int32)).toInt64).toInt ≤ 999 := by
  have e := Jvm.Kit.i32_mask x 2147483647 (k := 31) (by decide) (by decide)
  have t1 : (1000 : Int32).toInt = 1000 := by decide
  rw [Int32.toInt_toInt64, Jvm.Kit.i32_rem_nonneg (by omega), t1]; omega
theorem own_i64 (x : Int32) : x.toInt64.toInt = x.toInt := Int32.toInt_toInt64 x
theorem own_1000 (k : Int32) : ((1000 : Int64) * k.toInt64).toInt = 1000 * k.toInt := own_lm (by decide) (own_i64 k) (by have := own_sm k; omega) (by have := own_sm k; omega)
theorem own_rk (rate k : Int32) : (rate.toInt64 * k.toInt64).toInt = rate.toInt * k.toInt := own_lm (own_i64 rate) (own_i64 k) (by have := own_mb (A := 2147483648) (B := 2147483648) (a := rate.toInt) (b := k.toInt) (by have := own_sm rate; omega) (by have := own_sm k; omega); omega) (by have := own_mb (A := 2147483648) (B := 2147483648) (a := rate.toInt) (b := k.toInt) (by have := own_sm rate; omega) (by have := own_sm k; omega); omega)
theorem own_rk1 (rate k : Int32) : (rate.toInt64 * (k.toInt64 + (1 : Int64))).toInt = rate.toInt * (k.toInt + 1) := own_lm (own_i64 rate) (own_la (own_i64 k) (by decide) (by have := own_sm k; omega) (by have := own_sm k; omega)) (by have := own_mb (A := 2147483648) (B := 2147483648) (a := rate.toInt) (b := k.toInt + 1) (by have := own_sm rate; omega) (by have := own_sm k; omega); omega) (by have := own_mb (A := 2147483648) (B := 2147483648) (a := rate.toInt) (b := k.toInt + 1) (by have := own_sm rate; omega) (by have := own_sm k; omega); omega)
theorem own_shr1 (x : Int32) : -1073741824 ≤ (x >>> ((1 : Int32) &&& 31)).toInt ∧ (x >>> ((1 : Int32) &&& 31)).toInt ≤ 1073741823 := by
  have e : (x >>> ((1 : Int32) &&& 31)).toInt = x.toInt / 2 ^ 1 := Jvm.Kit.i32_shr _ _ (by decide)
  have := own_sm x
  omega
theorem own_t {rate k : Int32} (hk : -1073741824 ≤ k.toInt ∧ k.toInt ≤ 1073741823) : ((((2 : Int64) * rate.toInt64) * k.toInt64) + rate.toInt64).toInt = rate.toInt * (2 * k.toInt + 1) := by
  have hr := own_sm rate
  have a1 : ((2 : Int64) * rate.toInt64).toInt = 2 * rate.toInt := own_lm (by decide) (own_i64 rate) (by omega) (by omega)
  have b := own_mb (A := 4294967296) (B := 1073741824) (a := 2 * rate.toInt) (b := k.toInt) (by omega) (by omega)
  have a2 : (((2 : Int64) * rate.toInt64) * k.toInt64).toInt = 2 * rate.toInt * k.toInt := own_lm a1 (own_i64 k) (by omega) (by omega)
  rw [own_la a2 (own_i64 rate) (by omega) (by omega)]
  rw [Int.mul_add, Int.mul_one, Int.mul_comm 2 rate.toInt, Int.mul_assoc]

theorem own_f0 : decode jdk_30_method_1_code 0 = .ok (.aload_n 0, 1) := by decide +kernel
theorem own_f1 : decode jdk_30_method_1_code 1 = .ok (.invokespecial 1, 3) := by decide +kernel
theorem own_f2 : decode jdk_30_method_1_code 4 = .ok (.return_, 1) := by decide +kernel
theorem own_f3 : plainName "java/lang/Record" = true := by first | (simp [plainName, overriddenIn]; done) | decide +kernel
theorem own_ef_Rec (m : MethodId) (a1 : Addr) : entryFrame m #[(.ref a1)] 1 = mkF m 0 #[.val (.ref a1)] [] := by first | (simp [entryFrame, mkF, argsToLocals, Value.category]; done) | rfl
def QRec (Z : State) (a1 : Addr) (h0 : Heap) (n0 : Nat) (v : Option Value) (h : Heap) (L : List Loc) : Prop := v = none ∧ Fr n0 L ∧ h = h0
set_option maxRecDepth 65536 in
set_option maxHeartbeats 40000000 in
theorem rmRec (l : Launch) (Z : State) (a0 : Array Value) (hw : ∀ d ∈ tables_1, d.before a0 Z = true) (ws : List Jvm.Cond) (a1 : Addr) (h0 : Heap) (n0 : Nat) (Z0 : n0 ≤ h0.size)  :
    MetFree l (⟨"java/lang/Record", "<init>", "()V"⟩ : MethodName) (head1 (Jvm.Cond.code (⟨"java/lang/Record", "<init>", "()V"⟩ : MethodName) jdk_30_method_1_code 1 none :: ws) ({ frames := 1, cells := 0, slots := 0, locals := 12 } : Room)) (fun a U => a = #[(.ref a1)] ∧ Z.Warmed39 U.vm ∧ U.heap = h0) (fun _ _ _ _ _ => True) (fun _ U o U' => ∃ v L, o = .returned v ∧ QRec Z a1 h0 n0 v U'.heap L ∧ FrameEnd U o U' L ({ frames := 1, cells := 0, slots := 0, locals := 12 } : Room).cells ({ frames := 1, cells := 0, slots := 0, locals := 12 } : Room).slots) := by
  refine MetFree.of_bodySF (plainFor_of_name own_f3) hisR ?_
  intro p e s m args below meth c s₁ Bd hml0 hP hK
  obtain ⟨rfl, hZ, hh⟩ := hP
  have hx := Bd.exec
  have hby := Bd.bytes
  have hml : c.maxLocals = 1 := hml0
  have hown : s.vm.findClass "java/lang/Record" = some m.cls := findClass_of_methodNamed Bd.named
  have hnm := (name_of_methodNamed Bd.named Bd.method).1
  have X0 : Stand p l e ({ frames := 1, cells := 0, slots := 0, locals := 12 } : Room) s m #[(.ref a1)] below meth c s₁ [] 0 0 := Stand.of_body Bd
  have e0 : s₁.heap = h0 := by rw [← hh, Bd.state]; rfl
  have N0 := Fr.nil n0
  refine Go.start (own_ef_Rec m a1) ?_
  show Go p e below _ s₁ (mkF m 0 #[.val (.ref a1)] [])
  refine Go.step (fun _ k => XS.aloadN X0.here hx rfl (hb hby own_f0) rfl rfl k) ?_
  show Go p e below _ s₁ (mkF m 1 #[.val (.ref a1)] [(.ref a1)])
  obtain ⟨T1, X1, e1, st1⟩ := initO X0 hx hZ hown (hw _ (List.mem_of_getElem? (i := 14) rfl)) (hw _ (List.mem_of_getElem? (i := 15) rfl)) (hw _ (List.mem_of_getElem? (i := 16) rfl)) e0 (g := (mkF m 1 #[.val (.ref a1)] [(.ref a1)])) rfl (by rw [hml]; rfl) rfl (hb hby own_f1) (by decide) (W := 0) (by show 2 * 0 + _ ≤ _; exact Nat.le_of_eq rfl) (by decide)
  refine Go.step st1 ?_
  show Go p e below _ T1 (mkF m 4 #[.val (.ref a1)] [])
  obtain ⟨fs, hr, hrun, hended, hW, hsame⟩ := X1.leave (v := none) (fun _ => rfl)
  refine Go.fin (X1.returnOut hx Bd.returns (hb hby own_f2) hr) hrun hended ?_
  refine ⟨_, _, rfl, ?_, ⟨_, rfl⟩, hW, hsame.mono (by decide) (by decide)⟩
  show QRec Z a1 h0 n0 _ T1.heap _
  rw [e1]
  exact ⟨rfl, N0, rfl⟩
theorem own_f4 : decode prog_18_method_1_code 0 = .ok (.aload_n 0, 1) := by decide +kernel
theorem own_f5 : parseMethodDescriptor "()V" = some ⟨[], none⟩ := by decide +kernel
theorem own_f6 : decode prog_18_method_1_code 1 = .ok (.invokespecial 1, 3) := by decide +kernel
theorem own_f7 : decode prog_18_method_1_code 4 = .ok (.aload_n 0, 1) := by decide +kernel
theorem own_f8 : decode prog_18_method_1_code 5 = .ok (.dload_n 1, 1) := by decide +kernel
theorem own_f9 : decode prog_18_method_1_code 6 = .ok (.putfield 7, 3) := by decide +kernel
theorem own_f10 : decode prog_18_method_1_code 9 = .ok (.return_, 1) := by decide +kernel
theorem own_f11 : plainName "com/example/mazu/mazu/config/Config$Fares" = true := by first | (simp [plainName, overriddenIn]; done) | decide +kernel
theorem own_ef_CF (m : MethodId) (a1 : Addr) (d1 : UInt64) : entryFrame m #[(.ref a1), (.double d1)] 3 = mkF m 0 #[.val (.ref a1), .val (.double d1), .second] [] := by first | (simp [entryFrame, mkF, argsToLocals, Value.category]; done) | rfl
def QCF (Z : State) (a1 : Addr) (d1 : UInt64) (h0 : Heap) (n0 : Nat) (v : Option Value) (h : Heap) (L : List Loc) : Prop := v = none ∧ Fr n0 L ∧ Keep h0 h [a1] ∧ Fld Z h a1 "com/example/mazu/mazu/config/Config$Fares" "ptPerBoarding" "D" (.double d1)
set_option maxRecDepth 65536 in
set_option maxHeartbeats 40000000 in
theorem rmCF (l : Launch) (Z : State) (a0 : Array Value) (hw : ∀ d ∈ tables_1, d.before a0 Z = true) (ws : List Jvm.Cond) (a1 : Addr) (d1 : UInt64) (h0 : Heap) (n0 : Nat) (Z0 : n0 ≤ h0.size) (E_a1 : Exa Z h0 a1 "com/example/mazu/mazu/config/Config$Fares") (F_ptPerBoarding_a1 : Fld Z h0 a1 "com/example/mazu/mazu/config/Config$Fares" "ptPerBoarding" "D" (.double 0)) (g_a1 : n0 ≤ a1) :
    MetFree l (⟨"com/example/mazu/mazu/config/Config$Fares", "<init>", "(D)V"⟩ : MethodName) (head1 (Jvm.Cond.code (⟨"com/example/mazu/mazu/config/Config$Fares", "<init>", "(D)V"⟩ : MethodName) prog_18_method_1_code 3 none :: ws) ({ frames := 2, cells := 0, slots := 0, locals := 24 } : Room)) (fun a U => a = #[(.ref a1), (.double d1)] ∧ Z.Warmed39 U.vm ∧ U.heap = h0) (fun _ _ _ _ _ => True) (fun _ U o U' => ∃ v L, o = .returned v ∧ QCF Z a1 d1 h0 n0 v U'.heap L ∧ FrameEnd U o U' L ({ frames := 2, cells := 0, slots := 0, locals := 24 } : Room).cells ({ frames := 2, cells := 0, slots := 0, locals := 24 } : Room).slots) := by
  refine MetFree.of_bodySF (plainFor_of_name own_f11) hisR ?_
  intro p e s m args below meth c s₁ Bd hml0 hP hK
  obtain ⟨rfl, hZ, hh⟩ := hP
  have hx := Bd.exec
  have hby := Bd.bytes
  have hml : c.maxLocals = 3 := hml0
  have hown : s.vm.findClass "com/example/mazu/mazu/config/Config$Fares" = some m.cls := findClass_of_methodNamed Bd.named
  have hnm := (name_of_methodNamed Bd.named Bd.method).1
  have X0 : Stand p l e ({ frames := 2, cells := 0, slots := 0, locals := 24 } : Room) s m #[(.ref a1), (.double d1)] below meth c s₁ [] 0 0 := Stand.of_body Bd
  have e0 : s₁.heap = h0 := by rw [← hh, Bd.state]; rfl
  have N0 := Fr.nil n0
  refine Go.start (own_ef_CF m a1 d1) ?_
  show Go p e below _ s₁ (mkF m 0 #[.val (.ref a1), .val (.double d1), .second] [])
  have Zn := Z0
  have K0 : Keep h0 h0 [a1] := Keep.refl h0 _
  refine Go.step (fun _ k => XS.aloadN X0.here hx rfl (hb hby own_f4) rfl rfl k) ?_
  show Go p e below _ s₁ (mkF m 1 #[.val (.ref a1), .val (.double d1), .second] [(.ref a1)])
  obtain ⟨_, _, ⟨T2, L2, k2, n2⟩, -, X2, ⟨Lc2, hQ2, l2, y2, z2⟩, st2⟩ := X0.specialBack hx (y := (⟨"java/lang/Record", "<init>", "()V"⟩ : MethodName)) rfl hown (mvT hZ (hw _ (List.mem_of_getElem? (i := 9) rfl))) (mvT hZ (hw _ (List.mem_of_getElem? (i := 10) rfl))) (mvT hZ (hw _ (List.mem_of_getElem? (i := 13) rfl))) (by decide) (backOf (W := 0) (rmRec l Z a0 hw [] a1 h0 n0 Zn) hZ (hw _ (List.mem_of_getElem? (i := 13) rfl)) (hw _ (List.mem_of_getElem? (i := 12) rfl)) (by decide) (by decide)) (g := (mkF m 1 #[.val (.ref a1), .val (.double d1), .second] [(.ref a1)])) rfl (by rw [hml]; rfl) (Steps.refl _) (a := a1) (argsL := []) (rest := []) (lenOf own_f5 rfl) rfl (by show 2 * 0 + _ ≤ _; exact Nat.le_of_eq rfl) (hb hby own_f6) (fun _ _ => ⟨rfl, e0, (by dsimp only [Pt.cells, Pt.slots]; decide), (by dsimp only [Pt.cells, Pt.slots]; decide)⟩)
  dsimp only [Pt.U, Pt.locs, Pt.cells, Pt.slots] at X2 l2 y2 z2 st2 hQ2
  subst l2 y2 z2
  obtain ⟨rfl, N2q, e2⟩ := hQ2
  have N2 := Fr.app N0 N2q
  refine Go.step (fun _ k => st2.trans k) ?_
  show Go p e below _ T2 (mkF m 4 #[.val (.ref a1), .val (.double d1), .second] [])
  refine Go.step (fun _ k => XS.aloadN X2.here hx rfl (hb hby own_f7) rfl rfl k) ?_
  show Go p e below _ T2 (mkF m 5 #[.val (.ref a1), .val (.double d1), .second] [(.ref a1)])
  refine Go.step (fun _ k => XS.dloadN X2.here hx rfl (hb hby own_f8) rfl k) ?_
  show Go p e below _ T2 (mkF m 6 #[.val (.ref a1), .val (.double d1), .second] [(.double d1), (.ref a1)])
  obtain ⟨T3, h3, X3, e3, W3, st3⟩ := putF X2 hx hZ hown (host := "") (Or.inl (hw _ (List.mem_of_getElem? (i := 17) rfl))) Via.refl e2 F_ptPerBoarding_a1 E_a1 (Or.inr ⟨(hw _ (List.mem_of_getElem? (i := 18) rfl)), rfl, hnm⟩) (hw _ (List.mem_of_getElem? (i := 4) rfl)) (ty := .double) (by decide) rfl rfl (g := (mkF m 6 #[.val (.ref a1), .val (.double d1), .second] [(.double d1), (.ref a1)])) rfl rfl (hb hby own_f9)
  have Fw3 := F_ptPerBoarding_a1.same W3
  replace E_a1 := E_a1.wr W3
  replace F_ptPerBoarding_a1 := Fw3
  replace K0 := K0.wr W3 (Or.inl (List.mem_of_getElem? (i := 0) rfl))
  replace Zn := Nat.le_trans Zn (Nat.le_of_eq W3.size.symm)
  have N3 := Fr.snoc X3 N2 g_a1
  refine Go.step st3 ?_
  show Go p e below _ T3 (mkF m 9 #[.val (.ref a1), .val (.double d1), .second] [])
  obtain ⟨fs, hr, hrun, hended, hW, hsame⟩ := X3.leave (v := none) (fun _ => rfl)
  refine Go.fin (X3.returnOut hx Bd.returns (hb hby own_f10) hr) hrun hended ?_
  refine ⟨_, _, rfl, ?_, ⟨_, rfl⟩, hW, hsame.mono (by decide) (by decide)⟩
  show QCF Z a1 d1 h0 n0 _ T3.heap _
  rw [e3]
  exact ⟨rfl, N3, K0, F_ptPerBoarding_a1⟩
theorem own_f12 : decode prog_18_method_5_code 0 = .ok (.aload_n 0, 1) := by decide +kernel
theorem own_f13 : decode prog_18_method_5_code 1 = .ok (.getfield 7, 3) := by decide +kernel
theorem own_f14 : decode prog_18_method_5_code 4 = .ok (.dreturn, 1) := by decide +kernel
theorem own_ef_Pt (m : MethodId) (a1 : Addr) : entryFrame m #[(.ref a1)] 1 = mkF m 0 #[.val (.ref a1)] [] := by first | (simp [entryFrame, mkF, argsToLocals, Value.category]; done) | rfl
def QPt (Z : State) (a1 : Addr) (d1 : UInt64) (h0 : Heap) (n0 : Nat) (v : Option Value) (h : Heap) (L : List Loc) : Prop := v = some (.double d1) ∧ Fr n0 L ∧ h = h0
set_option maxRecDepth 65536 in
set_option maxHeartbeats 40000000 in
theorem rmPt (l : Launch) (Z : State) (a0 : Array Value) (hw : ∀ d ∈ tables_1, d.before a0 Z = true) (ws : List Jvm.Cond) (a1 : Addr) (d1 : UInt64) (h0 : Heap) (n0 : Nat) (Z0 : n0 ≤ h0.size) (F_ptPerBoarding_a1 : Fld Z h0 a1 "com/example/mazu/mazu/config/Config$Fares" "ptPerBoarding" "D" (.double d1)) :
    MetFree l (⟨"com/example/mazu/mazu/config/Config$Fares", "ptPerBoarding", "()D"⟩ : MethodName) (head1 (Jvm.Cond.code (⟨"com/example/mazu/mazu/config/Config$Fares", "ptPerBoarding", "()D"⟩ : MethodName) prog_18_method_5_code 1 (some .double) :: ws) ({ frames := 0, cells := 0, slots := 0, locals := 0 } : Room)) (fun a U => a = #[(.ref a1)] ∧ Z.Warmed39 U.vm ∧ U.heap = h0) (fun _ _ _ _ _ => True) (fun _ U o U' => ∃ v L, o = .returned v ∧ QPt Z a1 d1 h0 n0 v U'.heap L ∧ FrameEnd U o U' L ({ frames := 0, cells := 0, slots := 0, locals := 0 } : Room).cells ({ frames := 0, cells := 0, slots := 0, locals := 0 } : Room).slots) := by
  refine MetFree.of_bodySF (plainFor_of_name own_f11) hisR ?_
  intro p e s m args below meth c s₁ Bd hml0 hP hK
  obtain ⟨rfl, hZ, hh⟩ := hP
  have hx := Bd.exec
  have hby := Bd.bytes
  have hml : c.maxLocals = 1 := hml0
  have hown : s.vm.findClass "com/example/mazu/mazu/config/Config$Fares" = some m.cls := findClass_of_methodNamed Bd.named
  have hnm := (name_of_methodNamed Bd.named Bd.method).1
  have X0 : Stand p l e ({ frames := 0, cells := 0, slots := 0, locals := 0 } : Room) s m #[(.ref a1)] below meth c s₁ [] 0 0 := Stand.of_body Bd
  have e0 : s₁.heap = h0 := by rw [← hh, Bd.state]; rfl
  have N0 := Fr.nil n0
  refine Go.start (own_ef_Pt m a1) ?_
  show Go p e below _ s₁ (mkF m 0 #[.val (.ref a1)] [])
  refine Go.step (fun _ k => XS.aloadN X0.here hx rfl (hb hby own_f12) rfl rfl k) ?_
  show Go p e below _ s₁ (mkF m 1 #[.val (.ref a1)] [(.ref a1)])
  obtain ⟨T4, X4, e4, st4⟩ := getF X0 hx hZ hown (host := "") (Or.inl (hw _ (List.mem_of_getElem? (i := 17) rfl))) Via.refl e0 F_ptPerBoarding_a1 (g := (mkF m 1 #[.val (.ref a1)] [(.ref a1)])) rfl rfl (hb hby own_f13)
  refine Go.step st4 ?_
  show Go p e below _ T4 (mkF m 4 #[.val (.ref a1)] [(.double d1)])
  obtain ⟨fs, hr, hrun, hended, hW, hsame⟩ := X4.leave (v := some (.double d1)) (fun h => by rw [Bd.returns] at h; cases h)
  refine Go.fin (own_retD X4 hx Bd.returns (hb hby own_f14) hr) hrun hended ?_
  refine ⟨_, _, rfl, ?_, ⟨_, rfl⟩, hW, hsame.mono (by decide) (by decide)⟩
  show QPt Z a1 d1 h0 n0 _ T4.heap _
  rw [e4]
  exact ⟨rfl, N0, rfl⟩
theorem own_f15 : decode prog_45_method_1_code 0 = .ok (.aload_n 0, 1) := by decide +kernel
theorem own_f16 : decode prog_45_method_1_code 1 = .ok (.invokespecial 1, 3) := by decide +kernel
theorem own_f17 : decode prog_45_method_1_code 4 = .ok (.aload_n 0, 1) := by decide +kernel
theorem own_f18 : decode prog_45_method_1_code 5 = .ok (.aload_n 1, 1) := by decide +kernel
theorem own_f19 : parseMethodDescriptor "()D" = some ⟨[], some .double⟩ := by decide +kernel
theorem own_f20 : decode prog_45_method_1_code 6 = .ok (.invokevirtual 7, 3) := by decide +kernel
theorem own_f21 : decode prog_45_method_1_code 9 = .ok (.putfield 13, 3) := by decide +kernel
theorem own_f22 : decode prog_45_method_1_code 12 = .ok (.aload_n 0, 1) := by decide +kernel
theorem own_f23 : decode prog_45_method_1_code 13 = .ok (.dload_n 2, 1) := by decide +kernel
theorem own_f24 : decode prog_45_method_1_code 14 = .ok (.putfield 19, 3) := by decide +kernel
theorem own_f25 : decode prog_45_method_1_code 17 = .ok (.return_, 1) := by decide +kernel
theorem own_f26 : plainName "com/example/mazu/mazu/economics/Fares" = true := by first | (simp [plainName, overriddenIn]; done) | decide +kernel
theorem own_ef_FA (m : MethodId) (a1 : Addr) (a2 : Addr) (d1 : UInt64) : entryFrame m #[(.ref a1), (.ref a2), (.double d1)] 4 = mkF m 0 #[.val (.ref a1), .val (.ref a2), .val (.double d1), .second] [] := by first | (simp [entryFrame, mkF, argsToLocals, Value.category]; done) | rfl
def QFA (Z : State) (a1 : Addr) (a2 : Addr) (d1 : UInt64) (d2 : UInt64) (h0 : Heap) (n0 : Nat) (v : Option Value) (h : Heap) (L : List Loc) : Prop := v = none ∧ Fr n0 L ∧ Keep h0 h [a1] ∧ Fld Z h a1 "com/example/mazu/mazu/economics/Fares" "carRatePerKm" "D" (.double d1)
set_option maxRecDepth 65536 in
set_option maxHeartbeats 40000000 in
theorem rmFA (l : Launch) (Z : State) (a0 : Array Value) (hw : ∀ d ∈ tables_1, d.before a0 Z = true) (ws : List Jvm.Cond) (a1 : Addr) (a2 : Addr) (d1 : UInt64) (d2 : UInt64) (h0 : Heap) (n0 : Nat) (Z0 : n0 ≤ h0.size) (E_a1 : Exa Z h0 a1 "com/example/mazu/mazu/economics/Fares") (E_a2 : Exa Z h0 a2 "com/example/mazu/mazu/config/Config$Fares") (F_ptPerBoarding_a2 : Fld Z h0 a2 "com/example/mazu/mazu/config/Config$Fares" "ptPerBoarding" "D" (.double d2)) (F_ptFare_a1 : Fld Z h0 a1 "com/example/mazu/mazu/economics/Fares" "ptFare" "D" (.double 0)) (F_carRatePerKm_a1 : Fld Z h0 a1 "com/example/mazu/mazu/economics/Fares" "carRatePerKm" "D" (.double 0)) (g_a1 : n0 ≤ a1) (ne_a2_a1 : a2 ≠ a1) :
    MetFree l (⟨"com/example/mazu/mazu/economics/Fares", "<init>", "(Lcom/example/mazu/mazu/config/Config$Fares;D)V"⟩ : MethodName) (head1 (Jvm.Cond.code (⟨"com/example/mazu/mazu/economics/Fares", "<init>", "(Lcom/example/mazu/mazu/config/Config$Fares;D)V"⟩ : MethodName) prog_45_method_1_code 4 none :: ws) ({ frames := 1, cells := 0, slots := 0, locals := 13 } : Room)) (fun a U => a = #[(.ref a1), (.ref a2), (.double d1)] ∧ Z.Warmed39 U.vm ∧ U.heap = h0) (fun _ _ _ _ _ => True) (fun _ U o U' => ∃ v L, o = .returned v ∧ QFA Z a1 a2 d1 d2 h0 n0 v U'.heap L ∧ FrameEnd U o U' L ({ frames := 1, cells := 0, slots := 0, locals := 13 } : Room).cells ({ frames := 1, cells := 0, slots := 0, locals := 13 } : Room).slots) := by
  refine MetFree.of_bodySF (plainFor_of_name own_f26) hisR ?_
  intro p e s m args below meth c s₁ Bd hml0 hP hK
  obtain ⟨rfl, hZ, hh⟩ := hP
  have hx := Bd.exec
  have hby := Bd.bytes
  have hml : c.maxLocals = 4 := hml0
  have hown : s.vm.findClass "com/example/mazu/mazu/economics/Fares" = some m.cls := findClass_of_methodNamed Bd.named
  have hnm := (name_of_methodNamed Bd.named Bd.method).1
  have X0 : Stand p l e ({ frames := 1, cells := 0, slots := 0, locals := 13 } : Room) s m #[(.ref a1), (.ref a2), (.double d1)] below meth c s₁ [] 0 0 := Stand.of_body Bd
  have e0 : s₁.heap = h0 := by rw [← hh, Bd.state]; rfl
  have N0 := Fr.nil n0
  refine Go.start (own_ef_FA m a1 a2 d1) ?_
  show Go p e below _ s₁ (mkF m 0 #[.val (.ref a1), .val (.ref a2), .val (.double d1), .second] [])
  have Zn := Z0
  have K0 : Keep h0 h0 [a1] := Keep.refl h0 _
  refine Go.step (fun _ k => XS.aloadN X0.here hx rfl (hb hby own_f15) rfl rfl k) ?_
  show Go p e below _ s₁ (mkF m 1 #[.val (.ref a1), .val (.ref a2), .val (.double d1), .second] [(.ref a1)])
  obtain ⟨T5, X5, e5, st5⟩ := initO X0 hx hZ hown (hw _ (List.mem_of_getElem? (i := 22) rfl)) (hw _ (List.mem_of_getElem? (i := 15) rfl)) (hw _ (List.mem_of_getElem? (i := 16) rfl)) e0 (g := (mkF m 1 #[.val (.ref a1), .val (.ref a2), .val (.double d1), .second] [(.ref a1)])) rfl (by rw [hml]; rfl) rfl (hb hby own_f16) (by decide) (W := 0) (by show 2 * 0 + _ ≤ _; exact Nat.le_of_eq rfl) (by decide)
  refine Go.step st5 ?_
  show Go p e below _ T5 (mkF m 4 #[.val (.ref a1), .val (.ref a2), .val (.double d1), .second] [])
  refine Go.step (fun _ k => XS.aloadN X5.here hx rfl (hb hby own_f17) rfl rfl k) ?_
  show Go p e below _ T5 (mkF m 5 #[.val (.ref a1), .val (.ref a2), .val (.double d1), .second] [(.ref a1)])
  refine Go.step (fun _ k => XS.aloadN X5.here hx rfl (hb hby own_f18) rfl rfl k) ?_
  show Go p e below _ T5 (mkF m 6 #[.val (.ref a1), .val (.ref a2), .val (.double d1), .second] [(.ref a2), (.ref a1)])
  obtain ⟨cq6, kq6, q6a, q6b, q6c⟩ := isOf hZ e5 E_a2
  obtain ⟨_, _, ⟨T6, L6, k6, n6⟩, -, X6, ⟨Lc6, hQ6, l6, y6, z6⟩, st6⟩ := X5.virtualBack hx (y := (⟨"com/example/mazu/mazu/config/Config$Fares", "ptPerBoarding", "()D"⟩ : MethodName)) (z := (⟨"com/example/mazu/mazu/config/Config$Fares", "ptPerBoarding", "()D"⟩ : MethodName)) hown (mvT hZ (hw _ (List.mem_of_getElem? (i := 23) rfl))) (mvT hZ (hw _ (List.mem_of_getElem? (i := 24) rfl))) (notFace_of_selects (args := #[]) (mvT hZ (hw _ (List.mem_of_getElem? (i := 26) rfl)))) (mvT hZ (hw _ (List.mem_of_getElem? (i := 26) rfl))) (mvT hZ (hw _ (List.mem_of_getElem? (i := 25) rfl))) (by decide) (backOf (W := 1) (rmPt l Z a0 hw [] a2 d2 h0 n0 Zn F_ptPerBoarding_a2) hZ (hw _ (List.mem_of_getElem? (i := 27) rfl)) (hw _ (List.mem_of_getElem? (i := 5) rfl)) (by decide) (by decide)) q6a q6c (g := (mkF m 6 #[.val (.ref a1), .val (.ref a2), .val (.double d1), .second] [(.ref a2), (.ref a1)])) rfl (by rw [hml]; rfl) (Steps.refl _) (argsL := []) (rest := [(.ref a1)]) (lenOf own_f19 rfl) rfl (by show 2 * 0 + _ ≤ _; exact Nat.le_of_eq rfl) (hb hby own_f20) (fun _ _ => ⟨rfl, e5, (by dsimp only [Pt.cells, Pt.slots]; decide), (by dsimp only [Pt.cells, Pt.slots]; decide)⟩)
  dsimp only [Pt.U, Pt.locs, Pt.cells, Pt.slots] at X6 l6 y6 z6 st6 hQ6
  subst l6 y6 z6
  obtain ⟨rfl, N6q, e6⟩ := hQ6
  have N6 := Fr.app N0 N6q
  refine Go.step (fun _ k => st6.trans k) ?_
  show Go p e below _ T6 (mkF m 9 #[.val (.ref a1), .val (.ref a2), .val (.double d1), .second] [(.double d2), (.ref a1)])
  obtain ⟨T7, h7, X7, e7, W7, st7⟩ := putF X6 hx hZ hown (host := "") (Or.inl (hw _ (List.mem_of_getElem? (i := 28) rfl))) Via.refl e6 F_ptFare_a1 E_a1 (Or.inr ⟨(hw _ (List.mem_of_getElem? (i := 29) rfl)), rfl, hnm⟩) (hw _ (List.mem_of_getElem? (i := 1) rfl)) (ty := .double) (by decide) rfl rfl (g := (mkF m 9 #[.val (.ref a1), .val (.ref a2), .val (.double d1), .second] [(.double d2), (.ref a1)])) rfl rfl (hb hby own_f21)
  have Fw7 := F_ptFare_a1.same W7
  replace E_a1 := E_a1.wr W7
  replace E_a2 := E_a2.wr W7
  replace F_ptPerBoarding_a2 := F_ptPerBoarding_a2.other W7 (Or.inl ne_a2_a1)
  replace F_carRatePerKm_a1 := F_carRatePerKm_a1.other W7 (Or.inr (slot_ne (Or.inr (hw _ (List.mem_of_getElem? (i := 31) rfl))) (Or.inr (hw _ (List.mem_of_getElem? (i := 29) rfl))) (by decide) (t := .double) (t' := .double) (by decide) (by decide)))
  replace F_ptFare_a1 := Fw7
  replace K0 := K0.wr W7 (Or.inl (List.mem_of_getElem? (i := 0) rfl))
  replace Zn := Nat.le_trans Zn (Nat.le_of_eq W7.size.symm)
  have N7 := Fr.snoc X7 N6 g_a1
  refine Go.step st7 ?_
  show Go p e below _ T7 (mkF m 12 #[.val (.ref a1), .val (.ref a2), .val (.double d1), .second] [])
  refine Go.step (fun _ k => XS.aloadN X7.here hx rfl (hb hby own_f22) rfl rfl k) ?_
  show Go p e below _ T7 (mkF m 13 #[.val (.ref a1), .val (.ref a2), .val (.double d1), .second] [(.ref a1)])
  refine Go.step (fun _ k => XS.dloadN X7.here hx rfl (hb hby own_f23) rfl k) ?_
  show Go p e below _ T7 (mkF m 14 #[.val (.ref a1), .val (.ref a2), .val (.double d1), .second] [(.double d1), (.ref a1)])
  obtain ⟨T8, h8, X8, e8, W8, st8⟩ := putF X7 hx hZ hown (host := "") (Or.inl (hw _ (List.mem_of_getElem? (i := 30) rfl))) Via.refl e7 F_carRatePerKm_a1 E_a1 (Or.inr ⟨(hw _ (List.mem_of_getElem? (i := 31) rfl)), rfl, hnm⟩) (hw _ (List.mem_of_getElem? (i := 1) rfl)) (ty := .double) (by decide) rfl rfl (g := (mkF m 14 #[.val (.ref a1), .val (.ref a2), .val (.double d1), .second] [(.double d1), (.ref a1)])) rfl rfl (hb hby own_f24)
  have Fw8 := F_carRatePerKm_a1.same W8
  replace E_a1 := E_a1.wr W8
  replace E_a2 := E_a2.wr W8
  replace F_ptPerBoarding_a2 := F_ptPerBoarding_a2.other W8 (Or.inl ne_a2_a1)
  replace F_ptFare_a1 := F_ptFare_a1.other W8 (Or.inr (slot_ne (Or.inr (hw _ (List.mem_of_getElem? (i := 29) rfl))) (Or.inr (hw _ (List.mem_of_getElem? (i := 31) rfl))) (by decide) (t := .double) (t' := .double) (by decide) (by decide)))
  replace F_carRatePerKm_a1 := Fw8
  replace K0 := K0.wr W8 (Or.inl (List.mem_of_getElem? (i := 0) rfl))
  replace Zn := Nat.le_trans Zn (Nat.le_of_eq W8.size.symm)
  have N8 := Fr.snoc X8 N7 g_a1
  refine Go.step st8 ?_
  show Go p e below _ T8 (mkF m 17 #[.val (.ref a1), .val (.ref a2), .val (.double d1), .second] [])
  obtain ⟨fs, hr, hrun, hended, hW, hsame⟩ := X8.leave (v := none) (fun _ => rfl)
  refine Go.fin (X8.returnOut hx Bd.returns (hb hby own_f25) hr) hrun hended ?_
  refine ⟨_, _, rfl, ?_, ⟨_, rfl⟩, hW, hsame.mono (by decide) (by decide)⟩
  show QFA Z a1 a2 d1 d2 h0 n0 _ T8.heap _
  rw [e8]
  exact ⟨rfl, N8, K0, F_carRatePerKm_a1⟩
theorem own_f27 : decode prog_45_method_3_code 0 = .ok (.aload_n 0, 1) := by decide +kernel
theorem own_f28 : decode prog_45_method_3_code 1 = .ok (.getfield 19, 3) := by decide +kernel
theorem own_f29 : decode prog_45_method_3_code 4 = .ok (.dconst 0, 1) := by decide +kernel
theorem own_f30 : decode prog_45_method_3_code 5 = .ok (.dcmp .l, 1) := by decide +kernel
theorem own_f31 : decode prog_45_method_3_code 6 = .ok (.ifCond .ne 5, 3) := by decide +kernel
theorem own_f32 : decode prog_45_method_3_code 9 = .ok (.dconst 0, 1) := by decide +kernel
theorem own_f33 : decode prog_45_method_3_code 10 = .ok (.dreturn, 1) := by decide +kernel
theorem own_f34 : decode prog_45_method_3_code 11 = .ok (.aload_n 0, 1) := by decide +kernel
theorem own_f35 : decode prog_45_method_3_code 12 = .ok (.getfield 19, 3) := by decide +kernel
theorem own_f36 : decode prog_45_method_3_code 15 = .ok (.dload_n 1, 1) := by decide +kernel
theorem own_f37 : decode prog_45_method_3_code 16 = .ok (.ldc2_w 22, 3) := by decide +kernel
theorem own_f38 : decode prog_45_method_3_code 19 = .ok (.ddiv, 1) := by decide +kernel
theorem own_f39 : decode prog_45_method_3_code 20 = .ok (.dmul, 1) := by decide +kernel
theorem own_f40 : decode prog_45_method_3_code 21 = .ok (.dreturn, 1) := by decide +kernel
theorem own_ef_Leg (m : MethodId) (a1 : Addr) (d1 : UInt64) : entryFrame m #[(.ref a1), (.double d1)] 3 = mkF m 0 #[.val (.ref a1), .val (.double d1), .second] [] := by first | (simp [entryFrame, mkF, argsToLocals, Value.category]; done) | rfl
def QLeg (Z : State) (a1 : Addr) (d1 : UInt64) (rate : Int32) (h0 : Heap) (n0 : Nat) (v : Option Value) (h : Heap) (L : List Loc) : Prop := ∃ r : UInt64, v = some (.double r) ∧ Fr n0 L ∧ h = h0 ∧ own_Leg rate d1 r
set_option maxRecDepth 65536 in
set_option maxHeartbeats 40000000 in
theorem rmLeg (l : Launch) (Z : State) (a0 : Array Value) (hw : ∀ d ∈ tables_1, d.before a0 Z = true) (ws : List Jvm.Cond) (a1 : Addr) (d1 : UInt64) (rate : Int32) (h0 : Heap) (n0 : Nat) (Z0 : n0 ≤ h0.size) (F_carRatePerKm_a1 : Fld Z h0 a1 "com/example/mazu/mazu/economics/Fares" "carRatePerKm" "D" (.double (FP.i2d rate))) (hq : Jvm.FP.Core.DFin (FP.ddiv d1 own_K)) :
    MetFree l (⟨"com/example/mazu/mazu/economics/Fares", "carLeg", "(D)D"⟩ : MethodName) (head1 (Jvm.Cond.code (⟨"com/example/mazu/mazu/economics/Fares", "carLeg", "(D)D"⟩ : MethodName) prog_45_method_3_code 3 (some .double) :: ws) ({ frames := 0, cells := 0, slots := 0, locals := 0 } : Room)) (fun a U => a = #[(.ref a1), (.double d1)] ∧ Z.Warmed39 U.vm ∧ U.heap = h0) (fun _ _ _ _ _ => True) (fun _ U o U' => ∃ v L, o = .returned v ∧ QLeg Z a1 d1 rate h0 n0 v U'.heap L ∧ FrameEnd U o U' L ({ frames := 0, cells := 0, slots := 0, locals := 0 } : Room).cells ({ frames := 0, cells := 0, slots := 0, locals := 0 } : Room).slots) := by
  refine MetFree.of_bodySF (plainFor_of_name own_f26) hisR ?_
  intro p e s m args below meth c s₁ Bd hml0 hP hK
  obtain ⟨rfl, hZ, hh⟩ := hP
  have hx := Bd.exec
  have hby := Bd.bytes
  have hml : c.maxLocals = 3 := hml0
  have hown : s.vm.findClass "com/example/mazu/mazu/economics/Fares" = some m.cls := findClass_of_methodNamed Bd.named
  have hnm := (name_of_methodNamed Bd.named Bd.method).1
  have X0 : Stand p l e ({ frames := 0, cells := 0, slots := 0, locals := 0 } : Room) s m #[(.ref a1), (.double d1)] below meth c s₁ [] 0 0 := Stand.of_body Bd
  have e0 : s₁.heap = h0 := by rw [← hh, Bd.state]; rfl
  have N0 := Fr.nil n0
  refine Go.start (own_ef_Leg m a1 d1) ?_
  show Go p e below _ s₁ (mkF m 0 #[.val (.ref a1), .val (.double d1), .second] [])
  refine Go.step (fun _ k => XS.aloadN X0.here hx rfl (hb hby own_f27) rfl rfl k) ?_
  show Go p e below _ s₁ (mkF m 1 #[.val (.ref a1), .val (.double d1), .second] [(.ref a1)])
  obtain ⟨T9, X9, e9, st9⟩ := getF X0 hx hZ hown (host := "") (Or.inl (hw _ (List.mem_of_getElem? (i := 30) rfl))) Via.refl e0 F_carRatePerKm_a1 (g := (mkF m 1 #[.val (.ref a1), .val (.double d1), .second] [(.ref a1)])) rfl rfl (hb hby own_f28)
  refine Go.step st9 ?_
  show Go p e below _ T9 (mkF m 4 #[.val (.ref a1), .val (.double d1), .second] [(.double (FP.i2d rate))])
  refine Go.step (fun _ k => XS.dconst0 X9.here hx rfl (hb hby own_f29) rfl k) ?_
  show Go p e below _ T9 (mkF m 5 #[.val (.ref a1), .val (.double d1), .second] [(.double FP.dconst0), (.double (FP.i2d rate))])
  refine Go.step (fun _ k => XS.dcmpS X9.here hx rfl (hb hby own_f30) rfl rfl k) ?_
  show Go p e below _ T9 (mkF m 6 #[.val (.ref a1), .val (.double d1), .second] [(.int (cmpValue (FP.dcmp (FP.i2d rate) FP.dconst0) .l))])
  by_cases hrt : rate.toInt = 0
  · show Go p e below _ T9 (mkF m 6 #[.val (.ref a1), .val (.double d1), .second] [(.int (cmpValue (FP.dcmp (FP.i2d rate) FP.dconst0) .l))])
    refine Go.step (fun _ k => XS.ifNo X9.here hx rfl (hb hby own_f31) rfl ((if0 _ _).trans (teq ((own_Is.cv (own_Is.i2d rate) (own_Is.zero 0) .l).2.2.mpr hrt)).2) k) ?_
    show Go p e below _ T9 (mkF m 9 #[.val (.ref a1), .val (.double d1), .second] [])
    refine Go.step (fun _ k => XS.dconst0 X9.here hx rfl (hb hby own_f32) rfl k) ?_
    show Go p e below _ T9 (mkF m 10 #[.val (.ref a1), .val (.double d1), .second] [(.double FP.dconst0)])
    obtain ⟨fs, hr, hrun, hended, hW, hsame⟩ := X9.leave (v := some (.double FP.dconst0)) (fun h => by rw [Bd.returns] at h; cases h)
    refine Go.fin (own_retD X9 hx Bd.returns (hb hby own_f33) hr) hrun hended ?_
    refine ⟨_, _, rfl, ?_, ⟨_, rfl⟩, hW, hsame.mono (by decide) (by decide)⟩
    show QLeg Z a1 d1 rate h0 n0 _ T9.heap _
    rw [e9]
    exact ⟨_, rfl, N0, rfl, Or.inl ⟨hrt, rfl⟩⟩
  · show Go p e below _ T9 (mkF m 6 #[.val (.ref a1), .val (.double d1), .second] [(.int (cmpValue (FP.dcmp (FP.i2d rate) FP.dconst0) .l))])
    refine Go.step (fun _ k => XS.ifYes X9.here hx rfl (pc0 := 6) (pc' := 11) rfl (hb hby own_f31) rfl ((if0 _ _).trans (feq (fun q => hrt ((own_Is.cv (own_Is.i2d rate) (own_Is.zero 0) .l).2.2.mp q))).2) (by decide) (by decide) k) ?_
    show Go p e below _ T9 (mkF m 11 #[.val (.ref a1), .val (.double d1), .second] [])
    refine Go.step (fun _ k => XS.aloadN X9.here hx rfl (hb hby own_f34) rfl rfl k) ?_
    show Go p e below _ T9 (mkF m 12 #[.val (.ref a1), .val (.double d1), .second] [(.ref a1)])
    obtain ⟨T10, X10, e10, st10⟩ := getF X9 hx hZ hown (host := "") (Or.inl (hw _ (List.mem_of_getElem? (i := 30) rfl))) Via.refl e9 F_carRatePerKm_a1 (g := (mkF m 12 #[.val (.ref a1), .val (.double d1), .second] [(.ref a1)])) rfl rfl (hb hby own_f35)
    refine Go.step st10 ?_
    show Go p e below _ T10 (mkF m 15 #[.val (.ref a1), .val (.double d1), .second] [(.double (FP.i2d rate))])
    refine Go.step (fun _ k => XS.dloadN X10.here hx rfl (hb hby own_f36) rfl k) ?_
    show Go p e below _ T10 (mkF m 16 #[.val (.ref a1), .val (.double d1), .second] [(.double d1), (.double (FP.i2d rate))])
    refine Go.step (X10.ldc2DoubleC hx hown (mvT hZ (hw _ (List.mem_of_getElem? (i := 42) rfl))) (g := (mkF m 16 #[.val (.ref a1), .val (.double d1), .second] [(.double d1), (.double (FP.i2d rate))])) rfl (hb hby own_f37)) ?_
    show Go p e below _ T10 (mkF m 19 #[.val (.ref a1), .val (.double d1), .second] [(.double (4652007308841189376 : UInt64)), (.double d1), (.double (FP.i2d rate))])
    obtain ⟨qq, e_qq⟩ : ∃ z : UInt64, z = FP.ddiv d1 (4652007308841189376 : UInt64) := ⟨_, rfl⟩
    refine Go.step (fun _ k => XS.ddivS X10.here hx rfl (hb hby own_f38) rfl (own_nn hq) e_qq.symm k) ?_
    show Go p e below _ T10 (mkF m 20 #[.val (.ref a1), .val (.double d1), .second] [(.double qq), (.double (FP.i2d rate))])
    have hqq : Jvm.FP.Core.DFin qq := by rw [e_qq]; exact hq
    obtain ⟨rr, e_rr⟩ : ∃ z : UInt64, z = FP.dmul (FP.i2d rate) qq := ⟨_, rfl⟩
    refine Go.step (fun _ k => XS.dmulS X10.here hx rfl (hb hby own_f39) rfl (Jvm.Free.Fl.dmul_out (Jvm.Free.Fl.i2d_fin rate) (Jvm.Free.Fl.fin64_core.mpr hqq)) e_rr.symm k) ?_
    show Go p e below _ T10 (mkF m 21 #[.val (.ref a1), .val (.double d1), .second] [(.double rr)])
    obtain ⟨fs, hr, hrun, hended, hW, hsame⟩ := X10.leave (v := some (.double rr)) (fun h => by rw [Bd.returns] at h; cases h)
    refine Go.fin (own_retD X10 hx Bd.returns (hb hby own_f40) hr) hrun hended ?_
    refine ⟨_, _, rfl, ?_, ⟨_, rfl⟩, hW, hsame.mono (by decide) (by decide)⟩
    show QLeg Z a1 d1 rate h0 n0 _ T10.heap _
    rw [e10]
    exact ⟨_, rfl, N0, rfl, Or.inr ⟨hrt, by rw [e_rr, e_qq]⟩⟩
theorem own_f41 : parseMethodDescriptor "(D)V" = some ⟨[.double], none⟩ := by decide +kernel
theorem own_f42 : parseMethodDescriptor "(Lcom/example/mazu/mazu/config/Config$Fares;D)V" = some ⟨[(.object "com/example/mazu/mazu/config/Config$Fares"), .double], none⟩ := by decide +kernel
theorem own_f43 : parseMethodDescriptor "(D)D" = some ⟨[.double], some .double⟩ := by decide +kernel
theorem own_f44 : plainName "com/example/mazu/mazu/economics/FaresCarLegPinLaw" = true := by first | (simp [plainName, overriddenIn]; done) | decide +kernel
theorem own_ef_0 (m : MethodId) (i0 : Int32) (i1 : Int32) (i2 : Int32) (i3 : Int32) : entryFrame m #[(.int i0), (.int i1), (.int i2), (.int i3)] maxLocals = mkF m 0 #[.val (.int i0), .val (.int i1), .val (.int i2), .val (.int i3), .unset, .unset, .unset, .unset, .unset, .unset, .unset, .unset, .unset, .unset, .unset, .unset, .unset, .unset, .unset, .unset] [] := by first | (simp [entryFrame, mkF, argsToLocals, Value.category, maxLocals]; done) | rfl
def Q0 (Z : State) (i0 : Int32) (i1 : Int32) (i2 : Int32) (i3 : Int32) (h0 : Heap) (n0 : Nat) (v : Option Value) (h : Heap) (L : List Loc) : Prop := v = some (.int 1) ∧ Fr n0 L
set_option maxRecDepth 65536 in
set_option maxHeartbeats 40000000 in
theorem rm0 (l : Launch) (Z : State) (a0 : Array Value) (hw : ∀ d ∈ tables_1, d.before a0 Z = true) (ws : List Jvm.Cond) (i0 : Int32) (i1 : Int32) (i2 : Int32) (i3 : Int32) (h0 : Heap) (n0 : Nat) (Z0 : n0 ≤ h0.size)  :
    MetFree l x (head1 (Jvm.Cond.code x code maxLocals ret :: ws) room_1) (fun a U => a = #[(.int i0), (.int i1), (.int i2), (.int i3)] ∧ Z.Warmed39 U.vm ∧ U.heap = h0) (fun _ _ _ _ _ => True) (fun _ U o U' => ∃ v L, o = .returned v ∧ Q0 Z i0 i1 i2 i3 h0 n0 v U'.heap L ∧ FrameEnd U o U' L 2 3) := by
  refine MetFree.of_bodySF (plainFor_of_name own_f44) hisR ?_
  intro p e s m args below meth c s₁ Bd hml0 hP hK
  obtain ⟨rfl, hZ, hh⟩ := hP
  have hx := Bd.exec
  have hby := Bd.bytes
  have hml : c.maxLocals = 20 := hml0
  have hown : s.vm.findClass "com/example/mazu/mazu/economics/FaresCarLegPinLaw" = some m.cls := findClass_of_methodNamed Bd.named
  have hnm := (name_of_methodNamed Bd.named Bd.method).1
  have X0 : Stand p l e room_1 s m #[(.int i0), (.int i1), (.int i2), (.int i3)] below meth c s₁ [] 0 0 := Stand.of_body Bd
  have e0 : s₁.heap = h0 := by rw [← hh, Bd.state]; rfl
  have N0 := Fr.nil n0
  refine Go.start (own_ef_0 m i0 i1 i2 i3) ?_
  show Go p e below _ s₁ (mkF m 0 #[.val (.int i0), .val (.int i1), .val (.int i2), .val (.int i3), .unset, .unset, .unset, .unset, .unset, .unset, .unset, .unset, .unset, .unset, .unset, .unset, .unset, .unset, .unset, .unset] [])
  have Zn := Z0
  have K0 : Keep h0 h0 [] := Keep.refl h0 _
  obtain ⟨T11, h11, X11, e11, E11, A11, D11, U11, st11⟩ := newO X0 hx hZ hown (hw _ (List.mem_of_getElem? (i := 0) rfl)) (hw _ (List.mem_of_getElem? (i := 1) rfl)) (hw _ (List.mem_of_getElem? (i := 2) rfl)) e0 (g := (mkF m 0 #[.val (.int i0), .val (.int i1), .val (.int i2), .val (.int i3), .unset, .unset, .unset, .unset, .unset, .unset, .unset, .unset, .unset, .unset, .unset, .unset, .unset, .unset, .unset, .unset] [])) rfl (hb hby at_0) (by decide) (by decide)
  obtain ⟨fa, g11⟩ : ∃ z, z = h0.size := ⟨_, rfl⟩
  rw [← g11] at A11 D11 U11 st11
  have g_fa : n0 ≤ fa := Nat.le_trans Zn (Nat.le_of_eq g11.symm)
  have sz_fa : h0.size ≤ fa := Nat.le_trans K0.1 (Nat.le_of_eq g11.symm)
  replace Zn := Nat.le_trans Zn E11.1
  replace K0 := K0.ext E11
  have E_fa := A11
  have F_ptFare_fa : Fld Z h11 fa "com/example/mazu/mazu/economics/Fares" "ptFare" "D" (.double 0) := D11 (Or.inr (hw _ (List.mem_of_getElem? (i := 29) rfl))) (ty := .double) (by decide)
  have F_carRatePerKm_fa : Fld Z h11 fa "com/example/mazu/mazu/economics/Fares" "carRatePerKm" "D" (.double 0) := D11 (Or.inr (hw _ (List.mem_of_getElem? (i := 31) rfl))) (ty := .double) (by decide)
  refine Go.step st11 ?_
  show Go p e below _ T11 (mkF m 3 #[.val (.int i0), .val (.int i1), .val (.int i2), .val (.int i3), .unset, .unset, .unset, .unset, .unset, .unset, .unset, .unset, .unset, .unset, .unset, .unset, .unset, .unset, .unset, .unset] [(.ref fa)])
  refine Go.step (fun _ k => XS.dup X11.here hx rfl (hb hby at_3) rfl rfl k) ?_
  show Go p e below _ T11 (mkF m 4 #[.val (.int i0), .val (.int i1), .val (.int i2), .val (.int i3), .unset, .unset, .unset, .unset, .unset, .unset, .unset, .unset, .unset, .unset, .unset, .unset, .unset, .unset, .unset, .unset] [(.ref fa), (.ref fa)])
  obtain ⟨T12, h12, X12, e12, E12, A12, D12, U12, st12⟩ := newO X11 hx hZ hown (hw _ (List.mem_of_getElem? (i := 3) rfl)) (hw _ (List.mem_of_getElem? (i := 4) rfl)) (hw _ (List.mem_of_getElem? (i := 5) rfl)) e11 (g := (mkF m 4 #[.val (.int i0), .val (.int i1), .val (.int i2), .val (.int i3), .unset, .unset, .unset, .unset, .unset, .unset, .unset, .unset, .unset, .unset, .unset, .unset, .unset, .unset, .unset, .unset] [(.ref fa), (.ref fa)])) rfl (hb hby at_4) (by decide) (by decide)
  obtain ⟨cf, g12⟩ : ∃ z, z = h11.size := ⟨_, rfl⟩
  rw [← g12] at A12 D12 U12 st12
  have ne_fa_cf : fa ≠ cf := Nat.ne_of_lt (Nat.lt_of_lt_of_le E_fa.lt (Nat.le_of_eq g12.symm))
  have g_cf : n0 ≤ cf := Nat.le_trans Zn (Nat.le_of_eq g12.symm)
  have sz_cf : h0.size ≤ cf := Nat.le_trans K0.1 (Nat.le_of_eq g12.symm)
  replace E_fa := E_fa.ext E12
  replace F_ptFare_fa := F_ptFare_fa.ext E12
  replace F_carRatePerKm_fa := F_carRatePerKm_fa.ext E12
  replace Zn := Nat.le_trans Zn E12.1
  replace K0 := K0.ext E12
  have E_cf := A12
  have F_ptPerBoarding_cf : Fld Z h12 cf "com/example/mazu/mazu/config/Config$Fares" "ptPerBoarding" "D" (.double 0) := D12 (Or.inr (hw _ (List.mem_of_getElem? (i := 18) rfl))) (ty := .double) (by decide)
  refine Go.step st12 ?_
  show Go p e below _ T12 (mkF m 7 #[.val (.int i0), .val (.int i1), .val (.int i2), .val (.int i3), .unset, .unset, .unset, .unset, .unset, .unset, .unset, .unset, .unset, .unset, .unset, .unset, .unset, .unset, .unset, .unset] [(.ref cf), (.ref fa), (.ref fa)])
  refine Go.step (fun _ k => XS.dup X12.here hx rfl (hb hby at_7) rfl rfl k) ?_
  show Go p e below _ T12 (mkF m 8 #[.val (.int i0), .val (.int i1), .val (.int i2), .val (.int i3), .unset, .unset, .unset, .unset, .unset, .unset, .unset, .unset, .unset, .unset, .unset, .unset, .unset, .unset, .unset, .unset] [(.ref cf), (.ref cf), (.ref fa), (.ref fa)])
  refine Go.step (fun _ k => XS.dconst0 X12.here hx rfl (hb hby at_8) rfl k) ?_
  show Go p e below _ T12 (mkF m 9 #[.val (.int i0), .val (.int i1), .val (.int i2), .val (.int i3), .unset, .unset, .unset, .unset, .unset, .unset, .unset, .unset, .unset, .unset, .unset, .unset, .unset, .unset, .unset, .unset] [(.double FP.dconst0), (.ref cf), (.ref cf), (.ref fa), (.ref fa)])
  obtain ⟨_, _, ⟨T13, L13, k13, n13⟩, -, X13, ⟨Lc13, hQ13, l13, y13, z13⟩, st13⟩ := X12.specialBack hx (y := (⟨"com/example/mazu/mazu/config/Config$Fares", "<init>", "(D)V"⟩ : MethodName)) rfl hown (mvT hZ (hw _ (List.mem_of_getElem? (i := 6) rfl))) (mvT hZ (hw _ (List.mem_of_getElem? (i := 7) rfl))) (mvT hZ (hw _ (List.mem_of_getElem? (i := 8) rfl))) (by decide) (backOf (W := 3) (rmCF l Z a0 hw [] cf FP.dconst0 h12 n0 Zn E_cf F_ptPerBoarding_cf g_cf) hZ (hw _ (List.mem_of_getElem? (i := 8) rfl)) (hw _ (List.mem_of_getElem? (i := 5) rfl)) (by decide) (by decide)) (g := (mkF m 9 #[.val (.int i0), .val (.int i1), .val (.int i2), .val (.int i3), .unset, .unset, .unset, .unset, .unset, .unset, .unset, .unset, .unset, .unset, .unset, .unset, .unset, .unset, .unset, .unset] [(.double FP.dconst0), (.ref cf), (.ref cf), (.ref fa), (.ref fa)])) rfl (by rw [hml]; rfl) (Steps.refl _) (a := cf) (argsL := [(.double FP.dconst0)]) (rest := [(.ref cf), (.ref fa), (.ref fa)]) (lenOf own_f41 rfl) rfl (by show 2 * 0 + _ ≤ _; exact Nat.le_of_eq rfl) (hb hby at_9) (fun _ _ => ⟨rfl, e12, (by dsimp only [Pt.cells, Pt.slots]; decide), (by dsimp only [Pt.cells, Pt.slots]; decide)⟩)
  dsimp only [Pt.U, Pt.locs, Pt.cells, Pt.slots] at X13 l13 y13 z13 st13 hQ13
  subst l13 y13 z13
  obtain ⟨rfl, N13q, K13, F_ptPerBoarding_cf⟩ := hQ13
  have N13 := Fr.app N0 N13q
  refine Go.step (fun _ k => st13.trans k) ?_
  replace E_fa := E_fa.keep K13
  replace F_ptFare_fa := F_ptFare_fa.keep K13 (ninS ne_fa_cf nin0)
  replace F_carRatePerKm_fa := F_carRatePerKm_fa.keep K13 (ninS ne_fa_cf nin0)
  replace E_cf := E_cf.keep K13
  replace K0 := K0.trans K13 (allS (Or.inr sz_cf) (all0))
  replace Zn := Nat.le_trans Zn K13.1
  show Go p e below _ T13 (mkF m 12 #[.val (.int i0), .val (.int i1), .val (.int i2), .val (.int i3), .unset, .unset, .unset, .unset, .unset, .unset, .unset, .unset, .unset, .unset, .unset, .unset, .unset, .unset, .unset, .unset] [(.ref cf), (.ref fa), (.ref fa)])
  refine Go.step (fun _ k => XS.iloadN X13.here hx rfl (hb hby at_12) rfl k) ?_
  show Go p e below _ T13 (mkF m 13 #[.val (.int i0), .val (.int i1), .val (.int i2), .val (.int i3), .unset, .unset, .unset, .unset, .unset, .unset, .unset, .unset, .unset, .unset, .unset, .unset, .unset, .unset, .unset, .unset] [(.int i0), (.ref cf), (.ref fa), (.ref fa)])
  refine Go.step (fun _ k => XS.i2dS X13.here hx rfl (hb hby at_13) rfl rfl k) ?_
  show Go p e below _ T13 (mkF m 14 #[.val (.int i0), .val (.int i1), .val (.int i2), .val (.int i3), .unset, .unset, .unset, .unset, .unset, .unset, .unset, .unset, .unset, .unset, .unset, .unset, .unset, .unset, .unset, .unset] [(.double (FP.i2d i0)), (.ref cf), (.ref fa), (.ref fa)])
  obtain ⟨_, _, ⟨T14, L14, k14, n14⟩, -, X14, ⟨Lc14, hQ14, l14, y14, z14⟩, st14⟩ := X13.specialBack hx (y := (⟨"com/example/mazu/mazu/economics/Fares", "<init>", "(Lcom/example/mazu/mazu/config/Config$Fares;D)V"⟩ : MethodName)) rfl hown (mvT hZ (hw _ (List.mem_of_getElem? (i := 19) rfl))) (mvT hZ (hw _ (List.mem_of_getElem? (i := 20) rfl))) (mvT hZ (hw _ (List.mem_of_getElem? (i := 21) rfl))) (by decide) (backOf (W := 1) (rmFA l Z a0 hw [] fa cf (FP.i2d i0) FP.dconst0 T13.heap n0 Zn E_fa E_cf F_ptPerBoarding_cf F_ptFare_fa F_carRatePerKm_fa g_fa ne_fa_cf.symm) hZ (hw _ (List.mem_of_getElem? (i := 21) rfl)) (hw _ (List.mem_of_getElem? (i := 2) rfl)) (by decide) (by decide)) (g := (mkF m 14 #[.val (.int i0), .val (.int i1), .val (.int i2), .val (.int i3), .unset, .unset, .unset, .unset, .unset, .unset, .unset, .unset, .unset, .unset, .unset, .unset, .unset, .unset, .unset, .unset] [(.double (FP.i2d i0)), (.ref cf), (.ref fa), (.ref fa)])) rfl (by rw [hml]; rfl) (Steps.refl _) (a := fa) (argsL := [(.ref cf), (.double (FP.i2d i0))]) (rest := [(.ref fa)]) (lenOf own_f42 rfl) rfl (by show 2 * 0 + _ ≤ _; exact Nat.le_of_eq rfl) (hb hby at_14) (fun _ _ => ⟨rfl, rfl, (by dsimp only [Pt.cells, Pt.slots]; decide), (by dsimp only [Pt.cells, Pt.slots]; decide)⟩)
  dsimp only [Pt.U, Pt.locs, Pt.cells, Pt.slots] at X14 l14 y14 z14 st14 hQ14
  subst l14 y14 z14
  obtain ⟨rfl, N14q, K14, F_carRatePerKm_fa⟩ := hQ14
  have N14 := Fr.app N13 N14q
  refine Go.step (fun _ k => st14.trans k) ?_
  replace E_fa := E_fa.keep K14
  replace E_cf := E_cf.keep K14
  replace F_ptPerBoarding_cf := F_ptPerBoarding_cf.keep K14 (ninS (Ne.symm ne_fa_cf) nin0)
  replace K0 := K0.trans K14 (allS (Or.inr sz_fa) (all0))
  replace Zn := Nat.le_trans Zn K14.1
  show Go p e below _ T14 (mkF m 17 #[.val (.int i0), .val (.int i1), .val (.int i2), .val (.int i3), .unset, .unset, .unset, .unset, .unset, .unset, .unset, .unset, .unset, .unset, .unset, .unset, .unset, .unset, .unset, .unset] [(.ref fa)])
  refine Go.step (fun _ k => XS.astore X14.here hx rfl (hb hby at_17) rfl rfl (l' := #[.val (.int i0), .val (.int i1), .val (.int i2), .val (.int i3), .val (.ref fa), .unset, .unset, .unset, .unset, .unset, .unset, .unset, .unset, .unset, .unset, .unset, .unset, .unset, .unset, .unset]) rfl k) ?_
  show Go p e below _ T14 (mkF m 19 #[.val (.int i0), .val (.int i1), .val (.int i2), .val (.int i3), .val (.ref fa), .unset, .unset, .unset, .unset, .unset, .unset, .unset, .unset, .unset, .unset, .unset, .unset, .unset, .unset, .unset] [])
  refine Go.step (fun _ k => XS.iloadN X14.here hx rfl (hb hby at_19) rfl k) ?_
  show Go p e below _ T14 (mkF m 20 #[.val (.int i0), .val (.int i1), .val (.int i2), .val (.int i3), .val (.ref fa), .unset, .unset, .unset, .unset, .unset, .unset, .unset, .unset, .unset, .unset, .unset, .unset, .unset, .unset, .unset] [(.int i3)])
  refine Go.step (fun _ k => XS.iconst X14.here hx rfl (hb hby at_20) k) ?_
  show Go p e below _ T14 (mkF m 21 #[.val (.int i0), .val (.int i1), .val (.int i2), .val (.int i3), .val (.ref fa), .unset, .unset, .unset, .unset, .unset, .unset, .unset, .unset, .unset, .unset, .unset, .unset, .unset, .unset, .unset] [(.int (3 : Int32)), (.int i3)])
  refine Go.step (fun _ k => XS.iand X14.here hx rfl (hb hby at_21) rfl k) ?_
  show Go p e below _ T14 (mkF m 22 #[.val (.int i0), .val (.int i1), .val (.int i2), .val (.int i3), .val (.ref fa), .unset, .unset, .unset, .unset, .unset, .unset, .unset, .unset, .unset, .unset, .unset, .unset, .unset, .unset, .unset] [(.int (i3 &&& (3 : Int32)))])
  obtain ⟨mm, e_mm⟩ : ∃ z : Int32, z = (i3 &&& (3 : Int32)) := ⟨_, rfl⟩
  rw [← e_mm]
  show Go p e below _ T14 (mkF m 22 #[.val (.int i0), .val (.int i1), .val (.int i2), .val (.int i3), .val (.ref fa), .unset, .unset, .unset, .unset, .unset, .unset, .unset, .unset, .unset, .unset, .unset, .unset, .unset, .unset, .unset] [(.int mm)])
  refine Go.step (fun _ k => XS.istore X14.here hx rfl (hb hby at_22) rfl (l' := #[.val (.int i0), .val (.int i1), .val (.int i2), .val (.int i3), .val (.ref fa), .val (.int mm), .unset, .unset, .unset, .unset, .unset, .unset, .unset, .unset, .unset, .unset, .unset, .unset, .unset, .unset]) rfl k) ?_
  show Go p e below _ T14 (mkF m 24 #[.val (.int i0), .val (.int i1), .val (.int i2), .val (.int i3), .val (.ref fa), .val (.int mm), .unset, .unset, .unset, .unset, .unset, .unset, .unset, .unset, .unset, .unset, .unset, .unset, .unset, .unset] [])
  refine Go.step (fun _ k => XS.iload X14.here hx rfl (hb hby at_24) rfl k) ?_
  show Go p e below _ T14 (mkF m 26 #[.val (.int i0), .val (.int i1), .val (.int i2), .val (.int i3), .val (.ref fa), .val (.int mm), .unset, .unset, .unset, .unset, .unset, .unset, .unset, .unset, .unset, .unset, .unset, .unset, .unset, .unset] [(.int mm)])
  by_cases hc26_15 : mm = (0 : Int32)
  · show Go p e below _ T14 (mkF m 26 #[.val (.int i0), .val (.int i1), .val (.int i2), .val (.int i3), .val (.ref fa), .val (.int mm), .unset, .unset, .unset, .unset, .unset, .unset, .unset, .unset, .unset, .unset, .unset, .unset, .unset, .unset] [(.int mm)])
    refine Go.step (fun _ k => XS.ifNo X14.here hx rfl (hb hby at_26) rfl ((if0 _ _).trans (teq hc26_15).2) k) ?_
    show Go p e below _ T14 (mkF m 29 #[.val (.int i0), .val (.int i1), .val (.int i2), .val (.int i3), .val (.ref fa), .val (.int mm), .unset, .unset, .unset, .unset, .unset, .unset, .unset, .unset, .unset, .unset, .unset, .unset, .unset, .unset] [])
    refine Go.step (fun _ k => XS.iloadN X14.here hx rfl (hb hby at_29) rfl k) ?_
    show Go p e below _ T14 (mkF m 30 #[.val (.int i0), .val (.int i1), .val (.int i2), .val (.int i3), .val (.ref fa), .val (.int mm), .unset, .unset, .unset, .unset, .unset, .unset, .unset, .unset, .unset, .unset, .unset, .unset, .unset, .unset] [(.int i1)])
    refine Go.step (fun _ k => XS.i2l X14.here hx rfl (hb hby at_30) rfl k) ?_
    show Go p e below _ T14 (mkF m 31 #[.val (.int i0), .val (.int i1), .val (.int i2), .val (.int i3), .val (.ref fa), .val (.int mm), .unset, .unset, .unset, .unset, .unset, .unset, .unset, .unset, .unset, .unset, .unset, .unset, .unset, .unset] [(.long (i1.toInt64))])
    obtain ⟨kk, e_kk⟩ : ∃ z : Int64, z = (i1.toInt64) := ⟨_, rfl⟩
    rw [← e_kk]
    show Go p e below _ T14 (mkF m 31 #[.val (.int i0), .val (.int i1), .val (.int i2), .val (.int i3), .val (.ref fa), .val (.int mm), .unset, .unset, .unset, .unset, .unset, .unset, .unset, .unset, .unset, .unset, .unset, .unset, .unset, .unset] [(.long kk)])
    refine Go.step (fun _ k => XS.lstore X14.here hx rfl (hb hby at_31) rfl (l' := #[.val (.int i0), .val (.int i1), .val (.int i2), .val (.int i3), .val (.ref fa), .val (.int mm), .val (.long kk), .second, .unset, .unset, .unset, .unset, .unset, .unset, .unset, .unset, .unset, .unset, .unset, .unset]) rfl k) ?_
    show Go p e below _ T14 (mkF m 33 #[.val (.int i0), .val (.int i1), .val (.int i2), .val (.int i3), .val (.ref fa), .val (.int mm), .val (.long kk), .second, .unset, .unset, .unset, .unset, .unset, .unset, .unset, .unset, .unset, .unset, .unset, .unset] [])
    refine Go.step (fun _ k => XS.aload X14.here hx rfl (hb hby at_33) rfl rfl k) ?_
    show Go p e below _ T14 (mkF m 35 #[.val (.int i0), .val (.int i1), .val (.int i2), .val (.int i3), .val (.ref fa), .val (.int mm), .val (.long kk), .second, .unset, .unset, .unset, .unset, .unset, .unset, .unset, .unset, .unset, .unset, .unset, .unset] [(.ref fa)])
    refine Go.step (X14.ldc2Long hx hown (mvT hZ (hw _ (List.mem_of_getElem? (i := 32) rfl))) (g := (mkF m 35 #[.val (.int i0), .val (.int i1), .val (.int i2), .val (.int i3), .val (.ref fa), .val (.int mm), .val (.long kk), .second, .unset, .unset, .unset, .unset, .unset, .unset, .unset, .unset, .unset, .unset, .unset, .unset] [(.ref fa)])) rfl (hb hby at_35)) ?_
    show Go p e below _ T14 (mkF m 38 #[.val (.int i0), .val (.int i1), .val (.int i2), .val (.int i3), .val (.ref fa), .val (.int mm), .val (.long kk), .second, .unset, .unset, .unset, .unset, .unset, .unset, .unset, .unset, .unset, .unset, .unset, .unset] [(.long (1000 : Int64)), (.ref fa)])
    refine Go.step (fun _ k => XS.lload X14.here hx rfl (hb hby at_38) rfl k) ?_
    show Go p e below _ T14 (mkF m 40 #[.val (.int i0), .val (.int i1), .val (.int i2), .val (.int i3), .val (.ref fa), .val (.int mm), .val (.long kk), .second, .unset, .unset, .unset, .unset, .unset, .unset, .unset, .unset, .unset, .unset, .unset, .unset] [(.long kk), (.long (1000 : Int64)), (.ref fa)])
    refine Go.step (fun _ k => XS.lmul X14.here hx rfl (hb hby at_40) rfl k) ?_
    show Go p e below _ T14 (mkF m 41 #[.val (.int i0), .val (.int i1), .val (.int i2), .val (.int i3), .val (.ref fa), .val (.int mm), .val (.long kk), .second, .unset, .unset, .unset, .unset, .unset, .unset, .unset, .unset, .unset, .unset, .unset, .unset] [(.long ((1000 : Int64) * kk)), (.ref fa)])
    obtain ⟨f41, e_f41⟩ : ∃ z : UInt64, z = FP.l2d ((1000 : Int64) * kk) := ⟨_, rfl⟩
    refine Go.step (fun _ k => XS.l2dS X14.here hx rfl (hb hby at_41) rfl e_f41.symm k) ?_
    show Go p e below _ T14 (mkF m 42 #[.val (.int i0), .val (.int i1), .val (.int i2), .val (.int i3), .val (.ref fa), .val (.int mm), .val (.long kk), .second, .unset, .unset, .unset, .unset, .unset, .unset, .unset, .unset, .unset, .unset, .unset, .unset] [(.double f41), (.ref fa)])
    have hm : ((1000 : Int64) * kk).toInt = 1000 * i1.toInt := by rw [e_kk]; exact own_1000 i1
    have hbk := own_sm i1
    have hkm := own_km (m := ((1000 : Int64) * kk)) (k := i1.toInt) hbk (by omega) (by omega)
    rw [← e_f41] at hkm
    obtain ⟨cq16, kq16, q16a, q16b, q16c⟩ := isOf hZ rfl E_fa
    obtain ⟨_, _, ⟨T16, L16, k16, n16⟩, -, X16, ⟨Lc16, hQ16, l16, y16, z16⟩, st16⟩ := X14.virtualBack hx (y := (⟨"com/example/mazu/mazu/economics/Fares", "carLeg", "(D)D"⟩ : MethodName)) (z := (⟨"com/example/mazu/mazu/economics/Fares", "carLeg", "(D)D"⟩ : MethodName)) hown (mvT hZ (hw _ (List.mem_of_getElem? (i := 34) rfl))) (mvT hZ (hw _ (List.mem_of_getElem? (i := 35) rfl))) (notFace_of_selects (args := #[]) (mvT hZ (hw _ (List.mem_of_getElem? (i := 37) rfl)))) (mvT hZ (hw _ (List.mem_of_getElem? (i := 37) rfl))) (mvT hZ (hw _ (List.mem_of_getElem? (i := 36) rfl))) (by decide) (backOf (W := 0) (rmLeg l Z a0 hw [] fa f41 i0 T14.heap n0 Zn F_carRatePerKm_fa hkm.1) hZ (hw _ (List.mem_of_getElem? (i := 38) rfl)) (hw _ (List.mem_of_getElem? (i := 2) rfl)) (by decide) (by decide)) q16a q16c (g := (mkF m 42 #[.val (.int i0), .val (.int i1), .val (.int i2), .val (.int i3), .val (.ref fa), .val (.int mm), .val (.long kk), .second, .unset, .unset, .unset, .unset, .unset, .unset, .unset, .unset, .unset, .unset, .unset, .unset] [(.double f41), (.ref fa)])) rfl (by rw [hml]; rfl) (Steps.refl _) (argsL := [(.double f41)]) (rest := []) (lenOf own_f43 rfl) rfl (by show 2 * 0 + _ ≤ _; exact Nat.le_of_eq rfl) (hb hby at_42) (fun _ _ => ⟨rfl, rfl, (by dsimp only [Pt.cells, Pt.slots]; decide), (by dsimp only [Pt.cells, Pt.slots]; decide)⟩)
    dsimp only [Pt.U, Pt.locs, Pt.cells, Pt.slots] at X16 l16 y16 z16 st16 hQ16
    subst l16 y16 z16
    obtain ⟨rr, rfl, N16q, e16, hL⟩ := hQ16
    have N16 := Fr.app N14 N16q
    refine Go.step (fun _ k => st16.trans k) ?_
    show Go p e below _ T16 (mkF m 45 #[.val (.int i0), .val (.int i1), .val (.int i2), .val (.int i3), .val (.ref fa), .val (.int mm), .val (.long kk), .second, .unset, .unset, .unset, .unset, .unset, .unset, .unset, .unset, .unset, .unset, .unset, .unset] [(.double rr)])
    rw [e_f41] at hL
    have fr := own_leg_fin hbk (by omega) (by omega) hL
    refine Go.step (fun _ k => XS.dstore X16.here hx rfl (hb hby at_45) rfl (l' := #[.val (.int i0), .val (.int i1), .val (.int i2), .val (.int i3), .val (.ref fa), .val (.int mm), .val (.long kk), .second, .val (.double rr), .second, .unset, .unset, .unset, .unset, .unset, .unset, .unset, .unset, .unset, .unset]) rfl k) ?_
    show Go p e below _ T16 (mkF m 47 #[.val (.int i0), .val (.int i1), .val (.int i2), .val (.int i3), .val (.ref fa), .val (.int mm), .val (.long kk), .second, .val (.double rr), .second, .unset, .unset, .unset, .unset, .unset, .unset, .unset, .unset, .unset, .unset] [])
    refine Go.step (fun _ k => XS.dload X16.here hx rfl (hb hby at_47) rfl k) ?_
    show Go p e below _ T16 (mkF m 49 #[.val (.int i0), .val (.int i1), .val (.int i2), .val (.int i3), .val (.ref fa), .val (.int mm), .val (.long kk), .second, .val (.double rr), .second, .unset, .unset, .unset, .unset, .unset, .unset, .unset, .unset, .unset, .unset] [(.double rr)])
    refine Go.step (fun _ k => XS.iloadN X16.here hx rfl (hb hby at_49) rfl k) ?_
    show Go p e below _ T16 (mkF m 50 #[.val (.int i0), .val (.int i1), .val (.int i2), .val (.int i3), .val (.ref fa), .val (.int mm), .val (.long kk), .second, .val (.double rr), .second, .unset, .unset, .unset, .unset, .unset, .unset, .unset, .unset, .unset, .unset] [(.int i0), (.double rr)])
    refine Go.step (fun _ k => XS.i2l X16.here hx rfl (hb hby at_50) rfl k) ?_
    show Go p e below _ T16 (mkF m 51 #[.val (.int i0), .val (.int i1), .val (.int i2), .val (.int i3), .val (.ref fa), .val (.int mm), .val (.long kk), .second, .val (.double rr), .second, .unset, .unset, .unset, .unset, .unset, .unset, .unset, .unset, .unset, .unset] [(.long (i0.toInt64)), (.double rr)])
    refine Go.step (fun _ k => XS.lload X16.here hx rfl (hb hby at_51) rfl k) ?_
    show Go p e below _ T16 (mkF m 53 #[.val (.int i0), .val (.int i1), .val (.int i2), .val (.int i3), .val (.ref fa), .val (.int mm), .val (.long kk), .second, .val (.double rr), .second, .unset, .unset, .unset, .unset, .unset, .unset, .unset, .unset, .unset, .unset] [(.long kk), (.long (i0.toInt64)), (.double rr)])
    refine Go.step (fun _ k => XS.lmul X16.here hx rfl (hb hby at_53) rfl k) ?_
    show Go p e below _ T16 (mkF m 54 #[.val (.int i0), .val (.int i1), .val (.int i2), .val (.int i3), .val (.ref fa), .val (.int mm), .val (.long kk), .second, .val (.double rr), .second, .unset, .unset, .unset, .unset, .unset, .unset, .unset, .unset, .unset, .unset] [(.long ((i0.toInt64) * kk)), (.double rr)])
    obtain ⟨f54, e_f54⟩ : ∃ z : UInt64, z = FP.l2d ((i0.toInt64) * kk) := ⟨_, rfl⟩
    refine Go.step (fun _ k => XS.l2dS X16.here hx rfl (hb hby at_54) rfl e_f54.symm k) ?_
    show Go p e below _ T16 (mkF m 55 #[.val (.int i0), .val (.int i1), .val (.int i2), .val (.int i3), .val (.ref fa), .val (.int mm), .val (.long kk), .second, .val (.double rr), .second, .unset, .unset, .unset, .unset, .unset, .unset, .unset, .unset, .unset, .unset] [(.double f54), (.double rr)])
    refine Go.step (fun _ k => XS.dcmpS X16.here hx rfl (hb hby at_55) rfl rfl k) ?_
    show Go p e below _ T16 (mkF m 56 #[.val (.int i0), .val (.int i1), .val (.int i2), .val (.int i3), .val (.ref fa), .val (.int mm), .val (.long kk), .second, .val (.double rr), .second, .unset, .unset, .unset, .unset, .unset, .unset, .unset, .unset, .unset, .unset] [(.int (cmpValue (FP.dcmp rr f54) .l))])
    have hz := own_m0 (n := (i0.toInt64 * kk)) hbk hm (by rw [e_kk]; exact own_rk i0 i1) hL
    rw [← e_f54] at hz
    have ff : Jvm.FP.Core.DFin f54 := by rw [e_f54]; exact Jvm.FP.Core.l2d_fin _
    refine Go.step (fun _ k => XS.ifNo X16.here hx rfl (hb hby at_56) rfl ((if0 _ _).trans (teq ((own_zcv fr ff .l).2.2.mpr hz)).2) k) ?_
    show Go p e below _ T16 (mkF m 59 #[.val (.int i0), .val (.int i1), .val (.int i2), .val (.int i3), .val (.ref fa), .val (.int mm), .val (.long kk), .second, .val (.double rr), .second, .unset, .unset, .unset, .unset, .unset, .unset, .unset, .unset, .unset, .unset] [])
    refine Go.step (fun _ k => XS.iconst X16.here hx rfl (hb hby at_59) k) ?_
    show Go p e below _ T16 (mkF m 60 #[.val (.int i0), .val (.int i1), .val (.int i2), .val (.int i3), .val (.ref fa), .val (.int mm), .val (.long kk), .second, .val (.double rr), .second, .unset, .unset, .unset, .unset, .unset, .unset, .unset, .unset, .unset, .unset] [(.int (1 : Int32))])
    refine Go.step (fun _ k => XS.goto X16.here hx rfl (pc0 := 60) (pc' := 64) rfl (hb hby at_60) (by decide) (by decide) k) ?_
    show Go p e below _ T16 (mkF m 64 #[.val (.int i0), .val (.int i1), .val (.int i2), .val (.int i3), .val (.ref fa), .val (.int mm), .val (.long kk), .second, .val (.double rr), .second, .unset, .unset, .unset, .unset, .unset, .unset, .unset, .unset, .unset, .unset] [(.int (1 : Int32))])
    obtain ⟨fs, hr, hrun, hended, hW, hsame⟩ := X16.leave (v := some (.int (1 : Int32))) (fun h => by rw [Bd.returns] at h; cases h)
    refine Go.fin (retN X16 hx (t := .boolean) Bd.returns (by simp) (hb hby at_64) hr) hrun hended ?_
    refine ⟨_, _, rfl, ?_, ⟨_, rfl⟩, hW, hsame.mono (by decide) (by decide)⟩
    show Q0 Z i0 i1 i2 i3 h0 n0 _ T16.heap _
    rw [e16]
    exact ⟨rfl, N16⟩
  · show Go p e below _ T14 (mkF m 26 #[.val (.int i0), .val (.int i1), .val (.int i2), .val (.int i3), .val (.ref fa), .val (.int mm), .unset, .unset, .unset, .unset, .unset, .unset, .unset, .unset, .unset, .unset, .unset, .unset, .unset, .unset] [(.int mm)])
    refine Go.step (fun _ k => XS.ifYes X14.here hx rfl (pc0 := 26) (pc' := 65) rfl (hb hby at_26) rfl ((if0 _ _).trans (feq hc26_15).2) (by decide) (by decide) k) ?_
    show Go p e below _ T14 (mkF m 65 #[.val (.int i0), .val (.int i1), .val (.int i2), .val (.int i3), .val (.ref fa), .val (.int mm), .unset, .unset, .unset, .unset, .unset, .unset, .unset, .unset, .unset, .unset, .unset, .unset, .unset, .unset] [])
    refine Go.step (fun _ k => XS.iload X14.here hx rfl (hb hby at_65) rfl k) ?_
    show Go p e below _ T14 (mkF m 67 #[.val (.int i0), .val (.int i1), .val (.int i2), .val (.int i3), .val (.ref fa), .val (.int mm), .unset, .unset, .unset, .unset, .unset, .unset, .unset, .unset, .unset, .unset, .unset, .unset, .unset, .unset] [(.int mm)])
    refine Go.step (fun _ k => XS.iconst X14.here hx rfl (hb hby at_67) k) ?_
    show Go p e below _ T14 (mkF m 68 #[.val (.int i0), .val (.int i1), .val (.int i2), .val (.int i3), .val (.ref fa), .val (.int mm), .unset, .unset, .unset, .unset, .unset, .unset, .unset, .unset, .unset, .unset, .unset, .unset, .unset, .unset] [(.int (1 : Int32)), (.int mm)])
    by_cases hc68_17 : mm = (1 : Int32)
    · show Go p e below _ T14 (mkF m 68 #[.val (.int i0), .val (.int i1), .val (.int i2), .val (.int i3), .val (.ref fa), .val (.int mm), .unset, .unset, .unset, .unset, .unset, .unset, .unset, .unset, .unset, .unset, .unset, .unset, .unset, .unset] [(.int (1 : Int32)), (.int mm)])
      refine Go.step (fun _ k => XS.icmpNo X14.here hx rfl (hb hby at_68) rfl (teq hc68_17).2 k) ?_
      show Go p e below _ T14 (mkF m 71 #[.val (.int i0), .val (.int i1), .val (.int i2), .val (.int i3), .val (.ref fa), .val (.int mm), .unset, .unset, .unset, .unset, .unset, .unset, .unset, .unset, .unset, .unset, .unset, .unset, .unset, .unset] [])
      refine Go.step (fun _ k => XS.iloadN X14.here hx rfl (hb hby at_71) rfl k) ?_
      show Go p e below _ T14 (mkF m 72 #[.val (.int i0), .val (.int i1), .val (.int i2), .val (.int i3), .val (.ref fa), .val (.int mm), .unset, .unset, .unset, .unset, .unset, .unset, .unset, .unset, .unset, .unset, .unset, .unset, .unset, .unset] [(.int i1)])
      refine Go.step (fun _ k => XS.iconst X14.here hx rfl (hb hby at_72) k) ?_
      show Go p e below _ T14 (mkF m 73 #[.val (.int i0), .val (.int i1), .val (.int i2), .val (.int i3), .val (.ref fa), .val (.int mm), .unset, .unset, .unset, .unset, .unset, .unset, .unset, .unset, .unset, .unset, .unset, .unset, .unset, .unset] [(.int (1 : Int32)), (.int i1)])
      refine Go.step (fun _ k => XS.ishr X14.here hx rfl (hb hby at_73) rfl k) ?_
      show Go p e below _ T14 (mkF m 74 #[.val (.int i0), .val (.int i1), .val (.int i2), .val (.int i3), .val (.ref fa), .val (.int mm), .unset, .unset, .unset, .unset, .unset, .unset, .unset, .unset, .unset, .unset, .unset, .unset, .unset, .unset] [(.int (i1 >>> ((1 : Int32) &&& 31)))])
      obtain ⟨k1, e_k1⟩ : ∃ z : Int32, z = (i1 >>> ((1 : Int32) &&& 31)) := ⟨_, rfl⟩
      rw [← e_k1]
      show Go p e below _ T14 (mkF m 74 #[.val (.int i0), .val (.int i1), .val (.int i2), .val (.int i3), .val (.ref fa), .val (.int mm), .unset, .unset, .unset, .unset, .unset, .unset, .unset, .unset, .unset, .unset, .unset, .unset, .unset, .unset] [(.int k1)])
      have bk := own_shr1 i1
      rw [← e_k1] at bk
      refine Go.step (fun _ k => XS.i2l X14.here hx rfl (hb hby at_74) rfl k) ?_
      show Go p e below _ T14 (mkF m 75 #[.val (.int i0), .val (.int i1), .val (.int i2), .val (.int i3), .val (.ref fa), .val (.int mm), .unset, .unset, .unset, .unset, .unset, .unset, .unset, .unset, .unset, .unset, .unset, .unset, .unset, .unset] [(.long (k1.toInt64))])
      refine Go.step (fun _ k => XS.lstore X14.here hx rfl (hb hby at_75) rfl (l' := #[.val (.int i0), .val (.int i1), .val (.int i2), .val (.int i3), .val (.ref fa), .val (.int mm), .val (.long (k1.toInt64)), .second, .unset, .unset, .unset, .unset, .unset, .unset, .unset, .unset, .unset, .unset, .unset, .unset]) rfl k) ?_
      show Go p e below _ T14 (mkF m 77 #[.val (.int i0), .val (.int i1), .val (.int i2), .val (.int i3), .val (.ref fa), .val (.int mm), .val (.long (k1.toInt64)), .second, .unset, .unset, .unset, .unset, .unset, .unset, .unset, .unset, .unset, .unset, .unset, .unset] [])
      refine Go.step (fun _ k => XS.aload X14.here hx rfl (hb hby at_77) rfl rfl k) ?_
      show Go p e below _ T14 (mkF m 79 #[.val (.int i0), .val (.int i1), .val (.int i2), .val (.int i3), .val (.ref fa), .val (.int mm), .val (.long (k1.toInt64)), .second, .unset, .unset, .unset, .unset, .unset, .unset, .unset, .unset, .unset, .unset, .unset, .unset] [(.ref fa)])
      refine Go.step (X14.ldc2Long hx hown (mvT hZ (hw _ (List.mem_of_getElem? (i := 32) rfl))) (g := (mkF m 79 #[.val (.int i0), .val (.int i1), .val (.int i2), .val (.int i3), .val (.ref fa), .val (.int mm), .val (.long (k1.toInt64)), .second, .unset, .unset, .unset, .unset, .unset, .unset, .unset, .unset, .unset, .unset, .unset, .unset] [(.ref fa)])) rfl (hb hby at_79)) ?_
      show Go p e below _ T14 (mkF m 82 #[.val (.int i0), .val (.int i1), .val (.int i2), .val (.int i3), .val (.ref fa), .val (.int mm), .val (.long (k1.toInt64)), .second, .unset, .unset, .unset, .unset, .unset, .unset, .unset, .unset, .unset, .unset, .unset, .unset] [(.long (1000 : Int64)), (.ref fa)])
      refine Go.step (fun _ k => XS.lload X14.here hx rfl (hb hby at_82) rfl k) ?_
      show Go p e below _ T14 (mkF m 84 #[.val (.int i0), .val (.int i1), .val (.int i2), .val (.int i3), .val (.ref fa), .val (.int mm), .val (.long (k1.toInt64)), .second, .unset, .unset, .unset, .unset, .unset, .unset, .unset, .unset, .unset, .unset, .unset, .unset] [(.long (k1.toInt64)), (.long (1000 : Int64)), (.ref fa)])
      refine Go.step (fun _ k => XS.lmul X14.here hx rfl (hb hby at_84) rfl k) ?_
      show Go p e below _ T14 (mkF m 85 #[.val (.int i0), .val (.int i1), .val (.int i2), .val (.int i3), .val (.ref fa), .val (.int mm), .val (.long (k1.toInt64)), .second, .unset, .unset, .unset, .unset, .unset, .unset, .unset, .unset, .unset, .unset, .unset, .unset] [(.long ((1000 : Int64) * (k1.toInt64))), (.ref fa)])
      refine Go.step (X14.ldc2Long hx hown (mvT hZ (hw _ (List.mem_of_getElem? (i := 33) rfl))) (g := (mkF m 85 #[.val (.int i0), .val (.int i1), .val (.int i2), .val (.int i3), .val (.ref fa), .val (.int mm), .val (.long (k1.toInt64)), .second, .unset, .unset, .unset, .unset, .unset, .unset, .unset, .unset, .unset, .unset, .unset, .unset] [(.long ((1000 : Int64) * (k1.toInt64))), (.ref fa)])) rfl (hb hby at_85)) ?_
      show Go p e below _ T14 (mkF m 88 #[.val (.int i0), .val (.int i1), .val (.int i2), .val (.int i3), .val (.ref fa), .val (.int mm), .val (.long (k1.toInt64)), .second, .unset, .unset, .unset, .unset, .unset, .unset, .unset, .unset, .unset, .unset, .unset, .unset] [(.long (500 : Int64)), (.long ((1000 : Int64) * (k1.toInt64))), (.ref fa)])
      refine Go.step (fun _ k => XS.ladd X14.here hx rfl (hb hby at_88) rfl k) ?_
      show Go p e below _ T14 (mkF m 89 #[.val (.int i0), .val (.int i1), .val (.int i2), .val (.int i3), .val (.ref fa), .val (.int mm), .val (.long (k1.toInt64)), .second, .unset, .unset, .unset, .unset, .unset, .unset, .unset, .unset, .unset, .unset, .unset, .unset] [(.long (((1000 : Int64) * (k1.toInt64)) + (500 : Int64))), (.ref fa)])
      obtain ⟨f89, e_f89⟩ : ∃ z : UInt64, z = FP.l2d (((1000 : Int64) * (k1.toInt64)) + (500 : Int64)) := ⟨_, rfl⟩
      refine Go.step (fun _ k => XS.l2dS X14.here hx rfl (hb hby at_89) rfl e_f89.symm k) ?_
      show Go p e below _ T14 (mkF m 90 #[.val (.int i0), .val (.int i1), .val (.int i2), .val (.int i3), .val (.ref fa), .val (.int mm), .val (.long (k1.toInt64)), .second, .unset, .unset, .unset, .unset, .unset, .unset, .unset, .unset, .unset, .unset, .unset, .unset] [(.double f89), (.ref fa)])
      have hm : (((1000 : Int64) * (k1.toInt64)) + (500 : Int64)).toInt = 1000 * k1.toInt + 500 := own_la (own_1000 k1) (by decide) (by omega) (by omega)
      have hbk := own_sm k1
      have hkm := own_km (m := (((1000 : Int64) * (k1.toInt64)) + (500 : Int64))) (k := k1.toInt) hbk (by omega) (by omega)
      rw [← e_f89] at hkm
      obtain ⟨cq18, kq18, q18a, q18b, q18c⟩ := isOf hZ rfl E_fa
      obtain ⟨_, _, ⟨T18, L18, k18, n18⟩, -, X18, ⟨Lc18, hQ18, l18, y18, z18⟩, st18⟩ := X14.virtualBack hx (y := (⟨"com/example/mazu/mazu/economics/Fares", "carLeg", "(D)D"⟩ : MethodName)) (z := (⟨"com/example/mazu/mazu/economics/Fares", "carLeg", "(D)D"⟩ : MethodName)) hown (mvT hZ (hw _ (List.mem_of_getElem? (i := 34) rfl))) (mvT hZ (hw _ (List.mem_of_getElem? (i := 35) rfl))) (notFace_of_selects (args := #[]) (mvT hZ (hw _ (List.mem_of_getElem? (i := 37) rfl)))) (mvT hZ (hw _ (List.mem_of_getElem? (i := 37) rfl))) (mvT hZ (hw _ (List.mem_of_getElem? (i := 36) rfl))) (by decide) (backOf (W := 0) (rmLeg l Z a0 hw [] fa f89 i0 T14.heap n0 Zn F_carRatePerKm_fa hkm.1) hZ (hw _ (List.mem_of_getElem? (i := 38) rfl)) (hw _ (List.mem_of_getElem? (i := 2) rfl)) (by decide) (by decide)) q18a q18c (g := (mkF m 90 #[.val (.int i0), .val (.int i1), .val (.int i2), .val (.int i3), .val (.ref fa), .val (.int mm), .val (.long (k1.toInt64)), .second, .unset, .unset, .unset, .unset, .unset, .unset, .unset, .unset, .unset, .unset, .unset, .unset] [(.double f89), (.ref fa)])) rfl (by rw [hml]; rfl) (Steps.refl _) (argsL := [(.double f89)]) (rest := []) (lenOf own_f43 rfl) rfl (by show 2 * 0 + _ ≤ _; exact Nat.le_of_eq rfl) (hb hby at_90) (fun _ _ => ⟨rfl, rfl, (by dsimp only [Pt.cells, Pt.slots]; decide), (by dsimp only [Pt.cells, Pt.slots]; decide)⟩)
      dsimp only [Pt.U, Pt.locs, Pt.cells, Pt.slots] at X18 l18 y18 z18 st18 hQ18
      subst l18 y18 z18
      obtain ⟨rr, rfl, N18q, e18, hL⟩ := hQ18
      have N18 := Fr.app N14 N18q
      refine Go.step (fun _ k => st18.trans k) ?_
      show Go p e below _ T18 (mkF m 93 #[.val (.int i0), .val (.int i1), .val (.int i2), .val (.int i3), .val (.ref fa), .val (.int mm), .val (.long (k1.toInt64)), .second, .unset, .unset, .unset, .unset, .unset, .unset, .unset, .unset, .unset, .unset, .unset, .unset] [(.double rr)])
      rw [e_f89] at hL
      have fr := own_leg_fin hbk (by omega) (by omega) hL
      refine Go.step (fun _ k => XS.dstore X18.here hx rfl (hb hby at_93) rfl (l' := #[.val (.int i0), .val (.int i1), .val (.int i2), .val (.int i3), .val (.ref fa), .val (.int mm), .val (.long (k1.toInt64)), .second, .val (.double rr), .second, .unset, .unset, .unset, .unset, .unset, .unset, .unset, .unset, .unset, .unset]) rfl k) ?_
      show Go p e below _ T18 (mkF m 95 #[.val (.int i0), .val (.int i1), .val (.int i2), .val (.int i3), .val (.ref fa), .val (.int mm), .val (.long (k1.toInt64)), .second, .val (.double rr), .second, .unset, .unset, .unset, .unset, .unset, .unset, .unset, .unset, .unset, .unset] [])
      refine Go.step (X18.ldc2Long hx hown (mvT hZ (hw _ (List.mem_of_getElem? (i := 39) rfl))) (g := (mkF m 95 #[.val (.int i0), .val (.int i1), .val (.int i2), .val (.int i3), .val (.ref fa), .val (.int mm), .val (.long (k1.toInt64)), .second, .val (.double rr), .second, .unset, .unset, .unset, .unset, .unset, .unset, .unset, .unset, .unset, .unset] [])) rfl (hb hby at_95)) ?_
      show Go p e below _ T18 (mkF m 98 #[.val (.int i0), .val (.int i1), .val (.int i2), .val (.int i3), .val (.ref fa), .val (.int mm), .val (.long (k1.toInt64)), .second, .val (.double rr), .second, .unset, .unset, .unset, .unset, .unset, .unset, .unset, .unset, .unset, .unset] [(.long (2 : Int64))])
      refine Go.step (fun _ k => XS.iloadN X18.here hx rfl (hb hby at_98) rfl k) ?_
      show Go p e below _ T18 (mkF m 99 #[.val (.int i0), .val (.int i1), .val (.int i2), .val (.int i3), .val (.ref fa), .val (.int mm), .val (.long (k1.toInt64)), .second, .val (.double rr), .second, .unset, .unset, .unset, .unset, .unset, .unset, .unset, .unset, .unset, .unset] [(.int i0), (.long (2 : Int64))])
      refine Go.step (fun _ k => XS.i2l X18.here hx rfl (hb hby at_99) rfl k) ?_
      show Go p e below _ T18 (mkF m 100 #[.val (.int i0), .val (.int i1), .val (.int i2), .val (.int i3), .val (.ref fa), .val (.int mm), .val (.long (k1.toInt64)), .second, .val (.double rr), .second, .unset, .unset, .unset, .unset, .unset, .unset, .unset, .unset, .unset, .unset] [(.long (i0.toInt64)), (.long (2 : Int64))])
      refine Go.step (fun _ k => XS.lmul X18.here hx rfl (hb hby at_100) rfl k) ?_
      show Go p e below _ T18 (mkF m 101 #[.val (.int i0), .val (.int i1), .val (.int i2), .val (.int i3), .val (.ref fa), .val (.int mm), .val (.long (k1.toInt64)), .second, .val (.double rr), .second, .unset, .unset, .unset, .unset, .unset, .unset, .unset, .unset, .unset, .unset] [(.long ((2 : Int64) * (i0.toInt64)))])
      refine Go.step (fun _ k => XS.lload X18.here hx rfl (hb hby at_101) rfl k) ?_
      show Go p e below _ T18 (mkF m 103 #[.val (.int i0), .val (.int i1), .val (.int i2), .val (.int i3), .val (.ref fa), .val (.int mm), .val (.long (k1.toInt64)), .second, .val (.double rr), .second, .unset, .unset, .unset, .unset, .unset, .unset, .unset, .unset, .unset, .unset] [(.long (k1.toInt64)), (.long ((2 : Int64) * (i0.toInt64)))])
      refine Go.step (fun _ k => XS.lmul X18.here hx rfl (hb hby at_103) rfl k) ?_
      show Go p e below _ T18 (mkF m 104 #[.val (.int i0), .val (.int i1), .val (.int i2), .val (.int i3), .val (.ref fa), .val (.int mm), .val (.long (k1.toInt64)), .second, .val (.double rr), .second, .unset, .unset, .unset, .unset, .unset, .unset, .unset, .unset, .unset, .unset] [(.long (((2 : Int64) * (i0.toInt64)) * (k1.toInt64)))])
      refine Go.step (fun _ k => XS.iloadN X18.here hx rfl (hb hby at_104) rfl k) ?_
      show Go p e below _ T18 (mkF m 105 #[.val (.int i0), .val (.int i1), .val (.int i2), .val (.int i3), .val (.ref fa), .val (.int mm), .val (.long (k1.toInt64)), .second, .val (.double rr), .second, .unset, .unset, .unset, .unset, .unset, .unset, .unset, .unset, .unset, .unset] [(.int i0), (.long (((2 : Int64) * (i0.toInt64)) * (k1.toInt64)))])
      refine Go.step (fun _ k => XS.i2l X18.here hx rfl (hb hby at_105) rfl k) ?_
      show Go p e below _ T18 (mkF m 106 #[.val (.int i0), .val (.int i1), .val (.int i2), .val (.int i3), .val (.ref fa), .val (.int mm), .val (.long (k1.toInt64)), .second, .val (.double rr), .second, .unset, .unset, .unset, .unset, .unset, .unset, .unset, .unset, .unset, .unset] [(.long (i0.toInt64)), (.long (((2 : Int64) * (i0.toInt64)) * (k1.toInt64)))])
      refine Go.step (fun _ k => XS.ladd X18.here hx rfl (hb hby at_106) rfl k) ?_
      show Go p e below _ T18 (mkF m 107 #[.val (.int i0), .val (.int i1), .val (.int i2), .val (.int i3), .val (.ref fa), .val (.int mm), .val (.long (k1.toInt64)), .second, .val (.double rr), .second, .unset, .unset, .unset, .unset, .unset, .unset, .unset, .unset, .unset, .unset] [(.long ((((2 : Int64) * (i0.toInt64)) * (k1.toInt64)) + (i0.toInt64)))])
      refine Go.step (fun _ k => XS.lstore X18.here hx rfl (hb hby at_107) rfl (l' := #[.val (.int i0), .val (.int i1), .val (.int i2), .val (.int i3), .val (.ref fa), .val (.int mm), .val (.long (k1.toInt64)), .second, .val (.double rr), .second, .val (.long ((((2 : Int64) * (i0.toInt64)) * (k1.toInt64)) + (i0.toInt64))), .second, .unset, .unset, .unset, .unset, .unset, .unset, .unset, .unset]) rfl k) ?_
      show Go p e below _ T18 (mkF m 109 #[.val (.int i0), .val (.int i1), .val (.int i2), .val (.int i3), .val (.ref fa), .val (.int mm), .val (.long (k1.toInt64)), .second, .val (.double rr), .second, .val (.long ((((2 : Int64) * (i0.toInt64)) * (k1.toInt64)) + (i0.toInt64))), .second, .unset, .unset, .unset, .unset, .unset, .unset, .unset, .unset] [])
      refine Go.step (fun _ k => XS.dload X18.here hx rfl (hb hby at_109) rfl k) ?_
      show Go p e below _ T18 (mkF m 111 #[.val (.int i0), .val (.int i1), .val (.int i2), .val (.int i3), .val (.ref fa), .val (.int mm), .val (.long (k1.toInt64)), .second, .val (.double rr), .second, .val (.long ((((2 : Int64) * (i0.toInt64)) * (k1.toInt64)) + (i0.toInt64))), .second, .unset, .unset, .unset, .unset, .unset, .unset, .unset, .unset] [(.double rr)])
      refine Go.step (fun _ k => XS.lload X18.here hx rfl (hb hby at_111) rfl k) ?_
      show Go p e below _ T18 (mkF m 113 #[.val (.int i0), .val (.int i1), .val (.int i2), .val (.int i3), .val (.ref fa), .val (.int mm), .val (.long (k1.toInt64)), .second, .val (.double rr), .second, .val (.long ((((2 : Int64) * (i0.toInt64)) * (k1.toInt64)) + (i0.toInt64))), .second, .unset, .unset, .unset, .unset, .unset, .unset, .unset, .unset] [(.long ((((2 : Int64) * (i0.toInt64)) * (k1.toInt64)) + (i0.toInt64))), (.double rr)])
      obtain ⟨f113, e_f113⟩ : ∃ z : UInt64, z = FP.l2d ((((2 : Int64) * (i0.toInt64)) * (k1.toInt64)) + (i0.toInt64)) := ⟨_, rfl⟩
      refine Go.step (fun _ k => XS.l2dS X18.here hx rfl (hb hby at_113) rfl e_f113.symm k) ?_
      show Go p e below _ T18 (mkF m 114 #[.val (.int i0), .val (.int i1), .val (.int i2), .val (.int i3), .val (.ref fa), .val (.int mm), .val (.long (k1.toInt64)), .second, .val (.double rr), .second, .val (.long ((((2 : Int64) * (i0.toInt64)) * (k1.toInt64)) + (i0.toInt64))), .second, .unset, .unset, .unset, .unset, .unset, .unset, .unset, .unset] [(.double f113), (.double rr)])
      refine Go.step (X18.ldc2DoubleC hx hown (mvT hZ (hw _ (List.mem_of_getElem? (i := 40) rfl))) (g := (mkF m 114 #[.val (.int i0), .val (.int i1), .val (.int i2), .val (.int i3), .val (.ref fa), .val (.int mm), .val (.long (k1.toInt64)), .second, .val (.double rr), .second, .val (.long ((((2 : Int64) * (i0.toInt64)) * (k1.toInt64)) + (i0.toInt64))), .second, .unset, .unset, .unset, .unset, .unset, .unset, .unset, .unset] [(.double f113), (.double rr)])) rfl (hb hby at_114)) ?_
      show Go p e below _ T18 (mkF m 117 #[.val (.int i0), .val (.int i1), .val (.int i2), .val (.int i3), .val (.ref fa), .val (.int mm), .val (.long (k1.toInt64)), .second, .val (.double rr), .second, .val (.long ((((2 : Int64) * (i0.toInt64)) * (k1.toInt64)) + (i0.toInt64))), .second, .unset, .unset, .unset, .unset, .unset, .unset, .unset, .unset] [(.double (4611686018427387904 : UInt64)), (.double f113), (.double rr)])
      have hz := own_m1 (t := ((((2 : Int64) * (i0.toInt64)) * (k1.toInt64)) + (i0.toInt64))) hbk hm (own_t bk) hL
      rw [← e_f113] at hz
      obtain ⟨ee, e_ee⟩ : ∃ z : UInt64, z = FP.ddiv f113 (4611686018427387904 : UInt64) := ⟨_, rfl⟩
      refine Go.step (fun _ k => XS.ddivS X18.here hx rfl (hb hby at_117) rfl (own_nn hz.1) e_ee.symm k) ?_
      show Go p e below _ T18 (mkF m 118 #[.val (.int i0), .val (.int i1), .val (.int i2), .val (.int i3), .val (.ref fa), .val (.int mm), .val (.long (k1.toInt64)), .second, .val (.double rr), .second, .val (.long ((((2 : Int64) * (i0.toInt64)) * (k1.toInt64)) + (i0.toInt64))), .second, .unset, .unset, .unset, .unset, .unset, .unset, .unset, .unset] [(.double ee), (.double rr)])
      rw [← e_ee] at hz
      refine Go.step (fun _ k => XS.dcmpS X18.here hx rfl (hb hby at_118) rfl rfl k) ?_
      show Go p e below _ T18 (mkF m 119 #[.val (.int i0), .val (.int i1), .val (.int i2), .val (.int i3), .val (.ref fa), .val (.int mm), .val (.long (k1.toInt64)), .second, .val (.double rr), .second, .val (.long ((((2 : Int64) * (i0.toInt64)) * (k1.toInt64)) + (i0.toInt64))), .second, .unset, .unset, .unset, .unset, .unset, .unset, .unset, .unset] [(.int (cmpValue (FP.dcmp rr ee) .l))])
      refine Go.step (fun _ k => XS.ifNo X18.here hx rfl (hb hby at_119) rfl ((if0 _ _).trans (teq ((own_zcv fr hz.1 .l).2.2.mpr hz.2.symm)).2) k) ?_
      show Go p e below _ T18 (mkF m 122 #[.val (.int i0), .val (.int i1), .val (.int i2), .val (.int i3), .val (.ref fa), .val (.int mm), .val (.long (k1.toInt64)), .second, .val (.double rr), .second, .val (.long ((((2 : Int64) * (i0.toInt64)) * (k1.toInt64)) + (i0.toInt64))), .second, .unset, .unset, .unset, .unset, .unset, .unset, .unset, .unset] [])
      refine Go.step (fun _ k => XS.iconst X18.here hx rfl (hb hby at_122) k) ?_
      show Go p e below _ T18 (mkF m 123 #[.val (.int i0), .val (.int i1), .val (.int i2), .val (.int i3), .val (.ref fa), .val (.int mm), .val (.long (k1.toInt64)), .second, .val (.double rr), .second, .val (.long ((((2 : Int64) * (i0.toInt64)) * (k1.toInt64)) + (i0.toInt64))), .second, .unset, .unset, .unset, .unset, .unset, .unset, .unset, .unset] [(.int (1 : Int32))])
      refine Go.step (fun _ k => XS.goto X18.here hx rfl (pc0 := 123) (pc' := 127) rfl (hb hby at_123) (by decide) (by decide) k) ?_
      show Go p e below _ T18 (mkF m 127 #[.val (.int i0), .val (.int i1), .val (.int i2), .val (.int i3), .val (.ref fa), .val (.int mm), .val (.long (k1.toInt64)), .second, .val (.double rr), .second, .val (.long ((((2 : Int64) * (i0.toInt64)) * (k1.toInt64)) + (i0.toInt64))), .second, .unset, .unset, .unset, .unset, .unset, .unset, .unset, .unset] [(.int (1 : Int32))])
      obtain ⟨fs, hr, hrun, hended, hW, hsame⟩ := X18.leave (v := some (.int (1 : Int32))) (fun h => by rw [Bd.returns] at h; cases h)
      refine Go.fin (retN X18 hx (t := .boolean) Bd.returns (by simp) (hb hby at_127) hr) hrun hended ?_
      refine ⟨_, _, rfl, ?_, ⟨_, rfl⟩, hW, hsame.mono (by decide) (by decide)⟩
      show Q0 Z i0 i1 i2 i3 h0 n0 _ T18.heap _
      rw [e18]
      exact ⟨rfl, N18⟩
    · show Go p e below _ T14 (mkF m 68 #[.val (.int i0), .val (.int i1), .val (.int i2), .val (.int i3), .val (.ref fa), .val (.int mm), .unset, .unset, .unset, .unset, .unset, .unset, .unset, .unset, .unset, .unset, .unset, .unset, .unset, .unset] [(.int (1 : Int32)), (.int mm)])
      refine Go.step (fun _ k => XS.icmpYes X14.here hx rfl (pc0 := 68) (pc' := 128) rfl (hb hby at_68) rfl (feq hc68_17).2 (by decide) (by decide) k) ?_
      show Go p e below _ T14 (mkF m 128 #[.val (.int i0), .val (.int i1), .val (.int i2), .val (.int i3), .val (.ref fa), .val (.int mm), .unset, .unset, .unset, .unset, .unset, .unset, .unset, .unset, .unset, .unset, .unset, .unset, .unset, .unset] [])
      refine Go.step (fun _ k => XS.iloadN X14.here hx rfl (hb hby at_128) rfl k) ?_
      show Go p e below _ T14 (mkF m 129 #[.val (.int i0), .val (.int i1), .val (.int i2), .val (.int i3), .val (.ref fa), .val (.int mm), .unset, .unset, .unset, .unset, .unset, .unset, .unset, .unset, .unset, .unset, .unset, .unset, .unset, .unset] [(.int i1)])
      refine Go.step (fun _ k => XS.i2l X14.here hx rfl (hb hby at_129) rfl k) ?_
      show Go p e below _ T14 (mkF m 130 #[.val (.int i0), .val (.int i1), .val (.int i2), .val (.int i3), .val (.ref fa), .val (.int mm), .unset, .unset, .unset, .unset, .unset, .unset, .unset, .unset, .unset, .unset, .unset, .unset, .unset, .unset] [(.long (i1.toInt64))])
      refine Go.step (fun _ k => XS.lstore X14.here hx rfl (hb hby at_130) rfl (l' := #[.val (.int i0), .val (.int i1), .val (.int i2), .val (.int i3), .val (.ref fa), .val (.int mm), .val (.long (i1.toInt64)), .second, .unset, .unset, .unset, .unset, .unset, .unset, .unset, .unset, .unset, .unset, .unset, .unset]) rfl k) ?_
      show Go p e below _ T14 (mkF m 132 #[.val (.int i0), .val (.int i1), .val (.int i2), .val (.int i3), .val (.ref fa), .val (.int mm), .val (.long (i1.toInt64)), .second, .unset, .unset, .unset, .unset, .unset, .unset, .unset, .unset, .unset, .unset, .unset, .unset] [])
      refine Go.step (fun _ k => XS.iloadN X14.here hx rfl (hb hby at_132) rfl k) ?_
      show Go p e below _ T14 (mkF m 133 #[.val (.int i0), .val (.int i1), .val (.int i2), .val (.int i3), .val (.ref fa), .val (.int mm), .val (.long (i1.toInt64)), .second, .unset, .unset, .unset, .unset, .unset, .unset, .unset, .unset, .unset, .unset, .unset, .unset] [(.int i2)])
      refine Go.step (X14.ldcInt hx hown (mvT hZ (hw _ (List.mem_of_getElem? (i := 41) rfl))) (g := (mkF m 133 #[.val (.int i0), .val (.int i1), .val (.int i2), .val (.int i3), .val (.ref fa), .val (.int mm), .val (.long (i1.toInt64)), .second, .unset, .unset, .unset, .unset, .unset, .unset, .unset, .unset, .unset, .unset, .unset, .unset] [(.int i2)])) rfl (hb hby at_133)) ?_
      show Go p e below _ T14 (mkF m 135 #[.val (.int i0), .val (.int i1), .val (.int i2), .val (.int i3), .val (.ref fa), .val (.int mm), .val (.long (i1.toInt64)), .second, .unset, .unset, .unset, .unset, .unset, .unset, .unset, .unset, .unset, .unset, .unset, .unset] [(.int (2147483647 : Int32)), (.int i2)])
      refine Go.step (fun _ k => XS.iand X14.here hx rfl (hb hby at_135) rfl k) ?_
      show Go p e below _ T14 (mkF m 136 #[.val (.int i0), .val (.int i1), .val (.int i2), .val (.int i3), .val (.ref fa), .val (.int mm), .val (.long (i1.toInt64)), .second, .unset, .unset, .unset, .unset, .unset, .unset, .unset, .unset, .unset, .unset, .unset, .unset] [(.int (i2 &&& (2147483647 : Int32)))])
      refine Go.step (fun _ k => XS.sipush X14.here hx rfl (hb hby at_136) k) ?_
      show Go p e below _ T14 (mkF m 139 #[.val (.int i0), .val (.int i1), .val (.int i2), .val (.int i3), .val (.ref fa), .val (.int mm), .val (.long (i1.toInt64)), .second, .unset, .unset, .unset, .unset, .unset, .unset, .unset, .unset, .unset, .unset, .unset, .unset] [(.int (1000 : Int32)), (.int (i2 &&& (2147483647 : Int32)))])
      refine Go.step (fun _ k => iremM X14 hx rfl (hb hby at_139) rfl (by decide) k) ?_
      show Go p e below _ T14 (mkF m 140 #[.val (.int i0), .val (.int i1), .val (.int i2), .val (.int i3), .val (.ref fa), .val (.int mm), .val (.long (i1.toInt64)), .second, .unset, .unset, .unset, .unset, .unset, .unset, .unset, .unset, .unset, .unset, .unset, .unset] [(.int ((i2 &&& (2147483647 : Int32)) % (1000 : Int32)))])
      refine Go.step (fun _ k => XS.i2l X14.here hx rfl (hb hby at_140) rfl k) ?_
      show Go p e below _ T14 (mkF m 141 #[.val (.int i0), .val (.int i1), .val (.int i2), .val (.int i3), .val (.ref fa), .val (.int mm), .val (.long (i1.toInt64)), .second, .unset, .unset, .unset, .unset, .unset, .unset, .unset, .unset, .unset, .unset, .unset, .unset] [(.long (((i2 &&& (2147483647 : Int32)) % (1000 : Int32)).toInt64))])
      refine Go.step (fun _ k => XS.lstore X14.here hx rfl (hb hby at_141) rfl (l' := #[.val (.int i0), .val (.int i1), .val (.int i2), .val (.int i3), .val (.ref fa), .val (.int mm), .val (.long (i1.toInt64)), .second, .val (.long (((i2 &&& (2147483647 : Int32)) % (1000 : Int32)).toInt64)), .second, .unset, .unset, .unset, .unset, .unset, .unset, .unset, .unset, .unset, .unset]) rfl k) ?_
      show Go p e below _ T14 (mkF m 143 #[.val (.int i0), .val (.int i1), .val (.int i2), .val (.int i3), .val (.ref fa), .val (.int mm), .val (.long (i1.toInt64)), .second, .val (.long (((i2 &&& (2147483647 : Int32)) % (1000 : Int32)).toInt64)), .second, .unset, .unset, .unset, .unset, .unset, .unset, .unset, .unset, .unset, .unset] [])
      refine Go.step (fun _ k => XS.aload X14.here hx rfl (hb hby at_143) rfl rfl k) ?_
      show Go p e below _ T14 (mkF m 145 #[.val (.int i0), .val (.int i1), .val (.int i2), .val (.int i3), .val (.ref fa), .val (.int mm), .val (.long (i1.toInt64)), .second, .val (.long (((i2 &&& (2147483647 : Int32)) % (1000 : Int32)).toInt64)), .second, .unset, .unset, .unset, .unset, .unset, .unset, .unset, .unset, .unset, .unset] [(.ref fa)])
      refine Go.step (X14.ldc2Long hx hown (mvT hZ (hw _ (List.mem_of_getElem? (i := 32) rfl))) (g := (mkF m 145 #[.val (.int i0), .val (.int i1), .val (.int i2), .val (.int i3), .val (.ref fa), .val (.int mm), .val (.long (i1.toInt64)), .second, .val (.long (((i2 &&& (2147483647 : Int32)) % (1000 : Int32)).toInt64)), .second, .unset, .unset, .unset, .unset, .unset, .unset, .unset, .unset, .unset, .unset] [(.ref fa)])) rfl (hb hby at_145)) ?_
      show Go p e below _ T14 (mkF m 148 #[.val (.int i0), .val (.int i1), .val (.int i2), .val (.int i3), .val (.ref fa), .val (.int mm), .val (.long (i1.toInt64)), .second, .val (.long (((i2 &&& (2147483647 : Int32)) % (1000 : Int32)).toInt64)), .second, .unset, .unset, .unset, .unset, .unset, .unset, .unset, .unset, .unset, .unset] [(.long (1000 : Int64)), (.ref fa)])
      refine Go.step (fun _ k => XS.lload X14.here hx rfl (hb hby at_148) rfl k) ?_
      show Go p e below _ T14 (mkF m 150 #[.val (.int i0), .val (.int i1), .val (.int i2), .val (.int i3), .val (.ref fa), .val (.int mm), .val (.long (i1.toInt64)), .second, .val (.long (((i2 &&& (2147483647 : Int32)) % (1000 : Int32)).toInt64)), .second, .unset, .unset, .unset, .unset, .unset, .unset, .unset, .unset, .unset, .unset] [(.long (i1.toInt64)), (.long (1000 : Int64)), (.ref fa)])
      refine Go.step (fun _ k => XS.lmul X14.here hx rfl (hb hby at_150) rfl k) ?_
      show Go p e below _ T14 (mkF m 151 #[.val (.int i0), .val (.int i1), .val (.int i2), .val (.int i3), .val (.ref fa), .val (.int mm), .val (.long (i1.toInt64)), .second, .val (.long (((i2 &&& (2147483647 : Int32)) % (1000 : Int32)).toInt64)), .second, .unset, .unset, .unset, .unset, .unset, .unset, .unset, .unset, .unset, .unset] [(.long ((1000 : Int64) * (i1.toInt64))), (.ref fa)])
      refine Go.step (fun _ k => XS.lload X14.here hx rfl (hb hby at_151) rfl k) ?_
      show Go p e below _ T14 (mkF m 153 #[.val (.int i0), .val (.int i1), .val (.int i2), .val (.int i3), .val (.ref fa), .val (.int mm), .val (.long (i1.toInt64)), .second, .val (.long (((i2 &&& (2147483647 : Int32)) % (1000 : Int32)).toInt64)), .second, .unset, .unset, .unset, .unset, .unset, .unset, .unset, .unset, .unset, .unset] [(.long (((i2 &&& (2147483647 : Int32)) % (1000 : Int32)).toInt64)), (.long ((1000 : Int64) * (i1.toInt64))), (.ref fa)])
      refine Go.step (fun _ k => XS.ladd X14.here hx rfl (hb hby at_153) rfl k) ?_
      show Go p e below _ T14 (mkF m 154 #[.val (.int i0), .val (.int i1), .val (.int i2), .val (.int i3), .val (.ref fa), .val (.int mm), .val (.long (i1.toInt64)), .second, .val (.long (((i2 &&& (2147483647 : Int32)) % (1000 : Int32)).toInt64)), .second, .unset, .unset, .unset, .unset, .unset, .unset, .unset, .unset, .unset, .unset] [(.long (((1000 : Int64) * (i1.toInt64)) + (((i2 &&& (2147483647 : Int32)) % (1000 : Int32)).toInt64))), (.ref fa)])
      obtain ⟨f154, e_f154⟩ : ∃ z : UInt64, z = FP.l2d (((1000 : Int64) * (i1.toInt64)) + (((i2 &&& (2147483647 : Int32)) % (1000 : Int32)).toInt64)) := ⟨_, rfl⟩
      refine Go.step (fun _ k => XS.l2dS X14.here hx rfl (hb hby at_154) rfl e_f154.symm k) ?_
      show Go p e below _ T14 (mkF m 155 #[.val (.int i0), .val (.int i1), .val (.int i2), .val (.int i3), .val (.ref fa), .val (.int mm), .val (.long (i1.toInt64)), .second, .val (.long (((i2 &&& (2147483647 : Int32)) % (1000 : Int32)).toInt64)), .second, .unset, .unset, .unset, .unset, .unset, .unset, .unset, .unset, .unset, .unset] [(.double f154), (.ref fa)])
      have hj := own_j i2
      have hbk := own_sm i1
      have hm : (((1000 : Int64) * (i1.toInt64)) + ((((i2 &&& (2147483647 : Int32)) % (1000 : Int32)).toInt64))).toInt = 1000 * i1.toInt + (((i2 &&& (2147483647 : Int32)) % (1000 : Int32)).toInt64).toInt := own_la (own_1000 i1) rfl (by omega) (by omega)
      have hkm := own_km (m := (((1000 : Int64) * (i1.toInt64)) + ((((i2 &&& (2147483647 : Int32)) % (1000 : Int32)).toInt64)))) (k := i1.toInt) hbk (by omega) (by omega)
      rw [← e_f154] at hkm
      obtain ⟨cq19, kq19, q19a, q19b, q19c⟩ := isOf hZ rfl E_fa
      obtain ⟨_, _, ⟨T19, L19, k19, n19⟩, -, X19, ⟨Lc19, hQ19, l19, y19, z19⟩, st19⟩ := X14.virtualBack hx (y := (⟨"com/example/mazu/mazu/economics/Fares", "carLeg", "(D)D"⟩ : MethodName)) (z := (⟨"com/example/mazu/mazu/economics/Fares", "carLeg", "(D)D"⟩ : MethodName)) hown (mvT hZ (hw _ (List.mem_of_getElem? (i := 34) rfl))) (mvT hZ (hw _ (List.mem_of_getElem? (i := 35) rfl))) (notFace_of_selects (args := #[]) (mvT hZ (hw _ (List.mem_of_getElem? (i := 37) rfl)))) (mvT hZ (hw _ (List.mem_of_getElem? (i := 37) rfl))) (mvT hZ (hw _ (List.mem_of_getElem? (i := 36) rfl))) (by decide) (backOf (W := 0) (rmLeg l Z a0 hw [] fa f154 i0 T14.heap n0 Zn F_carRatePerKm_fa hkm.1) hZ (hw _ (List.mem_of_getElem? (i := 38) rfl)) (hw _ (List.mem_of_getElem? (i := 2) rfl)) (by decide) (by decide)) q19a q19c (g := (mkF m 155 #[.val (.int i0), .val (.int i1), .val (.int i2), .val (.int i3), .val (.ref fa), .val (.int mm), .val (.long (i1.toInt64)), .second, .val (.long (((i2 &&& (2147483647 : Int32)) % (1000 : Int32)).toInt64)), .second, .unset, .unset, .unset, .unset, .unset, .unset, .unset, .unset, .unset, .unset] [(.double f154), (.ref fa)])) rfl (by rw [hml]; rfl) (Steps.refl _) (argsL := [(.double f154)]) (rest := []) (lenOf own_f43 rfl) rfl (by show 2 * 0 + _ ≤ _; exact Nat.le_of_eq rfl) (hb hby at_155) (fun _ _ => ⟨rfl, rfl, (by dsimp only [Pt.cells, Pt.slots]; decide), (by dsimp only [Pt.cells, Pt.slots]; decide)⟩)
      dsimp only [Pt.U, Pt.locs, Pt.cells, Pt.slots] at X19 l19 y19 z19 st19 hQ19
      subst l19 y19 z19
      obtain ⟨rr, rfl, N19q, e19, hL⟩ := hQ19
      have N19 := Fr.app N14 N19q
      refine Go.step (fun _ k => st19.trans k) ?_
      show Go p e below _ T19 (mkF m 158 #[.val (.int i0), .val (.int i1), .val (.int i2), .val (.int i3), .val (.ref fa), .val (.int mm), .val (.long (i1.toInt64)), .second, .val (.long (((i2 &&& (2147483647 : Int32)) % (1000 : Int32)).toInt64)), .second, .unset, .unset, .unset, .unset, .unset, .unset, .unset, .unset, .unset, .unset] [(.double rr)])
      rw [e_f154] at hL
      have fr := own_leg_fin hbk (by omega) (by omega) hL
      refine Go.step (fun _ k => XS.dstore X19.here hx rfl (hb hby at_158) rfl (l' := #[.val (.int i0), .val (.int i1), .val (.int i2), .val (.int i3), .val (.ref fa), .val (.int mm), .val (.long (i1.toInt64)), .second, .val (.long (((i2 &&& (2147483647 : Int32)) % (1000 : Int32)).toInt64)), .second, .val (.double rr), .second, .unset, .unset, .unset, .unset, .unset, .unset, .unset, .unset]) rfl k) ?_
      show Go p e below _ T19 (mkF m 160 #[.val (.int i0), .val (.int i1), .val (.int i2), .val (.int i3), .val (.ref fa), .val (.int mm), .val (.long (i1.toInt64)), .second, .val (.long (((i2 &&& (2147483647 : Int32)) % (1000 : Int32)).toInt64)), .second, .val (.double rr), .second, .unset, .unset, .unset, .unset, .unset, .unset, .unset, .unset] [])
      refine Go.step (fun _ k => XS.iloadN X19.here hx rfl (hb hby at_160) rfl k) ?_
      show Go p e below _ T19 (mkF m 161 #[.val (.int i0), .val (.int i1), .val (.int i2), .val (.int i3), .val (.ref fa), .val (.int mm), .val (.long (i1.toInt64)), .second, .val (.long (((i2 &&& (2147483647 : Int32)) % (1000 : Int32)).toInt64)), .second, .val (.double rr), .second, .unset, .unset, .unset, .unset, .unset, .unset, .unset, .unset] [(.int i0)])
      refine Go.step (fun _ k => XS.i2l X19.here hx rfl (hb hby at_161) rfl k) ?_
      show Go p e below _ T19 (mkF m 162 #[.val (.int i0), .val (.int i1), .val (.int i2), .val (.int i3), .val (.ref fa), .val (.int mm), .val (.long (i1.toInt64)), .second, .val (.long (((i2 &&& (2147483647 : Int32)) % (1000 : Int32)).toInt64)), .second, .val (.double rr), .second, .unset, .unset, .unset, .unset, .unset, .unset, .unset, .unset] [(.long (i0.toInt64))])
      refine Go.step (fun _ k => XS.lload X19.here hx rfl (hb hby at_162) rfl k) ?_
      show Go p e below _ T19 (mkF m 164 #[.val (.int i0), .val (.int i1), .val (.int i2), .val (.int i3), .val (.ref fa), .val (.int mm), .val (.long (i1.toInt64)), .second, .val (.long (((i2 &&& (2147483647 : Int32)) % (1000 : Int32)).toInt64)), .second, .val (.double rr), .second, .unset, .unset, .unset, .unset, .unset, .unset, .unset, .unset] [(.long (i1.toInt64)), (.long (i0.toInt64))])
      refine Go.step (fun _ k => XS.lmul X19.here hx rfl (hb hby at_164) rfl k) ?_
      show Go p e below _ T19 (mkF m 165 #[.val (.int i0), .val (.int i1), .val (.int i2), .val (.int i3), .val (.ref fa), .val (.int mm), .val (.long (i1.toInt64)), .second, .val (.long (((i2 &&& (2147483647 : Int32)) % (1000 : Int32)).toInt64)), .second, .val (.double rr), .second, .unset, .unset, .unset, .unset, .unset, .unset, .unset, .unset] [(.long ((i0.toInt64) * (i1.toInt64)))])
      obtain ⟨f165, e_f165⟩ : ∃ z : UInt64, z = FP.l2d ((i0.toInt64) * (i1.toInt64)) := ⟨_, rfl⟩
      refine Go.step (fun _ k => XS.l2dS X19.here hx rfl (hb hby at_165) rfl e_f165.symm k) ?_
      show Go p e below _ T19 (mkF m 166 #[.val (.int i0), .val (.int i1), .val (.int i2), .val (.int i3), .val (.ref fa), .val (.int mm), .val (.long (i1.toInt64)), .second, .val (.long (((i2 &&& (2147483647 : Int32)) % (1000 : Int32)).toInt64)), .second, .val (.double rr), .second, .unset, .unset, .unset, .unset, .unset, .unset, .unset, .unset] [(.double f165)])
      refine Go.step (fun _ k => XS.dstore X19.here hx rfl (hb hby at_166) rfl (l' := #[.val (.int i0), .val (.int i1), .val (.int i2), .val (.int i3), .val (.ref fa), .val (.int mm), .val (.long (i1.toInt64)), .second, .val (.long (((i2 &&& (2147483647 : Int32)) % (1000 : Int32)).toInt64)), .second, .val (.double rr), .second, .val (.double f165), .second, .unset, .unset, .unset, .unset, .unset, .unset]) rfl k) ?_
      show Go p e below _ T19 (mkF m 168 #[.val (.int i0), .val (.int i1), .val (.int i2), .val (.int i3), .val (.ref fa), .val (.int mm), .val (.long (i1.toInt64)), .second, .val (.long (((i2 &&& (2147483647 : Int32)) % (1000 : Int32)).toInt64)), .second, .val (.double rr), .second, .val (.double f165), .second, .unset, .unset, .unset, .unset, .unset, .unset] [])
      refine Go.step (fun _ k => XS.iloadN X19.here hx rfl (hb hby at_168) rfl k) ?_
      show Go p e below _ T19 (mkF m 169 #[.val (.int i0), .val (.int i1), .val (.int i2), .val (.int i3), .val (.ref fa), .val (.int mm), .val (.long (i1.toInt64)), .second, .val (.long (((i2 &&& (2147483647 : Int32)) % (1000 : Int32)).toInt64)), .second, .val (.double rr), .second, .val (.double f165), .second, .unset, .unset, .unset, .unset, .unset, .unset] [(.int i0)])
      refine Go.step (fun _ k => XS.i2l X19.here hx rfl (hb hby at_169) rfl k) ?_
      show Go p e below _ T19 (mkF m 170 #[.val (.int i0), .val (.int i1), .val (.int i2), .val (.int i3), .val (.ref fa), .val (.int mm), .val (.long (i1.toInt64)), .second, .val (.long (((i2 &&& (2147483647 : Int32)) % (1000 : Int32)).toInt64)), .second, .val (.double rr), .second, .val (.double f165), .second, .unset, .unset, .unset, .unset, .unset, .unset] [(.long (i0.toInt64))])
      refine Go.step (fun _ k => XS.lload X19.here hx rfl (hb hby at_170) rfl k) ?_
      show Go p e below _ T19 (mkF m 172 #[.val (.int i0), .val (.int i1), .val (.int i2), .val (.int i3), .val (.ref fa), .val (.int mm), .val (.long (i1.toInt64)), .second, .val (.long (((i2 &&& (2147483647 : Int32)) % (1000 : Int32)).toInt64)), .second, .val (.double rr), .second, .val (.double f165), .second, .unset, .unset, .unset, .unset, .unset, .unset] [(.long (i1.toInt64)), (.long (i0.toInt64))])
      refine Go.step (fun _ k => XS.lconst X19.here hx rfl (hb hby at_172) k) ?_
      show Go p e below _ T19 (mkF m 173 #[.val (.int i0), .val (.int i1), .val (.int i2), .val (.int i3), .val (.ref fa), .val (.int mm), .val (.long (i1.toInt64)), .second, .val (.long (((i2 &&& (2147483647 : Int32)) % (1000 : Int32)).toInt64)), .second, .val (.double rr), .second, .val (.double f165), .second, .unset, .unset, .unset, .unset, .unset, .unset] [(.long (1 : Int64)), (.long (i1.toInt64)), (.long (i0.toInt64))])
      refine Go.step (fun _ k => XS.ladd X19.here hx rfl (hb hby at_173) rfl k) ?_
      show Go p e below _ T19 (mkF m 174 #[.val (.int i0), .val (.int i1), .val (.int i2), .val (.int i3), .val (.ref fa), .val (.int mm), .val (.long (i1.toInt64)), .second, .val (.long (((i2 &&& (2147483647 : Int32)) % (1000 : Int32)).toInt64)), .second, .val (.double rr), .second, .val (.double f165), .second, .unset, .unset, .unset, .unset, .unset, .unset] [(.long ((i1.toInt64) + (1 : Int64))), (.long (i0.toInt64))])
      refine Go.step (fun _ k => XS.lmul X19.here hx rfl (hb hby at_174) rfl k) ?_
      show Go p e below _ T19 (mkF m 175 #[.val (.int i0), .val (.int i1), .val (.int i2), .val (.int i3), .val (.ref fa), .val (.int mm), .val (.long (i1.toInt64)), .second, .val (.long (((i2 &&& (2147483647 : Int32)) % (1000 : Int32)).toInt64)), .second, .val (.double rr), .second, .val (.double f165), .second, .unset, .unset, .unset, .unset, .unset, .unset] [(.long ((i0.toInt64) * ((i1.toInt64) + (1 : Int64))))])
      obtain ⟨f175, e_f175⟩ : ∃ z : UInt64, z = FP.l2d ((i0.toInt64) * ((i1.toInt64) + (1 : Int64))) := ⟨_, rfl⟩
      refine Go.step (fun _ k => XS.l2dS X19.here hx rfl (hb hby at_175) rfl e_f175.symm k) ?_
      show Go p e below _ T19 (mkF m 176 #[.val (.int i0), .val (.int i1), .val (.int i2), .val (.int i3), .val (.ref fa), .val (.int mm), .val (.long (i1.toInt64)), .second, .val (.long (((i2 &&& (2147483647 : Int32)) % (1000 : Int32)).toInt64)), .second, .val (.double rr), .second, .val (.double f165), .second, .unset, .unset, .unset, .unset, .unset, .unset] [(.double f175)])
      refine Go.step (fun _ k => XS.dstore X19.here hx rfl (hb hby at_176) rfl (l' := #[.val (.int i0), .val (.int i1), .val (.int i2), .val (.int i3), .val (.ref fa), .val (.int mm), .val (.long (i1.toInt64)), .second, .val (.long (((i2 &&& (2147483647 : Int32)) % (1000 : Int32)).toInt64)), .second, .val (.double rr), .second, .val (.double f165), .second, .val (.double f175), .second, .unset, .unset, .unset, .unset]) rfl k) ?_
      show Go p e below _ T19 (mkF m 178 #[.val (.int i0), .val (.int i1), .val (.int i2), .val (.int i3), .val (.ref fa), .val (.int mm), .val (.long (i1.toInt64)), .second, .val (.long (((i2 &&& (2147483647 : Int32)) % (1000 : Int32)).toInt64)), .second, .val (.double rr), .second, .val (.double f165), .second, .val (.double f175), .second, .unset, .unset, .unset, .unset] [])
      refine Go.step (fun _ k => XS.dload X19.here hx rfl (hb hby at_178) rfl k) ?_
      show Go p e below _ T19 (mkF m 180 #[.val (.int i0), .val (.int i1), .val (.int i2), .val (.int i3), .val (.ref fa), .val (.int mm), .val (.long (i1.toInt64)), .second, .val (.long (((i2 &&& (2147483647 : Int32)) % (1000 : Int32)).toInt64)), .second, .val (.double rr), .second, .val (.double f165), .second, .val (.double f175), .second, .unset, .unset, .unset, .unset] [(.double f165)])
      refine Go.step (fun _ k => XS.dstore X19.here hx rfl (hb hby at_180) rfl (l' := #[.val (.int i0), .val (.int i1), .val (.int i2), .val (.int i3), .val (.ref fa), .val (.int mm), .val (.long (i1.toInt64)), .second, .val (.long (((i2 &&& (2147483647 : Int32)) % (1000 : Int32)).toInt64)), .second, .val (.double rr), .second, .val (.double f165), .second, .val (.double f175), .second, .val (.double f165), .second, .unset, .unset]) rfl k) ?_
      show Go p e below _ T19 (mkF m 182 #[.val (.int i0), .val (.int i1), .val (.int i2), .val (.int i3), .val (.ref fa), .val (.int mm), .val (.long (i1.toInt64)), .second, .val (.long (((i2 &&& (2147483647 : Int32)) % (1000 : Int32)).toInt64)), .second, .val (.double rr), .second, .val (.double f165), .second, .val (.double f175), .second, .val (.double f165), .second, .unset, .unset] [])
      refine Go.step (fun _ k => XS.dload X19.here hx rfl (hb hby at_182) rfl k) ?_
      show Go p e below _ T19 (mkF m 184 #[.val (.int i0), .val (.int i1), .val (.int i2), .val (.int i3), .val (.ref fa), .val (.int mm), .val (.long (i1.toInt64)), .second, .val (.long (((i2 &&& (2147483647 : Int32)) % (1000 : Int32)).toInt64)), .second, .val (.double rr), .second, .val (.double f165), .second, .val (.double f175), .second, .val (.double f165), .second, .unset, .unset] [(.double f175)])
      refine Go.step (fun _ k => XS.dstore X19.here hx rfl (hb hby at_184) rfl (l' := #[.val (.int i0), .val (.int i1), .val (.int i2), .val (.int i3), .val (.ref fa), .val (.int mm), .val (.long (i1.toInt64)), .second, .val (.long (((i2 &&& (2147483647 : Int32)) % (1000 : Int32)).toInt64)), .second, .val (.double rr), .second, .val (.double f165), .second, .val (.double f175), .second, .val (.double f165), .second, .val (.double f175), .second]) rfl k) ?_
      show Go p e below _ T19 (mkF m 186 #[.val (.int i0), .val (.int i1), .val (.int i2), .val (.int i3), .val (.ref fa), .val (.int mm), .val (.long (i1.toInt64)), .second, .val (.long (((i2 &&& (2147483647 : Int32)) % (1000 : Int32)).toInt64)), .second, .val (.double rr), .second, .val (.double f165), .second, .val (.double f175), .second, .val (.double f165), .second, .val (.double f175), .second] [])
      refine Go.step (fun _ k => XS.dload X19.here hx rfl (hb hby at_186) rfl k) ?_
      show Go p e below _ T19 (mkF m 188 #[.val (.int i0), .val (.int i1), .val (.int i2), .val (.int i3), .val (.ref fa), .val (.int mm), .val (.long (i1.toInt64)), .second, .val (.long (((i2 &&& (2147483647 : Int32)) % (1000 : Int32)).toInt64)), .second, .val (.double rr), .second, .val (.double f165), .second, .val (.double f175), .second, .val (.double f165), .second, .val (.double f175), .second] [(.double f175)])
      refine Go.step (fun _ k => XS.dload X19.here hx rfl (hb hby at_188) rfl k) ?_
      show Go p e below _ T19 (mkF m 190 #[.val (.int i0), .val (.int i1), .val (.int i2), .val (.int i3), .val (.ref fa), .val (.int mm), .val (.long (i1.toInt64)), .second, .val (.long (((i2 &&& (2147483647 : Int32)) % (1000 : Int32)).toInt64)), .second, .val (.double rr), .second, .val (.double f165), .second, .val (.double f175), .second, .val (.double f165), .second, .val (.double f175), .second] [(.double f165), (.double f175)])
      refine Go.step (fun _ k => XS.dcmpS X19.here hx rfl (hb hby at_190) rfl rfl k) ?_
      show Go p e below _ T19 (mkF m 191 #[.val (.int i0), .val (.int i1), .val (.int i2), .val (.int i3), .val (.ref fa), .val (.int mm), .val (.long (i1.toInt64)), .second, .val (.long (((i2 &&& (2147483647 : Int32)) % (1000 : Int32)).toInt64)), .second, .val (.double rr), .second, .val (.double f165), .second, .val (.double f175), .second, .val (.double f165), .second, .val (.double f175), .second] [(.int (cmpValue (FP.dcmp f175 f165) .g))])
      have h3 := own_m2 (a := ((i0.toInt64) * (i1.toInt64))) (b := ((i0.toInt64) * ((i1.toInt64) + (1 : Int64)))) hbk (by omega) (by omega) (own_rk i0 i1) (own_rk1 i0 i1) hL
      rw [← e_f165, ← e_f175] at h3
      have fa_ : Jvm.FP.Core.DFin f165 := by rw [e_f165]; exact Jvm.FP.Core.l2d_fin _
      have fb_ : Jvm.FP.Core.DFin f175 := by rw [e_f175]; exact Jvm.FP.Core.l2d_fin _
      by_cases hlt : own_z f175 < own_z f165
      · show Go p e below _ T19 (mkF m 191 #[.val (.int i0), .val (.int i1), .val (.int i2), .val (.int i3), .val (.ref fa), .val (.int mm), .val (.long (i1.toInt64)), .second, .val (.long (((i2 &&& (2147483647 : Int32)) % (1000 : Int32)).toInt64)), .second, .val (.double rr), .second, .val (.double f165), .second, .val (.double f175), .second, .val (.double f165), .second, .val (.double f175), .second] [(.int (cmpValue (FP.dcmp f175 f165) .g))])
        refine Go.step (fun _ k => XS.ifNo X19.here hx rfl (hb hby at_191) rfl ((if0 _ _).trans (tlt ((own_zcv fb_ fa_ .g).1.mpr hlt)).2.1) k) ?_
        show Go p e below _ T19 (mkF m 194 #[.val (.int i0), .val (.int i1), .val (.int i2), .val (.int i3), .val (.ref fa), .val (.int mm), .val (.long (i1.toInt64)), .second, .val (.long (((i2 &&& (2147483647 : Int32)) % (1000 : Int32)).toInt64)), .second, .val (.double rr), .second, .val (.double f165), .second, .val (.double f175), .second, .val (.double f165), .second, .val (.double f175), .second] [])
        refine Go.step (fun _ k => XS.dload X19.here hx rfl (hb hby at_194) rfl k) ?_
        show Go p e below _ T19 (mkF m 196 #[.val (.int i0), .val (.int i1), .val (.int i2), .val (.int i3), .val (.ref fa), .val (.int mm), .val (.long (i1.toInt64)), .second, .val (.long (((i2 &&& (2147483647 : Int32)) % (1000 : Int32)).toInt64)), .second, .val (.double rr), .second, .val (.double f165), .second, .val (.double f175), .second, .val (.double f165), .second, .val (.double f175), .second] [(.double f175)])
        refine Go.step (fun _ k => XS.dstore X19.here hx rfl (hb hby at_196) rfl (l' := #[.val (.int i0), .val (.int i1), .val (.int i2), .val (.int i3), .val (.ref fa), .val (.int mm), .val (.long (i1.toInt64)), .second, .val (.long (((i2 &&& (2147483647 : Int32)) % (1000 : Int32)).toInt64)), .second, .val (.double rr), .second, .val (.double f165), .second, .val (.double f175), .second, .val (.double f175), .second, .val (.double f175), .second]) rfl k) ?_
        show Go p e below _ T19 (mkF m 198 #[.val (.int i0), .val (.int i1), .val (.int i2), .val (.int i3), .val (.ref fa), .val (.int mm), .val (.long (i1.toInt64)), .second, .val (.long (((i2 &&& (2147483647 : Int32)) % (1000 : Int32)).toInt64)), .second, .val (.double rr), .second, .val (.double f165), .second, .val (.double f175), .second, .val (.double f175), .second, .val (.double f175), .second] [])
        refine Go.step (fun _ k => XS.dload X19.here hx rfl (hb hby at_198) rfl k) ?_
        show Go p e below _ T19 (mkF m 200 #[.val (.int i0), .val (.int i1), .val (.int i2), .val (.int i3), .val (.ref fa), .val (.int mm), .val (.long (i1.toInt64)), .second, .val (.long (((i2 &&& (2147483647 : Int32)) % (1000 : Int32)).toInt64)), .second, .val (.double rr), .second, .val (.double f165), .second, .val (.double f175), .second, .val (.double f175), .second, .val (.double f175), .second] [(.double f165)])
        refine Go.step (fun _ k => XS.dstore X19.here hx rfl (hb hby at_200) rfl (l' := #[.val (.int i0), .val (.int i1), .val (.int i2), .val (.int i3), .val (.ref fa), .val (.int mm), .val (.long (i1.toInt64)), .second, .val (.long (((i2 &&& (2147483647 : Int32)) % (1000 : Int32)).toInt64)), .second, .val (.double rr), .second, .val (.double f165), .second, .val (.double f175), .second, .val (.double f175), .second, .val (.double f165), .second]) rfl k) ?_
        show Go p e below _ T19 (mkF m 202 #[.val (.int i0), .val (.int i1), .val (.int i2), .val (.int i3), .val (.ref fa), .val (.int mm), .val (.long (i1.toInt64)), .second, .val (.long (((i2 &&& (2147483647 : Int32)) % (1000 : Int32)).toInt64)), .second, .val (.double rr), .second, .val (.double f165), .second, .val (.double f175), .second, .val (.double f175), .second, .val (.double f165), .second] [])
        refine Go.step (fun _ k => XS.dload X19.here hx rfl (hb hby at_202) rfl k) ?_
        show Go p e below _ T19 (mkF m 204 #[.val (.int i0), .val (.int i1), .val (.int i2), .val (.int i3), .val (.ref fa), .val (.int mm), .val (.long (i1.toInt64)), .second, .val (.long (((i2 &&& (2147483647 : Int32)) % (1000 : Int32)).toInt64)), .second, .val (.double rr), .second, .val (.double f165), .second, .val (.double f175), .second, .val (.double f175), .second, .val (.double f165), .second] [(.double f175)])
        refine Go.step (fun _ k => XS.dload X19.here hx rfl (hb hby at_204) rfl k) ?_
        show Go p e below _ T19 (mkF m 206 #[.val (.int i0), .val (.int i1), .val (.int i2), .val (.int i3), .val (.ref fa), .val (.int mm), .val (.long (i1.toInt64)), .second, .val (.long (((i2 &&& (2147483647 : Int32)) % (1000 : Int32)).toInt64)), .second, .val (.double rr), .second, .val (.double f165), .second, .val (.double f175), .second, .val (.double f175), .second, .val (.double f165), .second] [(.double rr), (.double f175)])
        refine Go.step (fun _ k => XS.dcmpS X19.here hx rfl (hb hby at_206) rfl rfl k) ?_
        show Go p e below _ T19 (mkF m 207 #[.val (.int i0), .val (.int i1), .val (.int i2), .val (.int i3), .val (.ref fa), .val (.int mm), .val (.long (i1.toInt64)), .second, .val (.long (((i2 &&& (2147483647 : Int32)) % (1000 : Int32)).toInt64)), .second, .val (.double rr), .second, .val (.double f165), .second, .val (.double f175), .second, .val (.double f175), .second, .val (.double f165), .second] [(.int (cmpValue (FP.dcmp f175 rr) .g))])
        refine Go.step (fun _ k => XS.ifNo X19.here hx rfl (hb hby at_207) rfl ((if0 _ _).trans (flt (fun q => absurd ((own_zcv fb_ fr .g).2.1.mp q) (by omega))).2.2.1) k) ?_
        show Go p e below _ T19 (mkF m 210 #[.val (.int i0), .val (.int i1), .val (.int i2), .val (.int i3), .val (.ref fa), .val (.int mm), .val (.long (i1.toInt64)), .second, .val (.long (((i2 &&& (2147483647 : Int32)) % (1000 : Int32)).toInt64)), .second, .val (.double rr), .second, .val (.double f165), .second, .val (.double f175), .second, .val (.double f175), .second, .val (.double f165), .second] [])
        refine Go.step (fun _ k => XS.dload X19.here hx rfl (hb hby at_210) rfl k) ?_
        show Go p e below _ T19 (mkF m 212 #[.val (.int i0), .val (.int i1), .val (.int i2), .val (.int i3), .val (.ref fa), .val (.int mm), .val (.long (i1.toInt64)), .second, .val (.long (((i2 &&& (2147483647 : Int32)) % (1000 : Int32)).toInt64)), .second, .val (.double rr), .second, .val (.double f165), .second, .val (.double f175), .second, .val (.double f175), .second, .val (.double f165), .second] [(.double rr)])
        refine Go.step (fun _ k => XS.dload X19.here hx rfl (hb hby at_212) rfl k) ?_
        show Go p e below _ T19 (mkF m 214 #[.val (.int i0), .val (.int i1), .val (.int i2), .val (.int i3), .val (.ref fa), .val (.int mm), .val (.long (i1.toInt64)), .second, .val (.long (((i2 &&& (2147483647 : Int32)) % (1000 : Int32)).toInt64)), .second, .val (.double rr), .second, .val (.double f165), .second, .val (.double f175), .second, .val (.double f175), .second, .val (.double f165), .second] [(.double f165), (.double rr)])
        refine Go.step (fun _ k => XS.dcmpS X19.here hx rfl (hb hby at_214) rfl rfl k) ?_
        show Go p e below _ T19 (mkF m 215 #[.val (.int i0), .val (.int i1), .val (.int i2), .val (.int i3), .val (.ref fa), .val (.int mm), .val (.long (i1.toInt64)), .second, .val (.long (((i2 &&& (2147483647 : Int32)) % (1000 : Int32)).toInt64)), .second, .val (.double rr), .second, .val (.double f165), .second, .val (.double f175), .second, .val (.double f175), .second, .val (.double f165), .second] [(.int (cmpValue (FP.dcmp rr f165) .g))])
        refine Go.step (fun _ k => XS.ifNo X19.here hx rfl (hb hby at_215) rfl ((if0 _ _).trans (flt (fun q => absurd ((own_zcv fr fa_ .g).2.1.mp q) (by omega))).2.2.1) k) ?_
        show Go p e below _ T19 (mkF m 218 #[.val (.int i0), .val (.int i1), .val (.int i2), .val (.int i3), .val (.ref fa), .val (.int mm), .val (.long (i1.toInt64)), .second, .val (.long (((i2 &&& (2147483647 : Int32)) % (1000 : Int32)).toInt64)), .second, .val (.double rr), .second, .val (.double f165), .second, .val (.double f175), .second, .val (.double f175), .second, .val (.double f165), .second] [])
        refine Go.step (fun _ k => XS.iconst X19.here hx rfl (hb hby at_218) k) ?_
        show Go p e below _ T19 (mkF m 219 #[.val (.int i0), .val (.int i1), .val (.int i2), .val (.int i3), .val (.ref fa), .val (.int mm), .val (.long (i1.toInt64)), .second, .val (.long (((i2 &&& (2147483647 : Int32)) % (1000 : Int32)).toInt64)), .second, .val (.double rr), .second, .val (.double f165), .second, .val (.double f175), .second, .val (.double f175), .second, .val (.double f165), .second] [(.int (1 : Int32))])
        refine Go.step (fun _ k => XS.goto X19.here hx rfl (pc0 := 219) (pc' := 223) rfl (hb hby at_219) (by decide) (by decide) k) ?_
        show Go p e below _ T19 (mkF m 223 #[.val (.int i0), .val (.int i1), .val (.int i2), .val (.int i3), .val (.ref fa), .val (.int mm), .val (.long (i1.toInt64)), .second, .val (.long (((i2 &&& (2147483647 : Int32)) % (1000 : Int32)).toInt64)), .second, .val (.double rr), .second, .val (.double f165), .second, .val (.double f175), .second, .val (.double f175), .second, .val (.double f165), .second] [(.int (1 : Int32))])
        obtain ⟨fs, hr, hrun, hended, hW, hsame⟩ := X19.leave (v := some (.int (1 : Int32))) (fun h => by rw [Bd.returns] at h; cases h)
        refine Go.fin (retN X19 hx (t := .boolean) Bd.returns (by simp) (hb hby at_223) hr) hrun hended ?_
        refine ⟨_, _, rfl, ?_, ⟨_, rfl⟩, hW, hsame.mono (by decide) (by decide)⟩
        show Q0 Z i0 i1 i2 i3 h0 n0 _ T19.heap _
        rw [e19]
        exact ⟨rfl, N19⟩
      · show Go p e below _ T19 (mkF m 191 #[.val (.int i0), .val (.int i1), .val (.int i2), .val (.int i3), .val (.ref fa), .val (.int mm), .val (.long (i1.toInt64)), .second, .val (.long (((i2 &&& (2147483647 : Int32)) % (1000 : Int32)).toInt64)), .second, .val (.double rr), .second, .val (.double f165), .second, .val (.double f175), .second, .val (.double f165), .second, .val (.double f175), .second] [(.int (cmpValue (FP.dcmp f175 f165) .g))])
        refine Go.step (fun _ k => XS.ifYes X19.here hx rfl (pc0 := 191) (pc' := 202) rfl (hb hby at_191) rfl ((if0 _ _).trans (flt (fun q => hlt ((own_zcv fb_ fa_ .g).1.mp q))).2.1) (by decide) (by decide) k) ?_
        show Go p e below _ T19 (mkF m 202 #[.val (.int i0), .val (.int i1), .val (.int i2), .val (.int i3), .val (.ref fa), .val (.int mm), .val (.long (i1.toInt64)), .second, .val (.long (((i2 &&& (2147483647 : Int32)) % (1000 : Int32)).toInt64)), .second, .val (.double rr), .second, .val (.double f165), .second, .val (.double f175), .second, .val (.double f165), .second, .val (.double f175), .second] [])
        refine Go.step (fun _ k => XS.dload X19.here hx rfl (hb hby at_202) rfl k) ?_
        show Go p e below _ T19 (mkF m 204 #[.val (.int i0), .val (.int i1), .val (.int i2), .val (.int i3), .val (.ref fa), .val (.int mm), .val (.long (i1.toInt64)), .second, .val (.long (((i2 &&& (2147483647 : Int32)) % (1000 : Int32)).toInt64)), .second, .val (.double rr), .second, .val (.double f165), .second, .val (.double f175), .second, .val (.double f165), .second, .val (.double f175), .second] [(.double f165)])
        refine Go.step (fun _ k => XS.dload X19.here hx rfl (hb hby at_204) rfl k) ?_
        show Go p e below _ T19 (mkF m 206 #[.val (.int i0), .val (.int i1), .val (.int i2), .val (.int i3), .val (.ref fa), .val (.int mm), .val (.long (i1.toInt64)), .second, .val (.long (((i2 &&& (2147483647 : Int32)) % (1000 : Int32)).toInt64)), .second, .val (.double rr), .second, .val (.double f165), .second, .val (.double f175), .second, .val (.double f165), .second, .val (.double f175), .second] [(.double rr), (.double f165)])
        refine Go.step (fun _ k => XS.dcmpS X19.here hx rfl (hb hby at_206) rfl rfl k) ?_
        show Go p e below _ T19 (mkF m 207 #[.val (.int i0), .val (.int i1), .val (.int i2), .val (.int i3), .val (.ref fa), .val (.int mm), .val (.long (i1.toInt64)), .second, .val (.long (((i2 &&& (2147483647 : Int32)) % (1000 : Int32)).toInt64)), .second, .val (.double rr), .second, .val (.double f165), .second, .val (.double f175), .second, .val (.double f165), .second, .val (.double f175), .second] [(.int (cmpValue (FP.dcmp f165 rr) .g))])
        refine Go.step (fun _ k => XS.ifNo X19.here hx rfl (hb hby at_207) rfl ((if0 _ _).trans (flt (fun q => absurd ((own_zcv fa_ fr .g).2.1.mp q) (by omega))).2.2.1) k) ?_
        show Go p e below _ T19 (mkF m 210 #[.val (.int i0), .val (.int i1), .val (.int i2), .val (.int i3), .val (.ref fa), .val (.int mm), .val (.long (i1.toInt64)), .second, .val (.long (((i2 &&& (2147483647 : Int32)) % (1000 : Int32)).toInt64)), .second, .val (.double rr), .second, .val (.double f165), .second, .val (.double f175), .second, .val (.double f165), .second, .val (.double f175), .second] [])
        refine Go.step (fun _ k => XS.dload X19.here hx rfl (hb hby at_210) rfl k) ?_
        show Go p e below _ T19 (mkF m 212 #[.val (.int i0), .val (.int i1), .val (.int i2), .val (.int i3), .val (.ref fa), .val (.int mm), .val (.long (i1.toInt64)), .second, .val (.long (((i2 &&& (2147483647 : Int32)) % (1000 : Int32)).toInt64)), .second, .val (.double rr), .second, .val (.double f165), .second, .val (.double f175), .second, .val (.double f165), .second, .val (.double f175), .second] [(.double rr)])
        refine Go.step (fun _ k => XS.dload X19.here hx rfl (hb hby at_212) rfl k) ?_
        show Go p e below _ T19 (mkF m 214 #[.val (.int i0), .val (.int i1), .val (.int i2), .val (.int i3), .val (.ref fa), .val (.int mm), .val (.long (i1.toInt64)), .second, .val (.long (((i2 &&& (2147483647 : Int32)) % (1000 : Int32)).toInt64)), .second, .val (.double rr), .second, .val (.double f165), .second, .val (.double f175), .second, .val (.double f165), .second, .val (.double f175), .second] [(.double f175), (.double rr)])
        refine Go.step (fun _ k => XS.dcmpS X19.here hx rfl (hb hby at_214) rfl rfl k) ?_
        show Go p e below _ T19 (mkF m 215 #[.val (.int i0), .val (.int i1), .val (.int i2), .val (.int i3), .val (.ref fa), .val (.int mm), .val (.long (i1.toInt64)), .second, .val (.long (((i2 &&& (2147483647 : Int32)) % (1000 : Int32)).toInt64)), .second, .val (.double rr), .second, .val (.double f165), .second, .val (.double f175), .second, .val (.double f165), .second, .val (.double f175), .second] [(.int (cmpValue (FP.dcmp rr f175) .g))])
        refine Go.step (fun _ k => XS.ifNo X19.here hx rfl (hb hby at_215) rfl ((if0 _ _).trans (flt (fun q => absurd ((own_zcv fr fb_ .g).2.1.mp q) (by omega))).2.2.1) k) ?_
        show Go p e below _ T19 (mkF m 218 #[.val (.int i0), .val (.int i1), .val (.int i2), .val (.int i3), .val (.ref fa), .val (.int mm), .val (.long (i1.toInt64)), .second, .val (.long (((i2 &&& (2147483647 : Int32)) % (1000 : Int32)).toInt64)), .second, .val (.double rr), .second, .val (.double f165), .second, .val (.double f175), .second, .val (.double f165), .second, .val (.double f175), .second] [])
        refine Go.step (fun _ k => XS.iconst X19.here hx rfl (hb hby at_218) k) ?_
        show Go p e below _ T19 (mkF m 219 #[.val (.int i0), .val (.int i1), .val (.int i2), .val (.int i3), .val (.ref fa), .val (.int mm), .val (.long (i1.toInt64)), .second, .val (.long (((i2 &&& (2147483647 : Int32)) % (1000 : Int32)).toInt64)), .second, .val (.double rr), .second, .val (.double f165), .second, .val (.double f175), .second, .val (.double f165), .second, .val (.double f175), .second] [(.int (1 : Int32))])
        refine Go.step (fun _ k => XS.goto X19.here hx rfl (pc0 := 219) (pc' := 223) rfl (hb hby at_219) (by decide) (by decide) k) ?_
        show Go p e below _ T19 (mkF m 223 #[.val (.int i0), .val (.int i1), .val (.int i2), .val (.int i3), .val (.ref fa), .val (.int mm), .val (.long (i1.toInt64)), .second, .val (.long (((i2 &&& (2147483647 : Int32)) % (1000 : Int32)).toInt64)), .second, .val (.double rr), .second, .val (.double f165), .second, .val (.double f175), .second, .val (.double f165), .second, .val (.double f175), .second] [(.int (1 : Int32))])
        obtain ⟨fs, hr, hrun, hended, hW, hsame⟩ := X19.leave (v := some (.int (1 : Int32))) (fun h => by rw [Bd.returns] at h; cases h)
        refine Go.fin (retN X19 hx (t := .boolean) Bd.returns (by simp) (hb hby at_223) hr) hrun hended ?_
        refine ⟨_, _, rfl, ?_, ⟨_, rfl⟩, hW, hsame.mono (by decide) (by decide)⟩
        show Q0 Z i0 i1 i2 i3 h0 n0 _ T19.heap _
        rw [e19]
        exact ⟨rfl, N19⟩
set_option maxRecDepth 65536 in
set_option maxHeartbeats 40000000 in
theorem comes_1 {Post : Tables → Env → Array Value → State → Outcome → State → Prop} (hpost : ∀ tb e args s v u, (limb_1_1.after args s (.returned v) u = true ∧ limb_1_2.after args s (.returned v) u = true ∧ True) → FrameEnd s (.returned v) u (Jvm.fieldLocs frame_1_writes args s ++ Jvm.arrayLocs frame_1_arrays args s ++ Jvm.staticLocs frame_1_statics s) 16 128 → Post tb e args s (.returned v) u) :
    ArmFor flags0 classFile x code maxLocals ret World_1 tables_1 room_1 Calls_1 rest_1 Pre_1 Post := by
  intro l hfl _ _ p e ha hc hk s m args below hf hA hF happ hP
  obtain ⟨hcalls, hrest, hpre⟩ := hP
  obtain ⟨-, -, -, hnamed, -, -, -, hat⟩ := (Spec.applies_iff hf).mp happ
  obtain ⟨hg, hn⟩ := and_e (Cond.before_iff.mp (show (Jvm.Cond.and given_1 narrow_1).before args s = true from hpre))
  obtain ⟨hg1, hg2⟩ := and_e hg
  obtain ⟨hg3, hg4⟩ := and_e hg2
  obtain ⟨hg5, hg6⟩ := and_e hg4
  obtain ⟨hg7, hg8⟩ := and_e hg6
  obtain ⟨w0, w1, w2, w3, rfl⟩ : ∃ w0 w1 w2 w3 : Value, args = #[w0, w1, w2, w3] := by
    have hs : args.size = 4 := by simpa [Cond.value, given_1] using hg1
    obtain ⟨L⟩ := args
    match L, hs with
    | [w0, w1, w2, w3], _ => exact ⟨w0, w1, w2, w3, rfl⟩
  have hw := fun d (hd : d ∈ tables_1) => atoms_spec (ws := Jvm.Cond.code x code maxLocals ret :: tables_1) hat d (List.mem_cons_of_mem _ hd)
  have hfit : Fit s := fun {y c} hc i hi => by
    obtain ⟨ha, rfl⟩ := Array.getElem?_eq_some_iff.mp hc
    have q := List.all_eq_true.mp ((Array.all_eq_true_iff_forall_mem.mp hF) _ (Array.getElem_mem ha)) i (List.mem_range.mpr hi)
    simpa [Array.getElem?_eq_getElem hi] using q
  obtain ⟨i0, ei0⟩ := is_v hg3
  obtain rfl : w0 = (.int i0) := Option.some.inj ei0
  obtain ⟨i1, ei1⟩ := is_v hg5
  obtain rfl : w1 = (.int i1) := Option.some.inj ei1
  obtain ⟨i2, ei2⟩ := is_v hg7
  obtain rfl : w2 = (.int i2) := Option.some.inj ei2
  obtain ⟨i3, ei3⟩ := is_v hg8
  obtain rfl : w3 = (.int i3) := Option.some.inj ei3
  obtain ⟨n, o, h1, h2, h3, _, L, rfl, ⟨rfl, N⟩, hq⟩ := rm0 l s _ hw tables_1 i0 i1 i2 i3 s.heap s.heap.size (Nat.le_refl _)  p e ha hc hk s m _ below hf ((Spec.applies_iff_loose hf).mp happ).1 ⟨rfl, State.Warmed39.refl s, rfl⟩ trivial
  refine ⟨n, _, h1, h2, h3, hpost _ _ _ _ _ _ ⟨Cond.after_iff.mpr rfl, Cond.after_iff.mpr (eq_i res_at (Term.int_eval (1)) rfl), trivial⟩ ⟨hq.1, hq.2.1, (hq.2.2.sift fun y hy => Or.inr (N y hy)).mono (by decide) (by decide)⟩⟩
theorem main_1_1 : Claimed_1_1 := comes_1 fun _ _ _ _ _ _ h hF => ⟨h.1, hF⟩
theorem main_1_2 : Claimed_1_2 := comes_1 fun _ _ _ _ _ _ h hF => ⟨h.2.1, hF⟩
end Jvm.Pilot.@@N@@
namespace Jvm.Pilot.@@N@@
open Jvm Jvm.ClassFile Sem Op Lib Jvm.Free Jvm.Stand Jvm.Pilot.@@N@@.Jvm.D
/-! MADE BY PROGRAM (witnessworld.py) out of the Statement's table words and the real class files: 12 classes; the members and pool entries that the words name. The judged class is class 1, her method 1. -/
namespace start1
open Jvm.ClassFile
def u (s : String) : CpInfo := .utf8 (stringToUtf16 s)
/-- a pool by its gaps: so many unusable entries, then the entry; so many at the end -/
def gap : Nat → List CpInfo → List CpInfo
  | 0, r => r
  | n + 1, r => .unusable :: gap n r
def poolList (es : List (Nat × CpInfo)) (last : Nat) : List CpInfo := es.foldr (fun e r => gap e.1 (e.2 :: r)) (gap last [])
def pool (es : List (Nat × CpInfo)) (last : Nat) : Array CpInfo := ⟨poolList es last⟩
def fileOf (pool : Array CpInfo) (this : Nat) (attrs : Array Attribute := #[]) (ms : Array MethodInfo := #[]) (fl : Nat := 33) (sup : Nat := 0) (ifs : Array Nat := #[]) (fds : Array FieldInfo := #[]) : ClassFile where
  minorVersion := 0
  majorVersion := 65
  constantPool := pool
  accessFlags := fl
  thisClass := this
  superClass := sup
  interfaces := ifs
  fields := fds
  methods := ms
  attributes := attrs
def plain (name : String) (sup : Option ClassId) : Class where
  name := name
  kind := .ordinary
  loader := none
  accessFlags := 33
  super := sup
  interfaces := #[]
  cf := none
  fields := #[]
  methods := #[]
  instanceTypes := #[]
  staticTypes := #[]
  resolved := #[]
  callSites := []
  init := .initialized
  statics := none
  mirror := none

def pool0 : Array CpInfo := pool [(5, u "<init>"), (0, u "()V"), (1, .class_ 10), (1, u "java/lang/Object")] 113

def k0c0 : Code := { maxStack := 0, maxLocals := 1, code := object_method_1_code, exceptionTable := #[], attributes := #[] }
def k0m0 : Method := { name := "<init>", desc := "()V", sig := { parameters := [], returnType := none }, accessFlags := 1, code := some k0c0 }
/-- java/lang/Object -/
def k0 : Class := { plain "java/lang/Object" none with
  accessFlags := 33
  interfaces := #[]
  cf := some (fileOf pool0 8 #[] #[{ accessFlags := 1, nameIndex := 5, descriptorIndex := 6, attributes := #[] }] 33 0 #[] #[])
  fields := #[]
  methods := #[k0m0]
  instanceTypes := #[]
  staticTypes := #[]
  resolved := Array.replicate 124 none
  statics := none }

def pool1 : Array CpInfo := pool [(2, .class_ 4), (1, u "java/lang/Object"), (0, u "<init>"), (0, u "()V"), (0, .class_ 8), (0, u "com/example/mazu/mazu/economics/Fares"), (0, .class_ 10), (0, u "com/example/mazu/mazu/config/Config$Fares"), (0, .methodref 9 12), (0, .nameAndType 5 13), (0, u "(D)V"), (0, .methodref 7 15), (0, .nameAndType 5 16), (0, u "(Lcom/example/mazu/mazu/config/Config$Fares;D)V"), (0, .long 1000), (1, .methodref 7 20), (0, .nameAndType 21 22), (0, u "carLeg"), (0, u "(D)D"), (0, .long 500), (1, .long 2), (1, .double 4611686018427387904), (1, .integer 2147483647), (0, .class_ 31), (0, u "com/example/mazu/mazu/economics/FaresCarLegPinLaw"), (2, u "law"), (0, u "(IIII)Z")] 7

def k1m0 : Method := { name := "<init>", desc := "()V", sig := { parameters := [], returnType := none }, accessFlags := 2, code := none }
def k1c1 : Code := { maxStack := 6, maxLocals := 20, code := code, exceptionTable := #[], attributes := #[] }
def k1m1 : Method := { name := "law", desc := "(IIII)Z", sig := { parameters := [.int, .int, .int, .int], returnType := some .boolean }, accessFlags := 9, code := some k1c1 }
/-- com/example/mazu/mazu/economics/FaresCarLegPinLaw -/
def k1 : Class := { plain "com/example/mazu/mazu/economics/FaresCarLegPinLaw" (some 0) with
  accessFlags := 49
  interfaces := #[]
  cf := some (fileOf pool1 30 #[] #[{ accessFlags := 2, nameIndex := 5, descriptorIndex := 6, attributes := #[] }, { accessFlags := 9, nameIndex := 34, descriptorIndex := 35, attributes := #[] }] 49 2 #[] #[])
  fields := #[]
  methods := #[k1m0, k1m1]
  instanceTypes := #[]
  staticTypes := #[]
  resolved := Array.replicate 43 none
  statics := none }

def pool2 : Array CpInfo := pool [(1, .class_ 2), (0, u "com/example/mazu/mazu/sim/Tariff$1"), (5, .class_ 10), (1, u "com/example/mazu/mazu/sim/Tariff"), (0, u "FREE"), (0, u "Lcom/example/mazu/mazu/sim/Tariff;"), (0, .class_ 14), (0, u "java/lang/Object")] 11

/-- com/example/mazu/mazu/sim/Tariff -/
def k2 : Class := { plain "com/example/mazu/mazu/sim/Tariff" (some 0) with
  accessFlags := 1537
  interfaces := #[]
  cf := some (fileOf pool2 8 #[.nestMembers #[1]] #[] 1537 13 #[] #[{ accessFlags := 25, nameIndex := 11, descriptorIndex := 12, attributes := #[] }])
  fields := #[{ name := "FREE", type := (.object "com/example/mazu/mazu/sim/Tariff"), accessFlags := 25, slot := 0, constantValue := 0 }]
  methods := #[]
  instanceTypes := #[]
  staticTypes := #[(.object "com/example/mazu/mazu/sim/Tariff")]
  resolved := Array.replicate 26 none
  statics := none }

def pool3 : Array CpInfo := pool [(1, .methodref 2 3), (0, .class_ 4), (0, .nameAndType 5 6), (0, u "java/lang/Object"), (0, u "<init>"), (0, u "()V"), (0, .methodref 8 9), (0, .class_ 10), (0, .nameAndType 11 12), (0, u "com/example/mazu/mazu/config/Config$Fares"), (0, u "ptPerBoarding"), (0, u "()D"), (0, .fieldref 14 15), (0, .class_ 16), (0, .nameAndType 17 18), (0, u "com/example/mazu/mazu/economics/Fares"), (0, u "ptFare"), (0, u "D"), (0, .fieldref 14 20), (0, .nameAndType 21 18), (0, u "carRatePerKm"), (0, .double 4652007308841189376), (60, u "carLeg"), (0, u "(D)D"), (18, .class_ 104), (0, u "com/example/mazu/mazu/sim/Tariff"), (0, u "METRES_PER_KM"), (1, u "(Lcom/example/mazu/mazu/config/Config$Fares;D)V")] 29

def k3c0 : Code := { maxStack := 3, maxLocals := 4, code := prog_45_method_1_code, exceptionTable := #[], attributes := #[] }
def k3m0 : Method := { name := "<init>", desc := "(Lcom/example/mazu/mazu/config/Config$Fares;D)V", sig := { parameters := [(.object "com/example/mazu/mazu/config/Config$Fares"), .double], returnType := none }, accessFlags := 1, code := some k3c0 }
def k3c1 : Code := { maxStack := 6, maxLocals := 3, code := prog_45_method_3_code, exceptionTable := #[], attributes := #[] }
def k3m1 : Method := { name := "carLeg", desc := "(D)D", sig := { parameters := [.double], returnType := some .double }, accessFlags := 1, code := some k3c1 }
/-- com/example/mazu/mazu/economics/Fares -/
def k3 : Class := { plain "com/example/mazu/mazu/economics/Fares" (some 0) with
  accessFlags := 33
  interfaces := #[2]
  cf := some (fileOf pool3 14 #[] #[{ accessFlags := 1, nameIndex := 5, descriptorIndex := 107, attributes := #[] }, { accessFlags := 1, nameIndex := 83, descriptorIndex := 84, attributes := #[] }] 33 2 #[103] #[{ accessFlags := 26, nameIndex := 105, descriptorIndex := 18, attributes := #[] }, { accessFlags := 18, nameIndex := 17, descriptorIndex := 18, attributes := #[] }, { accessFlags := 18, nameIndex := 21, descriptorIndex := 18, attributes := #[] }])
  fields := #[{ name := "METRES_PER_KM", type := .double, accessFlags := 26, slot := 0, constantValue := 0 }, { name := "ptFare", type := .double, accessFlags := 18, slot := 0, constantValue := 0 }, { name := "carRatePerKm", type := .double, accessFlags := 18, slot := 1, constantValue := 0 }]
  methods := #[k3m0, k3m1]
  instanceTypes := #[.double, .double]
  staticTypes := #[.double]
  resolved := Array.replicate 137 none
  statics := none }

def pool4 : Array CpInfo := pool [(1, .methodref 2 3), (0, .class_ 4), (0, .nameAndType 5 6), (0, u "java/lang/Object"), (0, u "<init>"), (0, u "()V"), (0, .class_ 8), (0, u "java/lang/Record")] 13

def k4c0 : Code := { maxStack := 1, maxLocals := 1, code := jdk_30_method_1_code, exceptionTable := #[], attributes := #[] }
def k4m0 : Method := { name := "<init>", desc := "()V", sig := { parameters := [], returnType := none }, accessFlags := 4, code := some k4c0 }
/-- java/lang/Record -/
def k4 : Class := { plain "java/lang/Record" (some 0) with
  accessFlags := 1057
  interfaces := #[]
  cf := some (fileOf pool4 7 #[] #[{ accessFlags := 4, nameIndex := 5, descriptorIndex := 6, attributes := #[] }] 1057 2 #[] #[])
  fields := #[]
  methods := #[k4m0]
  instanceTypes := #[]
  staticTypes := #[]
  resolved := Array.replicate 22 none
  statics := none }

def pool5 : Array CpInfo := pool [(1, .methodref 2 3), (0, .class_ 4), (0, .nameAndType 5 6), (0, u "java/lang/Record"), (0, u "<init>"), (0, u "()V"), (0, .fieldref 8 9), (0, .class_ 10), (0, .nameAndType 11 12), (0, u "com/example/mazu/mazu/config/Config$Fares"), (0, u "ptPerBoarding"), (0, u "D"), (12, u "(D)V"), (6, u "()D"), (3, .class_ 37), (0, u "com/example/mazu/mazu/config/Config")] 18

def k5c0 : Code := { maxStack := 3, maxLocals := 3, code := prog_18_method_1_code, exceptionTable := #[], attributes := #[] }
def k5m0 : Method := { name := "<init>", desc := "(D)V", sig := { parameters := [.double], returnType := none }, accessFlags := 1, code := some k5c0 }
def k5c1 : Code := { maxStack := 2, maxLocals := 1, code := prog_18_method_5_code, exceptionTable := #[], attributes := #[] }
def k5m1 : Method := { name := "ptPerBoarding", desc := "()D", sig := { parameters := [], returnType := some .double }, accessFlags := 1, code := some k5c1 }
/-- com/example/mazu/mazu/config/Config$Fares -/
def k5 : Class := { plain "com/example/mazu/mazu/config/Config$Fares" (some 4) with
  accessFlags := 49
  interfaces := #[]
  cf := some (fileOf pool5 8 #[.nestHost 36] #[{ accessFlags := 1, nameIndex := 5, descriptorIndex := 25, attributes := #[] }, { accessFlags := 1, nameIndex := 11, descriptorIndex := 32, attributes := #[] }] 49 2 #[] #[{ accessFlags := 18, nameIndex := 11, descriptorIndex := 12, attributes := #[] }])
  fields := #[{ name := "ptPerBoarding", type := .double, accessFlags := 18, slot := 0, constantValue := 0 }]
  methods := #[k5m0, k5m1]
  instanceTypes := #[.double]
  staticTypes := #[]
  resolved := Array.replicate 56 none
  statics := none }

def pool6 : Array CpInfo := pool [(1, u "java/lang/Cloneable"), (0, .class_ 1), (0, u "java/lang/Object"), (0, .class_ 3)] 3

/-- java/lang/Cloneable -/
def k6 : Class := { plain "java/lang/Cloneable" (some 0) with
  accessFlags := 1537
  interfaces := #[]
  cf := some (fileOf pool6 2 #[] #[] 1537 4 #[] #[])
  fields := #[]
  methods := #[]
  instanceTypes := #[]
  staticTypes := #[]
  resolved := Array.replicate 8 none
  statics := none }

def pool7 : Array CpInfo := pool [(1, u "java/io/Serializable"), (0, .class_ 1), (0, u "java/lang/Object"), (0, .class_ 3)] 3

/-- java/io/Serializable -/
def k7 : Class := { plain "java/io/Serializable" (some 0) with
  accessFlags := 1537
  interfaces := #[]
  cf := some (fileOf pool7 2 #[] #[] 1537 4 #[] #[])
  fields := #[]
  methods := #[]
  instanceTypes := #[]
  staticTypes := #[]
  resolved := Array.replicate 8 none
  statics := none }

/-- the primitive byte -/
def k8 : Class := { plain "byte" none with kind := .primitive 'B', accessFlags := 0x411 }
/-- [B -/
def k9 : Class := { plain "[B" (some 0) with kind := .array 8 .byte, interfaces := #[6, 7], accessFlags := 1041 }

/-- the primitive int -/
def k10 : Class := { plain "int" none with kind := .primitive 'I', accessFlags := 0x411 }
/-- [I -/
def k11 : Class := { plain "[I" (some 0) with kind := .array 10 .int, interfaces := #[6, 7], accessFlags := 1041 }

def heap : Heap := #[]
def classes : Array Class := #[k0, k1, k2, k3, k4, k5, k6, k7, k8, k9, k10, k11]
def interned : List (Array UInt16 × Addr) := []
def slotsUsed : Nat := 0
def theMethod : MethodId := ⟨1, 1⟩
def args0 : Array Value := #[.int 5, .int 7, .int 3, .int 4]
def aboutOver (below : List Frame) : State where
  vm := { classes := classes, interned := interned.toArray }
  heap := heap
  slotsUsed := slotsUsed
  threads := #[{ frames := .invoking theMethod args0 :: below }]
def below0 : List Frame := [.native { method := ⟨0, 0⟩, args := #[] }]
def about1 : State := aboutOver below0
def p0 : Program := .bare "" "" ""
def e0 : Env := launch0.env 0 0 0
theorem w_frames : about1.frames = Frame.invoking theMethod args0 :: below0 := rfl
set_option maxRecDepth 65536 in
theorem w_args : argsFit about1.vm theMethod args0 = true := by decide +kernel
set_option maxRecDepth 65536 in
theorem w_heap : heapFits about1 = true := by decide +kernel
set_option maxRecDepth 65536 in
theorem w_runnable : about1.curStatus? = some .runnable := by decide +kernel
set_option maxRecDepth 65536 in
theorem w_alone : about1.alone = true := by decide +kernel
set_option maxRecDepth 65536 in
theorem w_named : about1.methodNamed? x = some theMethod := by decide +kernel
set_option maxRecDepth 65536 in
theorem w_hears : about1.hears theMethod below0 = true := by decide +kernel
set_option maxRecDepth 65536 in
theorem w_ripe : about1.ripe theMethod args0 below0 = true := by decide +kernel
theorem w_running : about1.status = .running := rfl
set_option maxRecDepth 65536 in
theorem w_room : about1.hasRoom e0.platform room_1 = true :=
  launch0.hasRoom_least _ room_1 (by decide +kernel) (by decide +kernel) (by decide +kernel) (by decide +kernel) (by decide +kernel) (by decide +kernel)
theorem allAtoms_all (ts : List Jvm.Cond) (a : Array Jvm.Value) (st : Jvm.State) : (allAtoms ts).before a st = ts.all (fun c => c.before a st) := by
  induction ts with
  | nil => rfl
  | cons c t ih =>
    show (Jvm.Cond.and c (allAtoms t)).before a st = _
    rw [Jvm.Cond.before_and, ih, List.all_cons]
def words1 : List Jvm.Cond := Jvm.Cond.code x code maxLocals ret :: tables_1
/-- a 'code' word, met by the world's own term for the bytes: nothing is compared byte by byte -/
theorem code_word {y : MethodName} {bytes : ByteArray} {mx : Nat} {rt : Option FieldType} {a : Array Value} {s : State} {m : MethodId} {meth : Method} {c : Code} (h1 : s.methodNamed? y = some m) (h2 : s.vm.method? m = some meth) (h3 : meth.code = some c) (h4 : c.code = bytes)
    (h5 : (c.maxLocals == mx && c.exceptionTable.isEmpty && decide (c.maxStack ≤ mostOperands) && decide (meth.sig.returnType = rt) && !meth.locks && decide (parseMethodDescriptor y.desc = some meth.sig)) = true) : (Jvm.Cond.code y bytes mx rt).before a s = true := by
  simp only [Bool.and_eq_true, beq_iff_eq, Bool.not_eq_true', decide_eq_true_eq] at h5
  obtain ⟨⟨⟨⟨⟨g1, g2⟩, g3⟩, g4⟩, g5⟩, g6⟩ := h5
  simp [Cond.before, Cond.holds, Cond.value, h1, h2, h3, h4, g1, g2, g3, g4, g5, g6]
def isCode : Jvm.Cond → Bool
  | .code _ _ _ _ => true
  | _ => false
theorem all_split {L : List Jvm.Cond} {P : Jvm.Cond → Bool} (h1 : L.all (fun c => isCode c || P c) = true) (h2 : ∀ c ∈ L.filter isCode, P c = true) : L.all P = true := by
  refine List.all_eq_true.mpr fun c hc => ?_
  have h := List.all_eq_true.mp h1 c hc
  rcases Bool.eq_false_or_eq_true (isCode c) with hi | hi
  · exact h2 c (List.mem_filter.mpr ⟨hc, hi⟩)
  · simpa [hi] using h
set_option maxRecDepth 65536 in
theorem w_c0 : (Jvm.Cond.code x code maxLocals ret).before args0 about1 = true := code_word (m := ⟨1, 1⟩) (meth := k1m1) (c := k1c1) (by decide +kernel) rfl rfl rfl (by decide +kernel)
set_option maxRecDepth 65536 in
theorem w_c1 : (Jvm.Cond.code ({ cls := "com/example/mazu/mazu/config/Config$Fares", name := "<init>", desc := "(D)V" } : Jvm.MethodName) prog_18_method_1_code (3 : Nat) (Option.none : Option Jvm.ClassFile.FieldType)).before args0 about1 = true := code_word (m := ⟨5, 0⟩) (meth := k5m0) (c := k5c0) (by decide +kernel) rfl rfl rfl (by decide +kernel)
set_option maxRecDepth 65536 in
theorem w_c2 : (Jvm.Cond.code ({ cls := "java/lang/Record", name := "<init>", desc := "()V" } : Jvm.MethodName) jdk_30_method_1_code (1 : Nat) (Option.none : Option Jvm.ClassFile.FieldType)).before args0 about1 = true := code_word (m := ⟨4, 0⟩) (meth := k4m0) (c := k4c0) (by decide +kernel) rfl rfl rfl (by decide +kernel)
set_option maxRecDepth 65536 in
theorem w_c3 : (Jvm.Cond.code ({ cls := "java/lang/Object", name := "<init>", desc := "()V" } : Jvm.MethodName) object_method_1_code (1 : Nat) (Option.none : Option Jvm.ClassFile.FieldType)).before args0 about1 = true := code_word (m := ⟨0, 0⟩) (meth := k0m0) (c := k0c0) (by decide +kernel) rfl rfl rfl (by decide +kernel)
set_option maxRecDepth 65536 in
theorem w_c4 : (Jvm.Cond.code ({ cls := "com/example/mazu/mazu/economics/Fares", name := "<init>", desc := "(Lcom/example/mazu/mazu/config/Config$Fares;D)V" } : Jvm.MethodName) prog_45_method_1_code (4 : Nat) (Option.none : Option Jvm.ClassFile.FieldType)).before args0 about1 = true := code_word (m := ⟨3, 0⟩) (meth := k3m0) (c := k3c0) (by decide +kernel) rfl rfl rfl (by decide +kernel)
set_option maxRecDepth 65536 in
theorem w_c5 : (Jvm.Cond.code ({ cls := "com/example/mazu/mazu/config/Config$Fares", name := "ptPerBoarding", desc := "()D" } : Jvm.MethodName) prog_18_method_5_code (1 : Nat) (Option.some Jvm.ClassFile.FieldType.double)).before args0 about1 = true := code_word (m := ⟨5, 1⟩) (meth := k5m1) (c := k5c1) (by decide +kernel) rfl rfl rfl (by decide +kernel)
set_option maxRecDepth 65536 in
theorem w_c6 : (Jvm.Cond.code ({ cls := "com/example/mazu/mazu/economics/Fares", name := "carLeg", desc := "(D)D" } : Jvm.MethodName) prog_45_method_3_code (3 : Nat) (Option.some Jvm.ClassFile.FieldType.double)).before args0 about1 = true := code_word (m := ⟨3, 1⟩) (meth := k3m1) (c := k3c1) (by decide +kernel) rfl rfl rfl (by decide +kernel)
def codes1 : List Jvm.Cond := [Jvm.Cond.code x code maxLocals ret, Jvm.Cond.code ({ cls := "com/example/mazu/mazu/config/Config$Fares", name := "<init>", desc := "(D)V" } : Jvm.MethodName) prog_18_method_1_code (3 : Nat) (Option.none : Option Jvm.ClassFile.FieldType), Jvm.Cond.code ({ cls := "java/lang/Record", name := "<init>", desc := "()V" } : Jvm.MethodName) jdk_30_method_1_code (1 : Nat) (Option.none : Option Jvm.ClassFile.FieldType), Jvm.Cond.code ({ cls := "java/lang/Object", name := "<init>", desc := "()V" } : Jvm.MethodName) object_method_1_code (1 : Nat) (Option.none : Option Jvm.ClassFile.FieldType), Jvm.Cond.code ({ cls := "com/example/mazu/mazu/economics/Fares", name := "<init>", desc := "(Lcom/example/mazu/mazu/config/Config$Fares;D)V" } : Jvm.MethodName) prog_45_method_1_code (4 : Nat) (Option.none : Option Jvm.ClassFile.FieldType), Jvm.Cond.code ({ cls := "com/example/mazu/mazu/config/Config$Fares", name := "ptPerBoarding", desc := "()D" } : Jvm.MethodName) prog_18_method_5_code (1 : Nat) (Option.some Jvm.ClassFile.FieldType.double), Jvm.Cond.code ({ cls := "com/example/mazu/mazu/economics/Fares", name := "carLeg", desc := "(D)D" } : Jvm.MethodName) prog_45_method_3_code (3 : Nat) (Option.some Jvm.ClassFile.FieldType.double)]
set_option maxRecDepth 65536 in
theorem codes_eq : words1.filter isCode = codes1 := rfl
theorem w_codes : ∀ c ∈ words1.filter isCode, c.before args0 about1 = true := by
  rw [codes_eq]
  intro c hc
  simp only [codes1, List.mem_cons, List.not_mem_nil, or_false] at hc
  rcases hc with rfl | rfl | rfl | rfl | rfl | rfl | rfl
  · exact w_c0
  · exact w_c1
  · exact w_c2
  · exact w_c3
  · exact w_c4
  · exact w_c5
  · exact w_c6
set_option maxRecDepth 65536 in
theorem w_t1 : (words1.take 24).all (fun c => isCode c || c.before args0 about1) = true := by decide +kernel
set_option maxRecDepth 65536 in
theorem w_t2 : (words1.drop 24).all (fun c => isCode c || c.before args0 about1) = true := by decide +kernel
theorem w_tables : (allAtoms (Jvm.Cond.code x code maxLocals ret :: tables_1)).before args0 about1 = true := by
  rw [allAtoms_all]
  show words1.all (fun c => c.before args0 about1) = true
  refine all_split ?_ w_codes
  rw [← List.take_append_drop 24 words1, List.all_append, w_t1, w_t2]
  rfl
set_option maxRecDepth 65536 in
theorem w_case : (Jvm.Cond.and given_1 narrow_1).before args0 about1 = true := by decide +kernel
theorem w_applies : (headSpec (Jvm.Cond.code x code maxLocals ret :: tables_1) room_1).applies x e0.platform about1 = true :=
  (Spec.applies_iff w_frames).mpr ⟨w_running, w_runnable, w_alone, w_named, w_hears, w_ripe, w_room, w_tables⟩
theorem atStart : AtStart classFile x code maxLocals ret World_1 tables_1 room_1 Calls_1 rest_1 Pre_1 launch0 p0 e0 about1 theMethod args0 below0 :=
  ⟨lists_1, trivial, launch0.admits_env _ _ _, launch0.least_env, fairChoices_fair.cas, fairChoices_fair.clock, w_frames, w_args, w_heap, w_applies, trivial, trivial, w_case⟩
end start1
theorem witness_1 : WitnessClaimed_1 := ⟨start1.p0, start1.e0, start1.about1, start1.theMethod, start1.args0, start1.below0, start1.atStart⟩
end Jvm.Pilot.@@N@@
