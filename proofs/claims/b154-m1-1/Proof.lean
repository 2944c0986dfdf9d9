import JvmDerived
import JvmDerived.Pilot.@@N@@Statement
import JvmDerived.Pilot.@@N@@Code
set_option linter.unusedVariables false
set_option linter.unusedSimpArgs false
namespace Jvm.Pilot.@@N@@
open Jvm Jvm.ClassFile Sem Op Lib Jvm.Free Jvm.Stand Jvm.LawKit Jvm.RoadKit Bundle Jvm.Pilot.@@N@@.Jvm.D

section Own
variable {p : Program} {l : Launch} {e : Env} {R : Room} {s : State} {m : MethodId} {args : Array Value} {below : List Frame} {meth : Method} {c : Code} {T : State} {locs : List Loc} {cells slots : Nat} {Z : State} {h h' : Heap}
def own_Go (tb : Tables) (e : Env) (below : List Frame) (P : State → Outcome → Prop) (A : State) : Prop := ∃ t o, Steps tb e below A t ∧ P t o
def own_P (below : List Frame) (s : State) (Q : Option Value → Heap → List Loc → Prop) (kc ks : Nat) (t : State) (o : Outcome) : Prop := t.status = .running ∧ Ended t below o ∧ ∃ v L, o = .returned v ∧ Q v t.heap L ∧ FrameEnd s o t L kc ks
theorem own_st {tb : Tables} {P : State → Outcome → Prop} {A B : State} (k : ∀ t, Steps tb e below B t → Steps tb e below A t) (h : own_Go tb e below P B) : own_Go tb e below P A := by
  obtain ⟨t, o, h1, h2⟩ := h
  exact ⟨t, o, k t h1, h2⟩
theorem own_tr {tb : Tables} {P : State → Outcome → Prop} {A B : State} (k : Steps tb e below A B) (h : own_Go tb e below P B) : own_Go tb e below P A := by
  obtain ⟨t, o, h1, h2⟩ := h
  exact ⟨t, o, k.trans h1, h2⟩
theorem own_ret (X : Stand p l e R s m args below meth c T locs cells slots) (hx : p.tables.exec = Jvm.exec) (hnl : meth.locks = false) {pc : Nat} {Ls : Array Slot} {w : Value} {t : FieldType} {i : Instr} {rest : List Value} (hret : meth.sig.returnType = some t) (hn : narrow t w = w)
    (hi : (i = .ireturn ∧ (t = .int ∨ t = .boolean ∨ t = .byte ∨ t = .char ∨ t = .short) ∧ ∃ z, w = .int z) ∨ (i = .lreturn ∧ t = .long ∧ ∃ z, w = .long z) ∨ (i = .dreturn ∧ t = .double ∧ ∃ z, w = .double z) ∨ (i = .freturn ∧ t = .float ∧ ∃ z, w = .float z) ∨ (i = .areturn ∧ t.isReference = true ∧ w.isRef = true))
    (hd : decode c.code pc = .ok (i, 1)) {Q : Option Value → Heap → List Loc → Prop} {kc ks : Nat} (hq : Q (some w) T.heap locs) (hc : cells ≤ kc) (hs : slots ≤ ks) : own_Go p.tables e below (own_P below s Q kc ks) (T.setTop (mkF m pc Ls (w :: rest))) := by
  obtain ⟨fs, hr, hrun, hended, hW, hsame⟩ := X.leave (v := some w) (fun h => by rw [hret] at h; cases h) hnl
  exact ⟨_, _, retOut X hx hret hn hi hd hr, hrun, hended, _, _, rfl, hq, ⟨_, rfl⟩, hW, hsame.mono hc hs⟩
theorem own_ret0 (X : Stand p l e R s m args below meth c T locs cells slots) (hx : p.tables.exec = Jvm.exec) (hnl : meth.locks = false) {pc : Nat} {Ls : Array Slot} (hret : meth.sig.returnType = none)
    (hd : decode c.code pc = .ok (.return_, 1)) {Q : Option Value → Heap → List Loc → Prop} {kc ks : Nat} (hq : Q none T.heap locs) (hc : cells ≤ kc) (hs : slots ≤ ks) : own_Go p.tables e below (own_P below s Q kc ks) (T.setTop (mkF m pc Ls [])) := by
  obtain ⟨fs, hr, hrun, hended, hW, hsame⟩ := X.leave (v := none) (fun _ => rfl) hnl
  exact ⟨_, _, X.returnOut hx hret hd hr, hrun, hended, _, _, rfl, hq, ⟨_, rfl⟩, hW, hsame.mono hc hs⟩
theorem own_lrem {g : JFrame} {target : State} (X : Stand p l e R s m args below meth c T locs cells slots) (hx : p.tables.exec = Jvm.exec) (hg : g.method = m) {x y : Int64} {rest : List Value} (hd : decode c.code g.pc = .ok (.lrem, 1)) (hs : g.stack = .long y :: .long x :: rest) (hy : y ≠ 0)
    (hr : Steps p.tables e below (T.setTop { g with pc := g.pc + 1, stack := .long (x % y) :: rest }) target) : Steps p.tables e below (T.setTop g) target := by
  exact XS.lrem X.here hx hg hd hs hy (by rw [lrem_mod]; exact hr)
end Own

section OwnF
open Jvm.FP.Core in
theorem own_fin {i : Int} {a : UInt64} (ha : DInt i a) (sa : sgn (val64 a) = false) : ∃ c q, val64 a = .fin false c q := by
  unfold DInt at ha
  cases hva : val64 a with
  | nan => rw [hva] at ha; exact ha.elim
  | inf s => rw [hva] at ha; exact ha.elim
  | fin s c q => rw [hva] at sa; have es : s = false := sa; subst es; exact ⟨c, q, rfl⟩
open Jvm.FP.Core in
theorem own_quot {j : Int} {a b : UInt64} (ha : ∃ c q, val64 a = .fin false c q) (hb : DInt j b) (sb : sgn (val64 b) = false) (hj : j ≠ 0) :
    ∃ ca qa cb qb, val64 a = .fin false ca qa ∧ val64 b = .fin false cb qb ∧ 0 < cb ∧ -1074 ≤ qa ∧ zmag b64 (val64 a) = ca * 2 ^ (qa + 1074).toNat ∧ cb * 2 ^ qb.toNat = j.natAbs * 2 ^ (-qb).toNat ∧ val64 (FP.Core.ddiv a b) = roundRatio b64 false ca cb (qa - qb) ∧ val64 (FP.Core.dmul a b) = roundRatio b64 false (ca * cb) 1 (qa + qb) := by
  obtain ⟨ca, qa, hva⟩ := ha
  obtain ⟨cb, qb, hvb⟩ := own_fin hb sb
  unfold DInt at hb
  rw [hvb] at hb
  have hcb : cb ≠ 0 := fun q => hj ((whole_zero hb).mp q)
  have ff := val64_fits a
  rw [hva] at ff
  have hq := ff.2.1
  rw [qmin_b64] at hq
  refine ⟨ca, qa, cb, qb, hva, hvb, by omega, hq, ?_, whole_natAbs hb, ?_, ?_⟩
  · rw [hva]; show inUnits ca qa b64.qmin = _; rw [qmin_b64]; rfl
  · rw [val64_ddiv, hva, hvb]; simp [quotient, hcb]
  · rw [val64_dmul, hva, hvb]; simp [exactProduct, round]
theorem own_pow {v ca cb nj : Nat} {qa qb e0 : Int} (h0 : e0 ≤ -1074) (h0e : e0 ≤ qa - qb) (hq : -1074 ≤ qa) (e2 : cb * 2 ^ qb.toNat = nj * 2 ^ (-qb).toNat) :
    ∃ k, 0 < k ∧ ∃ m, 0 < m ∧ v * 2 ^ (-1074 - e0).toNat * cb * k = v * nj * m ∧ ca * 2 ^ (qa - qb - e0).toNat * k = ca * 2 ^ (qa + 1074).toNat * m := by
  refine ⟨2 ^ qb.toNat, Nat.two_pow_pos _, 2 ^ ((-1074 - e0).toNat + (-qb).toNat), Nat.two_pow_pos _, ?_, ?_⟩
  · calc v * 2 ^ (-1074 - e0).toNat * cb * 2 ^ qb.toNat = v * 2 ^ (-1074 - e0).toNat * (cb * 2 ^ qb.toNat) := by ac_rfl
      _ = v * nj * 2 ^ ((-1074 - e0).toNat + (-qb).toNat) := by rw [e2, Nat.pow_add]; ac_rfl
  · have e3 : (qa - qb - e0).toNat + qb.toNat = (qa + 1074).toNat + ((-1074 - e0).toNat + (-qb).toNat) := by omega
    rw [Nat.mul_assoc, ← Nat.pow_add, e3, Nat.pow_add, Nat.mul_assoc]
open Jvm.FP.Core in
theorem own_div_ge {j : Int} {a b V : UInt64} (ha : ∃ c q, val64 a = .fin false c q) (hb : DInt j b) (sb : sgn (val64 b) = false) (hj : j ≠ 0) (h : zmag b64 (val64 V) * j.natAbs ≤ zmag b64 (val64 a)) : zmag b64 (val64 V) ≤ zmag b64 (val64 (FP.Core.ddiv a b)) := by
  obtain ⟨ca, qa, cb, qb, -, -, hcb, hq, e1, e2, e3, -⟩ := own_quot ha hb sb hj
  rw [e3]
  obtain ⟨e0, g1, g2⟩ : ∃ e0 : Int, e0 ≤ -1074 ∧ e0 ≤ qa - qb := ⟨min (-1074) (qa - qb), by omega, by omega⟩
  refine zmag_roundRatio_ge good_b64 (e0 := e0) hcb (val64_fits V) (by rw [qmin_b64]; exact g1) g2 ?_
  rw [qmin_b64]
  obtain ⟨k, hk, m, hm, f1, f2⟩ := own_pow (v := zmag b64 (val64 V)) (ca := ca) g1 g2 hq e2
  unfold inUnits
  refine Nat.le_of_mul_le_mul_right ?_ hk
  rw [f1, f2, ← e1]
  exact Nat.mul_le_mul_right m h
open Jvm.FP.Core in
theorem own_div_le {j : Int} {a b V : UInt64} (ha : ∃ c q, val64 a = .fin false c q) (hb : DInt j b) (sb : sgn (val64 b) = false) (hj : j ≠ 0) (hV : val64 V ≠ .nan) (h : zmag b64 (val64 a) ≤ zmag b64 (val64 V) * j.natAbs) : zmag b64 (val64 (FP.Core.ddiv a b)) ≤ zmag b64 (val64 V) := by
  obtain ⟨ca, qa, cb, qb, -, -, hcb, hq, e1, e2, e3, -⟩ := own_quot ha hb sb hj
  rw [e3]
  obtain ⟨e0, g1, g2⟩ : ∃ e0 : Int, e0 ≤ -1074 ∧ e0 ≤ qa - qb := ⟨min (-1074) (qa - qb), by omega, by omega⟩
  refine zmag_roundRatio_le good_b64 (e0 := e0) hcb (val64_fits V) hV (by rw [qmin_b64]; exact g1) g2 ?_
  rw [qmin_b64]
  obtain ⟨k, hk, m, hm, f1, f2⟩ := own_pow (v := zmag b64 (val64 V)) (ca := ca) g1 g2 hq e2
  unfold inUnits
  refine Nat.le_of_mul_le_mul_right ?_ hk
  rw [f1, f2, ← e1]
  exact Nat.mul_le_mul_right m h
open Jvm.FP.Core in
theorem own_div_nn {j : Int} {a b : UInt64} (ha : ∃ c q, val64 a = .fin false c q) (hb : DInt j b) (sb : sgn (val64 b) = false) (hj : j ≠ 0) : val64 (FP.Core.ddiv a b) ≠ .nan ∧ sgn (val64 (FP.Core.ddiv a b)) = false := by
  obtain ⟨ca, qa, cb, qb, -, -, hcb, -, e1, e2, e3, -⟩ := own_quot ha hb sb hj
  rw [e3]
  exact ⟨roundRatio_ne_nan _ _ _ _ _, sgn_roundRatio _ _ _ _ _⟩
open Jvm.FP.Core in
/-- a product that is a number of the format -/
theorem own_mul_eq {j : Int} {a b V : UInt64} (ha : ∃ c q, val64 a = .fin false c q) (hb : DInt j b) (sb : sgn (val64 b) = false) (hj : j ≠ 0) (hV : val64 V ≠ .nan) (h : zmag b64 (val64 a) * j.natAbs = zmag b64 (val64 V)) :
    val64 (FP.Core.dmul a b) ≠ .nan ∧ sgn (val64 (FP.Core.dmul a b)) = false ∧ zmag b64 (val64 (FP.Core.dmul a b)) = zmag b64 (val64 V) := by
  obtain ⟨ca, qa, cb, qb, -, -, hcb, hq, e1, e2, -, e3⟩ := own_quot ha hb sb hj
  rw [e3]
  refine ⟨roundRatio_ne_nan _ _ _ _ _, sgn_roundRatio _ _ _ _ _, ?_⟩
  obtain ⟨e0, g1, g2⟩ : ∃ e0 : Int, e0 ≤ -1074 ∧ e0 ≤ qa + qb := ⟨min (-1074) (qa + qb), by omega, by omega⟩
  have key : inUnits (ca * cb) (qa + qb) e0 = zmag b64 (val64 V) * 2 ^ (b64.qmin - e0).toNat * 1 := by
    rw [← h, e1, qmin_b64, Nat.mul_one]
    unfold inUnits
    refine Nat.eq_of_mul_eq_mul_right (Nat.two_pow_pos qb.toNat) ?_
    have e4 : (qa + qb - e0).toNat + (-qb).toNat = (qa + 1074).toNat + (-1074 - e0).toNat + qb.toNat := by omega
    calc ca * cb * 2 ^ (qa + qb - e0).toNat * 2 ^ qb.toNat = ca * (cb * 2 ^ qb.toNat) * 2 ^ (qa + qb - e0).toNat := by ac_rfl
      _ = ca * j.natAbs * 2 ^ ((qa + qb - e0).toNat + (-qb).toNat) := by rw [e2, Nat.pow_add]; ac_rfl
      _ = ca * 2 ^ (qa + 1074).toNat * j.natAbs * 2 ^ (-1074 - e0).toNat * 2 ^ qb.toNat := by rw [e4, Nat.pow_add, Nat.pow_add]; ac_rfl
  exact Nat.le_antisymm (zmag_roundRatio_le good_b64 (by decide) (val64_fits V) hV (by rw [qmin_b64]; exact g1) g2 (Nat.le_of_eq key)) (zmag_roundRatio_ge good_b64 (by decide) (val64_fits V) (by rw [qmin_b64]; exact g1) g2 (Nat.le_of_eq key.symm))
open Jvm.FP.Core in
theorem own_l2d_s {n : Int64} (h : 0 ≤ n.toInt) : sgn (val64 (FP.Core.l2d n)) = false := by
  obtain ⟨c, q, e⟩ := l2d_shape n
  rw [e]
  simp [FP.Core.sgn, h]
open Jvm.FP.Core in
theorem own_l2d_f {n : Int64} (h : 0 ≤ n.toInt) : ∃ c q, val64 (FP.Core.l2d n) = .fin false c q := by
  obtain ⟨c, q, e⟩ := l2d_shape n
  exact ⟨c, q, e.trans (by rw [decide_eq_false (by omega)])⟩
open Jvm.FP.Core in
theorem own_zval {a : UInt64} (h : sgn (val64 a) = false) : zval b64 (val64 a) = (zmag b64 (val64 a) : Int) := by
  unfold zval; rw [h]; rfl
open Jvm.FP.Core in
theorem own_zmagI {i : Int} {a : UInt64} (h : DInt i a) (s : sgn (val64 a) = false) : (zmag b64 (val64 a) : Int) = i * ((FP.Core.one64 : Nat) : Int) := by
  rw [← own_zval s, DInt_zval h]
open Jvm.FP.Core in
/-- a double of the worth c / 2 ^ k -/
theorem own_frac {c k : Nat} (hc : c < 2 ^ 53) (hk : k ≤ 900) : ∃ V : UInt64, (∃ c q, val64 V = .fin false c q) ∧ val64 V ≠ .nan ∧ sgn (val64 V) = false ∧ zmag b64 (val64 V) * 2 ^ k = c * FP.Core.one64 := by
  obtain ⟨c', q', e1, e2⟩ := round_exact good_b64 false (c := c) (q := -(k : Int)) hc (by rw [qmin_b64]; omega) (by show -(k : Int) ≤ 971; omega)
  have e : val64 (of64 (.fin false c' q')) = .fin false c' q' := val64_of64 (by rw [← e1]; exact round_fits good_b64 _)
  refine ⟨of64 (.fin false c' q'), ⟨c', q', e⟩, ?_, ?_, ?_⟩
  all_goals rw [e]
  · simp
  · rfl
  · show inUnits c' q' b64.qmin * 2 ^ k = _
    rw [e2, qmin_b64]
    rw [← pow_qmin64, qmin_b64]
    unfold inUnits
    rw [Nat.mul_assoc, ← Nat.pow_add]
    have ek : (-(k : Int) - -1074).toNat + k = (- -1074 : Int).toNat := by omega
    rw [ek]
open Jvm.FP.Core in
theorem own_cmp {a b : UInt64} (na : val64 a ≠ .nan) (nb : val64 b ≠ .nan) (sa : sgn (val64 a) = false) (sb : sgn (val64 b) = false) : FP.dcmp a b = some (compare (zmag b64 (val64 a) : Int) (zmag b64 (val64 b) : Int)) := by
  have h := dcmp_zval na nb
  rw [own_zval sa, own_zval sb] at h
  exact h
open Jvm.FP.Core in
theorem own_cmpLt {a b : UInt64} (na : val64 a ≠ .nan) (nb : val64 b ≠ .nan) (sa : sgn (val64 a) = false) (sb : sgn (val64 b) = false) (h : zmag b64 (val64 a) < zmag b64 (val64 b)) (o : CmpOp) : cmpValue (FP.dcmp a b) o = -1 := by
  rw [own_cmp na nb sa sb, (compare_lt_iff _ _).mpr (by omega)]; rfl
open Jvm.FP.Core in
theorem own_cmpEq {a b : UInt64} (na : val64 a ≠ .nan) (nb : val64 b ≠ .nan) (sa : sgn (val64 a) = false) (sb : sgn (val64 b) = false) (h : zmag b64 (val64 a) = zmag b64 (val64 b)) (o : CmpOp) : cmpValue (FP.dcmp a b) o = 0 := by
  rw [own_cmp na nb sa sb, (compare_eq_iff _ _).mpr (by omega)]; rfl
open Jvm.FP.Core in
theorem own_cmpLe {a b : UInt64} (na : val64 a ≠ .nan) (nb : val64 b ≠ .nan) (sa : sgn (val64 a) = false) (sb : sgn (val64 b) = false) (h : zmag b64 (val64 a) ≤ zmag b64 (val64 b)) (o : CmpOp) : ¬ (0 : Int32) < cmpValue (FP.dcmp a b) o := by
  rcases Nat.lt_or_eq_of_le h with q | q
  · rw [own_cmpLt na nb sa sb q]; decide
  · rw [own_cmpEq na nb sa sb q]; decide
open Jvm.FP.Core in
theorem own_l2d_nn (n : Int64) : val64 (FP.Core.l2d n) ≠ .nan := by
  obtain ⟨c, q, e⟩ := l2d_shape n
  rw [e]; simp
open Jvm.FP.Core in
theorem own_l2d_z {n : Int64} (h : 0 ≤ n.toInt) (h' : n.toInt ≤ 9007199254740992) : zmag b64 (val64 (FP.Core.l2d n)) = n.toInt.natAbs * FP.Core.one64 := by
  have q := own_zmagI (l2d_int (a := n) (by have : (2 : Nat) ^ 53 = 9007199254740992 := by decide
                                            omega)) (own_l2d_s h)
  have e : ((n.toInt.natAbs : Nat) : Int) = n.toInt := by omega
  rw [← e] at q
  generalize FP.Core.one64 = P at q ⊢
  exact_mod_cast q
theorem own_unit : ∃ P : Nat, 0 < P ∧ P = FP.Core.one64 := ⟨_, FP.Core.one64_pos, rfl⟩
theorem own_l2d_i {n : Int64} (h : 0 ≤ n.toInt) (h' : n.toInt ≤ 9007199254740992) : FP.Core.DInt n.toInt (FP.Core.l2d n) := FP.Core.l2d_int (by
  have : (2 : Nat) ^ 53 = 9007199254740992 := by decide
  omega)
theorem own_dv_eq {n d k : Int64} (hn : 0 ≤ n.toInt) (hn' : n.toInt ≤ 9007199254740992) (hd : 0 < d.toInt) (hd' : d.toInt ≤ 9007199254740992) (hk : 0 ≤ k.toInt) (e : n.toInt = k.toInt * d.toInt) (o : CmpOp) : cmpValue (FP.dcmp (FP.ddiv (FP.l2d n) (FP.l2d d)) (FP.l2d k)) o = 0 := by
  have hk' : k.toInt ≤ 9007199254740992 := by
    have : k.toInt * 1 ≤ k.toInt * d.toInt := Int.mul_le_mul_of_nonneg_left (by omega) hk
    omega
  have Ad := own_l2d_i (Int.le_of_lt hd) hd'
  obtain ⟨q1, q2⟩ := own_div_nn (own_l2d_f hn) Ad (own_l2d_s (Int.le_of_lt hd)) (by omega)
  refine own_cmpEq q1 (own_l2d_nn k) q2 (own_l2d_s hk) ?_ o
  have zk := own_l2d_z hk hk'
  have zn := own_l2d_z hn hn'
  have e' : n.toInt.natAbs = k.toInt.natAbs * d.toInt.natAbs := by rw [e, Int.natAbs_mul]
  have e2 : FP.Core.zmag FP.Core.b64 (FP.Core.val64 (FP.Core.l2d k)) * d.toInt.natAbs = FP.Core.zmag FP.Core.b64 (FP.Core.val64 (FP.Core.l2d n)) := by
    rw [zk, zn, e']
    generalize FP.Core.one64 = P
    ac_rfl
  exact Nat.le_antisymm (own_div_le (own_l2d_f hn) Ad (own_l2d_s (Int.le_of_lt hd)) (by omega) (own_l2d_nn k) (Nat.le_of_eq e2.symm)) (own_div_ge (own_l2d_f hn) Ad (own_l2d_s (Int.le_of_lt hd)) (by omega) (Nat.le_of_eq e2))
end OwnF


def own_avg (p : Int32) (t : Int64) : UInt64 := FP.ddiv (FP.l2d t) (FP.i2d p)
theorem own_ib {p : Int32} (h : 1 ≤ p.toInt) : p.toInt64.toInt = p.toInt ∧ 0 ≤ p.toInt64.toInt ∧ p.toInt64.toInt ≤ 9007199254740992 ∧ p.toInt64.toInt ≠ 0 := by
  have := rng32 p
  rw [c_i2l]; omega
theorem own_a1 {p : Int32} {t : Int64} (hp : 1 ≤ p.toInt) (ht : 0 ≤ t.toInt) (o : CmpOp) : ¬ (0 : Int32) < cmpValue (FP.dcmp FP.dconst0 (own_avg p t)) o ∧ ¬ (0 : Int32) < cmpValue (FP.dcmp (own_avg p t) (FP.l2d t)) o := by
  obtain ⟨i1, i2, i3, i4⟩ := own_ib hp
  unfold own_avg
  rw [i2d_w]
  have Ad := own_l2d_i i2 i3
  obtain ⟨q1, q2⟩ := own_div_nn (own_l2d_f ht) Ad (own_l2d_s i2) i4
  constructor
  · refine own_cmpLe (a := FP.dconst0) (by rw [show FP.Core.val64 FP.dconst0 = FP.Core.val64 FP.Core.dconst0 from rfl, FP.Core.val64_dconst0]; simp) q1 (by rw [show FP.Core.val64 FP.dconst0 = FP.Core.val64 FP.Core.dconst0 from rfl, FP.Core.val64_dconst0]; rfl) q2 ?_ o
    rw [show FP.Core.val64 FP.dconst0 = FP.Core.val64 FP.Core.dconst0 from rfl, FP.Core.val64_dconst0]
    show FP.Core.inUnits 0 _ _ ≤ _
    simp [FP.Core.inUnits]
  · refine own_cmpLe q1 (own_l2d_nn t) q2 (own_l2d_s ht) (own_div_le (own_l2d_f ht) Ad (own_l2d_s i2) i4 (own_l2d_nn t) ?_) o
    exact Nat.le_mul_of_pos_right _ (by omega)
theorem own_a2 {p : Int32} {t : Int64} (hp : 1 ≤ p.toInt) (ht : 0 ≤ t.toInt) (ht' : lcmpW t (9007199254740992 : Int64) < (0 : Int32)) (o : CmpOp) :
    ¬ (0 : Int32) < cmpValue (FP.dcmp (FP.l2d (t / p.toInt64)) (own_avg p t)) o ∧ ¬ (0 : Int32) < cmpValue (FP.dcmp (own_avg p t) (FP.l2d (t / p.toInt64 + 1))) o := by
  obtain ⟨i1, i2, i3, i4⟩ := own_ib hp
  have lt : t.toInt < 9007199254740992 := by
    have q := (lw_lt _ _).mp ht'
    rw [Int64.lt_iff_toInt_lt] at q
    have : (9007199254740992 : Int64).toInt = 9007199254740992 := by decide
    omega
  unfold own_avg
  rw [i2d_w]
  have Ad := own_l2d_i i2 i3
  obtain ⟨q1, q2⟩ := own_div_nn (own_l2d_f ht) Ad (own_l2d_s i2) i4
  have hq : (t / p.toInt64).toInt = t.toInt / p.toInt64.toInt := by
    rw [Int64.toInt_div_of_ne_right _ _ (fun q => by rw [q] at i2; exact absurd i2 (by decide)), Int.tdiv_eq_ediv_of_nonneg ht]
  have hq0 : 0 ≤ t.toInt / p.toInt64.toInt := Int.ediv_nonneg ht i2
  have hq1 : t.toInt / p.toInt64.toInt ≤ t.toInt := Int.ediv_le_self _ ht
  have hq' : (t / p.toInt64 + 1).toInt = t.toInt / p.toInt64.toInt + 1 := by
    have e1 : (1 : Int64).toInt = 1 := by decide
    rw [FP.Core.int64_add (by rw [hq, e1]; omega) (by rw [hq, e1]; omega), hq, e1]
  have hdm := Int.mul_ediv_add_emod t.toInt p.toInt64.toInt
  have hr0 := Int.emod_nonneg t.toInt i4
  have hr1 := Int.emod_lt_of_pos t.toInt (show 0 < p.toInt64.toInt by omega)
  have z1 := own_l2d_z (n := t / p.toInt64) (by omega) (by omega)
  have z2 := own_l2d_z (n := t / p.toInt64 + 1) (by omega) (by omega)
  have zt := own_l2d_z ht (by omega)
  generalize FP.Core.one64 = P at z1 z2 zt
  have s1 : 0 ≤ (t / p.toInt64).toInt := by omega
  have s2 : 0 ≤ (t / p.toInt64 + 1).toInt := by omega
  have e1 : (t / p.toInt64).toInt.natAbs * p.toInt64.toInt.natAbs ≤ t.toInt.natAbs := by
    rw [hq]
    generalize t.toInt / p.toInt64.toInt = q at *
    generalize p.toInt64.toInt = j at *
    rw [← Int.natAbs_mul]
    have c1 : q * j = j * q := Int.mul_comm _ _
    rw [c1]
    have c2 : 0 ≤ j * q := Int.mul_nonneg i2 hq0
    omega
  have e2 : t.toInt.natAbs ≤ (t / p.toInt64 + 1).toInt.natAbs * p.toInt64.toInt.natAbs := by
    rw [hq']
    generalize t.toInt / p.toInt64.toInt = q at *
    generalize p.toInt64.toInt = j at *
    rw [← Int.natAbs_mul, Int.add_mul, Int.one_mul, Int.mul_comm q j]
    have c2 : 0 ≤ j * q := Int.mul_nonneg i2 hq0
    omega
  constructor
  · refine own_cmpLe (own_l2d_nn _) q1 (own_l2d_s s1) q2 (own_div_ge (own_l2d_f ht) Ad (own_l2d_s i2) i4 ?_) o
    rw [show FP.Core.val64 (FP.l2d (t / p.toInt64)) = FP.Core.val64 (FP.Core.l2d (t / p.toInt64)) from rfl, show FP.Core.val64 (FP.l2d t) = FP.Core.val64 (FP.Core.l2d t) from rfl, z1, zt]
    calc _ = ((t / p.toInt64).toInt.natAbs * p.toInt64.toInt.natAbs) * P := by ac_rfl
      _ ≤ _ := Nat.mul_le_mul_right _ e1
  · refine own_cmpLe q1 (own_l2d_nn _) q2 (own_l2d_s s2) (own_div_le (own_l2d_f ht) Ad (own_l2d_s i2) i4 (own_l2d_nn _) ?_) o
    rw [show FP.Core.val64 (FP.l2d (t / p.toInt64 + 1)) = FP.Core.val64 (FP.Core.l2d (t / p.toInt64 + 1)) from rfl, show FP.Core.val64 (FP.l2d t) = FP.Core.val64 (FP.Core.l2d t) from rfl, z2, zt]
    calc _ ≤ ((t / p.toInt64 + 1).toInt.natAbs * p.toInt64.toInt.natAbs) * P := Nat.mul_le_mul_right _ e2
      _ = _ := by ac_rfl
/-- over a power of two, and back -/
theorem own_a3 {p : Int32} {t : Int64} {k : Nat} (hk : k ≤ 30) (hp : p.toInt = ((2 ^ k : Nat) : Int)) (ht : 0 ≤ t.toInt) (ht' : t.toInt < 9007199254740992) :
    Fl.NoNaN64 (FP.dmul (own_avg p t) (FP.i2d p)) ∧ ∀ o : CmpOp, cmpValue (FP.dcmp (FP.dmul (own_avg p t) (FP.i2d p)) (FP.l2d t)) o = 0 := by
  have hp1 : 1 ≤ p.toInt := by have := Nat.two_pow_pos k; omega
  obtain ⟨i1, i2, i3, i4⟩ := own_ib hp1
  unfold own_avg
  rw [i2d_w]
  have Ad := own_l2d_i i2 i3
  obtain ⟨q1, q2⟩ := own_div_nn (own_l2d_f ht) Ad (own_l2d_s i2) i4
  have zt := own_l2d_z ht (by omega)
  have p53 : (2 : Nat) ^ 53 = 9007199254740992 := by decide
  obtain ⟨V, ⟨cv, qv, vf⟩, v1, v2, v3⟩ := own_frac (c := t.toInt.natAbs) (k := k) (by omega) (by omega)
  have ej : p.toInt64.toInt.natAbs = 2 ^ k := by rw [i1, hp]; exact Int.natAbs_natCast _
  have e1 : FP.Core.zmag FP.Core.b64 (FP.Core.val64 V) * p.toInt64.toInt.natAbs = FP.Core.zmag FP.Core.b64 (FP.Core.val64 (FP.Core.l2d t)) := by rw [ej, zt]; exact v3
  have e2 : FP.Core.zmag FP.Core.b64 (FP.Core.val64 (FP.Core.ddiv (FP.Core.l2d t) (FP.Core.l2d p.toInt64))) = FP.Core.zmag FP.Core.b64 (FP.Core.val64 V) :=
    Nat.le_antisymm (own_div_le (own_l2d_f ht) Ad (own_l2d_s i2) i4 v1 (Nat.le_of_eq e1.symm)) (own_div_ge (own_l2d_f ht) Ad (own_l2d_s i2) i4 (Nat.le_of_eq e1))
  have fin : ∃ c q, FP.Core.val64 (FP.Core.ddiv (FP.Core.l2d t) (FP.Core.l2d p.toInt64)) = .fin false c q := by
    have vt : FP.Core.zmag FP.Core.b64 (.fin false cv qv) < _ := FP.Core.zmag_lt_top FP.Core.good_b64 (by rw [← vf]; exact FP.Core.val64_fits V)
    rw [← vf, ← e2] at vt
    cases hv : FP.Core.val64 (FP.Core.ddiv (FP.Core.l2d t) (FP.Core.l2d p.toInt64)) with
    | nan => exact absurd hv q1
    | inf s => rw [hv] at vt; exact absurd vt (Nat.lt_irrefl _)
    | fin s c q =>
      have q2' := q2
      rw [hv] at q2'
      have es : s = false := q2'
      subst es
      exact ⟨c, q, rfl⟩
  obtain ⟨m1, m2, m3⟩ := own_mul_eq fin Ad (own_l2d_s i2) i4 (own_l2d_nn t) (by rw [e2]; exact e1)
  exact ⟨Fl.val64_no.mpr m1, fun o => own_cmpEq m1 (own_l2d_nn t) m2 (own_l2d_s ht) m3 o⟩
theorem own_a4 {p : Int32} {q : Int64} (hp : 1 ≤ p.toInt) (hq : 0 ≤ q.toInt) (hq' : q.toInt ≤ 4194303) (o : CmpOp) : cmpValue (FP.dcmp (own_avg p (p.toInt64 * q)) (FP.l2d q)) o = 0 ∧ 0 ≤ (p.toInt64 * q).toInt := by
  obtain ⟨i1, i2, i3, i4⟩ := own_ib hp
  have r := rng32 p
  have b1 : 0 ≤ p.toInt64.toInt * q.toInt := Int.mul_nonneg i2 hq
  have b2 : p.toInt64.toInt * q.toInt ≤ 2147483648 * 4194303 := Int.mul_le_mul (by omega) hq' hq (by omega)
  have e : (p.toInt64 * q).toInt = p.toInt64.toInt * q.toInt := FP.Core.int64_mul (by omega) (by omega)
  refine ⟨?_, by omega⟩
  unfold own_avg
  rw [i2d_w]
  exact own_dv_eq (by omega) (by omega) (by omega) i3 hq (by rw [e]; exact Int.mul_comm _ _) o
theorem own_pow2 (kk : Int32) (h0 : 0 ≤ kk.toInt) (h1 : kk.toInt ≤ 30) : ∃ k : Nat, k ≤ 30 ∧ ((1 : Int32) <<< (kk &&& 31)).toInt = ((2 ^ k : Nat) : Int) := by
  obtain ⟨n, hn⟩ : ∃ n : Nat, kk.toInt = n := ⟨kk.toInt.toNat, by omega⟩
  have hkk : kk = Int32.ofNat n := Int32.toInt_inj.mp (by rw [hn, Int32.toInt_ofNat_of_lt (by omega)])
  refine ⟨n, by omega, ?_⟩
  rw [hkk]
  have : n ≤ 30 := by omega
  have all : ∀ i : Fin 31, ((1 : Int32) <<< (Int32.ofNat i.val &&& 31)).toInt = ((2 ^ i.val : Nat) : Int) := by decide +kernel
  exact all ⟨n, by omega⟩
theorem own_mk (x : Int32) : 0 ≤ (x &&& 2147483647).toInt := by
  rw [c_mask x 2147483647 31 (by decide) (by decide)]
  exact Int.emod_nonneg _ (by decide)
theorem own_rem {x y : Int32} (h : 0 ≤ x.toInt) (d : Int) (hy : y.toInt = d) (hd : 0 < d) : 0 ≤ (x % y).toInt ∧ (x % y).toInt < d := by
  rw [(c_irem x y d hy).1 h]
  exact ⟨Int.emod_nonneg _ (by omega), Int.emod_lt_of_pos _ hd⟩
theorem own_lge {t : Int64} (h : 0 ≤ t.toInt) : ¬ lcmpW t (0 : Int64) < (0 : Int32) := by
  rw [lw_lt, Int64.lt_iff_toInt_lt]
  have : (0 : Int64).toInt = 0 := by decide
  omega
theorem own_ige {t : Int32} (h : 0 ≤ t.toInt) : ¬ t < (0 : Int32) := by
  rw [Int32.lt_iff_toInt_lt]
  have : (0 : Int32).toInt = 0 := by decide
  omega

theorem own_d1_0 : decode prog_24_method_1_code 0 = .ok (.aload_n 0, 1) := by decide +kernel
theorem own_d1_1 : decode prog_24_method_1_code 1 = .ok (.invokespecial 1, 3) := by decide +kernel
theorem own_d1_4 : decode prog_24_method_1_code 4 = .ok (.iload_n 1, 1) := by decide +kernel
theorem own_d1_5 : decode prog_24_method_1_code 5 = .ok (.ifCond .lt 9, 3) := by decide +kernel
theorem own_d1_8 : decode prog_24_method_1_code 8 = .ok (.lload_n 2, 1) := by decide +kernel
theorem own_d1_9 : decode prog_24_method_1_code 9 = .ok (.lconst 0, 1) := by decide +kernel
theorem own_d1_10 : decode prog_24_method_1_code 10 = .ok (.lcmp, 1) := by decide +kernel
theorem own_d1_11 : decode prog_24_method_1_code 11 = .ok (.ifCond .ge 18, 3) := by decide +kernel
theorem own_d1_29 : decode prog_24_method_1_code 29 = .ok (.aload_n 0, 1) := by decide +kernel
theorem own_d1_30 : decode prog_24_method_1_code 30 = .ok (.iload_n 1, 1) := by decide +kernel
theorem own_d1_31 : decode prog_24_method_1_code 31 = .ok (.putfield 16, 3) := by decide +kernel
theorem own_d1_34 : decode prog_24_method_1_code 34 = .ok (.aload_n 0, 1) := by decide +kernel
theorem own_d1_35 : decode prog_24_method_1_code 35 = .ok (.lload_n 2, 1) := by decide +kernel
theorem own_d1_36 : decode prog_24_method_1_code 36 = .ok (.putfield 22, 3) := by decide +kernel
theorem own_d1_39 : decode prog_24_method_1_code 39 = .ok (.return_, 1) := by decide +kernel
theorem own_pn0 : plainName "com/example/freshness/freshness/engine/Statistics" = true := by first | (simp [plainName, overriddenIn]; done) | decide +kernel
theorem own_ef1 (m : MethodId) (x0 : Addr) (x1 : Int32) (x2 : Int64) : entryFrame m #[(.ref x0), (.int x1), (.long x2)] 4 = mkF m 0 #[.val (.ref x0), .val (.int x1), .val (.long x2), .second] [] := by first | (simp [entryFrame, mkF, argsToLocals, Value.category]; done) | rfl
def own_Q1 (Z : State) (a1 : Addr) (p1 : Int32) (p2 : Int64) (h0 : Heap) (n0 : Nat) (v : Option Value) (h : Heap) (L : List Loc) : Prop := v = none ∧ Fr n0 L ∧ Keep h0 h [a1] ∧ Fld Z h a1 "com/example/freshness/freshness/engine/Statistics" "posts" "I" (.int p1) ∧ Fld Z h a1 "com/example/freshness/freshness/engine/Statistics" "totalLength" "J" (.long p2)
set_option maxRecDepth 65536 in
set_option maxHeartbeats 40000000 in
theorem own_rm1 (l : Launch) (Z : State) (a0 : Array Value) (hw : ∀ d ∈ tables_1, d.before a0 Z = true) (ws : List Jvm.Cond) (a1 : Addr) (p1 : Int32) (p2 : Int64) (h0 : Heap) (n0 : Nat) (Z0 : n0 ≤ h0.size) (q0 : Exa Z h0 a1 "com/example/freshness/freshness/engine/Statistics") (q1 : Fld Z h0 a1 "com/example/freshness/freshness/engine/Statistics" "posts" "I" (.int (0 : Int32))) (q2 : Fld Z h0 a1 "com/example/freshness/freshness/engine/Statistics" "totalLength" "J" (.long (0 : Int64))) (q3 : n0 ≤ a1) (hp : ¬ p1 < (0 : Int32)) (ht : ¬ lcmpW p2 (0 : Int64) < (0 : Int32)) :
    MetFree l (⟨"com/example/freshness/freshness/engine/Statistics", "<init>", "(IJ)V"⟩ : MethodName) (head1 (Jvm.Cond.code (⟨"com/example/freshness/freshness/engine/Statistics", "<init>", "(IJ)V"⟩ : MethodName) prog_24_method_1_code 4 none :: ws) ({ frames := 1, cells := 0, slots := 0, locals := 12 } : Room)) (fun a U => a = #[(.ref a1), (.int p1), (.long p2)] ∧ Z.Warmed39 U.vm ∧ U.heap = h0) (fun _ _ _ _ _ => True) (fun _ U o U' => ∃ v L, o = .returned v ∧ own_Q1 Z a1 p1 p2 h0 n0 v U'.heap L ∧ FrameEnd U o U' L ({ frames := 1, cells := 0, slots := 0, locals := 12 } : Room).cells ({ frames := 1, cells := 0, slots := 0, locals := 12 } : Room).slots) := by
  refine MetFree.of_bodySF (plainFor_of_name own_pn0) hisR ?_
  intro p e s m args below meth c s₁ Bd hml0 hP hK
  obtain ⟨rfl, hZ, hh⟩ := hP
  have hx := Bd.exec
  have hby := Bd.bytes
  have hml : c.maxLocals = 4 := hml0
  have hown : s.vm.findClass "com/example/freshness/freshness/engine/Statistics" = some m.cls := findClass_of_methodNamed Bd.named
  have hnm := (name_of_methodNamed Bd.named Bd.method).1
  have hnl : meth.locks = false := Bd.notSynchronized
  have X0 : Stand p l e ({ frames := 1, cells := 0, slots := 0, locals := 12 } : Room) s m #[(.ref a1), (.int p1), (.long p2)] below meth c s₁ [] 0 0 := Stand.of_body Bd
  have e0 : s₁.heap = h0 := by rw [← hh, Bd.state]; rfl
  have N0 := Fr.nil n0
  show own_Go p.tables e below (own_P below s (own_Q1 Z a1 p1 p2 h0 n0) ({ frames := 1, cells := 0, slots := 0, locals := 12 } : Room).cells ({ frames := 1, cells := 0, slots := 0, locals := 12 } : Room).slots) _
  refine own_st (fun t_ k_ => castTop (own_ef1 m a1 p1 p2) k_) ?_
  show own_Go p.tables e below _ (s₁.setTop (mkF m 0 #[.val (.ref a1), .val (.int p1), .val (.long p2), .second] []))
  refine own_st (fun t_ k_ => XS.aloadN X0.here hx rfl (hb hby own_d1_0) rfl rfl k_) ?_
  show own_Go p.tables e below _ (s₁.setTop (mkF m 1 #[.val (.ref a1), .val (.int p1), .val (.long p2), .second] [(.ref a1)]))
  obtain ⟨T101, X101, e101, st101⟩ := initO X0 hx hZ hown (hw _ (List.mem_of_getElem? (i := 10) rfl)) (hw _ (List.mem_of_getElem? (i := 11) rfl)) (hw _ (List.mem_of_getElem? (i := 12) rfl)) e0 (g := (mkF m 1 #[.val (.ref a1), .val (.int p1), .val (.long p2), .second] [(.ref a1)])) rfl (by rw [hml]; rfl) rfl (hb hby own_d1_1) (by decide) (W := 0) (by show 2 * 0 + _ ≤ _; exact Nat.le_of_eq rfl) (by decide)
  refine own_st (st101) ?_
  show own_Go p.tables e below _ (T101.setTop (mkF m 4 #[.val (.ref a1), .val (.int p1), .val (.long p2), .second] []))
  refine own_st (fun t_ k_ => XS.iloadN X101.here hx rfl (hb hby own_d1_4) rfl k_) ?_
  show own_Go p.tables e below _ (T101.setTop (mkF m 5 #[.val (.ref a1), .val (.int p1), .val (.long p2), .second] [(.int p1)]))
  refine own_st (fun t_ k_ => XS.ifNo X101.here hx rfl (hb hby own_d1_5) rfl ((if0 _ _).trans (flt hp).1) k_) ?_
  show own_Go p.tables e below _ (T101.setTop (mkF m 8 #[.val (.ref a1), .val (.int p1), .val (.long p2), .second] []))
  refine own_st (fun t_ k_ => XS.lloadN X101.here hx rfl (hb hby own_d1_8) rfl k_) ?_
  show own_Go p.tables e below _ (T101.setTop (mkF m 9 #[.val (.ref a1), .val (.int p1), .val (.long p2), .second] [(.long p2)]))
  refine own_st (fun t_ k_ => XS.lconst X101.here hx rfl (hb hby own_d1_9) k_) ?_
  show own_Go p.tables e below _ (T101.setTop (mkF m 10 #[.val (.ref a1), .val (.int p1), .val (.long p2), .second] [(.long (0 : Int64)), (.long p2)]))
  refine own_st (fun t_ k_ => XS.lcmp X101.here hx rfl (hb hby own_d1_10) rfl k_) ?_
  show own_Go p.tables e below _ (T101.setTop (mkF m 11 #[.val (.ref a1), .val (.int p1), .val (.long p2), .second] [(.int (lcmpW p2 (0 : Int64)))]))
  refine own_st (fun t_ k_ => XS.ifYes X101.here hx rfl (pc0 := 11) (pc' := 29) rfl (hb hby own_d1_11) rfl ((if0 _ _).trans (flt ht).2.1) (by decide) (by decide) k_) ?_
  show own_Go p.tables e below _ (T101.setTop (mkF m 29 #[.val (.ref a1), .val (.int p1), .val (.long p2), .second] []))
  refine own_st (fun t_ k_ => XS.aloadN X101.here hx rfl (hb hby own_d1_29) rfl rfl k_) ?_
  show own_Go p.tables e below _ (T101.setTop (mkF m 30 #[.val (.ref a1), .val (.int p1), .val (.long p2), .second] [(.ref a1)]))
  refine own_st (fun t_ k_ => XS.iloadN X101.here hx rfl (hb hby own_d1_30) rfl k_) ?_
  show own_Go p.tables e below _ (T101.setTop (mkF m 31 #[.val (.ref a1), .val (.int p1), .val (.long p2), .second] [(.int p1), (.ref a1)]))
  obtain ⟨T102, h102, X102, e102, W102, st102⟩ := putF X101 hx hZ hown (host := "") (Or.inl (hw _ (List.mem_of_getElem? (i := 13) rfl))) Via.refl e101 q1 q0 (Or.inr ⟨(hw _ (List.mem_of_getElem? (i := 14) rfl)), rfl, hnm⟩) (hw _ (List.mem_of_getElem? (i := 5) rfl)) (ty := .int) (by decide) rfl rfl (g := (mkF m 31 #[.val (.ref a1), .val (.int p1), .val (.long p2), .second] [(.int p1), (.ref a1)])) rfl rfl (hb hby own_d1_31)
  have Fw102 : Fld Z h102 a1 "com/example/freshness/freshness/engine/Statistics" "posts" "I" (.int p1) := q1.same W102
  have N102 := Fr.snoc X102 N0 q3
  have K102 : Keep h0 h102 [a1] := (Keep.refl h0 [a1]).wr W102 (Or.inl (List.mem_of_getElem? (i := 0) rfl))
  refine own_st (st102) ?_
  show own_Go p.tables e below _ (T102.setTop (mkF m 34 #[.val (.ref a1), .val (.int p1), .val (.long p2), .second] []))
  refine own_st (fun t_ k_ => XS.aloadN X102.here hx rfl (hb hby own_d1_34) rfl rfl k_) ?_
  show own_Go p.tables e below _ (T102.setTop (mkF m 35 #[.val (.ref a1), .val (.int p1), .val (.long p2), .second] [(.ref a1)]))
  refine own_st (fun t_ k_ => XS.lloadN X102.here hx rfl (hb hby own_d1_35) rfl k_) ?_
  show own_Go p.tables e below _ (T102.setTop (mkF m 36 #[.val (.ref a1), .val (.int p1), .val (.long p2), .second] [(.long p2), (.ref a1)]))
  obtain ⟨T103, h103, X103, e103, W103, st103⟩ := putF X102 hx hZ hown (host := "") (Or.inl (hw _ (List.mem_of_getElem? (i := 15) rfl))) Via.refl e102 (q2.other W102 (Or.inr (slot_ne (Or.inr (hw _ (List.mem_of_getElem? (i := 16) rfl))) (Or.inr (hw _ (List.mem_of_getElem? (i := 14) rfl))) (by decide) (t := .long) (t' := .int) (by decide) (by decide)))) (q0.wr W102) (Or.inr ⟨(hw _ (List.mem_of_getElem? (i := 16) rfl)), rfl, hnm⟩) (hw _ (List.mem_of_getElem? (i := 5) rfl)) (ty := .long) (by decide) rfl rfl (g := (mkF m 36 #[.val (.ref a1), .val (.int p1), .val (.long p2), .second] [(.long p2), (.ref a1)])) rfl rfl (hb hby own_d1_36)
  have Fw103 : Fld Z h103 a1 "com/example/freshness/freshness/engine/Statistics" "totalLength" "J" (.long p2) := (q2.other W102 (Or.inr (slot_ne (Or.inr (hw _ (List.mem_of_getElem? (i := 16) rfl))) (Or.inr (hw _ (List.mem_of_getElem? (i := 14) rfl))) (by decide) (t := .long) (t' := .int) (by decide) (by decide)))).same W103
  have N103 := Fr.snoc X103 N102 q3
  have K103 : Keep h0 h103 [a1] := K102.wr W103 (Or.inl (List.mem_of_getElem? (i := 0) rfl))
  refine own_st (st103) ?_
  show own_Go p.tables e below _ (T103.setTop (mkF m 39 #[.val (.ref a1), .val (.int p1), .val (.long p2), .second] []))
  exact own_ret0 X103 hx hnl Bd.returns (hb hby own_d1_39) ⟨rfl, N103, (by rw [e103]; exact K103), (by rw [e103]; exact (Fw102.other W103 (Or.inr (slot_ne (Or.inr (hw _ (List.mem_of_getElem? (i := 14) rfl))) (Or.inr (hw _ (List.mem_of_getElem? (i := 16) rfl))) (by decide) (t := .int) (t' := .long) (by decide) (by decide))))), (by rw [e103]; exact Fw103)⟩ (by decide) (by decide)

theorem own_d3_0 : decode prog_24_method_4_code 0 = .ok (.aload_n 0, 1) := by decide +kernel
theorem own_d3_1 : decode prog_24_method_4_code 1 = .ok (.getfield 22, 3) := by decide +kernel
theorem own_d3_4 : decode prog_24_method_4_code 4 = .ok (.l2d, 1) := by decide +kernel
theorem own_d3_5 : decode prog_24_method_4_code 5 = .ok (.aload_n 0, 1) := by decide +kernel
theorem own_d3_6 : decode prog_24_method_4_code 6 = .ok (.getfield 16, 3) := by decide +kernel
theorem own_d3_9 : decode prog_24_method_4_code 9 = .ok (.i2d, 1) := by decide +kernel
theorem own_d3_10 : decode prog_24_method_4_code 10 = .ok (.ddiv, 1) := by decide +kernel
theorem own_d3_11 : decode prog_24_method_4_code 11 = .ok (.dreturn, 1) := by decide +kernel
theorem own_ef3 (m : MethodId) (x0 : Addr) : entryFrame m #[(.ref x0)] 1 = mkF m 0 #[.val (.ref x0)] [] := by first | (simp [entryFrame, mkF, argsToLocals, Value.category]; done) | rfl
def own_Q3 (Z : State) (a1 : Addr) (p1 : Int32) (p2 : Int64) (h0 : Heap) (n0 : Nat) (v : Option Value) (h : Heap) (L : List Loc) : Prop := v = some (.double (own_avg p1 p2)) ∧ Fr n0 L ∧ h = h0
set_option maxRecDepth 65536 in
set_option maxHeartbeats 40000000 in
theorem own_rm3 (l : Launch) (Z : State) (a0 : Array Value) (hw : ∀ d ∈ tables_1, d.before a0 Z = true) (ws : List Jvm.Cond) (a1 : Addr) (p1 : Int32) (p2 : Int64) (h0 : Heap) (n0 : Nat) (Z0 : n0 ≤ h0.size) (q0 : Fld Z h0 a1 "com/example/freshness/freshness/engine/Statistics" "posts" "I" (.int p1)) (q1 : Fld Z h0 a1 "com/example/freshness/freshness/engine/Statistics" "totalLength" "J" (.long p2)) (hp : p1 ≠ 0) :
    MetFree l (⟨"com/example/freshness/freshness/engine/Statistics", "getAverageLength", "()D"⟩ : MethodName) (head1 (Jvm.Cond.code (⟨"com/example/freshness/freshness/engine/Statistics", "getAverageLength", "()D"⟩ : MethodName) prog_24_method_4_code 1 (some .double) :: ws) ({ frames := 0, cells := 0, slots := 0, locals := 0 } : Room)) (fun a U => a = #[(.ref a1)] ∧ Z.Warmed39 U.vm ∧ U.heap = h0) (fun _ _ _ _ _ => True) (fun _ U o U' => ∃ v L, o = .returned v ∧ own_Q3 Z a1 p1 p2 h0 n0 v U'.heap L ∧ FrameEnd U o U' L ({ frames := 0, cells := 0, slots := 0, locals := 0 } : Room).cells ({ frames := 0, cells := 0, slots := 0, locals := 0 } : Room).slots) := by
  refine MetFree.of_bodySF (plainFor_of_name own_pn0) hisR ?_
  intro p e s m args below meth c s₁ Bd hml0 hP hK
  obtain ⟨rfl, hZ, hh⟩ := hP
  have hx := Bd.exec
  have hby := Bd.bytes
  have hml : c.maxLocals = 1 := hml0
  have hown : s.vm.findClass "com/example/freshness/freshness/engine/Statistics" = some m.cls := findClass_of_methodNamed Bd.named
  have hnm := (name_of_methodNamed Bd.named Bd.method).1
  have hnl : meth.locks = false := Bd.notSynchronized
  have X0 : Stand p l e ({ frames := 0, cells := 0, slots := 0, locals := 0 } : Room) s m #[(.ref a1)] below meth c s₁ [] 0 0 := Stand.of_body Bd
  have e0 : s₁.heap = h0 := by rw [← hh, Bd.state]; rfl
  have N0 := Fr.nil n0
  show own_Go p.tables e below (own_P below s (own_Q3 Z a1 p1 p2 h0 n0) ({ frames := 0, cells := 0, slots := 0, locals := 0 } : Room).cells ({ frames := 0, cells := 0, slots := 0, locals := 0 } : Room).slots) _
  refine own_st (fun t_ k_ => castTop (own_ef3 m a1) k_) ?_
  show own_Go p.tables e below _ (s₁.setTop (mkF m 0 #[.val (.ref a1)] []))
  refine own_st (fun t_ k_ => XS.aloadN X0.here hx rfl (hb hby own_d3_0) rfl rfl k_) ?_
  show own_Go p.tables e below _ (s₁.setTop (mkF m 1 #[.val (.ref a1)] [(.ref a1)]))
  obtain ⟨T104, X104, e104, st104⟩ := getF X0 hx hZ hown (host := "") (Or.inl (hw _ (List.mem_of_getElem? (i := 15) rfl))) Via.refl e0 q1 (g := (mkF m 1 #[.val (.ref a1)] [(.ref a1)])) rfl rfl (hb hby own_d3_1)
  refine own_st (st104) ?_
  show own_Go p.tables e below _ (T104.setTop (mkF m 4 #[.val (.ref a1)] [(.long p2)]))
  refine own_st (fun t_ k_ => XS.l2dS X104.here hx rfl (hb hby own_d3_4) rfl rfl k_) ?_
  show own_Go p.tables e below _ (T104.setTop (mkF m 5 #[.val (.ref a1)] [(.double (FP.l2d p2))]))
  refine own_st (fun t_ k_ => XS.aloadN X104.here hx rfl (hb hby own_d3_5) rfl rfl k_) ?_
  show own_Go p.tables e below _ (T104.setTop (mkF m 6 #[.val (.ref a1)] [(.ref a1), (.double (FP.l2d p2))]))
  obtain ⟨T105, X105, e105, st105⟩ := getF X104 hx hZ hown (host := "") (Or.inl (hw _ (List.mem_of_getElem? (i := 13) rfl))) Via.refl e104 q0 (g := (mkF m 6 #[.val (.ref a1)] [(.ref a1), (.double (FP.l2d p2))])) rfl rfl (hb hby own_d3_6)
  refine own_st (st105) ?_
  show own_Go p.tables e below _ (T105.setTop (mkF m 9 #[.val (.ref a1)] [(.int p1), (.double (FP.l2d p2))]))
  refine own_st (fun t_ k_ => XS.i2dS X105.here hx rfl (hb hby own_d3_9) rfl rfl k_) ?_
  show own_Go p.tables e below _ (T105.setTop (mkF m 10 #[.val (.ref a1)] [(.double (FP.i2d p1)), (.double (FP.l2d p2))]))
  refine own_st (fun t_ k_ => XS.ddivS X105.here hx rfl (hb hby own_d3_10) rfl (Fl.ddiv_out (Fl.l2d_fin p2).noNaN (Fl.i2d_fin p1) (Fl.i2d_nz hp)) rfl k_) ?_
  show own_Go p.tables e below _ (T105.setTop (mkF m 11 #[.val (.ref a1)] [(.double (FP.ddiv (FP.l2d p2) (FP.i2d p1)))]))
  exact own_ret (w := (.double (FP.ddiv (FP.l2d p2) (FP.i2d p1)))) X105 hx hnl Bd.returns rfl (Or.inr (Or.inr (Or.inl ⟨rfl, rfl, _, rfl⟩))) (hb hby own_d3_11) ⟨rfl, N0, e105⟩ (by decide) (by decide)

theorem own_pn1 : plainName "com/example/freshness/freshness/engine/StatisticsGetAverageLengthPinLaw" = true := by first | (simp [plainName, overriddenIn]; done) | decide +kernel
theorem own_pd0 : parseMethodDescriptor "(IJ)V" = some ⟨[.int, .long], none⟩ := by decide +kernel
theorem own_pd1 : parseMethodDescriptor "()D" = some ⟨[], some .double⟩ := by decide +kernel
theorem own_ef0 (m : MethodId) (x0 : Int32) (x1 : Int64) (x2 : Int32) (x3 : Int32) : entryFrame m #[(.int x0), (.long x1), (.int x2), (.int x3)] maxLocals = mkF m 0 #[.val (.int x0), .val (.long x1), .second, .val (.int x2), .val (.int x3), .unset, .unset, .unset, .unset, .unset, .unset, .unset, .unset, .unset, .unset, .unset, .unset, .unset, .unset, .unset, .unset, .unset, .unset, .unset, .unset, .unset, .unset] [] := by first | (simp [entryFrame, mkF, argsToLocals, Value.category, maxLocals]; done) | rfl
def own_Q0 (Z : State) (p0 : Int32) (p1 : Int64) (p2 : Int32) (p3 : Int32) (h0 : Heap) (n0 : Nat) (v : Option Value) (h : Heap) (L : List Loc) : Prop := v = some (.int (1 : Int32)) ∧ Fr n0 L ∧ Keep h0 h []
set_option maxRecDepth 65536 in
set_option maxHeartbeats 40000000 in
theorem own_rm0 (l : Launch) (Z : State) (a0 : Array Value) (hw : ∀ d ∈ tables_1, d.before a0 Z = true) (ws : List Jvm.Cond) (p0 : Int32) (p1 : Int64) (p2 : Int32) (p3 : Int32) (h0 : Heap) (n0 : Nat) (Z0 : n0 ≤ h0.size)  :
    MetFree l x (head1 (Jvm.Cond.code x code maxLocals ret :: ws) room_1) (fun a U => a = #[(.int p0), (.long p1), (.int p2), (.int p3)] ∧ Z.Warmed39 U.vm ∧ U.heap = h0) (fun _ _ _ _ _ => True) (fun _ U o U' => ∃ v L, o = .returned v ∧ own_Q0 Z p0 p1 p2 p3 h0 n0 v U'.heap L ∧ FrameEnd U o U' L room_1.cells room_1.slots) := by
  refine MetFree.of_bodySF (plainFor_of_name own_pn1) hisR ?_
  intro p e s m args below meth c s₁ Bd hml0 hP hK
  obtain ⟨rfl, hZ, hh⟩ := hP
  have hx := Bd.exec
  have hby := Bd.bytes
  have hml : c.maxLocals = 27 := hml0
  have hown : s.vm.findClass "com/example/freshness/freshness/engine/StatisticsGetAverageLengthPinLaw" = some m.cls := findClass_of_methodNamed Bd.named
  have hnm := (name_of_methodNamed Bd.named Bd.method).1
  have hnl : meth.locks = false := Bd.notSynchronized
  have X0 : Stand p l e room_1 s m #[(.int p0), (.long p1), (.int p2), (.int p3)] below meth c s₁ [] 0 0 := Stand.of_body Bd
  have e0 : s₁.heap = h0 := by rw [← hh, Bd.state]; rfl
  have N0 := Fr.nil n0
  show own_Go p.tables e below (own_P below s (own_Q0 Z p0 p1 p2 p3 h0 n0) room_1.cells room_1.slots) _
  refine own_st (fun t_ k_ => castTop (own_ef0 m p0 p1 p2 p3) k_) ?_
  show own_Go p.tables e below _ (s₁.setTop (mkF m 0 #[.val (.int p0), .val (.long p1), .second, .val (.int p2), .val (.int p3), .unset, .unset, .unset, .unset, .unset, .unset, .unset, .unset, .unset, .unset, .unset, .unset, .unset, .unset, .unset, .unset, .unset, .unset, .unset, .unset, .unset, .unset] []))
  obtain ⟨pp, hpp⟩ : ∃ z, z = (p0 &&& 2147483647) % 2147483647 + 1 := ⟨_, rfl⟩
  obtain ⟨tt, htt⟩ : ∃ z, z = p1 &&& 9223372036854775807 := ⟨_, rfl⟩
  obtain ⟨kk, hkk⟩ : ∃ z, z = (p2 &&& 2147483647) % 31 := ⟨_, rfl⟩
  obtain ⟨pw, hpw⟩ : ∃ z, z = (1 : Int32) <<< (kk &&& 31) := ⟨_, rfl⟩
  obtain ⟨t2, ht2⟩ : ∃ z, z = p1 &&& 9007199254740991 := ⟨_, rfl⟩
  obtain ⟨q3, hq3⟩ : ∃ z, z = (p3 &&& 4194303).toInt64 := ⟨_, rfl⟩
  have bp : 1 ≤ pp.toInt := by have q := own_rem (own_mk p0) 2147483647 (y := 2147483647) (by decide) (by decide); have i1 : (1 : Int32).toInt = 1 := (by decide); rw [hpp, Int32.toInt_add, i1, bmod32 (by omega) (by omega)]; omega
  have bt : 0 ≤ tt.toInt := by rw [htt, c_maskL p1 9223372036854775807 63 (by decide) (by decide)]; exact Int.emod_nonneg _ (by decide)
  have bt2 : 0 ≤ t2.toInt ∧ t2.toInt < 9007199254740992 := by rw [ht2, c_maskL p1 9007199254740991 53 (by decide) (by decide)]; exact ⟨Int.emod_nonneg _ (by decide), Int.emod_lt_of_pos _ (by decide)⟩
  have bk : 0 ≤ kk.toInt ∧ kk.toInt < 31 := by rw [hkk]; exact own_rem (own_mk p2) 31 (by decide) (by decide)
  have bq : 0 ≤ q3.toInt ∧ q3.toInt ≤ 4194303 := by rw [hq3, c_i2l, c_mask p3 4194303 22 (by decide) (by decide)]; exact ⟨Int.emod_nonneg _ (by decide), by have := Int.emod_lt_of_pos p3.toInt (show (0 : Int) < ((2 ^ 22 : Nat) : Int) by decide); simp at this ⊢; omega⟩
  obtain ⟨k2, hk2, hpw2⟩ := own_pow2 kk bk.1 (by omega)
  rw [← hpw] at hpw2
  have bw : 1 ≤ pw.toInt := by have := Nat.two_pow_pos k2; omega
  have b3 : 0 ≤ (pp.toInt64 * q3).toInt := (own_a4 bp bq.1 bq.2 .l).2
  have z32 : (0 : Int32).toInt = 0 := by decide
  have npp : pp ≠ 0 := fun q => by rw [q, z32] at bp; omega
  have npw : pw ≠ 0 := fun q => by rw [q, z32] at bw; omega
  have np64 : pp.toInt64 ≠ 0 := fun q => by have := c_i2l pp; rw [q] at this; have z : (0 : Int64).toInt = 0 := (by decide); omega
  refine own_st (fun t_ k_ => XS.iloadN X0.here hx rfl (hb hby at_0) rfl k_) ?_
  show own_Go p.tables e below _ (s₁.setTop (mkF m 1 #[.val (.int p0), .val (.long p1), .second, .val (.int p2), .val (.int p3), .unset, .unset, .unset, .unset, .unset, .unset, .unset, .unset, .unset, .unset, .unset, .unset, .unset, .unset, .unset, .unset, .unset, .unset, .unset, .unset, .unset, .unset] [(.int p0)]))
  refine own_st (X0.ldcInt hx hown (mvT hZ (hw _ (List.mem_of_getElem? (i := 0) rfl))) (g := (mkF m 1 #[.val (.int p0), .val (.long p1), .second, .val (.int p2), .val (.int p3), .unset, .unset, .unset, .unset, .unset, .unset, .unset, .unset, .unset, .unset, .unset, .unset, .unset, .unset, .unset, .unset, .unset, .unset, .unset, .unset, .unset, .unset] [(.int p0)])) rfl (hb hby at_1)) ?_
  show own_Go p.tables e below _ (s₁.setTop (mkF m 3 #[.val (.int p0), .val (.long p1), .second, .val (.int p2), .val (.int p3), .unset, .unset, .unset, .unset, .unset, .unset, .unset, .unset, .unset, .unset, .unset, .unset, .unset, .unset, .unset, .unset, .unset, .unset, .unset, .unset, .unset, .unset] [(.int (2147483647 : Int32)), (.int p0)]))
  refine own_st (fun t_ k_ => XS.iand X0.here hx rfl (hb hby at_3) rfl k_) ?_
  show own_Go p.tables e below _ (s₁.setTop (mkF m 4 #[.val (.int p0), .val (.long p1), .second, .val (.int p2), .val (.int p3), .unset, .unset, .unset, .unset, .unset, .unset, .unset, .unset, .unset, .unset, .unset, .unset, .unset, .unset, .unset, .unset, .unset, .unset, .unset, .unset, .unset, .unset] [(.int (p0 &&& (2147483647 : Int32)))]))
  refine own_st (X0.ldcInt hx hown (mvT hZ (hw _ (List.mem_of_getElem? (i := 0) rfl))) (g := (mkF m 4 #[.val (.int p0), .val (.long p1), .second, .val (.int p2), .val (.int p3), .unset, .unset, .unset, .unset, .unset, .unset, .unset, .unset, .unset, .unset, .unset, .unset, .unset, .unset, .unset, .unset, .unset, .unset, .unset, .unset, .unset, .unset] [(.int (p0 &&& (2147483647 : Int32)))])) rfl (hb hby at_4)) ?_
  show own_Go p.tables e below _ (s₁.setTop (mkF m 6 #[.val (.int p0), .val (.long p1), .second, .val (.int p2), .val (.int p3), .unset, .unset, .unset, .unset, .unset, .unset, .unset, .unset, .unset, .unset, .unset, .unset, .unset, .unset, .unset, .unset, .unset, .unset, .unset, .unset, .unset, .unset] [(.int (2147483647 : Int32)), (.int (p0 &&& (2147483647 : Int32)))]))
  refine own_st (fun t_ k_ => iremM X0 hx rfl (hb hby at_6) rfl (by decide) k_) ?_
  show own_Go p.tables e below _ (s₁.setTop (mkF m 7 #[.val (.int p0), .val (.long p1), .second, .val (.int p2), .val (.int p3), .unset, .unset, .unset, .unset, .unset, .unset, .unset, .unset, .unset, .unset, .unset, .unset, .unset, .unset, .unset, .unset, .unset, .unset, .unset, .unset, .unset, .unset] [(.int ((p0 &&& (2147483647 : Int32)) % (2147483647 : Int32)))]))
  refine own_st (fun t_ k_ => XS.iconst X0.here hx rfl (hb hby at_7) k_) ?_
  show own_Go p.tables e below _ (s₁.setTop (mkF m 8 #[.val (.int p0), .val (.long p1), .second, .val (.int p2), .val (.int p3), .unset, .unset, .unset, .unset, .unset, .unset, .unset, .unset, .unset, .unset, .unset, .unset, .unset, .unset, .unset, .unset, .unset, .unset, .unset, .unset, .unset, .unset] [(.int (1 : Int32)), (.int ((p0 &&& (2147483647 : Int32)) % (2147483647 : Int32)))]))
  refine own_st (fun t_ k_ => XS.iadd X0.here hx rfl (hb hby at_8) rfl k_) ?_
  show own_Go p.tables e below _ (s₁.setTop (mkF m 9 #[.val (.int p0), .val (.long p1), .second, .val (.int p2), .val (.int p3), .unset, .unset, .unset, .unset, .unset, .unset, .unset, .unset, .unset, .unset, .unset, .unset, .unset, .unset, .unset, .unset, .unset, .unset, .unset, .unset, .unset, .unset] [(.int (((p0 &&& (2147483647 : Int32)) % (2147483647 : Int32)) + (1 : Int32)))]))
  rw [show (((p0 &&& (2147483647 : Int32)) % (2147483647 : Int32)) + (1 : Int32)) = pp from hpp.symm]
  show own_Go p.tables e below _ (s₁.setTop (mkF m 9 #[.val (.int p0), .val (.long p1), .second, .val (.int p2), .val (.int p3), .unset, .unset, .unset, .unset, .unset, .unset, .unset, .unset, .unset, .unset, .unset, .unset, .unset, .unset, .unset, .unset, .unset, .unset, .unset, .unset, .unset, .unset] [(.int pp)]))
  refine own_st (fun t_ k_ => XS.istore X0.here hx rfl (hb hby at_9) rfl (l' := #[.val (.int p0), .val (.long p1), .second, .val (.int p2), .val (.int p3), .val (.int pp), .unset, .unset, .unset, .unset, .unset, .unset, .unset, .unset, .unset, .unset, .unset, .unset, .unset, .unset, .unset, .unset, .unset, .unset, .unset, .unset, .unset]) rfl k_) ?_
  show own_Go p.tables e below _ (s₁.setTop (mkF m 11 #[.val (.int p0), .val (.long p1), .second, .val (.int p2), .val (.int p3), .val (.int pp), .unset, .unset, .unset, .unset, .unset, .unset, .unset, .unset, .unset, .unset, .unset, .unset, .unset, .unset, .unset, .unset, .unset, .unset, .unset, .unset, .unset] []))
  refine own_st (fun t_ k_ => XS.lloadN X0.here hx rfl (hb hby at_11) rfl k_) ?_
  show own_Go p.tables e below _ (s₁.setTop (mkF m 12 #[.val (.int p0), .val (.long p1), .second, .val (.int p2), .val (.int p3), .val (.int pp), .unset, .unset, .unset, .unset, .unset, .unset, .unset, .unset, .unset, .unset, .unset, .unset, .unset, .unset, .unset, .unset, .unset, .unset, .unset, .unset, .unset] [(.long p1)]))
  refine own_st (X0.ldc2Long hx hown (mvT hZ (hw _ (List.mem_of_getElem? (i := 1) rfl))) (g := (mkF m 12 #[.val (.int p0), .val (.long p1), .second, .val (.int p2), .val (.int p3), .val (.int pp), .unset, .unset, .unset, .unset, .unset, .unset, .unset, .unset, .unset, .unset, .unset, .unset, .unset, .unset, .unset, .unset, .unset, .unset, .unset, .unset, .unset] [(.long p1)])) rfl (hb hby at_12)) ?_
  show own_Go p.tables e below _ (s₁.setTop (mkF m 15 #[.val (.int p0), .val (.long p1), .second, .val (.int p2), .val (.int p3), .val (.int pp), .unset, .unset, .unset, .unset, .unset, .unset, .unset, .unset, .unset, .unset, .unset, .unset, .unset, .unset, .unset, .unset, .unset, .unset, .unset, .unset, .unset] [(.long (9223372036854775807 : Int64)), (.long p1)]))
  refine own_st (fun t_ k_ => XS.land X0.here hx rfl (hb hby at_15) rfl k_) ?_
  show own_Go p.tables e below _ (s₁.setTop (mkF m 16 #[.val (.int p0), .val (.long p1), .second, .val (.int p2), .val (.int p3), .val (.int pp), .unset, .unset, .unset, .unset, .unset, .unset, .unset, .unset, .unset, .unset, .unset, .unset, .unset, .unset, .unset, .unset, .unset, .unset, .unset, .unset, .unset] [(.long (p1 &&& (9223372036854775807 : Int64)))]))
  rw [show (p1 &&& (9223372036854775807 : Int64)) = tt from htt.symm]
  show own_Go p.tables e below _ (s₁.setTop (mkF m 16 #[.val (.int p0), .val (.long p1), .second, .val (.int p2), .val (.int p3), .val (.int pp), .unset, .unset, .unset, .unset, .unset, .unset, .unset, .unset, .unset, .unset, .unset, .unset, .unset, .unset, .unset, .unset, .unset, .unset, .unset, .unset, .unset] [(.long tt)]))
  refine own_st (fun t_ k_ => XS.lstore X0.here hx rfl (hb hby at_16) rfl (l' := #[.val (.int p0), .val (.long p1), .second, .val (.int p2), .val (.int p3), .val (.int pp), .val (.long tt), .second, .unset, .unset, .unset, .unset, .unset, .unset, .unset, .unset, .unset, .unset, .unset, .unset, .unset, .unset, .unset, .unset, .unset, .unset, .unset]) rfl k_) ?_
  show own_Go p.tables e below _ (s₁.setTop (mkF m 18 #[.val (.int p0), .val (.long p1), .second, .val (.int p2), .val (.int p3), .val (.int pp), .val (.long tt), .second, .unset, .unset, .unset, .unset, .unset, .unset, .unset, .unset, .unset, .unset, .unset, .unset, .unset, .unset, .unset, .unset, .unset, .unset, .unset] []))
  refine own_st (fun t_ k_ => XS.iloadN X0.here hx rfl (hb hby at_18) rfl k_) ?_
  show own_Go p.tables e below _ (s₁.setTop (mkF m 19 #[.val (.int p0), .val (.long p1), .second, .val (.int p2), .val (.int p3), .val (.int pp), .val (.long tt), .second, .unset, .unset, .unset, .unset, .unset, .unset, .unset, .unset, .unset, .unset, .unset, .unset, .unset, .unset, .unset, .unset, .unset, .unset, .unset] [(.int p2)]))
  refine own_st (X0.ldcInt hx hown (mvT hZ (hw _ (List.mem_of_getElem? (i := 0) rfl))) (g := (mkF m 19 #[.val (.int p0), .val (.long p1), .second, .val (.int p2), .val (.int p3), .val (.int pp), .val (.long tt), .second, .unset, .unset, .unset, .unset, .unset, .unset, .unset, .unset, .unset, .unset, .unset, .unset, .unset, .unset, .unset, .unset, .unset, .unset, .unset] [(.int p2)])) rfl (hb hby at_19)) ?_
  show own_Go p.tables e below _ (s₁.setTop (mkF m 21 #[.val (.int p0), .val (.long p1), .second, .val (.int p2), .val (.int p3), .val (.int pp), .val (.long tt), .second, .unset, .unset, .unset, .unset, .unset, .unset, .unset, .unset, .unset, .unset, .unset, .unset, .unset, .unset, .unset, .unset, .unset, .unset, .unset] [(.int (2147483647 : Int32)), (.int p2)]))
  refine own_st (fun t_ k_ => XS.iand X0.here hx rfl (hb hby at_21) rfl k_) ?_
  show own_Go p.tables e below _ (s₁.setTop (mkF m 22 #[.val (.int p0), .val (.long p1), .second, .val (.int p2), .val (.int p3), .val (.int pp), .val (.long tt), .second, .unset, .unset, .unset, .unset, .unset, .unset, .unset, .unset, .unset, .unset, .unset, .unset, .unset, .unset, .unset, .unset, .unset, .unset, .unset] [(.int (p2 &&& (2147483647 : Int32)))]))
  refine own_st (fun t_ k_ => XS.bipush X0.here hx rfl (hb hby at_22) k_) ?_
  show own_Go p.tables e below _ (s₁.setTop (mkF m 24 #[.val (.int p0), .val (.long p1), .second, .val (.int p2), .val (.int p3), .val (.int pp), .val (.long tt), .second, .unset, .unset, .unset, .unset, .unset, .unset, .unset, .unset, .unset, .unset, .unset, .unset, .unset, .unset, .unset, .unset, .unset, .unset, .unset] [(.int (31 : Int32)), (.int (p2 &&& (2147483647 : Int32)))]))
  refine own_st (fun t_ k_ => iremM X0 hx rfl (hb hby at_24) rfl (by decide) k_) ?_
  show own_Go p.tables e below _ (s₁.setTop (mkF m 25 #[.val (.int p0), .val (.long p1), .second, .val (.int p2), .val (.int p3), .val (.int pp), .val (.long tt), .second, .unset, .unset, .unset, .unset, .unset, .unset, .unset, .unset, .unset, .unset, .unset, .unset, .unset, .unset, .unset, .unset, .unset, .unset, .unset] [(.int ((p2 &&& (2147483647 : Int32)) % (31 : Int32)))]))
  rw [show ((p2 &&& (2147483647 : Int32)) % (31 : Int32)) = kk from hkk.symm]
  show own_Go p.tables e below _ (s₁.setTop (mkF m 25 #[.val (.int p0), .val (.long p1), .second, .val (.int p2), .val (.int p3), .val (.int pp), .val (.long tt), .second, .unset, .unset, .unset, .unset, .unset, .unset, .unset, .unset, .unset, .unset, .unset, .unset, .unset, .unset, .unset, .unset, .unset, .unset, .unset] [(.int kk)]))
  refine own_st (fun t_ k_ => XS.istore X0.here hx rfl (hb hby at_25) rfl (l' := #[.val (.int p0), .val (.long p1), .second, .val (.int p2), .val (.int p3), .val (.int pp), .val (.long tt), .second, .val (.int kk), .unset, .unset, .unset, .unset, .unset, .unset, .unset, .unset, .unset, .unset, .unset, .unset, .unset, .unset, .unset, .unset, .unset, .unset]) rfl k_) ?_
  show own_Go p.tables e below _ (s₁.setTop (mkF m 27 #[.val (.int p0), .val (.long p1), .second, .val (.int p2), .val (.int p3), .val (.int pp), .val (.long tt), .second, .val (.int kk), .unset, .unset, .unset, .unset, .unset, .unset, .unset, .unset, .unset, .unset, .unset, .unset, .unset, .unset, .unset, .unset, .unset, .unset] []))
  refine own_st (fun t_ k_ => XS.iconst X0.here hx rfl (hb hby at_27) k_) ?_
  show own_Go p.tables e below _ (s₁.setTop (mkF m 28 #[.val (.int p0), .val (.long p1), .second, .val (.int p2), .val (.int p3), .val (.int pp), .val (.long tt), .second, .val (.int kk), .unset, .unset, .unset, .unset, .unset, .unset, .unset, .unset, .unset, .unset, .unset, .unset, .unset, .unset, .unset, .unset, .unset, .unset] [(.int (1 : Int32))]))
  refine own_st (fun t_ k_ => XS.iload X0.here hx rfl (hb hby at_28) rfl k_) ?_
  show own_Go p.tables e below _ (s₁.setTop (mkF m 30 #[.val (.int p0), .val (.long p1), .second, .val (.int p2), .val (.int p3), .val (.int pp), .val (.long tt), .second, .val (.int kk), .unset, .unset, .unset, .unset, .unset, .unset, .unset, .unset, .unset, .unset, .unset, .unset, .unset, .unset, .unset, .unset, .unset, .unset] [(.int kk), (.int (1 : Int32))]))
  refine own_st (fun t_ k_ => XS.ishl X0.here hx rfl (hb hby at_30) rfl k_) ?_
  show own_Go p.tables e below _ (s₁.setTop (mkF m 31 #[.val (.int p0), .val (.long p1), .second, .val (.int p2), .val (.int p3), .val (.int pp), .val (.long tt), .second, .val (.int kk), .unset, .unset, .unset, .unset, .unset, .unset, .unset, .unset, .unset, .unset, .unset, .unset, .unset, .unset, .unset, .unset, .unset, .unset] [(.int ((1 : Int32) <<< (kk &&& 31)))]))
  rw [show ((1 : Int32) <<< (kk &&& 31)) = pw from hpw.symm]
  show own_Go p.tables e below _ (s₁.setTop (mkF m 31 #[.val (.int p0), .val (.long p1), .second, .val (.int p2), .val (.int p3), .val (.int pp), .val (.long tt), .second, .val (.int kk), .unset, .unset, .unset, .unset, .unset, .unset, .unset, .unset, .unset, .unset, .unset, .unset, .unset, .unset, .unset, .unset, .unset, .unset] [(.int pw)]))
  refine own_st (fun t_ k_ => XS.istore X0.here hx rfl (hb hby at_31) rfl (l' := #[.val (.int p0), .val (.long p1), .second, .val (.int p2), .val (.int p3), .val (.int pp), .val (.long tt), .second, .val (.int kk), .val (.int pw), .unset, .unset, .unset, .unset, .unset, .unset, .unset, .unset, .unset, .unset, .unset, .unset, .unset, .unset, .unset, .unset, .unset]) rfl k_) ?_
  show own_Go p.tables e below _ (s₁.setTop (mkF m 33 #[.val (.int p0), .val (.long p1), .second, .val (.int p2), .val (.int p3), .val (.int pp), .val (.long tt), .second, .val (.int kk), .val (.int pw), .unset, .unset, .unset, .unset, .unset, .unset, .unset, .unset, .unset, .unset, .unset, .unset, .unset, .unset, .unset, .unset, .unset] []))
  refine own_st (fun t_ k_ => XS.lloadN X0.here hx rfl (hb hby at_33) rfl k_) ?_
  show own_Go p.tables e below _ (s₁.setTop (mkF m 34 #[.val (.int p0), .val (.long p1), .second, .val (.int p2), .val (.int p3), .val (.int pp), .val (.long tt), .second, .val (.int kk), .val (.int pw), .unset, .unset, .unset, .unset, .unset, .unset, .unset, .unset, .unset, .unset, .unset, .unset, .unset, .unset, .unset, .unset, .unset] [(.long p1)]))
  refine own_st (X0.ldc2Long hx hown (mvT hZ (hw _ (List.mem_of_getElem? (i := 2) rfl))) (g := (mkF m 34 #[.val (.int p0), .val (.long p1), .second, .val (.int p2), .val (.int p3), .val (.int pp), .val (.long tt), .second, .val (.int kk), .val (.int pw), .unset, .unset, .unset, .unset, .unset, .unset, .unset, .unset, .unset, .unset, .unset, .unset, .unset, .unset, .unset, .unset, .unset] [(.long p1)])) rfl (hb hby at_34)) ?_
  show own_Go p.tables e below _ (s₁.setTop (mkF m 37 #[.val (.int p0), .val (.long p1), .second, .val (.int p2), .val (.int p3), .val (.int pp), .val (.long tt), .second, .val (.int kk), .val (.int pw), .unset, .unset, .unset, .unset, .unset, .unset, .unset, .unset, .unset, .unset, .unset, .unset, .unset, .unset, .unset, .unset, .unset] [(.long (9007199254740991 : Int64)), (.long p1)]))
  refine own_st (fun t_ k_ => XS.land X0.here hx rfl (hb hby at_37) rfl k_) ?_
  show own_Go p.tables e below _ (s₁.setTop (mkF m 38 #[.val (.int p0), .val (.long p1), .second, .val (.int p2), .val (.int p3), .val (.int pp), .val (.long tt), .second, .val (.int kk), .val (.int pw), .unset, .unset, .unset, .unset, .unset, .unset, .unset, .unset, .unset, .unset, .unset, .unset, .unset, .unset, .unset, .unset, .unset] [(.long (p1 &&& (9007199254740991 : Int64)))]))
  rw [show (p1 &&& (9007199254740991 : Int64)) = t2 from ht2.symm]
  show own_Go p.tables e below _ (s₁.setTop (mkF m 38 #[.val (.int p0), .val (.long p1), .second, .val (.int p2), .val (.int p3), .val (.int pp), .val (.long tt), .second, .val (.int kk), .val (.int pw), .unset, .unset, .unset, .unset, .unset, .unset, .unset, .unset, .unset, .unset, .unset, .unset, .unset, .unset, .unset, .unset, .unset] [(.long t2)]))
  refine own_st (fun t_ k_ => XS.lstore X0.here hx rfl (hb hby at_38) rfl (l' := #[.val (.int p0), .val (.long p1), .second, .val (.int p2), .val (.int p3), .val (.int pp), .val (.long tt), .second, .val (.int kk), .val (.int pw), .val (.long t2), .second, .unset, .unset, .unset, .unset, .unset, .unset, .unset, .unset, .unset, .unset, .unset, .unset, .unset, .unset, .unset]) rfl k_) ?_
  show own_Go p.tables e below _ (s₁.setTop (mkF m 40 #[.val (.int p0), .val (.long p1), .second, .val (.int p2), .val (.int p3), .val (.int pp), .val (.long tt), .second, .val (.int kk), .val (.int pw), .val (.long t2), .second, .unset, .unset, .unset, .unset, .unset, .unset, .unset, .unset, .unset, .unset, .unset, .unset, .unset, .unset, .unset] []))
  refine own_st (fun t_ k_ => XS.iload X0.here hx rfl (hb hby at_40) rfl k_) ?_
  show own_Go p.tables e below _ (s₁.setTop (mkF m 42 #[.val (.int p0), .val (.long p1), .second, .val (.int p2), .val (.int p3), .val (.int pp), .val (.long tt), .second, .val (.int kk), .val (.int pw), .val (.long t2), .second, .unset, .unset, .unset, .unset, .unset, .unset, .unset, .unset, .unset, .unset, .unset, .unset, .unset, .unset, .unset] [(.int p3)]))
  refine own_st (X0.ldcInt hx hown (mvT hZ (hw _ (List.mem_of_getElem? (i := 3) rfl))) (g := (mkF m 42 #[.val (.int p0), .val (.long p1), .second, .val (.int p2), .val (.int p3), .val (.int pp), .val (.long tt), .second, .val (.int kk), .val (.int pw), .val (.long t2), .second, .unset, .unset, .unset, .unset, .unset, .unset, .unset, .unset, .unset, .unset, .unset, .unset, .unset, .unset, .unset] [(.int p3)])) rfl (hb hby at_42)) ?_
  show own_Go p.tables e below _ (s₁.setTop (mkF m 44 #[.val (.int p0), .val (.long p1), .second, .val (.int p2), .val (.int p3), .val (.int pp), .val (.long tt), .second, .val (.int kk), .val (.int pw), .val (.long t2), .second, .unset, .unset, .unset, .unset, .unset, .unset, .unset, .unset, .unset, .unset, .unset, .unset, .unset, .unset, .unset] [(.int (4194303 : Int32)), (.int p3)]))
  refine own_st (fun t_ k_ => XS.iand X0.here hx rfl (hb hby at_44) rfl k_) ?_
  show own_Go p.tables e below _ (s₁.setTop (mkF m 45 #[.val (.int p0), .val (.long p1), .second, .val (.int p2), .val (.int p3), .val (.int pp), .val (.long tt), .second, .val (.int kk), .val (.int pw), .val (.long t2), .second, .unset, .unset, .unset, .unset, .unset, .unset, .unset, .unset, .unset, .unset, .unset, .unset, .unset, .unset, .unset] [(.int (p3 &&& (4194303 : Int32)))]))
  refine own_st (fun t_ k_ => XS.i2l X0.here hx rfl (hb hby at_45) rfl k_) ?_
  show own_Go p.tables e below _ (s₁.setTop (mkF m 46 #[.val (.int p0), .val (.long p1), .second, .val (.int p2), .val (.int p3), .val (.int pp), .val (.long tt), .second, .val (.int kk), .val (.int pw), .val (.long t2), .second, .unset, .unset, .unset, .unset, .unset, .unset, .unset, .unset, .unset, .unset, .unset, .unset, .unset, .unset, .unset] [(.long ((p3 &&& (4194303 : Int32)).toInt64))]))
  rw [show ((p3 &&& (4194303 : Int32)).toInt64) = q3 from hq3.symm]
  show own_Go p.tables e below _ (s₁.setTop (mkF m 46 #[.val (.int p0), .val (.long p1), .second, .val (.int p2), .val (.int p3), .val (.int pp), .val (.long tt), .second, .val (.int kk), .val (.int pw), .val (.long t2), .second, .unset, .unset, .unset, .unset, .unset, .unset, .unset, .unset, .unset, .unset, .unset, .unset, .unset, .unset, .unset] [(.long q3)]))
  refine own_st (fun t_ k_ => XS.lstore X0.here hx rfl (hb hby at_46) rfl (l' := #[.val (.int p0), .val (.long p1), .second, .val (.int p2), .val (.int p3), .val (.int pp), .val (.long tt), .second, .val (.int kk), .val (.int pw), .val (.long t2), .second, .val (.long q3), .second, .unset, .unset, .unset, .unset, .unset, .unset, .unset, .unset, .unset, .unset, .unset, .unset, .unset]) rfl k_) ?_
  show own_Go p.tables e below _ (s₁.setTop (mkF m 48 #[.val (.int p0), .val (.long p1), .second, .val (.int p2), .val (.int p3), .val (.int pp), .val (.long tt), .second, .val (.int kk), .val (.int pw), .val (.long t2), .second, .val (.long q3), .second, .unset, .unset, .unset, .unset, .unset, .unset, .unset, .unset, .unset, .unset, .unset, .unset, .unset] []))
  obtain ⟨T106, h106, X106, e106, E106, A106, D106, -, st106⟩ := newO X0 hx hZ hown (hw _ (List.mem_of_getElem? (i := 4) rfl)) (hw _ (List.mem_of_getElem? (i := 5) rfl)) (hw _ (List.mem_of_getElem? (i := 6) rfl)) e0 (g := (mkF m 48 #[.val (.int p0), .val (.long p1), .second, .val (.int p2), .val (.int p3), .val (.int pp), .val (.long tt), .second, .val (.int kk), .val (.int pw), .val (.long t2), .second, .val (.long q3), .second, .unset, .unset, .unset, .unset, .unset, .unset, .unset, .unset, .unset, .unset, .unset, .unset, .unset] [])) rfl (hb hby at_48) (by decide) (by decide)
  obtain ⟨b106, g106⟩ : ∃ z, z = h0.size := ⟨_, rfl⟩
  rw [← g106] at A106 D106 st106
  have fr106 : h0.size ≤ b106 := Nat.le_trans (Keep.refl h0 []).1 (Nat.le_of_eq g106.symm)
  have ge106 : n0 ≤ b106 := Nat.le_trans Z0 fr106
  have K106 : Keep h0 h106 [] := (Keep.refl h0 []).ext E106
  have F106_14 : Fld Z h106 b106 "com/example/freshness/freshness/engine/Statistics" "posts" "I" (.int (0 : Int32)) := D106 (Or.inr (hw _ (List.mem_of_getElem? (i := 14) rfl))) (ty := .int) (by decide)
  have F106_16 : Fld Z h106 b106 "com/example/freshness/freshness/engine/Statistics" "totalLength" "J" (.long (0 : Int64)) := D106 (Or.inr (hw _ (List.mem_of_getElem? (i := 16) rfl))) (ty := .long) (by decide)
  refine own_st (st106) ?_
  show own_Go p.tables e below _ (T106.setTop (mkF m 51 #[.val (.int p0), .val (.long p1), .second, .val (.int p2), .val (.int p3), .val (.int pp), .val (.long tt), .second, .val (.int kk), .val (.int pw), .val (.long t2), .second, .val (.long q3), .second, .unset, .unset, .unset, .unset, .unset, .unset, .unset, .unset, .unset, .unset, .unset, .unset, .unset] [(.ref b106)]))
  refine own_st (fun t_ k_ => XS.dup X106.here hx rfl (hb hby at_51) rfl rfl k_) ?_
  show own_Go p.tables e below _ (T106.setTop (mkF m 52 #[.val (.int p0), .val (.long p1), .second, .val (.int p2), .val (.int p3), .val (.int pp), .val (.long tt), .second, .val (.int kk), .val (.int pw), .val (.long t2), .second, .val (.long q3), .second, .unset, .unset, .unset, .unset, .unset, .unset, .unset, .unset, .unset, .unset, .unset, .unset, .unset] [(.ref b106), (.ref b106)]))
  refine own_st (fun t_ k_ => XS.iload X106.here hx rfl (hb hby at_52) rfl k_) ?_
  show own_Go p.tables e below _ (T106.setTop (mkF m 54 #[.val (.int p0), .val (.long p1), .second, .val (.int p2), .val (.int p3), .val (.int pp), .val (.long tt), .second, .val (.int kk), .val (.int pw), .val (.long t2), .second, .val (.long q3), .second, .unset, .unset, .unset, .unset, .unset, .unset, .unset, .unset, .unset, .unset, .unset, .unset, .unset] [(.int pp), (.ref b106), (.ref b106)]))
  refine own_st (fun t_ k_ => XS.lload X106.here hx rfl (hb hby at_54) rfl k_) ?_
  show own_Go p.tables e below _ (T106.setTop (mkF m 56 #[.val (.int p0), .val (.long p1), .second, .val (.int p2), .val (.int p3), .val (.int pp), .val (.long tt), .second, .val (.int kk), .val (.int pw), .val (.long t2), .second, .val (.long q3), .second, .unset, .unset, .unset, .unset, .unset, .unset, .unset, .unset, .unset, .unset, .unset, .unset, .unset] [(.long tt), (.int pp), (.ref b106), (.ref b106)]))
  obtain ⟨_, _, ⟨T107, L107, k107, n107⟩, -, X107, ⟨Lc107, hQ107, l107, y107, z107⟩, st107⟩ := X106.specialBack hx (y := (⟨"com/example/freshness/freshness/engine/Statistics", "<init>", "(IJ)V"⟩ : MethodName)) rfl hown (mvT hZ (hw _ (List.mem_of_getElem? (i := 7) rfl))) (mvT hZ (hw _ (List.mem_of_getElem? (i := 8) rfl))) (mvT hZ (hw _ (List.mem_of_getElem? (i := 9) rfl))) (by decide) (backOf (W := 1) (own_rm1 l Z a0 hw [] b106 pp tt h106 n0 (Nat.le_trans Z0 K106.1) A106 F106_14 F106_16 ge106 (own_ige (by omega)) (own_lge (by omega))) hZ (hw _ (List.mem_of_getElem? (i := 9) rfl)) (hw _ (List.mem_of_getElem? (i := 6) rfl)) (by decide) (by decide)) (g := (mkF m 56 #[.val (.int p0), .val (.long p1), .second, .val (.int p2), .val (.int p3), .val (.int pp), .val (.long tt), .second, .val (.int kk), .val (.int pw), .val (.long t2), .second, .val (.long q3), .second, .unset, .unset, .unset, .unset, .unset, .unset, .unset, .unset, .unset, .unset, .unset, .unset, .unset] [(.long tt), (.int pp), (.ref b106), (.ref b106)])) rfl (by rw [hml]; rfl) (Steps.refl _) (a := b106) (argsL := [(.int pp), (.long tt)]) (rest := [(.ref b106)]) (lenOf own_pd0 rfl) rfl (by show 2 * 0 + _ ≤ _; exact Nat.le_of_eq rfl) (hb hby at_56) (fun _ _ => ⟨rfl, e106, (by decide : 1 + 0 ≤ _), (by decide : 2 + 0 ≤ _)⟩)
  dsimp only [Pt.U, Pt.locs, Pt.cells, Pt.slots] at X107 l107 y107 z107 st107 hQ107
  subst l107 y107 z107
  obtain ⟨rfl, N107q, Kq107, P107_0, P107_1⟩ := hQ107
  have N107 := Fr.app N0 N107q
  have K107 : Keep h0 T107.heap [] := K106.trans Kq107 (allS (P := fun x => x ∈ [] ∨ h0.size ≤ x) (Or.inr fr106) all0)
  refine own_tr st107 ?_
  show own_Go p.tables e below _ (T107.setTop (mkF m 59 #[.val (.int p0), .val (.long p1), .second, .val (.int p2), .val (.int p3), .val (.int pp), .val (.long tt), .second, .val (.int kk), .val (.int pw), .val (.long t2), .second, .val (.long q3), .second, .unset, .unset, .unset, .unset, .unset, .unset, .unset, .unset, .unset, .unset, .unset, .unset, .unset] [(.ref b106)]))
  refine own_st (fun t_ k_ => XS.astore X107.here hx rfl (hb hby at_59) rfl rfl (l' := #[.val (.int p0), .val (.long p1), .second, .val (.int p2), .val (.int p3), .val (.int pp), .val (.long tt), .second, .val (.int kk), .val (.int pw), .val (.long t2), .second, .val (.long q3), .second, .val (.ref b106), .unset, .unset, .unset, .unset, .unset, .unset, .unset, .unset, .unset, .unset, .unset, .unset]) rfl k_) ?_
  show own_Go p.tables e below _ (T107.setTop (mkF m 61 #[.val (.int p0), .val (.long p1), .second, .val (.int p2), .val (.int p3), .val (.int pp), .val (.long tt), .second, .val (.int kk), .val (.int pw), .val (.long t2), .second, .val (.long q3), .second, .val (.ref b106), .unset, .unset, .unset, .unset, .unset, .unset, .unset, .unset, .unset, .unset, .unset, .unset] []))
  obtain ⟨T108, h108, X108, e108, E108, A108, D108, -, st108⟩ := newO X107 hx hZ hown (hw _ (List.mem_of_getElem? (i := 4) rfl)) (hw _ (List.mem_of_getElem? (i := 5) rfl)) (hw _ (List.mem_of_getElem? (i := 6) rfl)) rfl (g := (mkF m 61 #[.val (.int p0), .val (.long p1), .second, .val (.int p2), .val (.int p3), .val (.int pp), .val (.long tt), .second, .val (.int kk), .val (.int pw), .val (.long t2), .second, .val (.long q3), .second, .val (.ref b106), .unset, .unset, .unset, .unset, .unset, .unset, .unset, .unset, .unset, .unset, .unset, .unset] [])) rfl (hb hby at_61) (by decide) (by decide)
  obtain ⟨b108, g108⟩ : ∃ z, z = T107.heap.size := ⟨_, rfl⟩
  rw [← g108] at A108 D108 st108
  have fr108 : h0.size ≤ b108 := Nat.le_trans K107.1 (Nat.le_of_eq g108.symm)
  have ge108 : n0 ≤ b108 := Nat.le_trans Z0 fr108
  have K108 : Keep h0 h108 [] := K107.ext E108
  have F108_14 : Fld Z h108 b108 "com/example/freshness/freshness/engine/Statistics" "posts" "I" (.int (0 : Int32)) := D108 (Or.inr (hw _ (List.mem_of_getElem? (i := 14) rfl))) (ty := .int) (by decide)
  have F108_16 : Fld Z h108 b108 "com/example/freshness/freshness/engine/Statistics" "totalLength" "J" (.long (0 : Int64)) := D108 (Or.inr (hw _ (List.mem_of_getElem? (i := 16) rfl))) (ty := .long) (by decide)
  refine own_st (st108) ?_
  show own_Go p.tables e below _ (T108.setTop (mkF m 64 #[.val (.int p0), .val (.long p1), .second, .val (.int p2), .val (.int p3), .val (.int pp), .val (.long tt), .second, .val (.int kk), .val (.int pw), .val (.long t2), .second, .val (.long q3), .second, .val (.ref b106), .unset, .unset, .unset, .unset, .unset, .unset, .unset, .unset, .unset, .unset, .unset, .unset] [(.ref b108)]))
  refine own_st (fun t_ k_ => XS.dup X108.here hx rfl (hb hby at_64) rfl rfl k_) ?_
  show own_Go p.tables e below _ (T108.setTop (mkF m 65 #[.val (.int p0), .val (.long p1), .second, .val (.int p2), .val (.int p3), .val (.int pp), .val (.long tt), .second, .val (.int kk), .val (.int pw), .val (.long t2), .second, .val (.long q3), .second, .val (.ref b106), .unset, .unset, .unset, .unset, .unset, .unset, .unset, .unset, .unset, .unset, .unset, .unset] [(.ref b108), (.ref b108)]))
  refine own_st (fun t_ k_ => XS.iload X108.here hx rfl (hb hby at_65) rfl k_) ?_
  show own_Go p.tables e below _ (T108.setTop (mkF m 67 #[.val (.int p0), .val (.long p1), .second, .val (.int p2), .val (.int p3), .val (.int pp), .val (.long tt), .second, .val (.int kk), .val (.int pw), .val (.long t2), .second, .val (.long q3), .second, .val (.ref b106), .unset, .unset, .unset, .unset, .unset, .unset, .unset, .unset, .unset, .unset, .unset, .unset] [(.int pw), (.ref b108), (.ref b108)]))
  refine own_st (fun t_ k_ => XS.lload X108.here hx rfl (hb hby at_67) rfl k_) ?_
  show own_Go p.tables e below _ (T108.setTop (mkF m 69 #[.val (.int p0), .val (.long p1), .second, .val (.int p2), .val (.int p3), .val (.int pp), .val (.long tt), .second, .val (.int kk), .val (.int pw), .val (.long t2), .second, .val (.long q3), .second, .val (.ref b106), .unset, .unset, .unset, .unset, .unset, .unset, .unset, .unset, .unset, .unset, .unset, .unset] [(.long t2), (.int pw), (.ref b108), (.ref b108)]))
  obtain ⟨_, _, ⟨T109, L109, k109, n109⟩, -, X109, ⟨Lc109, hQ109, l109, y109, z109⟩, st109⟩ := X108.specialBack hx (y := (⟨"com/example/freshness/freshness/engine/Statistics", "<init>", "(IJ)V"⟩ : MethodName)) rfl hown (mvT hZ (hw _ (List.mem_of_getElem? (i := 7) rfl))) (mvT hZ (hw _ (List.mem_of_getElem? (i := 8) rfl))) (mvT hZ (hw _ (List.mem_of_getElem? (i := 9) rfl))) (by decide) (backOf (W := 1) (own_rm1 l Z a0 hw [] b108 pw t2 h108 n0 (Nat.le_trans Z0 K108.1) A108 F108_14 F108_16 ge108 (own_ige (by omega)) (own_lge (by omega))) hZ (hw _ (List.mem_of_getElem? (i := 9) rfl)) (hw _ (List.mem_of_getElem? (i := 6) rfl)) (by decide) (by decide)) (g := (mkF m 69 #[.val (.int p0), .val (.long p1), .second, .val (.int p2), .val (.int p3), .val (.int pp), .val (.long tt), .second, .val (.int kk), .val (.int pw), .val (.long t2), .second, .val (.long q3), .second, .val (.ref b106), .unset, .unset, .unset, .unset, .unset, .unset, .unset, .unset, .unset, .unset, .unset, .unset] [(.long t2), (.int pw), (.ref b108), (.ref b108)])) rfl (by rw [hml]; rfl) (Steps.refl _) (a := b108) (argsL := [(.int pw), (.long t2)]) (rest := [(.ref b108)]) (lenOf own_pd0 rfl) rfl (by show 2 * 0 + _ ≤ _; exact Nat.le_of_eq rfl) (hb hby at_69) (fun _ _ => ⟨rfl, e108, (by decide : 2 + 0 ≤ _), (by decide : 4 + 0 ≤ _)⟩)
  dsimp only [Pt.U, Pt.locs, Pt.cells, Pt.slots] at X109 l109 y109 z109 st109 hQ109
  subst l109 y109 z109
  obtain ⟨rfl, N109q, Kq109, P109_0, P109_1⟩ := hQ109
  have N109 := Fr.app N107 N109q
  have K109 : Keep h0 T109.heap [] := K108.trans Kq109 (allS (P := fun x => x ∈ [] ∨ h0.size ≤ x) (Or.inr fr108) all0)
  refine own_tr st109 ?_
  show own_Go p.tables e below _ (T109.setTop (mkF m 72 #[.val (.int p0), .val (.long p1), .second, .val (.int p2), .val (.int p3), .val (.int pp), .val (.long tt), .second, .val (.int kk), .val (.int pw), .val (.long t2), .second, .val (.long q3), .second, .val (.ref b106), .unset, .unset, .unset, .unset, .unset, .unset, .unset, .unset, .unset, .unset, .unset, .unset] [(.ref b108)]))
  refine own_st (fun t_ k_ => XS.astore X109.here hx rfl (hb hby at_72) rfl rfl (l' := #[.val (.int p0), .val (.long p1), .second, .val (.int p2), .val (.int p3), .val (.int pp), .val (.long tt), .second, .val (.int kk), .val (.int pw), .val (.long t2), .second, .val (.long q3), .second, .val (.ref b106), .val (.ref b108), .unset, .unset, .unset, .unset, .unset, .unset, .unset, .unset, .unset, .unset, .unset]) rfl k_) ?_
  show own_Go p.tables e below _ (T109.setTop (mkF m 74 #[.val (.int p0), .val (.long p1), .second, .val (.int p2), .val (.int p3), .val (.int pp), .val (.long tt), .second, .val (.int kk), .val (.int pw), .val (.long t2), .second, .val (.long q3), .second, .val (.ref b106), .val (.ref b108), .unset, .unset, .unset, .unset, .unset, .unset, .unset, .unset, .unset, .unset, .unset] []))
  obtain ⟨T110, h110, X110, e110, E110, A110, D110, -, st110⟩ := newO X109 hx hZ hown (hw _ (List.mem_of_getElem? (i := 4) rfl)) (hw _ (List.mem_of_getElem? (i := 5) rfl)) (hw _ (List.mem_of_getElem? (i := 6) rfl)) rfl (g := (mkF m 74 #[.val (.int p0), .val (.long p1), .second, .val (.int p2), .val (.int p3), .val (.int pp), .val (.long tt), .second, .val (.int kk), .val (.int pw), .val (.long t2), .second, .val (.long q3), .second, .val (.ref b106), .val (.ref b108), .unset, .unset, .unset, .unset, .unset, .unset, .unset, .unset, .unset, .unset, .unset] [])) rfl (hb hby at_74) (by decide) (by decide)
  obtain ⟨b110, g110⟩ : ∃ z, z = T109.heap.size := ⟨_, rfl⟩
  rw [← g110] at A110 D110 st110
  have fr110 : h0.size ≤ b110 := Nat.le_trans K109.1 (Nat.le_of_eq g110.symm)
  have ge110 : n0 ≤ b110 := Nat.le_trans Z0 fr110
  have K110 : Keep h0 h110 [] := K109.ext E110
  have F110_14 : Fld Z h110 b110 "com/example/freshness/freshness/engine/Statistics" "posts" "I" (.int (0 : Int32)) := D110 (Or.inr (hw _ (List.mem_of_getElem? (i := 14) rfl))) (ty := .int) (by decide)
  have F110_16 : Fld Z h110 b110 "com/example/freshness/freshness/engine/Statistics" "totalLength" "J" (.long (0 : Int64)) := D110 (Or.inr (hw _ (List.mem_of_getElem? (i := 16) rfl))) (ty := .long) (by decide)
  refine own_st (st110) ?_
  show own_Go p.tables e below _ (T110.setTop (mkF m 77 #[.val (.int p0), .val (.long p1), .second, .val (.int p2), .val (.int p3), .val (.int pp), .val (.long tt), .second, .val (.int kk), .val (.int pw), .val (.long t2), .second, .val (.long q3), .second, .val (.ref b106), .val (.ref b108), .unset, .unset, .unset, .unset, .unset, .unset, .unset, .unset, .unset, .unset, .unset] [(.ref b110)]))
  refine own_st (fun t_ k_ => XS.dup X110.here hx rfl (hb hby at_77) rfl rfl k_) ?_
  show own_Go p.tables e below _ (T110.setTop (mkF m 78 #[.val (.int p0), .val (.long p1), .second, .val (.int p2), .val (.int p3), .val (.int pp), .val (.long tt), .second, .val (.int kk), .val (.int pw), .val (.long t2), .second, .val (.long q3), .second, .val (.ref b106), .val (.ref b108), .unset, .unset, .unset, .unset, .unset, .unset, .unset, .unset, .unset, .unset, .unset] [(.ref b110), (.ref b110)]))
  refine own_st (fun t_ k_ => XS.iload X110.here hx rfl (hb hby at_78) rfl k_) ?_
  show own_Go p.tables e below _ (T110.setTop (mkF m 80 #[.val (.int p0), .val (.long p1), .second, .val (.int p2), .val (.int p3), .val (.int pp), .val (.long tt), .second, .val (.int kk), .val (.int pw), .val (.long t2), .second, .val (.long q3), .second, .val (.ref b106), .val (.ref b108), .unset, .unset, .unset, .unset, .unset, .unset, .unset, .unset, .unset, .unset, .unset] [(.int pp), (.ref b110), (.ref b110)]))
  refine own_st (fun t_ k_ => XS.iload X110.here hx rfl (hb hby at_80) rfl k_) ?_
  show own_Go p.tables e below _ (T110.setTop (mkF m 82 #[.val (.int p0), .val (.long p1), .second, .val (.int p2), .val (.int p3), .val (.int pp), .val (.long tt), .second, .val (.int kk), .val (.int pw), .val (.long t2), .second, .val (.long q3), .second, .val (.ref b106), .val (.ref b108), .unset, .unset, .unset, .unset, .unset, .unset, .unset, .unset, .unset, .unset, .unset] [(.int pp), (.int pp), (.ref b110), (.ref b110)]))
  refine own_st (fun t_ k_ => XS.i2l X110.here hx rfl (hb hby at_82) rfl k_) ?_
  show own_Go p.tables e below _ (T110.setTop (mkF m 83 #[.val (.int p0), .val (.long p1), .second, .val (.int p2), .val (.int p3), .val (.int pp), .val (.long tt), .second, .val (.int kk), .val (.int pw), .val (.long t2), .second, .val (.long q3), .second, .val (.ref b106), .val (.ref b108), .unset, .unset, .unset, .unset, .unset, .unset, .unset, .unset, .unset, .unset, .unset] [(.long (pp.toInt64)), (.int pp), (.ref b110), (.ref b110)]))
  refine own_st (fun t_ k_ => XS.lload X110.here hx rfl (hb hby at_83) rfl k_) ?_
  show own_Go p.tables e below _ (T110.setTop (mkF m 85 #[.val (.int p0), .val (.long p1), .second, .val (.int p2), .val (.int p3), .val (.int pp), .val (.long tt), .second, .val (.int kk), .val (.int pw), .val (.long t2), .second, .val (.long q3), .second, .val (.ref b106), .val (.ref b108), .unset, .unset, .unset, .unset, .unset, .unset, .unset, .unset, .unset, .unset, .unset] [(.long q3), (.long (pp.toInt64)), (.int pp), (.ref b110), (.ref b110)]))
  refine own_st (fun t_ k_ => XS.lmul X110.here hx rfl (hb hby at_85) rfl k_) ?_
  show own_Go p.tables e below _ (T110.setTop (mkF m 86 #[.val (.int p0), .val (.long p1), .second, .val (.int p2), .val (.int p3), .val (.int pp), .val (.long tt), .second, .val (.int kk), .val (.int pw), .val (.long t2), .second, .val (.long q3), .second, .val (.ref b106), .val (.ref b108), .unset, .unset, .unset, .unset, .unset, .unset, .unset, .unset, .unset, .unset, .unset] [(.long ((pp.toInt64) * q3)), (.int pp), (.ref b110), (.ref b110)]))
  obtain ⟨_, _, ⟨T111, L111, k111, n111⟩, -, X111, ⟨Lc111, hQ111, l111, y111, z111⟩, st111⟩ := X110.specialBack hx (y := (⟨"com/example/freshness/freshness/engine/Statistics", "<init>", "(IJ)V"⟩ : MethodName)) rfl hown (mvT hZ (hw _ (List.mem_of_getElem? (i := 7) rfl))) (mvT hZ (hw _ (List.mem_of_getElem? (i := 8) rfl))) (mvT hZ (hw _ (List.mem_of_getElem? (i := 9) rfl))) (by decide) (backOf (W := 1) (own_rm1 l Z a0 hw [] b110 pp ((pp.toInt64) * q3) h110 n0 (Nat.le_trans Z0 K110.1) A110 F110_14 F110_16 ge110 (own_ige (by omega)) (own_lge (by omega))) hZ (hw _ (List.mem_of_getElem? (i := 9) rfl)) (hw _ (List.mem_of_getElem? (i := 6) rfl)) (by decide) (by decide)) (g := (mkF m 86 #[.val (.int p0), .val (.long p1), .second, .val (.int p2), .val (.int p3), .val (.int pp), .val (.long tt), .second, .val (.int kk), .val (.int pw), .val (.long t2), .second, .val (.long q3), .second, .val (.ref b106), .val (.ref b108), .unset, .unset, .unset, .unset, .unset, .unset, .unset, .unset, .unset, .unset, .unset] [(.long ((pp.toInt64) * q3)), (.int pp), (.ref b110), (.ref b110)])) rfl (by rw [hml]; rfl) (Steps.refl _) (a := b110) (argsL := [(.int pp), (.long ((pp.toInt64) * q3))]) (rest := [(.ref b110)]) (lenOf own_pd0 rfl) rfl (by show 2 * 0 + _ ≤ _; exact Nat.le_of_eq rfl) (hb hby at_86) (fun _ _ => ⟨rfl, e110, (by decide : 3 + 0 ≤ _), (by decide : 6 + 0 ≤ _)⟩)
  dsimp only [Pt.U, Pt.locs, Pt.cells, Pt.slots] at X111 l111 y111 z111 st111 hQ111
  subst l111 y111 z111
  obtain ⟨rfl, N111q, Kq111, P111_0, P111_1⟩ := hQ111
  have N111 := Fr.app N109 N111q
  have K111 : Keep h0 T111.heap [] := K110.trans Kq111 (allS (P := fun x => x ∈ [] ∨ h0.size ≤ x) (Or.inr fr110) all0)
  refine own_tr st111 ?_
  show own_Go p.tables e below _ (T111.setTop (mkF m 89 #[.val (.int p0), .val (.long p1), .second, .val (.int p2), .val (.int p3), .val (.int pp), .val (.long tt), .second, .val (.int kk), .val (.int pw), .val (.long t2), .second, .val (.long q3), .second, .val (.ref b106), .val (.ref b108), .unset, .unset, .unset, .unset, .unset, .unset, .unset, .unset, .unset, .unset, .unset] [(.ref b110)]))
  refine own_st (fun t_ k_ => XS.astore X111.here hx rfl (hb hby at_89) rfl rfl (l' := #[.val (.int p0), .val (.long p1), .second, .val (.int p2), .val (.int p3), .val (.int pp), .val (.long tt), .second, .val (.int kk), .val (.int pw), .val (.long t2), .second, .val (.long q3), .second, .val (.ref b106), .val (.ref b108), .val (.ref b110), .unset, .unset, .unset, .unset, .unset, .unset, .unset, .unset, .unset, .unset]) rfl k_) ?_
  show own_Go p.tables e below _ (T111.setTop (mkF m 91 #[.val (.int p0), .val (.long p1), .second, .val (.int p2), .val (.int p3), .val (.int pp), .val (.long tt), .second, .val (.int kk), .val (.int pw), .val (.long t2), .second, .val (.long q3), .second, .val (.ref b106), .val (.ref b108), .val (.ref b110), .unset, .unset, .unset, .unset, .unset, .unset, .unset, .unset, .unset, .unset] []))
  refine own_st (fun t_ k_ => XS.aload X111.here hx rfl (hb hby at_91) rfl rfl k_) ?_
  show own_Go p.tables e below _ (T111.setTop (mkF m 93 #[.val (.int p0), .val (.long p1), .second, .val (.int p2), .val (.int p3), .val (.int pp), .val (.long tt), .second, .val (.int kk), .val (.int pw), .val (.long t2), .second, .val (.long q3), .second, .val (.ref b106), .val (.ref b108), .val (.ref b110), .unset, .unset, .unset, .unset, .unset, .unset, .unset, .unset, .unset, .unset] [(.ref b106)]))
  obtain ⟨cq112, kq112, q112a, q112b, q112c⟩ := isOf hZ rfl (((((A106.keep Kq107).ext E108).keep Kq109).ext E110).keep Kq111)
  obtain ⟨_, _, ⟨T112, L112, k112, n112⟩, -, X112, ⟨Lc112, hQ112, l112, y112, z112⟩, st112⟩ := X111.virtualBack hx (y := (⟨"com/example/freshness/freshness/engine/Statistics", "getAverageLength", "()D"⟩ : MethodName)) (z := (⟨"com/example/freshness/freshness/engine/Statistics", "getAverageLength", "()D"⟩ : MethodName)) hown (mvT hZ (hw _ (List.mem_of_getElem? (i := 17) rfl))) (mvT hZ (hw _ (List.mem_of_getElem? (i := 18) rfl))) (notFace_of_selects (args := #[]) (mvT hZ (hw _ (List.mem_of_getElem? (i := 20) rfl)))) (mvT hZ (hw _ (List.mem_of_getElem? (i := 20) rfl))) (mvT hZ (hw _ (List.mem_of_getElem? (i := 19) rfl))) (by decide) (backOf (W := 0) (own_rm3 l Z a0 hw [] b106 pp tt T111.heap n0 (Nat.le_trans Z0 K111.1) ((((P107_0.ext E108).keep Kq109 (ninS (Nat.ne_of_lt (Nat.lt_of_lt_of_le (A106.keep Kq107).lt (Nat.le_of_eq g108.symm))) nin0)).ext E110).keep Kq111 (ninS (Nat.ne_of_lt (Nat.lt_of_lt_of_le (((A106.keep Kq107).ext E108).keep Kq109).lt (Nat.le_of_eq g110.symm))) nin0)) ((((P107_1.ext E108).keep Kq109 (ninS (Nat.ne_of_lt (Nat.lt_of_lt_of_le (A106.keep Kq107).lt (Nat.le_of_eq g108.symm))) nin0)).ext E110).keep Kq111 (ninS (Nat.ne_of_lt (Nat.lt_of_lt_of_le (((A106.keep Kq107).ext E108).keep Kq109).lt (Nat.le_of_eq g110.symm))) nin0)) npp) hZ (hw _ (List.mem_of_getElem? (i := 21) rfl)) (hw _ (List.mem_of_getElem? (i := 6) rfl)) (by decide) (by decide)) q112a q112c (g := (mkF m 93 #[.val (.int p0), .val (.long p1), .second, .val (.int p2), .val (.int p3), .val (.int pp), .val (.long tt), .second, .val (.int kk), .val (.int pw), .val (.long t2), .second, .val (.long q3), .second, .val (.ref b106), .val (.ref b108), .val (.ref b110), .unset, .unset, .unset, .unset, .unset, .unset, .unset, .unset, .unset, .unset] [(.ref b106)])) rfl (by rw [hml]; rfl) (Steps.refl _) (argsL := []) (rest := []) (lenOf own_pd1 rfl) rfl (by show 2 * 0 + _ ≤ _; exact Nat.le_of_eq rfl) (hb hby at_93) (fun _ _ => ⟨rfl, rfl, (by decide : 3 + 0 ≤ _), (by decide : 6 + 0 ≤ _)⟩)
  dsimp only [Pt.U, Pt.locs, Pt.cells, Pt.slots] at X112 l112 y112 z112 st112 hQ112
  subst l112 y112 z112
  obtain ⟨rfl, N112q, eq112⟩ := hQ112
  have N112 := Fr.app N111 N112q
  refine own_tr st112 ?_
  show own_Go p.tables e below _ (T112.setTop (mkF m 96 #[.val (.int p0), .val (.long p1), .second, .val (.int p2), .val (.int p3), .val (.int pp), .val (.long tt), .second, .val (.int kk), .val (.int pw), .val (.long t2), .second, .val (.long q3), .second, .val (.ref b106), .val (.ref b108), .val (.ref b110), .unset, .unset, .unset, .unset, .unset, .unset, .unset, .unset, .unset, .unset] [(.double (own_avg pp tt))]))
  refine own_st (fun t_ k_ => XS.dstore X112.here hx rfl (hb hby at_96) rfl (l' := #[.val (.int p0), .val (.long p1), .second, .val (.int p2), .val (.int p3), .val (.int pp), .val (.long tt), .second, .val (.int kk), .val (.int pw), .val (.long t2), .second, .val (.long q3), .second, .val (.ref b106), .val (.ref b108), .val (.ref b110), .val (.double (own_avg pp tt)), .second, .unset, .unset, .unset, .unset, .unset, .unset, .unset, .unset]) rfl k_) ?_
  show own_Go p.tables e below _ (T112.setTop (mkF m 98 #[.val (.int p0), .val (.long p1), .second, .val (.int p2), .val (.int p3), .val (.int pp), .val (.long tt), .second, .val (.int kk), .val (.int pw), .val (.long t2), .second, .val (.long q3), .second, .val (.ref b106), .val (.ref b108), .val (.ref b110), .val (.double (own_avg pp tt)), .second, .unset, .unset, .unset, .unset, .unset, .unset, .unset, .unset] []))
  refine own_st (fun t_ k_ => XS.aload X112.here hx rfl (hb hby at_98) rfl rfl k_) ?_
  show own_Go p.tables e below _ (T112.setTop (mkF m 100 #[.val (.int p0), .val (.long p1), .second, .val (.int p2), .val (.int p3), .val (.int pp), .val (.long tt), .second, .val (.int kk), .val (.int pw), .val (.long t2), .second, .val (.long q3), .second, .val (.ref b106), .val (.ref b108), .val (.ref b110), .val (.double (own_avg pp tt)), .second, .unset, .unset, .unset, .unset, .unset, .unset, .unset, .unset] [(.ref b108)]))
  obtain ⟨cq113, kq113, q113a, q113b, q113c⟩ := isOf hZ eq112 (((A108.keep Kq109).ext E110).keep Kq111)
  obtain ⟨_, _, ⟨T113, L113, k113, n113⟩, -, X113, ⟨Lc113, hQ113, l113, y113, z113⟩, st113⟩ := X112.virtualBack hx (y := (⟨"com/example/freshness/freshness/engine/Statistics", "getAverageLength", "()D"⟩ : MethodName)) (z := (⟨"com/example/freshness/freshness/engine/Statistics", "getAverageLength", "()D"⟩ : MethodName)) hown (mvT hZ (hw _ (List.mem_of_getElem? (i := 17) rfl))) (mvT hZ (hw _ (List.mem_of_getElem? (i := 18) rfl))) (notFace_of_selects (args := #[]) (mvT hZ (hw _ (List.mem_of_getElem? (i := 20) rfl)))) (mvT hZ (hw _ (List.mem_of_getElem? (i := 20) rfl))) (mvT hZ (hw _ (List.mem_of_getElem? (i := 19) rfl))) (by decide) (backOf (W := 0) (own_rm3 l Z a0 hw [] b108 pw t2 T111.heap n0 (Nat.le_trans Z0 K111.1) ((P109_0.ext E110).keep Kq111 (ninS (Nat.ne_of_lt (Nat.lt_of_lt_of_le (A108.keep Kq109).lt (Nat.le_of_eq g110.symm))) nin0)) ((P109_1.ext E110).keep Kq111 (ninS (Nat.ne_of_lt (Nat.lt_of_lt_of_le (A108.keep Kq109).lt (Nat.le_of_eq g110.symm))) nin0)) npw) hZ (hw _ (List.mem_of_getElem? (i := 21) rfl)) (hw _ (List.mem_of_getElem? (i := 6) rfl)) (by decide) (by decide)) q113a q113c (g := (mkF m 100 #[.val (.int p0), .val (.long p1), .second, .val (.int p2), .val (.int p3), .val (.int pp), .val (.long tt), .second, .val (.int kk), .val (.int pw), .val (.long t2), .second, .val (.long q3), .second, .val (.ref b106), .val (.ref b108), .val (.ref b110), .val (.double (own_avg pp tt)), .second, .unset, .unset, .unset, .unset, .unset, .unset, .unset, .unset] [(.ref b108)])) rfl (by rw [hml]; rfl) (Steps.refl _) (argsL := []) (rest := []) (lenOf own_pd1 rfl) rfl (by show 2 * 0 + _ ≤ _; exact Nat.le_of_eq rfl) (hb hby at_100) (fun _ _ => ⟨rfl, eq112, (by decide : 3 + 0 ≤ _), (by decide : 6 + 0 ≤ _)⟩)
  dsimp only [Pt.U, Pt.locs, Pt.cells, Pt.slots] at X113 l113 y113 z113 st113 hQ113
  subst l113 y113 z113
  obtain ⟨rfl, N113q, eq113⟩ := hQ113
  have N113 := Fr.app N112 N113q
  refine own_tr st113 ?_
  show own_Go p.tables e below _ (T113.setTop (mkF m 103 #[.val (.int p0), .val (.long p1), .second, .val (.int p2), .val (.int p3), .val (.int pp), .val (.long tt), .second, .val (.int kk), .val (.int pw), .val (.long t2), .second, .val (.long q3), .second, .val (.ref b106), .val (.ref b108), .val (.ref b110), .val (.double (own_avg pp tt)), .second, .unset, .unset, .unset, .unset, .unset, .unset, .unset, .unset] [(.double (own_avg pw t2))]))
  refine own_st (fun t_ k_ => XS.dstore X113.here hx rfl (hb hby at_103) rfl (l' := #[.val (.int p0), .val (.long p1), .second, .val (.int p2), .val (.int p3), .val (.int pp), .val (.long tt), .second, .val (.int kk), .val (.int pw), .val (.long t2), .second, .val (.long q3), .second, .val (.ref b106), .val (.ref b108), .val (.ref b110), .val (.double (own_avg pp tt)), .second, .val (.double (own_avg pw t2)), .second, .unset, .unset, .unset, .unset, .unset, .unset]) rfl k_) ?_
  show own_Go p.tables e below _ (T113.setTop (mkF m 105 #[.val (.int p0), .val (.long p1), .second, .val (.int p2), .val (.int p3), .val (.int pp), .val (.long tt), .second, .val (.int kk), .val (.int pw), .val (.long t2), .second, .val (.long q3), .second, .val (.ref b106), .val (.ref b108), .val (.ref b110), .val (.double (own_avg pp tt)), .second, .val (.double (own_avg pw t2)), .second, .unset, .unset, .unset, .unset, .unset, .unset] []))
  refine own_st (fun t_ k_ => XS.aload X113.here hx rfl (hb hby at_105) rfl rfl k_) ?_
  show own_Go p.tables e below _ (T113.setTop (mkF m 107 #[.val (.int p0), .val (.long p1), .second, .val (.int p2), .val (.int p3), .val (.int pp), .val (.long tt), .second, .val (.int kk), .val (.int pw), .val (.long t2), .second, .val (.long q3), .second, .val (.ref b106), .val (.ref b108), .val (.ref b110), .val (.double (own_avg pp tt)), .second, .val (.double (own_avg pw t2)), .second, .unset, .unset, .unset, .unset, .unset, .unset] [(.ref b110)]))
  obtain ⟨cq114, kq114, q114a, q114b, q114c⟩ := isOf hZ eq113 (A110.keep Kq111)
  obtain ⟨_, _, ⟨T114, L114, k114, n114⟩, -, X114, ⟨Lc114, hQ114, l114, y114, z114⟩, st114⟩ := X113.virtualBack hx (y := (⟨"com/example/freshness/freshness/engine/Statistics", "getAverageLength", "()D"⟩ : MethodName)) (z := (⟨"com/example/freshness/freshness/engine/Statistics", "getAverageLength", "()D"⟩ : MethodName)) hown (mvT hZ (hw _ (List.mem_of_getElem? (i := 17) rfl))) (mvT hZ (hw _ (List.mem_of_getElem? (i := 18) rfl))) (notFace_of_selects (args := #[]) (mvT hZ (hw _ (List.mem_of_getElem? (i := 20) rfl)))) (mvT hZ (hw _ (List.mem_of_getElem? (i := 20) rfl))) (mvT hZ (hw _ (List.mem_of_getElem? (i := 19) rfl))) (by decide) (backOf (W := 0) (own_rm3 l Z a0 hw [] b110 pp ((pp.toInt64) * q3) T111.heap n0 (Nat.le_trans Z0 K111.1) P111_0 P111_1 npp) hZ (hw _ (List.mem_of_getElem? (i := 21) rfl)) (hw _ (List.mem_of_getElem? (i := 6) rfl)) (by decide) (by decide)) q114a q114c (g := (mkF m 107 #[.val (.int p0), .val (.long p1), .second, .val (.int p2), .val (.int p3), .val (.int pp), .val (.long tt), .second, .val (.int kk), .val (.int pw), .val (.long t2), .second, .val (.long q3), .second, .val (.ref b106), .val (.ref b108), .val (.ref b110), .val (.double (own_avg pp tt)), .second, .val (.double (own_avg pw t2)), .second, .unset, .unset, .unset, .unset, .unset, .unset] [(.ref b110)])) rfl (by rw [hml]; rfl) (Steps.refl _) (argsL := []) (rest := []) (lenOf own_pd1 rfl) rfl (by show 2 * 0 + _ ≤ _; exact Nat.le_of_eq rfl) (hb hby at_107) (fun _ _ => ⟨rfl, eq113, (by decide : 3 + 0 ≤ _), (by decide : 6 + 0 ≤ _)⟩)
  dsimp only [Pt.U, Pt.locs, Pt.cells, Pt.slots] at X114 l114 y114 z114 st114 hQ114
  subst l114 y114 z114
  obtain ⟨rfl, N114q, eq114⟩ := hQ114
  have N114 := Fr.app N113 N114q
  refine own_tr st114 ?_
  show own_Go p.tables e below _ (T114.setTop (mkF m 110 #[.val (.int p0), .val (.long p1), .second, .val (.int p2), .val (.int p3), .val (.int pp), .val (.long tt), .second, .val (.int kk), .val (.int pw), .val (.long t2), .second, .val (.long q3), .second, .val (.ref b106), .val (.ref b108), .val (.ref b110), .val (.double (own_avg pp tt)), .second, .val (.double (own_avg pw t2)), .second, .unset, .unset, .unset, .unset, .unset, .unset] [(.double (own_avg pp ((pp.toInt64) * q3)))]))
  refine own_st (fun t_ k_ => XS.dstore X114.here hx rfl (hb hby at_110) rfl (l' := #[.val (.int p0), .val (.long p1), .second, .val (.int p2), .val (.int p3), .val (.int pp), .val (.long tt), .second, .val (.int kk), .val (.int pw), .val (.long t2), .second, .val (.long q3), .second, .val (.ref b106), .val (.ref b108), .val (.ref b110), .val (.double (own_avg pp tt)), .second, .val (.double (own_avg pw t2)), .second, .val (.double (own_avg pp ((pp.toInt64) * q3))), .second, .unset, .unset, .unset, .unset]) rfl k_) ?_
  show own_Go p.tables e below _ (T114.setTop (mkF m 112 #[.val (.int p0), .val (.long p1), .second, .val (.int p2), .val (.int p3), .val (.int pp), .val (.long tt), .second, .val (.int kk), .val (.int pw), .val (.long t2), .second, .val (.long q3), .second, .val (.ref b106), .val (.ref b108), .val (.ref b110), .val (.double (own_avg pp tt)), .second, .val (.double (own_avg pw t2)), .second, .val (.double (own_avg pp ((pp.toInt64) * q3))), .second, .unset, .unset, .unset, .unset] []))
  refine own_st (fun t_ k_ => XS.dconst0 X114.here hx rfl (hb hby at_112) rfl k_) ?_
  show own_Go p.tables e below _ (T114.setTop (mkF m 113 #[.val (.int p0), .val (.long p1), .second, .val (.int p2), .val (.int p3), .val (.int pp), .val (.long tt), .second, .val (.int kk), .val (.int pw), .val (.long t2), .second, .val (.long q3), .second, .val (.ref b106), .val (.ref b108), .val (.ref b110), .val (.double (own_avg pp tt)), .second, .val (.double (own_avg pw t2)), .second, .val (.double (own_avg pp ((pp.toInt64) * q3))), .second, .unset, .unset, .unset, .unset] [(.double FP.dconst0)]))
  refine own_st (fun t_ k_ => XS.dload X114.here hx rfl (hb hby at_113) rfl k_) ?_
  show own_Go p.tables e below _ (T114.setTop (mkF m 115 #[.val (.int p0), .val (.long p1), .second, .val (.int p2), .val (.int p3), .val (.int pp), .val (.long tt), .second, .val (.int kk), .val (.int pw), .val (.long t2), .second, .val (.long q3), .second, .val (.ref b106), .val (.ref b108), .val (.ref b110), .val (.double (own_avg pp tt)), .second, .val (.double (own_avg pw t2)), .second, .val (.double (own_avg pp ((pp.toInt64) * q3))), .second, .unset, .unset, .unset, .unset] [(.double (own_avg pp tt)), (.double FP.dconst0)]))
  refine own_st (fun t_ k_ => XS.dcmpS X114.here hx rfl (hb hby at_115) rfl rfl k_) ?_
  show own_Go p.tables e below _ (T114.setTop (mkF m 116 #[.val (.int p0), .val (.long p1), .second, .val (.int p2), .val (.int p3), .val (.int pp), .val (.long tt), .second, .val (.int kk), .val (.int pw), .val (.long t2), .second, .val (.long q3), .second, .val (.ref b106), .val (.ref b108), .val (.ref b110), .val (.double (own_avg pp tt)), .second, .val (.double (own_avg pw t2)), .second, .val (.double (own_avg pp ((pp.toInt64) * q3))), .second, .unset, .unset, .unset, .unset] [(.int (cmpValue (FP.dcmp FP.dconst0 (own_avg pp tt)) .g))]))
  refine own_st (fun t_ k_ => XS.ifNo X114.here hx rfl (hb hby at_116) rfl ((if0 _ _).trans (flt ((own_a1 bp bt .g).1 : ¬ ((0 : Int32) < (cmpValue (FP.dcmp FP.dconst0 (own_avg pp tt)) .g)))).2.2.1) k_) ?_
  show own_Go p.tables e below _ (T114.setTop (mkF m 119 #[.val (.int p0), .val (.long p1), .second, .val (.int p2), .val (.int p3), .val (.int pp), .val (.long tt), .second, .val (.int kk), .val (.int pw), .val (.long t2), .second, .val (.long q3), .second, .val (.ref b106), .val (.ref b108), .val (.ref b110), .val (.double (own_avg pp tt)), .second, .val (.double (own_avg pw t2)), .second, .val (.double (own_avg pp ((pp.toInt64) * q3))), .second, .unset, .unset, .unset, .unset] []))
  refine own_st (fun t_ k_ => XS.dload X114.here hx rfl (hb hby at_119) rfl k_) ?_
  show own_Go p.tables e below _ (T114.setTop (mkF m 121 #[.val (.int p0), .val (.long p1), .second, .val (.int p2), .val (.int p3), .val (.int pp), .val (.long tt), .second, .val (.int kk), .val (.int pw), .val (.long t2), .second, .val (.long q3), .second, .val (.ref b106), .val (.ref b108), .val (.ref b110), .val (.double (own_avg pp tt)), .second, .val (.double (own_avg pw t2)), .second, .val (.double (own_avg pp ((pp.toInt64) * q3))), .second, .unset, .unset, .unset, .unset] [(.double (own_avg pp tt))]))
  refine own_st (fun t_ k_ => XS.lload X114.here hx rfl (hb hby at_121) rfl k_) ?_
  show own_Go p.tables e below _ (T114.setTop (mkF m 123 #[.val (.int p0), .val (.long p1), .second, .val (.int p2), .val (.int p3), .val (.int pp), .val (.long tt), .second, .val (.int kk), .val (.int pw), .val (.long t2), .second, .val (.long q3), .second, .val (.ref b106), .val (.ref b108), .val (.ref b110), .val (.double (own_avg pp tt)), .second, .val (.double (own_avg pw t2)), .second, .val (.double (own_avg pp ((pp.toInt64) * q3))), .second, .unset, .unset, .unset, .unset] [(.long tt), (.double (own_avg pp tt))]))
  refine own_st (fun t_ k_ => XS.l2dS X114.here hx rfl (hb hby at_123) rfl rfl k_) ?_
  show own_Go p.tables e below _ (T114.setTop (mkF m 124 #[.val (.int p0), .val (.long p1), .second, .val (.int p2), .val (.int p3), .val (.int pp), .val (.long tt), .second, .val (.int kk), .val (.int pw), .val (.long t2), .second, .val (.long q3), .second, .val (.ref b106), .val (.ref b108), .val (.ref b110), .val (.double (own_avg pp tt)), .second, .val (.double (own_avg pw t2)), .second, .val (.double (own_avg pp ((pp.toInt64) * q3))), .second, .unset, .unset, .unset, .unset] [(.double (FP.l2d tt)), (.double (own_avg pp tt))]))
  refine own_st (fun t_ k_ => XS.dcmpS X114.here hx rfl (hb hby at_124) rfl rfl k_) ?_
  show own_Go p.tables e below _ (T114.setTop (mkF m 125 #[.val (.int p0), .val (.long p1), .second, .val (.int p2), .val (.int p3), .val (.int pp), .val (.long tt), .second, .val (.int kk), .val (.int pw), .val (.long t2), .second, .val (.long q3), .second, .val (.ref b106), .val (.ref b108), .val (.ref b110), .val (.double (own_avg pp tt)), .second, .val (.double (own_avg pw t2)), .second, .val (.double (own_avg pp ((pp.toInt64) * q3))), .second, .unset, .unset, .unset, .unset] [(.int (cmpValue (FP.dcmp (own_avg pp tt) (FP.l2d tt)) .g))]))
  refine own_st (fun t_ k_ => XS.ifNo X114.here hx rfl (hb hby at_125) rfl ((if0 _ _).trans (flt ((own_a1 bp bt .g).2 : ¬ ((0 : Int32) < (cmpValue (FP.dcmp (own_avg pp tt) (FP.l2d tt)) .g)))).2.2.1) k_) ?_
  show own_Go p.tables e below _ (T114.setTop (mkF m 128 #[.val (.int p0), .val (.long p1), .second, .val (.int p2), .val (.int p3), .val (.int pp), .val (.long tt), .second, .val (.int kk), .val (.int pw), .val (.long t2), .second, .val (.long q3), .second, .val (.ref b106), .val (.ref b108), .val (.ref b110), .val (.double (own_avg pp tt)), .second, .val (.double (own_avg pw t2)), .second, .val (.double (own_avg pp ((pp.toInt64) * q3))), .second, .unset, .unset, .unset, .unset] []))
  refine own_st (fun t_ k_ => XS.iconst X114.here hx rfl (hb hby at_128) k_) ?_
  show own_Go p.tables e below _ (T114.setTop (mkF m 129 #[.val (.int p0), .val (.long p1), .second, .val (.int p2), .val (.int p3), .val (.int pp), .val (.long tt), .second, .val (.int kk), .val (.int pw), .val (.long t2), .second, .val (.long q3), .second, .val (.ref b106), .val (.ref b108), .val (.ref b110), .val (.double (own_avg pp tt)), .second, .val (.double (own_avg pw t2)), .second, .val (.double (own_avg pp ((pp.toInt64) * q3))), .second, .unset, .unset, .unset, .unset] [(.int (1 : Int32))]))
  refine own_st (fun t_ k_ => XS.goto X114.here hx rfl (pc0 := 129) (pc' := 133) rfl (hb hby at_129) (by decide) (by decide) k_) ?_
  show own_Go p.tables e below _ (T114.setTop (mkF m 133 #[.val (.int p0), .val (.long p1), .second, .val (.int p2), .val (.int p3), .val (.int pp), .val (.long tt), .second, .val (.int kk), .val (.int pw), .val (.long t2), .second, .val (.long q3), .second, .val (.ref b106), .val (.ref b108), .val (.ref b110), .val (.double (own_avg pp tt)), .second, .val (.double (own_avg pw t2)), .second, .val (.double (own_avg pp ((pp.toInt64) * q3))), .second, .unset, .unset, .unset, .unset] [(.int (1 : Int32))]))
  refine own_st (fun t_ k_ => XS.istore X114.here hx rfl (hb hby at_133) rfl (l' := #[.val (.int p0), .val (.long p1), .second, .val (.int p2), .val (.int p3), .val (.int pp), .val (.long tt), .second, .val (.int kk), .val (.int pw), .val (.long t2), .second, .val (.long q3), .second, .val (.ref b106), .val (.ref b108), .val (.ref b110), .val (.double (own_avg pp tt)), .second, .val (.double (own_avg pw t2)), .second, .val (.double (own_avg pp ((pp.toInt64) * q3))), .second, .val (.int (1 : Int32)), .unset, .unset, .unset]) rfl k_) ?_
  show own_Go p.tables e below _ (T114.setTop (mkF m 135 #[.val (.int p0), .val (.long p1), .second, .val (.int p2), .val (.int p3), .val (.int pp), .val (.long tt), .second, .val (.int kk), .val (.int pw), .val (.long t2), .second, .val (.long q3), .second, .val (.ref b106), .val (.ref b108), .val (.ref b110), .val (.double (own_avg pp tt)), .second, .val (.double (own_avg pw t2)), .second, .val (.double (own_avg pp ((pp.toInt64) * q3))), .second, .val (.int (1 : Int32)), .unset, .unset, .unset] []))
  refine own_st (fun t_ k_ => XS.iconst X114.here hx rfl (hb hby at_135) k_) ?_
  show own_Go p.tables e below _ (T114.setTop (mkF m 136 #[.val (.int p0), .val (.long p1), .second, .val (.int p2), .val (.int p3), .val (.int pp), .val (.long tt), .second, .val (.int kk), .val (.int pw), .val (.long t2), .second, .val (.long q3), .second, .val (.ref b106), .val (.ref b108), .val (.ref b110), .val (.double (own_avg pp tt)), .second, .val (.double (own_avg pw t2)), .second, .val (.double (own_avg pp ((pp.toInt64) * q3))), .second, .val (.int (1 : Int32)), .unset, .unset, .unset] [(.int (1 : Int32))]))
  refine own_st (fun t_ k_ => XS.istore X114.here hx rfl (hb hby at_136) rfl (l' := #[.val (.int p0), .val (.long p1), .second, .val (.int p2), .val (.int p3), .val (.int pp), .val (.long tt), .second, .val (.int kk), .val (.int pw), .val (.long t2), .second, .val (.long q3), .second, .val (.ref b106), .val (.ref b108), .val (.ref b110), .val (.double (own_avg pp tt)), .second, .val (.double (own_avg pw t2)), .second, .val (.double (own_avg pp ((pp.toInt64) * q3))), .second, .val (.int (1 : Int32)), .val (.int (1 : Int32)), .unset, .unset]) rfl k_) ?_
  show own_Go p.tables e below _ (T114.setTop (mkF m 138 #[.val (.int p0), .val (.long p1), .second, .val (.int p2), .val (.int p3), .val (.int pp), .val (.long tt), .second, .val (.int kk), .val (.int pw), .val (.long t2), .second, .val (.long q3), .second, .val (.ref b106), .val (.ref b108), .val (.ref b110), .val (.double (own_avg pp tt)), .second, .val (.double (own_avg pw t2)), .second, .val (.double (own_avg pp ((pp.toInt64) * q3))), .second, .val (.int (1 : Int32)), .val (.int (1 : Int32)), .unset, .unset] []))
  refine own_st (fun t_ k_ => XS.lload X114.here hx rfl (hb hby at_138) rfl k_) ?_
  show own_Go p.tables e below _ (T114.setTop (mkF m 140 #[.val (.int p0), .val (.long p1), .second, .val (.int p2), .val (.int p3), .val (.int pp), .val (.long tt), .second, .val (.int kk), .val (.int pw), .val (.long t2), .second, .val (.long q3), .second, .val (.ref b106), .val (.ref b108), .val (.ref b110), .val (.double (own_avg pp tt)), .second, .val (.double (own_avg pw t2)), .second, .val (.double (own_avg pp ((pp.toInt64) * q3))), .second, .val (.int (1 : Int32)), .val (.int (1 : Int32)), .unset, .unset] [(.long tt)]))
  refine own_st (X114.ldc2Long hx hown (mvT hZ (hw _ (List.mem_of_getElem? (i := 22) rfl))) (g := (mkF m 140 #[.val (.int p0), .val (.long p1), .second, .val (.int p2), .val (.int p3), .val (.int pp), .val (.long tt), .second, .val (.int kk), .val (.int pw), .val (.long t2), .second, .val (.long q3), .second, .val (.ref b106), .val (.ref b108), .val (.ref b110), .val (.double (own_avg pp tt)), .second, .val (.double (own_avg pw t2)), .second, .val (.double (own_avg pp ((pp.toInt64) * q3))), .second, .val (.int (1 : Int32)), .val (.int (1 : Int32)), .unset, .unset] [(.long tt)])) rfl (hb hby at_140)) ?_
  show own_Go p.tables e below _ (T114.setTop (mkF m 143 #[.val (.int p0), .val (.long p1), .second, .val (.int p2), .val (.int p3), .val (.int pp), .val (.long tt), .second, .val (.int kk), .val (.int pw), .val (.long t2), .second, .val (.long q3), .second, .val (.ref b106), .val (.ref b108), .val (.ref b110), .val (.double (own_avg pp tt)), .second, .val (.double (own_avg pw t2)), .second, .val (.double (own_avg pp ((pp.toInt64) * q3))), .second, .val (.int (1 : Int32)), .val (.int (1 : Int32)), .unset, .unset] [(.long (9007199254740992 : Int64)), (.long tt)]))
  refine own_st (fun t_ k_ => XS.lcmp X114.here hx rfl (hb hby at_143) rfl k_) ?_
  show own_Go p.tables e below _ (T114.setTop (mkF m 144 #[.val (.int p0), .val (.long p1), .second, .val (.int p2), .val (.int p3), .val (.int pp), .val (.long tt), .second, .val (.int kk), .val (.int pw), .val (.long t2), .second, .val (.long q3), .second, .val (.ref b106), .val (.ref b108), .val (.ref b110), .val (.double (own_avg pp tt)), .second, .val (.double (own_avg pw t2)), .second, .val (.double (own_avg pp ((pp.toInt64) * q3))), .second, .val (.int (1 : Int32)), .val (.int (1 : Int32)), .unset, .unset] [(.int (lcmpW tt (9007199254740992 : Int64)))]))
  by_cases c144_115 : (lcmpW tt (9007199254740992 : Int64)) < (0 : Int32)
  · skip
    refine own_st (fun t_ k_ => XS.ifNo X114.here hx rfl (hb hby at_144) rfl ((if0 _ _).trans (tlt c144_115).2.1) k_) ?_
    show own_Go p.tables e below _ (T114.setTop (mkF m 147 #[.val (.int p0), .val (.long p1), .second, .val (.int p2), .val (.int p3), .val (.int pp), .val (.long tt), .second, .val (.int kk), .val (.int pw), .val (.long t2), .second, .val (.long q3), .second, .val (.ref b106), .val (.ref b108), .val (.ref b110), .val (.double (own_avg pp tt)), .second, .val (.double (own_avg pw t2)), .second, .val (.double (own_avg pp ((pp.toInt64) * q3))), .second, .val (.int (1 : Int32)), .val (.int (1 : Int32)), .unset, .unset] []))
    refine own_st (fun t_ k_ => XS.lload X114.here hx rfl (hb hby at_147) rfl k_) ?_
    show own_Go p.tables e below _ (T114.setTop (mkF m 149 #[.val (.int p0), .val (.long p1), .second, .val (.int p2), .val (.int p3), .val (.int pp), .val (.long tt), .second, .val (.int kk), .val (.int pw), .val (.long t2), .second, .val (.long q3), .second, .val (.ref b106), .val (.ref b108), .val (.ref b110), .val (.double (own_avg pp tt)), .second, .val (.double (own_avg pw t2)), .second, .val (.double (own_avg pp ((pp.toInt64) * q3))), .second, .val (.int (1 : Int32)), .val (.int (1 : Int32)), .unset, .unset] [(.long tt)]))
    refine own_st (fun t_ k_ => XS.iload X114.here hx rfl (hb hby at_149) rfl k_) ?_
    show own_Go p.tables e below _ (T114.setTop (mkF m 151 #[.val (.int p0), .val (.long p1), .second, .val (.int p2), .val (.int p3), .val (.int pp), .val (.long tt), .second, .val (.int kk), .val (.int pw), .val (.long t2), .second, .val (.long q3), .second, .val (.ref b106), .val (.ref b108), .val (.ref b110), .val (.double (own_avg pp tt)), .second, .val (.double (own_avg pw t2)), .second, .val (.double (own_avg pp ((pp.toInt64) * q3))), .second, .val (.int (1 : Int32)), .val (.int (1 : Int32)), .unset, .unset] [(.int pp), (.long tt)]))
    refine own_st (fun t_ k_ => XS.i2l X114.here hx rfl (hb hby at_151) rfl k_) ?_
    show own_Go p.tables e below _ (T114.setTop (mkF m 152 #[.val (.int p0), .val (.long p1), .second, .val (.int p2), .val (.int p3), .val (.int pp), .val (.long tt), .second, .val (.int kk), .val (.int pw), .val (.long t2), .second, .val (.long q3), .second, .val (.ref b106), .val (.ref b108), .val (.ref b110), .val (.double (own_avg pp tt)), .second, .val (.double (own_avg pw t2)), .second, .val (.double (own_avg pp ((pp.toInt64) * q3))), .second, .val (.int (1 : Int32)), .val (.int (1 : Int32)), .unset, .unset] [(.long (pp.toInt64)), (.long tt)]))
    refine own_st (fun t_ k_ => XS.ldiv X114.here hx rfl (hb hby at_152) rfl np64 k_) ?_
    show own_Go p.tables e below _ (T114.setTop (mkF m 153 #[.val (.int p0), .val (.long p1), .second, .val (.int p2), .val (.int p3), .val (.int pp), .val (.long tt), .second, .val (.int kk), .val (.int pw), .val (.long t2), .second, .val (.long q3), .second, .val (.ref b106), .val (.ref b108), .val (.ref b110), .val (.double (own_avg pp tt)), .second, .val (.double (own_avg pw t2)), .second, .val (.double (own_avg pp ((pp.toInt64) * q3))), .second, .val (.int (1 : Int32)), .val (.int (1 : Int32)), .unset, .unset] [(.long (tt / (pp.toInt64)))]))
    refine own_st (fun t_ k_ => XS.lstore X114.here hx rfl (hb hby at_153) rfl (l' := #[.val (.int p0), .val (.long p1), .second, .val (.int p2), .val (.int p3), .val (.int pp), .val (.long tt), .second, .val (.int kk), .val (.int pw), .val (.long t2), .second, .val (.long q3), .second, .val (.ref b106), .val (.ref b108), .val (.ref b110), .val (.double (own_avg pp tt)), .second, .val (.double (own_avg pw t2)), .second, .val (.double (own_avg pp ((pp.toInt64) * q3))), .second, .val (.int (1 : Int32)), .val (.int (1 : Int32)), .val (.long (tt / (pp.toInt64))), .second]) rfl k_) ?_
    show own_Go p.tables e below _ (T114.setTop (mkF m 155 #[.val (.int p0), .val (.long p1), .second, .val (.int p2), .val (.int p3), .val (.int pp), .val (.long tt), .second, .val (.int kk), .val (.int pw), .val (.long t2), .second, .val (.long q3), .second, .val (.ref b106), .val (.ref b108), .val (.ref b110), .val (.double (own_avg pp tt)), .second, .val (.double (own_avg pw t2)), .second, .val (.double (own_avg pp ((pp.toInt64) * q3))), .second, .val (.int (1 : Int32)), .val (.int (1 : Int32)), .val (.long (tt / (pp.toInt64))), .second] []))
    refine own_st (fun t_ k_ => XS.lload X114.here hx rfl (hb hby at_155) rfl k_) ?_
    show own_Go p.tables e below _ (T114.setTop (mkF m 157 #[.val (.int p0), .val (.long p1), .second, .val (.int p2), .val (.int p3), .val (.int pp), .val (.long tt), .second, .val (.int kk), .val (.int pw), .val (.long t2), .second, .val (.long q3), .second, .val (.ref b106), .val (.ref b108), .val (.ref b110), .val (.double (own_avg pp tt)), .second, .val (.double (own_avg pw t2)), .second, .val (.double (own_avg pp ((pp.toInt64) * q3))), .second, .val (.int (1 : Int32)), .val (.int (1 : Int32)), .val (.long (tt / (pp.toInt64))), .second] [(.long (tt / (pp.toInt64)))]))
    refine own_st (fun t_ k_ => XS.l2dS X114.here hx rfl (hb hby at_157) rfl rfl k_) ?_
    show own_Go p.tables e below _ (T114.setTop (mkF m 158 #[.val (.int p0), .val (.long p1), .second, .val (.int p2), .val (.int p3), .val (.int pp), .val (.long tt), .second, .val (.int kk), .val (.int pw), .val (.long t2), .second, .val (.long q3), .second, .val (.ref b106), .val (.ref b108), .val (.ref b110), .val (.double (own_avg pp tt)), .second, .val (.double (own_avg pw t2)), .second, .val (.double (own_avg pp ((pp.toInt64) * q3))), .second, .val (.int (1 : Int32)), .val (.int (1 : Int32)), .val (.long (tt / (pp.toInt64))), .second] [(.double (FP.l2d (tt / (pp.toInt64))))]))
    refine own_st (fun t_ k_ => XS.dload X114.here hx rfl (hb hby at_158) rfl k_) ?_
    show own_Go p.tables e below _ (T114.setTop (mkF m 160 #[.val (.int p0), .val (.long p1), .second, .val (.int p2), .val (.int p3), .val (.int pp), .val (.long tt), .second, .val (.int kk), .val (.int pw), .val (.long t2), .second, .val (.long q3), .second, .val (.ref b106), .val (.ref b108), .val (.ref b110), .val (.double (own_avg pp tt)), .second, .val (.double (own_avg pw t2)), .second, .val (.double (own_avg pp ((pp.toInt64) * q3))), .second, .val (.int (1 : Int32)), .val (.int (1 : Int32)), .val (.long (tt / (pp.toInt64))), .second] [(.double (own_avg pp tt)), (.double (FP.l2d (tt / (pp.toInt64))))]))
    refine own_st (fun t_ k_ => XS.dcmpS X114.here hx rfl (hb hby at_160) rfl rfl k_) ?_
    show own_Go p.tables e below _ (T114.setTop (mkF m 161 #[.val (.int p0), .val (.long p1), .second, .val (.int p2), .val (.int p3), .val (.int pp), .val (.long tt), .second, .val (.int kk), .val (.int pw), .val (.long t2), .second, .val (.long q3), .second, .val (.ref b106), .val (.ref b108), .val (.ref b110), .val (.double (own_avg pp tt)), .second, .val (.double (own_avg pw t2)), .second, .val (.double (own_avg pp ((pp.toInt64) * q3))), .second, .val (.int (1 : Int32)), .val (.int (1 : Int32)), .val (.long (tt / (pp.toInt64))), .second] [(.int (cmpValue (FP.dcmp (FP.l2d (tt / (pp.toInt64))) (own_avg pp tt)) .g))]))
    refine own_st (fun t_ k_ => XS.ifNo X114.here hx rfl (hb hby at_161) rfl ((if0 _ _).trans (flt ((own_a2 bp bt c144_115 .g).1 : ¬ ((0 : Int32) < (cmpValue (FP.dcmp (FP.l2d (tt / (pp.toInt64))) (own_avg pp tt)) .g)))).2.2.1) k_) ?_
    show own_Go p.tables e below _ (T114.setTop (mkF m 164 #[.val (.int p0), .val (.long p1), .second, .val (.int p2), .val (.int p3), .val (.int pp), .val (.long tt), .second, .val (.int kk), .val (.int pw), .val (.long t2), .second, .val (.long q3), .second, .val (.ref b106), .val (.ref b108), .val (.ref b110), .val (.double (own_avg pp tt)), .second, .val (.double (own_avg pw t2)), .second, .val (.double (own_avg pp ((pp.toInt64) * q3))), .second, .val (.int (1 : Int32)), .val (.int (1 : Int32)), .val (.long (tt / (pp.toInt64))), .second] []))
    refine own_st (fun t_ k_ => XS.dload X114.here hx rfl (hb hby at_164) rfl k_) ?_
    show own_Go p.tables e below _ (T114.setTop (mkF m 166 #[.val (.int p0), .val (.long p1), .second, .val (.int p2), .val (.int p3), .val (.int pp), .val (.long tt), .second, .val (.int kk), .val (.int pw), .val (.long t2), .second, .val (.long q3), .second, .val (.ref b106), .val (.ref b108), .val (.ref b110), .val (.double (own_avg pp tt)), .second, .val (.double (own_avg pw t2)), .second, .val (.double (own_avg pp ((pp.toInt64) * q3))), .second, .val (.int (1 : Int32)), .val (.int (1 : Int32)), .val (.long (tt / (pp.toInt64))), .second] [(.double (own_avg pp tt))]))
    refine own_st (fun t_ k_ => XS.lload X114.here hx rfl (hb hby at_166) rfl k_) ?_
    show own_Go p.tables e below _ (T114.setTop (mkF m 168 #[.val (.int p0), .val (.long p1), .second, .val (.int p2), .val (.int p3), .val (.int pp), .val (.long tt), .second, .val (.int kk), .val (.int pw), .val (.long t2), .second, .val (.long q3), .second, .val (.ref b106), .val (.ref b108), .val (.ref b110), .val (.double (own_avg pp tt)), .second, .val (.double (own_avg pw t2)), .second, .val (.double (own_avg pp ((pp.toInt64) * q3))), .second, .val (.int (1 : Int32)), .val (.int (1 : Int32)), .val (.long (tt / (pp.toInt64))), .second] [(.long (tt / (pp.toInt64))), (.double (own_avg pp tt))]))
    refine own_st (fun t_ k_ => XS.lconst X114.here hx rfl (hb hby at_168) k_) ?_
    show own_Go p.tables e below _ (T114.setTop (mkF m 169 #[.val (.int p0), .val (.long p1), .second, .val (.int p2), .val (.int p3), .val (.int pp), .val (.long tt), .second, .val (.int kk), .val (.int pw), .val (.long t2), .second, .val (.long q3), .second, .val (.ref b106), .val (.ref b108), .val (.ref b110), .val (.double (own_avg pp tt)), .second, .val (.double (own_avg pw t2)), .second, .val (.double (own_avg pp ((pp.toInt64) * q3))), .second, .val (.int (1 : Int32)), .val (.int (1 : Int32)), .val (.long (tt / (pp.toInt64))), .second] [(.long (1 : Int64)), (.long (tt / (pp.toInt64))), (.double (own_avg pp tt))]))
    refine own_st (fun t_ k_ => XS.ladd X114.here hx rfl (hb hby at_169) rfl k_) ?_
    show own_Go p.tables e below _ (T114.setTop (mkF m 170 #[.val (.int p0), .val (.long p1), .second, .val (.int p2), .val (.int p3), .val (.int pp), .val (.long tt), .second, .val (.int kk), .val (.int pw), .val (.long t2), .second, .val (.long q3), .second, .val (.ref b106), .val (.ref b108), .val (.ref b110), .val (.double (own_avg pp tt)), .second, .val (.double (own_avg pw t2)), .second, .val (.double (own_avg pp ((pp.toInt64) * q3))), .second, .val (.int (1 : Int32)), .val (.int (1 : Int32)), .val (.long (tt / (pp.toInt64))), .second] [(.long ((tt / (pp.toInt64)) + (1 : Int64))), (.double (own_avg pp tt))]))
    refine own_st (fun t_ k_ => XS.l2dS X114.here hx rfl (hb hby at_170) rfl rfl k_) ?_
    show own_Go p.tables e below _ (T114.setTop (mkF m 171 #[.val (.int p0), .val (.long p1), .second, .val (.int p2), .val (.int p3), .val (.int pp), .val (.long tt), .second, .val (.int kk), .val (.int pw), .val (.long t2), .second, .val (.long q3), .second, .val (.ref b106), .val (.ref b108), .val (.ref b110), .val (.double (own_avg pp tt)), .second, .val (.double (own_avg pw t2)), .second, .val (.double (own_avg pp ((pp.toInt64) * q3))), .second, .val (.int (1 : Int32)), .val (.int (1 : Int32)), .val (.long (tt / (pp.toInt64))), .second] [(.double (FP.l2d ((tt / (pp.toInt64)) + (1 : Int64)))), (.double (own_avg pp tt))]))
    refine own_st (fun t_ k_ => XS.dcmpS X114.here hx rfl (hb hby at_171) rfl rfl k_) ?_
    show own_Go p.tables e below _ (T114.setTop (mkF m 172 #[.val (.int p0), .val (.long p1), .second, .val (.int p2), .val (.int p3), .val (.int pp), .val (.long tt), .second, .val (.int kk), .val (.int pw), .val (.long t2), .second, .val (.long q3), .second, .val (.ref b106), .val (.ref b108), .val (.ref b110), .val (.double (own_avg pp tt)), .second, .val (.double (own_avg pw t2)), .second, .val (.double (own_avg pp ((pp.toInt64) * q3))), .second, .val (.int (1 : Int32)), .val (.int (1 : Int32)), .val (.long (tt / (pp.toInt64))), .second] [(.int (cmpValue (FP.dcmp (own_avg pp tt) (FP.l2d ((tt / (pp.toInt64)) + (1 : Int64)))) .g))]))
    refine own_st (fun t_ k_ => XS.ifNo X114.here hx rfl (hb hby at_172) rfl ((if0 _ _).trans (flt ((own_a2 bp bt c144_115 .g).2 : ¬ ((0 : Int32) < (cmpValue (FP.dcmp (own_avg pp tt) (FP.l2d ((tt / (pp.toInt64)) + (1 : Int64)))) .g)))).2.2.1) k_) ?_
    show own_Go p.tables e below _ (T114.setTop (mkF m 175 #[.val (.int p0), .val (.long p1), .second, .val (.int p2), .val (.int p3), .val (.int pp), .val (.long tt), .second, .val (.int kk), .val (.int pw), .val (.long t2), .second, .val (.long q3), .second, .val (.ref b106), .val (.ref b108), .val (.ref b110), .val (.double (own_avg pp tt)), .second, .val (.double (own_avg pw t2)), .second, .val (.double (own_avg pp ((pp.toInt64) * q3))), .second, .val (.int (1 : Int32)), .val (.int (1 : Int32)), .val (.long (tt / (pp.toInt64))), .second] []))
    refine own_st (fun t_ k_ => XS.iconst X114.here hx rfl (hb hby at_175) k_) ?_
    show own_Go p.tables e below _ (T114.setTop (mkF m 176 #[.val (.int p0), .val (.long p1), .second, .val (.int p2), .val (.int p3), .val (.int pp), .val (.long tt), .second, .val (.int kk), .val (.int pw), .val (.long t2), .second, .val (.long q3), .second, .val (.ref b106), .val (.ref b108), .val (.ref b110), .val (.double (own_avg pp tt)), .second, .val (.double (own_avg pw t2)), .second, .val (.double (own_avg pp ((pp.toInt64) * q3))), .second, .val (.int (1 : Int32)), .val (.int (1 : Int32)), .val (.long (tt / (pp.toInt64))), .second] [(.int (1 : Int32))]))
    refine own_st (fun t_ k_ => XS.goto X114.here hx rfl (pc0 := 176) (pc' := 180) rfl (hb hby at_176) (by decide) (by decide) k_) ?_
    show own_Go p.tables e below _ (T114.setTop (mkF m 180 #[.val (.int p0), .val (.long p1), .second, .val (.int p2), .val (.int p3), .val (.int pp), .val (.long tt), .second, .val (.int kk), .val (.int pw), .val (.long t2), .second, .val (.long q3), .second, .val (.ref b106), .val (.ref b108), .val (.ref b110), .val (.double (own_avg pp tt)), .second, .val (.double (own_avg pw t2)), .second, .val (.double (own_avg pp ((pp.toInt64) * q3))), .second, .val (.int (1 : Int32)), .val (.int (1 : Int32)), .val (.long (tt / (pp.toInt64))), .second] [(.int (1 : Int32))]))
    refine own_st (fun t_ k_ => XS.istore X114.here hx rfl (hb hby at_180) rfl (l' := #[.val (.int p0), .val (.long p1), .second, .val (.int p2), .val (.int p3), .val (.int pp), .val (.long tt), .second, .val (.int kk), .val (.int pw), .val (.long t2), .second, .val (.long q3), .second, .val (.ref b106), .val (.ref b108), .val (.ref b110), .val (.double (own_avg pp tt)), .second, .val (.double (own_avg pw t2)), .second, .val (.double (own_avg pp ((pp.toInt64) * q3))), .second, .val (.int (1 : Int32)), .val (.int (1 : Int32)), .val (.long (tt / (pp.toInt64))), .second]) rfl k_) ?_
    show own_Go p.tables e below _ (T114.setTop (mkF m 182 #[.val (.int p0), .val (.long p1), .second, .val (.int p2), .val (.int p3), .val (.int pp), .val (.long tt), .second, .val (.int kk), .val (.int pw), .val (.long t2), .second, .val (.long q3), .second, .val (.ref b106), .val (.ref b108), .val (.ref b110), .val (.double (own_avg pp tt)), .second, .val (.double (own_avg pw t2)), .second, .val (.double (own_avg pp ((pp.toInt64) * q3))), .second, .val (.int (1 : Int32)), .val (.int (1 : Int32)), .val (.long (tt / (pp.toInt64))), .second] []))
    refine own_st (fun t_ k_ => XS.dload X114.here hx rfl (hb hby at_182) rfl k_) ?_
    show own_Go p.tables e below _ (T114.setTop (mkF m 184 #[.val (.int p0), .val (.long p1), .second, .val (.int p2), .val (.int p3), .val (.int pp), .val (.long tt), .second, .val (.int kk), .val (.int pw), .val (.long t2), .second, .val (.long q3), .second, .val (.ref b106), .val (.ref b108), .val (.ref b110), .val (.double (own_avg pp tt)), .second, .val (.double (own_avg pw t2)), .second, .val (.double (own_avg pp ((pp.toInt64) * q3))), .second, .val (.int (1 : Int32)), .val (.int (1 : Int32)), .val (.long (tt / (pp.toInt64))), .second] [(.double (own_avg pw t2))]))
    refine own_st (fun t_ k_ => XS.iload X114.here hx rfl (hb hby at_184) rfl k_) ?_
    show own_Go p.tables e below _ (T114.setTop (mkF m 186 #[.val (.int p0), .val (.long p1), .second, .val (.int p2), .val (.int p3), .val (.int pp), .val (.long tt), .second, .val (.int kk), .val (.int pw), .val (.long t2), .second, .val (.long q3), .second, .val (.ref b106), .val (.ref b108), .val (.ref b110), .val (.double (own_avg pp tt)), .second, .val (.double (own_avg pw t2)), .second, .val (.double (own_avg pp ((pp.toInt64) * q3))), .second, .val (.int (1 : Int32)), .val (.int (1 : Int32)), .val (.long (tt / (pp.toInt64))), .second] [(.int pw), (.double (own_avg pw t2))]))
    refine own_st (fun t_ k_ => XS.i2dS X114.here hx rfl (hb hby at_186) rfl rfl k_) ?_
    show own_Go p.tables e below _ (T114.setTop (mkF m 187 #[.val (.int p0), .val (.long p1), .second, .val (.int p2), .val (.int p3), .val (.int pp), .val (.long tt), .second, .val (.int kk), .val (.int pw), .val (.long t2), .second, .val (.long q3), .second, .val (.ref b106), .val (.ref b108), .val (.ref b110), .val (.double (own_avg pp tt)), .second, .val (.double (own_avg pw t2)), .second, .val (.double (own_avg pp ((pp.toInt64) * q3))), .second, .val (.int (1 : Int32)), .val (.int (1 : Int32)), .val (.long (tt / (pp.toInt64))), .second] [(.double (FP.i2d pw)), (.double (own_avg pw t2))]))
    refine own_st (fun t_ k_ => XS.dmulS X114.here hx rfl (hb hby at_187) rfl (own_a3 hk2 hpw2 bt2.1 bt2.2).1 rfl k_) ?_
    show own_Go p.tables e below _ (T114.setTop (mkF m 188 #[.val (.int p0), .val (.long p1), .second, .val (.int p2), .val (.int p3), .val (.int pp), .val (.long tt), .second, .val (.int kk), .val (.int pw), .val (.long t2), .second, .val (.long q3), .second, .val (.ref b106), .val (.ref b108), .val (.ref b110), .val (.double (own_avg pp tt)), .second, .val (.double (own_avg pw t2)), .second, .val (.double (own_avg pp ((pp.toInt64) * q3))), .second, .val (.int (1 : Int32)), .val (.int (1 : Int32)), .val (.long (tt / (pp.toInt64))), .second] [(.double (FP.dmul (own_avg pw t2) (FP.i2d pw)))]))
    refine own_st (fun t_ k_ => XS.lload X114.here hx rfl (hb hby at_188) rfl k_) ?_
    show own_Go p.tables e below _ (T114.setTop (mkF m 190 #[.val (.int p0), .val (.long p1), .second, .val (.int p2), .val (.int p3), .val (.int pp), .val (.long tt), .second, .val (.int kk), .val (.int pw), .val (.long t2), .second, .val (.long q3), .second, .val (.ref b106), .val (.ref b108), .val (.ref b110), .val (.double (own_avg pp tt)), .second, .val (.double (own_avg pw t2)), .second, .val (.double (own_avg pp ((pp.toInt64) * q3))), .second, .val (.int (1 : Int32)), .val (.int (1 : Int32)), .val (.long (tt / (pp.toInt64))), .second] [(.long t2), (.double (FP.dmul (own_avg pw t2) (FP.i2d pw)))]))
    refine own_st (fun t_ k_ => XS.l2dS X114.here hx rfl (hb hby at_190) rfl rfl k_) ?_
    show own_Go p.tables e below _ (T114.setTop (mkF m 191 #[.val (.int p0), .val (.long p1), .second, .val (.int p2), .val (.int p3), .val (.int pp), .val (.long tt), .second, .val (.int kk), .val (.int pw), .val (.long t2), .second, .val (.long q3), .second, .val (.ref b106), .val (.ref b108), .val (.ref b110), .val (.double (own_avg pp tt)), .second, .val (.double (own_avg pw t2)), .second, .val (.double (own_avg pp ((pp.toInt64) * q3))), .second, .val (.int (1 : Int32)), .val (.int (1 : Int32)), .val (.long (tt / (pp.toInt64))), .second] [(.double (FP.l2d t2)), (.double (FP.dmul (own_avg pw t2) (FP.i2d pw)))]))
    refine own_st (fun t_ k_ => XS.dcmpS X114.here hx rfl (hb hby at_191) rfl rfl k_) ?_
    show own_Go p.tables e below _ (T114.setTop (mkF m 192 #[.val (.int p0), .val (.long p1), .second, .val (.int p2), .val (.int p3), .val (.int pp), .val (.long tt), .second, .val (.int kk), .val (.int pw), .val (.long t2), .second, .val (.long q3), .second, .val (.ref b106), .val (.ref b108), .val (.ref b110), .val (.double (own_avg pp tt)), .second, .val (.double (own_avg pw t2)), .second, .val (.double (own_avg pp ((pp.toInt64) * q3))), .second, .val (.int (1 : Int32)), .val (.int (1 : Int32)), .val (.long (tt / (pp.toInt64))), .second] [(.int (cmpValue (FP.dcmp (FP.dmul (own_avg pw t2) (FP.i2d pw)) (FP.l2d t2)) .l))]))
    refine own_st (fun t_ k_ => XS.ifNo X114.here hx rfl (hb hby at_192) rfl ((if0 _ _).trans (teq ((own_a3 hk2 hpw2 bt2.1 bt2.2).2 .l : (cmpValue (FP.dcmp (FP.dmul (own_avg pw t2) (FP.i2d pw)) (FP.l2d t2)) .l) = (0 : Int32))).2) k_) ?_
    show own_Go p.tables e below _ (T114.setTop (mkF m 195 #[.val (.int p0), .val (.long p1), .second, .val (.int p2), .val (.int p3), .val (.int pp), .val (.long tt), .second, .val (.int kk), .val (.int pw), .val (.long t2), .second, .val (.long q3), .second, .val (.ref b106), .val (.ref b108), .val (.ref b110), .val (.double (own_avg pp tt)), .second, .val (.double (own_avg pw t2)), .second, .val (.double (own_avg pp ((pp.toInt64) * q3))), .second, .val (.int (1 : Int32)), .val (.int (1 : Int32)), .val (.long (tt / (pp.toInt64))), .second] []))
    refine own_st (fun t_ k_ => XS.iconst X114.here hx rfl (hb hby at_195) k_) ?_
    show own_Go p.tables e below _ (T114.setTop (mkF m 196 #[.val (.int p0), .val (.long p1), .second, .val (.int p2), .val (.int p3), .val (.int pp), .val (.long tt), .second, .val (.int kk), .val (.int pw), .val (.long t2), .second, .val (.long q3), .second, .val (.ref b106), .val (.ref b108), .val (.ref b110), .val (.double (own_avg pp tt)), .second, .val (.double (own_avg pw t2)), .second, .val (.double (own_avg pp ((pp.toInt64) * q3))), .second, .val (.int (1 : Int32)), .val (.int (1 : Int32)), .val (.long (tt / (pp.toInt64))), .second] [(.int (1 : Int32))]))
    refine own_st (fun t_ k_ => XS.goto X114.here hx rfl (pc0 := 196) (pc' := 200) rfl (hb hby at_196) (by decide) (by decide) k_) ?_
    show own_Go p.tables e below _ (T114.setTop (mkF m 200 #[.val (.int p0), .val (.long p1), .second, .val (.int p2), .val (.int p3), .val (.int pp), .val (.long tt), .second, .val (.int kk), .val (.int pw), .val (.long t2), .second, .val (.long q3), .second, .val (.ref b106), .val (.ref b108), .val (.ref b110), .val (.double (own_avg pp tt)), .second, .val (.double (own_avg pw t2)), .second, .val (.double (own_avg pp ((pp.toInt64) * q3))), .second, .val (.int (1 : Int32)), .val (.int (1 : Int32)), .val (.long (tt / (pp.toInt64))), .second] [(.int (1 : Int32))]))
    refine own_st (fun t_ k_ => XS.istore X114.here hx rfl (hb hby at_200) rfl (l' := #[.val (.int p0), .val (.long p1), .second, .val (.int p2), .val (.int p3), .val (.int pp), .val (.long tt), .second, .val (.int kk), .val (.int pw), .val (.long t2), .second, .val (.long q3), .second, .val (.ref b106), .val (.ref b108), .val (.ref b110), .val (.double (own_avg pp tt)), .second, .val (.double (own_avg pw t2)), .second, .val (.double (own_avg pp ((pp.toInt64) * q3))), .second, .val (.int (1 : Int32)), .val (.int (1 : Int32)), .val (.int (1 : Int32)), .unset]) rfl k_) ?_
    show own_Go p.tables e below _ (T114.setTop (mkF m 202 #[.val (.int p0), .val (.long p1), .second, .val (.int p2), .val (.int p3), .val (.int pp), .val (.long tt), .second, .val (.int kk), .val (.int pw), .val (.long t2), .second, .val (.long q3), .second, .val (.ref b106), .val (.ref b108), .val (.ref b110), .val (.double (own_avg pp tt)), .second, .val (.double (own_avg pw t2)), .second, .val (.double (own_avg pp ((pp.toInt64) * q3))), .second, .val (.int (1 : Int32)), .val (.int (1 : Int32)), .val (.int (1 : Int32)), .unset] []))
    refine own_st (fun t_ k_ => XS.dload X114.here hx rfl (hb hby at_202) rfl k_) ?_
    show own_Go p.tables e below _ (T114.setTop (mkF m 204 #[.val (.int p0), .val (.long p1), .second, .val (.int p2), .val (.int p3), .val (.int pp), .val (.long tt), .second, .val (.int kk), .val (.int pw), .val (.long t2), .second, .val (.long q3), .second, .val (.ref b106), .val (.ref b108), .val (.ref b110), .val (.double (own_avg pp tt)), .second, .val (.double (own_avg pw t2)), .second, .val (.double (own_avg pp ((pp.toInt64) * q3))), .second, .val (.int (1 : Int32)), .val (.int (1 : Int32)), .val (.int (1 : Int32)), .unset] [(.double (own_avg pp ((pp.toInt64) * q3)))]))
    refine own_st (fun t_ k_ => XS.lload X114.here hx rfl (hb hby at_204) rfl k_) ?_
    show own_Go p.tables e below _ (T114.setTop (mkF m 206 #[.val (.int p0), .val (.long p1), .second, .val (.int p2), .val (.int p3), .val (.int pp), .val (.long tt), .second, .val (.int kk), .val (.int pw), .val (.long t2), .second, .val (.long q3), .second, .val (.ref b106), .val (.ref b108), .val (.ref b110), .val (.double (own_avg pp tt)), .second, .val (.double (own_avg pw t2)), .second, .val (.double (own_avg pp ((pp.toInt64) * q3))), .second, .val (.int (1 : Int32)), .val (.int (1 : Int32)), .val (.int (1 : Int32)), .unset] [(.long q3), (.double (own_avg pp ((pp.toInt64) * q3)))]))
    refine own_st (fun t_ k_ => XS.l2dS X114.here hx rfl (hb hby at_206) rfl rfl k_) ?_
    show own_Go p.tables e below _ (T114.setTop (mkF m 207 #[.val (.int p0), .val (.long p1), .second, .val (.int p2), .val (.int p3), .val (.int pp), .val (.long tt), .second, .val (.int kk), .val (.int pw), .val (.long t2), .second, .val (.long q3), .second, .val (.ref b106), .val (.ref b108), .val (.ref b110), .val (.double (own_avg pp tt)), .second, .val (.double (own_avg pw t2)), .second, .val (.double (own_avg pp ((pp.toInt64) * q3))), .second, .val (.int (1 : Int32)), .val (.int (1 : Int32)), .val (.int (1 : Int32)), .unset] [(.double (FP.l2d q3)), (.double (own_avg pp ((pp.toInt64) * q3)))]))
    refine own_st (fun t_ k_ => XS.dcmpS X114.here hx rfl (hb hby at_207) rfl rfl k_) ?_
    show own_Go p.tables e below _ (T114.setTop (mkF m 208 #[.val (.int p0), .val (.long p1), .second, .val (.int p2), .val (.int p3), .val (.int pp), .val (.long tt), .second, .val (.int kk), .val (.int pw), .val (.long t2), .second, .val (.long q3), .second, .val (.ref b106), .val (.ref b108), .val (.ref b110), .val (.double (own_avg pp tt)), .second, .val (.double (own_avg pw t2)), .second, .val (.double (own_avg pp ((pp.toInt64) * q3))), .second, .val (.int (1 : Int32)), .val (.int (1 : Int32)), .val (.int (1 : Int32)), .unset] [(.int (cmpValue (FP.dcmp (own_avg pp ((pp.toInt64) * q3)) (FP.l2d q3)) .l))]))
    refine own_st (fun t_ k_ => XS.ifNo X114.here hx rfl (hb hby at_208) rfl ((if0 _ _).trans (teq ((own_a4 bp bq.1 bq.2 .l).1 : (cmpValue (FP.dcmp (own_avg pp ((pp.toInt64) * q3)) (FP.l2d q3)) .l) = (0 : Int32))).2) k_) ?_
    show own_Go p.tables e below _ (T114.setTop (mkF m 211 #[.val (.int p0), .val (.long p1), .second, .val (.int p2), .val (.int p3), .val (.int pp), .val (.long tt), .second, .val (.int kk), .val (.int pw), .val (.long t2), .second, .val (.long q3), .second, .val (.ref b106), .val (.ref b108), .val (.ref b110), .val (.double (own_avg pp tt)), .second, .val (.double (own_avg pw t2)), .second, .val (.double (own_avg pp ((pp.toInt64) * q3))), .second, .val (.int (1 : Int32)), .val (.int (1 : Int32)), .val (.int (1 : Int32)), .unset] []))
    refine own_st (fun t_ k_ => XS.iconst X114.here hx rfl (hb hby at_211) k_) ?_
    show own_Go p.tables e below _ (T114.setTop (mkF m 212 #[.val (.int p0), .val (.long p1), .second, .val (.int p2), .val (.int p3), .val (.int pp), .val (.long tt), .second, .val (.int kk), .val (.int pw), .val (.long t2), .second, .val (.long q3), .second, .val (.ref b106), .val (.ref b108), .val (.ref b110), .val (.double (own_avg pp tt)), .second, .val (.double (own_avg pw t2)), .second, .val (.double (own_avg pp ((pp.toInt64) * q3))), .second, .val (.int (1 : Int32)), .val (.int (1 : Int32)), .val (.int (1 : Int32)), .unset] [(.int (1 : Int32))]))
    refine own_st (fun t_ k_ => XS.goto X114.here hx rfl (pc0 := 212) (pc' := 216) rfl (hb hby at_212) (by decide) (by decide) k_) ?_
    show own_Go p.tables e below _ (T114.setTop (mkF m 216 #[.val (.int p0), .val (.long p1), .second, .val (.int p2), .val (.int p3), .val (.int pp), .val (.long tt), .second, .val (.int kk), .val (.int pw), .val (.long t2), .second, .val (.long q3), .second, .val (.ref b106), .val (.ref b108), .val (.ref b110), .val (.double (own_avg pp tt)), .second, .val (.double (own_avg pw t2)), .second, .val (.double (own_avg pp ((pp.toInt64) * q3))), .second, .val (.int (1 : Int32)), .val (.int (1 : Int32)), .val (.int (1 : Int32)), .unset] [(.int (1 : Int32))]))
    refine own_st (fun t_ k_ => XS.istore X114.here hx rfl (hb hby at_216) rfl (l' := #[.val (.int p0), .val (.long p1), .second, .val (.int p2), .val (.int p3), .val (.int pp), .val (.long tt), .second, .val (.int kk), .val (.int pw), .val (.long t2), .second, .val (.long q3), .second, .val (.ref b106), .val (.ref b108), .val (.ref b110), .val (.double (own_avg pp tt)), .second, .val (.double (own_avg pw t2)), .second, .val (.double (own_avg pp ((pp.toInt64) * q3))), .second, .val (.int (1 : Int32)), .val (.int (1 : Int32)), .val (.int (1 : Int32)), .val (.int (1 : Int32))]) rfl k_) ?_
    show own_Go p.tables e below _ (T114.setTop (mkF m 218 #[.val (.int p0), .val (.long p1), .second, .val (.int p2), .val (.int p3), .val (.int pp), .val (.long tt), .second, .val (.int kk), .val (.int pw), .val (.long t2), .second, .val (.long q3), .second, .val (.ref b106), .val (.ref b108), .val (.ref b110), .val (.double (own_avg pp tt)), .second, .val (.double (own_avg pw t2)), .second, .val (.double (own_avg pp ((pp.toInt64) * q3))), .second, .val (.int (1 : Int32)), .val (.int (1 : Int32)), .val (.int (1 : Int32)), .val (.int (1 : Int32))] []))
    refine own_st (fun t_ k_ => XS.iload X114.here hx rfl (hb hby at_218) rfl k_) ?_
    show own_Go p.tables e below _ (T114.setTop (mkF m 220 #[.val (.int p0), .val (.long p1), .second, .val (.int p2), .val (.int p3), .val (.int pp), .val (.long tt), .second, .val (.int kk), .val (.int pw), .val (.long t2), .second, .val (.long q3), .second, .val (.ref b106), .val (.ref b108), .val (.ref b110), .val (.double (own_avg pp tt)), .second, .val (.double (own_avg pw t2)), .second, .val (.double (own_avg pp ((pp.toInt64) * q3))), .second, .val (.int (1 : Int32)), .val (.int (1 : Int32)), .val (.int (1 : Int32)), .val (.int (1 : Int32))] [(.int (1 : Int32))]))
    refine own_st (fun t_ k_ => XS.ifNo X114.here hx rfl (hb hby at_220) rfl ((if0 _ _).trans (feq (by decide : ¬ ((1 : Int32) = (0 : Int32)))).1) k_) ?_
    show own_Go p.tables e below _ (T114.setTop (mkF m 223 #[.val (.int p0), .val (.long p1), .second, .val (.int p2), .val (.int p3), .val (.int pp), .val (.long tt), .second, .val (.int kk), .val (.int pw), .val (.long t2), .second, .val (.long q3), .second, .val (.ref b106), .val (.ref b108), .val (.ref b110), .val (.double (own_avg pp tt)), .second, .val (.double (own_avg pw t2)), .second, .val (.double (own_avg pp ((pp.toInt64) * q3))), .second, .val (.int (1 : Int32)), .val (.int (1 : Int32)), .val (.int (1 : Int32)), .val (.int (1 : Int32))] []))
    refine own_st (fun t_ k_ => XS.iload X114.here hx rfl (hb hby at_223) rfl k_) ?_
    show own_Go p.tables e below _ (T114.setTop (mkF m 225 #[.val (.int p0), .val (.long p1), .second, .val (.int p2), .val (.int p3), .val (.int pp), .val (.long tt), .second, .val (.int kk), .val (.int pw), .val (.long t2), .second, .val (.long q3), .second, .val (.ref b106), .val (.ref b108), .val (.ref b110), .val (.double (own_avg pp tt)), .second, .val (.double (own_avg pw t2)), .second, .val (.double (own_avg pp ((pp.toInt64) * q3))), .second, .val (.int (1 : Int32)), .val (.int (1 : Int32)), .val (.int (1 : Int32)), .val (.int (1 : Int32))] [(.int (1 : Int32))]))
    refine own_st (fun t_ k_ => XS.ifNo X114.here hx rfl (hb hby at_225) rfl ((if0 _ _).trans (feq (by decide : ¬ ((1 : Int32) = (0 : Int32)))).1) k_) ?_
    show own_Go p.tables e below _ (T114.setTop (mkF m 228 #[.val (.int p0), .val (.long p1), .second, .val (.int p2), .val (.int p3), .val (.int pp), .val (.long tt), .second, .val (.int kk), .val (.int pw), .val (.long t2), .second, .val (.long q3), .second, .val (.ref b106), .val (.ref b108), .val (.ref b110), .val (.double (own_avg pp tt)), .second, .val (.double (own_avg pw t2)), .second, .val (.double (own_avg pp ((pp.toInt64) * q3))), .second, .val (.int (1 : Int32)), .val (.int (1 : Int32)), .val (.int (1 : Int32)), .val (.int (1 : Int32))] []))
    refine own_st (fun t_ k_ => XS.iload X114.here hx rfl (hb hby at_228) rfl k_) ?_
    show own_Go p.tables e below _ (T114.setTop (mkF m 230 #[.val (.int p0), .val (.long p1), .second, .val (.int p2), .val (.int p3), .val (.int pp), .val (.long tt), .second, .val (.int kk), .val (.int pw), .val (.long t2), .second, .val (.long q3), .second, .val (.ref b106), .val (.ref b108), .val (.ref b110), .val (.double (own_avg pp tt)), .second, .val (.double (own_avg pw t2)), .second, .val (.double (own_avg pp ((pp.toInt64) * q3))), .second, .val (.int (1 : Int32)), .val (.int (1 : Int32)), .val (.int (1 : Int32)), .val (.int (1 : Int32))] [(.int (1 : Int32))]))
    refine own_st (fun t_ k_ => XS.ifNo X114.here hx rfl (hb hby at_230) rfl ((if0 _ _).trans (feq (by decide : ¬ ((1 : Int32) = (0 : Int32)))).1) k_) ?_
    show own_Go p.tables e below _ (T114.setTop (mkF m 233 #[.val (.int p0), .val (.long p1), .second, .val (.int p2), .val (.int p3), .val (.int pp), .val (.long tt), .second, .val (.int kk), .val (.int pw), .val (.long t2), .second, .val (.long q3), .second, .val (.ref b106), .val (.ref b108), .val (.ref b110), .val (.double (own_avg pp tt)), .second, .val (.double (own_avg pw t2)), .second, .val (.double (own_avg pp ((pp.toInt64) * q3))), .second, .val (.int (1 : Int32)), .val (.int (1 : Int32)), .val (.int (1 : Int32)), .val (.int (1 : Int32))] []))
    refine own_st (fun t_ k_ => XS.iload X114.here hx rfl (hb hby at_233) rfl k_) ?_
    show own_Go p.tables e below _ (T114.setTop (mkF m 235 #[.val (.int p0), .val (.long p1), .second, .val (.int p2), .val (.int p3), .val (.int pp), .val (.long tt), .second, .val (.int kk), .val (.int pw), .val (.long t2), .second, .val (.long q3), .second, .val (.ref b106), .val (.ref b108), .val (.ref b110), .val (.double (own_avg pp tt)), .second, .val (.double (own_avg pw t2)), .second, .val (.double (own_avg pp ((pp.toInt64) * q3))), .second, .val (.int (1 : Int32)), .val (.int (1 : Int32)), .val (.int (1 : Int32)), .val (.int (1 : Int32))] [(.int (1 : Int32))]))
    refine own_st (fun t_ k_ => XS.ifNo X114.here hx rfl (hb hby at_235) rfl ((if0 _ _).trans (feq (by decide : ¬ ((1 : Int32) = (0 : Int32)))).1) k_) ?_
    show own_Go p.tables e below _ (T114.setTop (mkF m 238 #[.val (.int p0), .val (.long p1), .second, .val (.int p2), .val (.int p3), .val (.int pp), .val (.long tt), .second, .val (.int kk), .val (.int pw), .val (.long t2), .second, .val (.long q3), .second, .val (.ref b106), .val (.ref b108), .val (.ref b110), .val (.double (own_avg pp tt)), .second, .val (.double (own_avg pw t2)), .second, .val (.double (own_avg pp ((pp.toInt64) * q3))), .second, .val (.int (1 : Int32)), .val (.int (1 : Int32)), .val (.int (1 : Int32)), .val (.int (1 : Int32))] []))
    refine own_st (fun t_ k_ => XS.iconst X114.here hx rfl (hb hby at_238) k_) ?_
    show own_Go p.tables e below _ (T114.setTop (mkF m 239 #[.val (.int p0), .val (.long p1), .second, .val (.int p2), .val (.int p3), .val (.int pp), .val (.long tt), .second, .val (.int kk), .val (.int pw), .val (.long t2), .second, .val (.long q3), .second, .val (.ref b106), .val (.ref b108), .val (.ref b110), .val (.double (own_avg pp tt)), .second, .val (.double (own_avg pw t2)), .second, .val (.double (own_avg pp ((pp.toInt64) * q3))), .second, .val (.int (1 : Int32)), .val (.int (1 : Int32)), .val (.int (1 : Int32)), .val (.int (1 : Int32))] [(.int (1 : Int32))]))
    refine own_st (fun t_ k_ => XS.goto X114.here hx rfl (pc0 := 239) (pc' := 243) rfl (hb hby at_239) (by decide) (by decide) k_) ?_
    show own_Go p.tables e below _ (T114.setTop (mkF m 243 #[.val (.int p0), .val (.long p1), .second, .val (.int p2), .val (.int p3), .val (.int pp), .val (.long tt), .second, .val (.int kk), .val (.int pw), .val (.long t2), .second, .val (.long q3), .second, .val (.ref b106), .val (.ref b108), .val (.ref b110), .val (.double (own_avg pp tt)), .second, .val (.double (own_avg pw t2)), .second, .val (.double (own_avg pp ((pp.toInt64) * q3))), .second, .val (.int (1 : Int32)), .val (.int (1 : Int32)), .val (.int (1 : Int32)), .val (.int (1 : Int32))] [(.int (1 : Int32))]))
    exact own_ret (w := (.int (1 : Int32))) X114 hx hnl Bd.returns rfl (Or.inl ⟨rfl, by decide, _, rfl⟩) (hb hby at_243) ⟨rfl, N114, (by rw [eq114]; exact K111)⟩ (by decide) (by decide)
  · skip
    refine own_st (fun t_ k_ => XS.ifYes X114.here hx rfl (pc0 := 144) (pc' := 182) rfl (hb hby at_144) rfl ((if0 _ _).trans (flt c144_115).2.1) (by decide) (by decide) k_) ?_
    show own_Go p.tables e below _ (T114.setTop (mkF m 182 #[.val (.int p0), .val (.long p1), .second, .val (.int p2), .val (.int p3), .val (.int pp), .val (.long tt), .second, .val (.int kk), .val (.int pw), .val (.long t2), .second, .val (.long q3), .second, .val (.ref b106), .val (.ref b108), .val (.ref b110), .val (.double (own_avg pp tt)), .second, .val (.double (own_avg pw t2)), .second, .val (.double (own_avg pp ((pp.toInt64) * q3))), .second, .val (.int (1 : Int32)), .val (.int (1 : Int32)), .unset, .unset] []))
    refine own_st (fun t_ k_ => XS.dload X114.here hx rfl (hb hby at_182) rfl k_) ?_
    show own_Go p.tables e below _ (T114.setTop (mkF m 184 #[.val (.int p0), .val (.long p1), .second, .val (.int p2), .val (.int p3), .val (.int pp), .val (.long tt), .second, .val (.int kk), .val (.int pw), .val (.long t2), .second, .val (.long q3), .second, .val (.ref b106), .val (.ref b108), .val (.ref b110), .val (.double (own_avg pp tt)), .second, .val (.double (own_avg pw t2)), .second, .val (.double (own_avg pp ((pp.toInt64) * q3))), .second, .val (.int (1 : Int32)), .val (.int (1 : Int32)), .unset, .unset] [(.double (own_avg pw t2))]))
    refine own_st (fun t_ k_ => XS.iload X114.here hx rfl (hb hby at_184) rfl k_) ?_
    show own_Go p.tables e below _ (T114.setTop (mkF m 186 #[.val (.int p0), .val (.long p1), .second, .val (.int p2), .val (.int p3), .val (.int pp), .val (.long tt), .second, .val (.int kk), .val (.int pw), .val (.long t2), .second, .val (.long q3), .second, .val (.ref b106), .val (.ref b108), .val (.ref b110), .val (.double (own_avg pp tt)), .second, .val (.double (own_avg pw t2)), .second, .val (.double (own_avg pp ((pp.toInt64) * q3))), .second, .val (.int (1 : Int32)), .val (.int (1 : Int32)), .unset, .unset] [(.int pw), (.double (own_avg pw t2))]))
    refine own_st (fun t_ k_ => XS.i2dS X114.here hx rfl (hb hby at_186) rfl rfl k_) ?_
    show own_Go p.tables e below _ (T114.setTop (mkF m 187 #[.val (.int p0), .val (.long p1), .second, .val (.int p2), .val (.int p3), .val (.int pp), .val (.long tt), .second, .val (.int kk), .val (.int pw), .val (.long t2), .second, .val (.long q3), .second, .val (.ref b106), .val (.ref b108), .val (.ref b110), .val (.double (own_avg pp tt)), .second, .val (.double (own_avg pw t2)), .second, .val (.double (own_avg pp ((pp.toInt64) * q3))), .second, .val (.int (1 : Int32)), .val (.int (1 : Int32)), .unset, .unset] [(.double (FP.i2d pw)), (.double (own_avg pw t2))]))
    refine own_st (fun t_ k_ => XS.dmulS X114.here hx rfl (hb hby at_187) rfl (own_a3 hk2 hpw2 bt2.1 bt2.2).1 rfl k_) ?_
    show own_Go p.tables e below _ (T114.setTop (mkF m 188 #[.val (.int p0), .val (.long p1), .second, .val (.int p2), .val (.int p3), .val (.int pp), .val (.long tt), .second, .val (.int kk), .val (.int pw), .val (.long t2), .second, .val (.long q3), .second, .val (.ref b106), .val (.ref b108), .val (.ref b110), .val (.double (own_avg pp tt)), .second, .val (.double (own_avg pw t2)), .second, .val (.double (own_avg pp ((pp.toInt64) * q3))), .second, .val (.int (1 : Int32)), .val (.int (1 : Int32)), .unset, .unset] [(.double (FP.dmul (own_avg pw t2) (FP.i2d pw)))]))
    refine own_st (fun t_ k_ => XS.lload X114.here hx rfl (hb hby at_188) rfl k_) ?_
    show own_Go p.tables e below _ (T114.setTop (mkF m 190 #[.val (.int p0), .val (.long p1), .second, .val (.int p2), .val (.int p3), .val (.int pp), .val (.long tt), .second, .val (.int kk), .val (.int pw), .val (.long t2), .second, .val (.long q3), .second, .val (.ref b106), .val (.ref b108), .val (.ref b110), .val (.double (own_avg pp tt)), .second, .val (.double (own_avg pw t2)), .second, .val (.double (own_avg pp ((pp.toInt64) * q3))), .second, .val (.int (1 : Int32)), .val (.int (1 : Int32)), .unset, .unset] [(.long t2), (.double (FP.dmul (own_avg pw t2) (FP.i2d pw)))]))
    refine own_st (fun t_ k_ => XS.l2dS X114.here hx rfl (hb hby at_190) rfl rfl k_) ?_
    show own_Go p.tables e below _ (T114.setTop (mkF m 191 #[.val (.int p0), .val (.long p1), .second, .val (.int p2), .val (.int p3), .val (.int pp), .val (.long tt), .second, .val (.int kk), .val (.int pw), .val (.long t2), .second, .val (.long q3), .second, .val (.ref b106), .val (.ref b108), .val (.ref b110), .val (.double (own_avg pp tt)), .second, .val (.double (own_avg pw t2)), .second, .val (.double (own_avg pp ((pp.toInt64) * q3))), .second, .val (.int (1 : Int32)), .val (.int (1 : Int32)), .unset, .unset] [(.double (FP.l2d t2)), (.double (FP.dmul (own_avg pw t2) (FP.i2d pw)))]))
    refine own_st (fun t_ k_ => XS.dcmpS X114.here hx rfl (hb hby at_191) rfl rfl k_) ?_
    show own_Go p.tables e below _ (T114.setTop (mkF m 192 #[.val (.int p0), .val (.long p1), .second, .val (.int p2), .val (.int p3), .val (.int pp), .val (.long tt), .second, .val (.int kk), .val (.int pw), .val (.long t2), .second, .val (.long q3), .second, .val (.ref b106), .val (.ref b108), .val (.ref b110), .val (.double (own_avg pp tt)), .second, .val (.double (own_avg pw t2)), .second, .val (.double (own_avg pp ((pp.toInt64) * q3))), .second, .val (.int (1 : Int32)), .val (.int (1 : Int32)), .unset, .unset] [(.int (cmpValue (FP.dcmp (FP.dmul (own_avg pw t2) (FP.i2d pw)) (FP.l2d t2)) .l))]))
    refine own_st (fun t_ k_ => XS.ifNo X114.here hx rfl (hb hby at_192) rfl ((if0 _ _).trans (teq ((own_a3 hk2 hpw2 bt2.1 bt2.2).2 .l : (cmpValue (FP.dcmp (FP.dmul (own_avg pw t2) (FP.i2d pw)) (FP.l2d t2)) .l) = (0 : Int32))).2) k_) ?_
    show own_Go p.tables e below _ (T114.setTop (mkF m 195 #[.val (.int p0), .val (.long p1), .second, .val (.int p2), .val (.int p3), .val (.int pp), .val (.long tt), .second, .val (.int kk), .val (.int pw), .val (.long t2), .second, .val (.long q3), .second, .val (.ref b106), .val (.ref b108), .val (.ref b110), .val (.double (own_avg pp tt)), .second, .val (.double (own_avg pw t2)), .second, .val (.double (own_avg pp ((pp.toInt64) * q3))), .second, .val (.int (1 : Int32)), .val (.int (1 : Int32)), .unset, .unset] []))
    refine own_st (fun t_ k_ => XS.iconst X114.here hx rfl (hb hby at_195) k_) ?_
    show own_Go p.tables e below _ (T114.setTop (mkF m 196 #[.val (.int p0), .val (.long p1), .second, .val (.int p2), .val (.int p3), .val (.int pp), .val (.long tt), .second, .val (.int kk), .val (.int pw), .val (.long t2), .second, .val (.long q3), .second, .val (.ref b106), .val (.ref b108), .val (.ref b110), .val (.double (own_avg pp tt)), .second, .val (.double (own_avg pw t2)), .second, .val (.double (own_avg pp ((pp.toInt64) * q3))), .second, .val (.int (1 : Int32)), .val (.int (1 : Int32)), .unset, .unset] [(.int (1 : Int32))]))
    refine own_st (fun t_ k_ => XS.goto X114.here hx rfl (pc0 := 196) (pc' := 200) rfl (hb hby at_196) (by decide) (by decide) k_) ?_
    show own_Go p.tables e below _ (T114.setTop (mkF m 200 #[.val (.int p0), .val (.long p1), .second, .val (.int p2), .val (.int p3), .val (.int pp), .val (.long tt), .second, .val (.int kk), .val (.int pw), .val (.long t2), .second, .val (.long q3), .second, .val (.ref b106), .val (.ref b108), .val (.ref b110), .val (.double (own_avg pp tt)), .second, .val (.double (own_avg pw t2)), .second, .val (.double (own_avg pp ((pp.toInt64) * q3))), .second, .val (.int (1 : Int32)), .val (.int (1 : Int32)), .unset, .unset] [(.int (1 : Int32))]))
    refine own_st (fun t_ k_ => XS.istore X114.here hx rfl (hb hby at_200) rfl (l' := #[.val (.int p0), .val (.long p1), .second, .val (.int p2), .val (.int p3), .val (.int pp), .val (.long tt), .second, .val (.int kk), .val (.int pw), .val (.long t2), .second, .val (.long q3), .second, .val (.ref b106), .val (.ref b108), .val (.ref b110), .val (.double (own_avg pp tt)), .second, .val (.double (own_avg pw t2)), .second, .val (.double (own_avg pp ((pp.toInt64) * q3))), .second, .val (.int (1 : Int32)), .val (.int (1 : Int32)), .val (.int (1 : Int32)), .unset]) rfl k_) ?_
    show own_Go p.tables e below _ (T114.setTop (mkF m 202 #[.val (.int p0), .val (.long p1), .second, .val (.int p2), .val (.int p3), .val (.int pp), .val (.long tt), .second, .val (.int kk), .val (.int pw), .val (.long t2), .second, .val (.long q3), .second, .val (.ref b106), .val (.ref b108), .val (.ref b110), .val (.double (own_avg pp tt)), .second, .val (.double (own_avg pw t2)), .second, .val (.double (own_avg pp ((pp.toInt64) * q3))), .second, .val (.int (1 : Int32)), .val (.int (1 : Int32)), .val (.int (1 : Int32)), .unset] []))
    refine own_st (fun t_ k_ => XS.dload X114.here hx rfl (hb hby at_202) rfl k_) ?_
    show own_Go p.tables e below _ (T114.setTop (mkF m 204 #[.val (.int p0), .val (.long p1), .second, .val (.int p2), .val (.int p3), .val (.int pp), .val (.long tt), .second, .val (.int kk), .val (.int pw), .val (.long t2), .second, .val (.long q3), .second, .val (.ref b106), .val (.ref b108), .val (.ref b110), .val (.double (own_avg pp tt)), .second, .val (.double (own_avg pw t2)), .second, .val (.double (own_avg pp ((pp.toInt64) * q3))), .second, .val (.int (1 : Int32)), .val (.int (1 : Int32)), .val (.int (1 : Int32)), .unset] [(.double (own_avg pp ((pp.toInt64) * q3)))]))
    refine own_st (fun t_ k_ => XS.lload X114.here hx rfl (hb hby at_204) rfl k_) ?_
    show own_Go p.tables e below _ (T114.setTop (mkF m 206 #[.val (.int p0), .val (.long p1), .second, .val (.int p2), .val (.int p3), .val (.int pp), .val (.long tt), .second, .val (.int kk), .val (.int pw), .val (.long t2), .second, .val (.long q3), .second, .val (.ref b106), .val (.ref b108), .val (.ref b110), .val (.double (own_avg pp tt)), .second, .val (.double (own_avg pw t2)), .second, .val (.double (own_avg pp ((pp.toInt64) * q3))), .second, .val (.int (1 : Int32)), .val (.int (1 : Int32)), .val (.int (1 : Int32)), .unset] [(.long q3), (.double (own_avg pp ((pp.toInt64) * q3)))]))
    refine own_st (fun t_ k_ => XS.l2dS X114.here hx rfl (hb hby at_206) rfl rfl k_) ?_
    show own_Go p.tables e below _ (T114.setTop (mkF m 207 #[.val (.int p0), .val (.long p1), .second, .val (.int p2), .val (.int p3), .val (.int pp), .val (.long tt), .second, .val (.int kk), .val (.int pw), .val (.long t2), .second, .val (.long q3), .second, .val (.ref b106), .val (.ref b108), .val (.ref b110), .val (.double (own_avg pp tt)), .second, .val (.double (own_avg pw t2)), .second, .val (.double (own_avg pp ((pp.toInt64) * q3))), .second, .val (.int (1 : Int32)), .val (.int (1 : Int32)), .val (.int (1 : Int32)), .unset] [(.double (FP.l2d q3)), (.double (own_avg pp ((pp.toInt64) * q3)))]))
    refine own_st (fun t_ k_ => XS.dcmpS X114.here hx rfl (hb hby at_207) rfl rfl k_) ?_
    show own_Go p.tables e below _ (T114.setTop (mkF m 208 #[.val (.int p0), .val (.long p1), .second, .val (.int p2), .val (.int p3), .val (.int pp), .val (.long tt), .second, .val (.int kk), .val (.int pw), .val (.long t2), .second, .val (.long q3), .second, .val (.ref b106), .val (.ref b108), .val (.ref b110), .val (.double (own_avg pp tt)), .second, .val (.double (own_avg pw t2)), .second, .val (.double (own_avg pp ((pp.toInt64) * q3))), .second, .val (.int (1 : Int32)), .val (.int (1 : Int32)), .val (.int (1 : Int32)), .unset] [(.int (cmpValue (FP.dcmp (own_avg pp ((pp.toInt64) * q3)) (FP.l2d q3)) .l))]))
    refine own_st (fun t_ k_ => XS.ifNo X114.here hx rfl (hb hby at_208) rfl ((if0 _ _).trans (teq ((own_a4 bp bq.1 bq.2 .l).1 : (cmpValue (FP.dcmp (own_avg pp ((pp.toInt64) * q3)) (FP.l2d q3)) .l) = (0 : Int32))).2) k_) ?_
    show own_Go p.tables e below _ (T114.setTop (mkF m 211 #[.val (.int p0), .val (.long p1), .second, .val (.int p2), .val (.int p3), .val (.int pp), .val (.long tt), .second, .val (.int kk), .val (.int pw), .val (.long t2), .second, .val (.long q3), .second, .val (.ref b106), .val (.ref b108), .val (.ref b110), .val (.double (own_avg pp tt)), .second, .val (.double (own_avg pw t2)), .second, .val (.double (own_avg pp ((pp.toInt64) * q3))), .second, .val (.int (1 : Int32)), .val (.int (1 : Int32)), .val (.int (1 : Int32)), .unset] []))
    refine own_st (fun t_ k_ => XS.iconst X114.here hx rfl (hb hby at_211) k_) ?_
    show own_Go p.tables e below _ (T114.setTop (mkF m 212 #[.val (.int p0), .val (.long p1), .second, .val (.int p2), .val (.int p3), .val (.int pp), .val (.long tt), .second, .val (.int kk), .val (.int pw), .val (.long t2), .second, .val (.long q3), .second, .val (.ref b106), .val (.ref b108), .val (.ref b110), .val (.double (own_avg pp tt)), .second, .val (.double (own_avg pw t2)), .second, .val (.double (own_avg pp ((pp.toInt64) * q3))), .second, .val (.int (1 : Int32)), .val (.int (1 : Int32)), .val (.int (1 : Int32)), .unset] [(.int (1 : Int32))]))
    refine own_st (fun t_ k_ => XS.goto X114.here hx rfl (pc0 := 212) (pc' := 216) rfl (hb hby at_212) (by decide) (by decide) k_) ?_
    show own_Go p.tables e below _ (T114.setTop (mkF m 216 #[.val (.int p0), .val (.long p1), .second, .val (.int p2), .val (.int p3), .val (.int pp), .val (.long tt), .second, .val (.int kk), .val (.int pw), .val (.long t2), .second, .val (.long q3), .second, .val (.ref b106), .val (.ref b108), .val (.ref b110), .val (.double (own_avg pp tt)), .second, .val (.double (own_avg pw t2)), .second, .val (.double (own_avg pp ((pp.toInt64) * q3))), .second, .val (.int (1 : Int32)), .val (.int (1 : Int32)), .val (.int (1 : Int32)), .unset] [(.int (1 : Int32))]))
    refine own_st (fun t_ k_ => XS.istore X114.here hx rfl (hb hby at_216) rfl (l' := #[.val (.int p0), .val (.long p1), .second, .val (.int p2), .val (.int p3), .val (.int pp), .val (.long tt), .second, .val (.int kk), .val (.int pw), .val (.long t2), .second, .val (.long q3), .second, .val (.ref b106), .val (.ref b108), .val (.ref b110), .val (.double (own_avg pp tt)), .second, .val (.double (own_avg pw t2)), .second, .val (.double (own_avg pp ((pp.toInt64) * q3))), .second, .val (.int (1 : Int32)), .val (.int (1 : Int32)), .val (.int (1 : Int32)), .val (.int (1 : Int32))]) rfl k_) ?_
    show own_Go p.tables e below _ (T114.setTop (mkF m 218 #[.val (.int p0), .val (.long p1), .second, .val (.int p2), .val (.int p3), .val (.int pp), .val (.long tt), .second, .val (.int kk), .val (.int pw), .val (.long t2), .second, .val (.long q3), .second, .val (.ref b106), .val (.ref b108), .val (.ref b110), .val (.double (own_avg pp tt)), .second, .val (.double (own_avg pw t2)), .second, .val (.double (own_avg pp ((pp.toInt64) * q3))), .second, .val (.int (1 : Int32)), .val (.int (1 : Int32)), .val (.int (1 : Int32)), .val (.int (1 : Int32))] []))
    refine own_st (fun t_ k_ => XS.iload X114.here hx rfl (hb hby at_218) rfl k_) ?_
    show own_Go p.tables e below _ (T114.setTop (mkF m 220 #[.val (.int p0), .val (.long p1), .second, .val (.int p2), .val (.int p3), .val (.int pp), .val (.long tt), .second, .val (.int kk), .val (.int pw), .val (.long t2), .second, .val (.long q3), .second, .val (.ref b106), .val (.ref b108), .val (.ref b110), .val (.double (own_avg pp tt)), .second, .val (.double (own_avg pw t2)), .second, .val (.double (own_avg pp ((pp.toInt64) * q3))), .second, .val (.int (1 : Int32)), .val (.int (1 : Int32)), .val (.int (1 : Int32)), .val (.int (1 : Int32))] [(.int (1 : Int32))]))
    refine own_st (fun t_ k_ => XS.ifNo X114.here hx rfl (hb hby at_220) rfl ((if0 _ _).trans (feq (by decide : ¬ ((1 : Int32) = (0 : Int32)))).1) k_) ?_
    show own_Go p.tables e below _ (T114.setTop (mkF m 223 #[.val (.int p0), .val (.long p1), .second, .val (.int p2), .val (.int p3), .val (.int pp), .val (.long tt), .second, .val (.int kk), .val (.int pw), .val (.long t2), .second, .val (.long q3), .second, .val (.ref b106), .val (.ref b108), .val (.ref b110), .val (.double (own_avg pp tt)), .second, .val (.double (own_avg pw t2)), .second, .val (.double (own_avg pp ((pp.toInt64) * q3))), .second, .val (.int (1 : Int32)), .val (.int (1 : Int32)), .val (.int (1 : Int32)), .val (.int (1 : Int32))] []))
    refine own_st (fun t_ k_ => XS.iload X114.here hx rfl (hb hby at_223) rfl k_) ?_
    show own_Go p.tables e below _ (T114.setTop (mkF m 225 #[.val (.int p0), .val (.long p1), .second, .val (.int p2), .val (.int p3), .val (.int pp), .val (.long tt), .second, .val (.int kk), .val (.int pw), .val (.long t2), .second, .val (.long q3), .second, .val (.ref b106), .val (.ref b108), .val (.ref b110), .val (.double (own_avg pp tt)), .second, .val (.double (own_avg pw t2)), .second, .val (.double (own_avg pp ((pp.toInt64) * q3))), .second, .val (.int (1 : Int32)), .val (.int (1 : Int32)), .val (.int (1 : Int32)), .val (.int (1 : Int32))] [(.int (1 : Int32))]))
    refine own_st (fun t_ k_ => XS.ifNo X114.here hx rfl (hb hby at_225) rfl ((if0 _ _).trans (feq (by decide : ¬ ((1 : Int32) = (0 : Int32)))).1) k_) ?_
    show own_Go p.tables e below _ (T114.setTop (mkF m 228 #[.val (.int p0), .val (.long p1), .second, .val (.int p2), .val (.int p3), .val (.int pp), .val (.long tt), .second, .val (.int kk), .val (.int pw), .val (.long t2), .second, .val (.long q3), .second, .val (.ref b106), .val (.ref b108), .val (.ref b110), .val (.double (own_avg pp tt)), .second, .val (.double (own_avg pw t2)), .second, .val (.double (own_avg pp ((pp.toInt64) * q3))), .second, .val (.int (1 : Int32)), .val (.int (1 : Int32)), .val (.int (1 : Int32)), .val (.int (1 : Int32))] []))
    refine own_st (fun t_ k_ => XS.iload X114.here hx rfl (hb hby at_228) rfl k_) ?_
    show own_Go p.tables e below _ (T114.setTop (mkF m 230 #[.val (.int p0), .val (.long p1), .second, .val (.int p2), .val (.int p3), .val (.int pp), .val (.long tt), .second, .val (.int kk), .val (.int pw), .val (.long t2), .second, .val (.long q3), .second, .val (.ref b106), .val (.ref b108), .val (.ref b110), .val (.double (own_avg pp tt)), .second, .val (.double (own_avg pw t2)), .second, .val (.double (own_avg pp ((pp.toInt64) * q3))), .second, .val (.int (1 : Int32)), .val (.int (1 : Int32)), .val (.int (1 : Int32)), .val (.int (1 : Int32))] [(.int (1 : Int32))]))
    refine own_st (fun t_ k_ => XS.ifNo X114.here hx rfl (hb hby at_230) rfl ((if0 _ _).trans (feq (by decide : ¬ ((1 : Int32) = (0 : Int32)))).1) k_) ?_
    show own_Go p.tables e below _ (T114.setTop (mkF m 233 #[.val (.int p0), .val (.long p1), .second, .val (.int p2), .val (.int p3), .val (.int pp), .val (.long tt), .second, .val (.int kk), .val (.int pw), .val (.long t2), .second, .val (.long q3), .second, .val (.ref b106), .val (.ref b108), .val (.ref b110), .val (.double (own_avg pp tt)), .second, .val (.double (own_avg pw t2)), .second, .val (.double (own_avg pp ((pp.toInt64) * q3))), .second, .val (.int (1 : Int32)), .val (.int (1 : Int32)), .val (.int (1 : Int32)), .val (.int (1 : Int32))] []))
    refine own_st (fun t_ k_ => XS.iload X114.here hx rfl (hb hby at_233) rfl k_) ?_
    show own_Go p.tables e below _ (T114.setTop (mkF m 235 #[.val (.int p0), .val (.long p1), .second, .val (.int p2), .val (.int p3), .val (.int pp), .val (.long tt), .second, .val (.int kk), .val (.int pw), .val (.long t2), .second, .val (.long q3), .second, .val (.ref b106), .val (.ref b108), .val (.ref b110), .val (.double (own_avg pp tt)), .second, .val (.double (own_avg pw t2)), .second, .val (.double (own_avg pp ((pp.toInt64) * q3))), .second, .val (.int (1 : Int32)), .val (.int (1 : Int32)), .val (.int (1 : Int32)), .val (.int (1 : Int32))] [(.int (1 : Int32))]))
    refine own_st (fun t_ k_ => XS.ifNo X114.here hx rfl (hb hby at_235) rfl ((if0 _ _).trans (feq (by decide : ¬ ((1 : Int32) = (0 : Int32)))).1) k_) ?_
    show own_Go p.tables e below _ (T114.setTop (mkF m 238 #[.val (.int p0), .val (.long p1), .second, .val (.int p2), .val (.int p3), .val (.int pp), .val (.long tt), .second, .val (.int kk), .val (.int pw), .val (.long t2), .second, .val (.long q3), .second, .val (.ref b106), .val (.ref b108), .val (.ref b110), .val (.double (own_avg pp tt)), .second, .val (.double (own_avg pw t2)), .second, .val (.double (own_avg pp ((pp.toInt64) * q3))), .second, .val (.int (1 : Int32)), .val (.int (1 : Int32)), .val (.int (1 : Int32)), .val (.int (1 : Int32))] []))
    refine own_st (fun t_ k_ => XS.iconst X114.here hx rfl (hb hby at_238) k_) ?_
    show own_Go p.tables e below _ (T114.setTop (mkF m 239 #[.val (.int p0), .val (.long p1), .second, .val (.int p2), .val (.int p3), .val (.int pp), .val (.long tt), .second, .val (.int kk), .val (.int pw), .val (.long t2), .second, .val (.long q3), .second, .val (.ref b106), .val (.ref b108), .val (.ref b110), .val (.double (own_avg pp tt)), .second, .val (.double (own_avg pw t2)), .second, .val (.double (own_avg pp ((pp.toInt64) * q3))), .second, .val (.int (1 : Int32)), .val (.int (1 : Int32)), .val (.int (1 : Int32)), .val (.int (1 : Int32))] [(.int (1 : Int32))]))
    refine own_st (fun t_ k_ => XS.goto X114.here hx rfl (pc0 := 239) (pc' := 243) rfl (hb hby at_239) (by decide) (by decide) k_) ?_
    show own_Go p.tables e below _ (T114.setTop (mkF m 243 #[.val (.int p0), .val (.long p1), .second, .val (.int p2), .val (.int p3), .val (.int pp), .val (.long tt), .second, .val (.int kk), .val (.int pw), .val (.long t2), .second, .val (.long q3), .second, .val (.ref b106), .val (.ref b108), .val (.ref b110), .val (.double (own_avg pp tt)), .second, .val (.double (own_avg pw t2)), .second, .val (.double (own_avg pp ((pp.toInt64) * q3))), .second, .val (.int (1 : Int32)), .val (.int (1 : Int32)), .val (.int (1 : Int32)), .val (.int (1 : Int32))] [(.int (1 : Int32))]))
    exact own_ret (w := (.int (1 : Int32))) X114 hx hnl Bd.returns rfl (Or.inl ⟨rfl, by decide, _, rfl⟩) (hb hby at_243) ⟨rfl, N114, (by rw [eq114]; exact K111)⟩ (by decide) (by decide)

set_option maxRecDepth 65536 in
set_option maxHeartbeats 40000000 in
theorem comes_1 {Post : Tables → Env → Array Value → State → Outcome → State → Prop} (hpost : ∀ tb e args s v u, (limb_1_1.after args s (.returned v) u = true ∧ limb_1_2.after args s (.returned v) u = true ∧ True) → FrameEnd s (.returned v) u (Jvm.fieldLocs frame_1_writes args s ++ Jvm.arrayLocs frame_1_arrays args s ++ Jvm.staticLocs frame_1_statics s) 16 128 → Post tb e args s (.returned v) u) :
    ArmFor flags0 classFile x code maxLocals ret World_1 tables_1 room_1 Calls_1 rest_1 Pre_1 Post := by
  intro l hfl _ _ p e ha hc hk s m args below hf hA hF happ hP
  obtain ⟨hcalls, hrest, hpre⟩ := hP
  obtain ⟨-, -, -, hnamed, -, -, -, hat⟩ := (Spec.applies_iff hf).mp happ
  obtain ⟨hg, hn⟩ := and_e (Cond.before_iff.mp (show (Jvm.Cond.and given_1 narrow_1).before args s = true from hpre))
  obtain ⟨hcount, g0⟩ := and_e hg
  obtain ⟨v0, g1⟩ := and_e g0
  obtain ⟨v1, g2⟩ := and_e g1
  obtain ⟨v2, g3⟩ := and_e g2
  have v3 := g3
  obtain ⟨w0, w1, w2, w3, rfl⟩ : ∃ w0 w1 w2 w3 : Value, args = #[w0, w1, w2, w3] := by
    have hs : args.size = 4 := by simpa [Cond.value, given_1] using hcount
    obtain ⟨L⟩ := args
    match L, hs with
    | [w0, w1, w2, w3], _ => exact ⟨w0, w1, w2, w3, rfl⟩
  have hw := fun d (hd : d ∈ tables_1) => atoms_spec (ws := Jvm.Cond.code x code maxLocals ret :: tables_1) hat d (List.mem_cons_of_mem _ hd)
  have hfit : Fit s := fun {y c} hc i hi => by
    obtain ⟨ha, rfl⟩ := Array.getElem?_eq_some_iff.mp hc
    have q := List.all_eq_true.mp ((Array.all_eq_true_iff_forall_mem.mp hF) _ (Array.getElem_mem ha)) i (List.mem_range.mpr hi)
    simpa [Array.getElem?_eq_getElem hi] using q
  obtain ⟨i0, ei0⟩ := is_v v0
  obtain rfl : w0 = (.int i0) := Option.some.inj ei0
  obtain ⟨i1, ei1⟩ := isL_v v1
  obtain rfl : w1 = (.long i1) := Option.some.inj ei1
  obtain ⟨i2, ei2⟩ := is_v v2
  obtain rfl : w2 = (.int i2) := Option.some.inj ei2
  obtain ⟨i3, ei3⟩ := is_v v3
  obtain rfl : w3 = (.int i3) := Option.some.inj ei3
  obtain ⟨n, o, h1, h2, h3, _, L, rfl, ⟨rfl, N, -⟩, hq⟩ := own_rm0 l s _ hw tables_1 i0 i1 i2 i3 s.heap s.heap.size (Nat.le_refl _) p e ha hc hk s m _ below hf ((Spec.applies_iff_loose hf).mp happ).1 ⟨rfl, State.Warmed39.refl s, rfl⟩ trivial
  refine ⟨n, _, h1, h2, h3, hpost _ _ _ _ _ _ ⟨Cond.after_iff.mpr rfl, Cond.after_iff.mpr (eq_i res_at (Term.int_eval (1)) rfl), trivial⟩ ⟨hq.1, hq.2.1, (hq.2.2.sift fun y hy => Or.inr (N y hy)).mono (by decide) (by decide)⟩⟩
theorem main_1_1 : Claimed_1_1 := comes_1 fun _ _ _ _ _ _ h hF => ⟨h.1, hF⟩
theorem main_1_2 : Claimed_1_2 := comes_1 fun _ _ _ _ _ _ h hF => ⟨h.2.1, hF⟩

end Jvm.Pilot.@@N@@
namespace Jvm.Pilot.@@N@@
open Jvm Jvm.ClassFile Sem Op Lib Jvm.Free Jvm.Stand Jvm.Pilot.@@N@@.Jvm.D
/-! MADE BY PROGRAM (witnessworld.py) out of the Statement's table words and the real class files: 9 classes; the members and pool entries that the words name. The judged class is class 1, her method 1. -/
namespace start1
open Jvm.ClassFile
def u (s : String) : CpInfo := .utf8 (stringToUtf16 s)
/-- a pool by its gaps: so many unusable entries, then the entry; so many at the end -/
def gap : Nat → List CpInfo → List CpInfo
  | 0, r => r
  | n + 1, r => .unusable :: gap n r
def poolList (es : List (Nat × CpInfo)) (last : Nat) : List CpInfo := es.foldr (fun e r => gap e.1 (e.2 :: r)) (gap last [])
def pool (es : List (Nat × CpInfo)) (last : Nat) : Array CpInfo := ⟨poolList es last⟩
def fileOf (pool : Array CpInfo) (this : Nat) (attrs : Array Attribute := #[]) (ms : Array MethodInfo := #[]) (fl : Nat := 33) (sup : Nat := 0) (ifs : Array Nat := #[]) (fds : Array FieldInfo := #[]) : ClassFile where
  minorVersion := 0
  majorVersion := 65
  constantPool := pool
  accessFlags := fl
  thisClass := this
  superClass := sup
  interfaces := ifs
  fields := fds
  methods := ms
  attributes := attrs
def plain (name : String) (sup : Option ClassId) : Class where
  name := name
  kind := .ordinary
  loader := none
  accessFlags := 33
  super := sup
  interfaces := #[]
  cf := none
  fields := #[]
  methods := #[]
  instanceTypes := #[]
  staticTypes := #[]
  resolved := #[]
  callSites := []
  init := .initialized
  statics := none
  mirror := none

def pool0 : Array CpInfo := pool [(5, u "<init>"), (0, u "()V"), (1, .class_ 10), (1, u "java/lang/Object")] 113

def k0c0 : Code := { maxStack := 0, maxLocals := 1, code := object_method_1_code, exceptionTable := #[], attributes := #[] }
def k0m0 : Method := { name := "<init>", desc := "()V", sig := { parameters := [], returnType := none }, accessFlags := 1, code := some k0c0 }
/-- java/lang/Object -/
def k0 : Class := { plain "java/lang/Object" none with
  accessFlags := 33
  interfaces := #[]
  cf := some (fileOf pool0 8 #[] #[{ accessFlags := 1, nameIndex := 5, descriptorIndex := 6, attributes := #[] }] 33 0 #[] #[])
  fields := #[]
  methods := #[k0m0]
  instanceTypes := #[]
  staticTypes := #[]
  resolved := Array.replicate 124 none
  statics := none }

def pool1 : Array CpInfo := pool [(2, .class_ 4), (1, u "java/lang/Object"), (0, u "<init>"), (0, u "()V"), (0, .integer 2147483647), (2, .long 9223372036854775807), (1, .long 9007199254740991), (1, .integer 4194303), (0, .class_ 16), (0, u "com/example/freshness/freshness/engine/Statistics"), (0, .methodref 15 18), (0, .nameAndType 5 19), (0, u "(IJ)V"), (0, .methodref 15 21), (0, .nameAndType 22 23), (0, u "getAverageLength"), (0, u "()D"), (0, .long 9007199254740992), (1, .class_ 27), (0, u "com/example/freshness/freshness/engine/StatisticsGetAverageLengthPinLaw"), (2, u "law"), (0, u "(IJII)Z")] 3

def k1m0 : Method := { name := "<init>", desc := "()V", sig := { parameters := [], returnType := none }, accessFlags := 1, code := none }
def k1c1 : Code := { maxStack := 7, maxLocals := 27, code := code, exceptionTable := #[], attributes := #[] }
def k1m1 : Method := { name := "law", desc := "(IJII)Z", sig := { parameters := [.int, .long, .int, .int], returnType := some .boolean }, accessFlags := 9, code := some k1c1 }
/-- com/example/freshness/freshness/engine/StatisticsGetAverageLengthPinLaw -/
def k1 : Class := { plain "com/example/freshness/freshness/engine/StatisticsGetAverageLengthPinLaw" (some 0) with
  accessFlags := 49
  interfaces := #[]
  cf := some (fileOf pool1 26 #[] #[{ accessFlags := 1, nameIndex := 5, descriptorIndex := 6, attributes := #[] }, { accessFlags := 9, nameIndex := 30, descriptorIndex := 31, attributes := #[] }] 49 2 #[] #[])
  fields := #[]
  methods := #[k1m0, k1m1]
  instanceTypes := #[]
  staticTypes := #[]
  resolved := Array.replicate 35 none
  statics := none }

def pool2 : Array CpInfo := pool [(1, .methodref 2 3), (0, .class_ 4), (0, .nameAndType 5 6), (0, u "java/lang/Object"), (0, u "<init>"), (0, u "()V"), (9, .fieldref 17 18), (0, .class_ 19), (0, .nameAndType 20 21), (0, u "com/example/freshness/freshness/engine/Statistics"), (0, u "posts"), (0, u "I"), (0, .fieldref 17 23), (0, .nameAndType 24 25), (0, u "totalLength"), (0, u "J"), (8, u "(IJ)V"), (7, u "getAverageLength"), (0, u "()D")] 19

def k2c0 : Code := { maxStack := 5, maxLocals := 4, code := prog_24_method_1_code, exceptionTable := #[], attributes := #[] }
def k2m0 : Method := { name := "<init>", desc := "(IJ)V", sig := { parameters := [.int, .long], returnType := none }, accessFlags := 1, code := some k2c0 }
def k2c1 : Code := { maxStack := 4, maxLocals := 1, code := prog_24_method_4_code, exceptionTable := #[], attributes := #[] }
def k2m1 : Method := { name := "getAverageLength", desc := "()D", sig := { parameters := [], returnType := some .double }, accessFlags := 1, code := some k2c1 }
/-- com/example/freshness/freshness/engine/Statistics -/
def k2 : Class := { plain "com/example/freshness/freshness/engine/Statistics" (some 0) with
  accessFlags := 49
  interfaces := #[]
  cf := some (fileOf pool2 17 #[] #[{ accessFlags := 1, nameIndex := 5, descriptorIndex := 34, attributes := #[] }, { accessFlags := 1, nameIndex := 42, descriptorIndex := 43, attributes := #[] }] 49 2 #[] #[{ accessFlags := 18, nameIndex := 20, descriptorIndex := 21, attributes := #[] }, { accessFlags := 18, nameIndex := 24, descriptorIndex := 25, attributes := #[] }])
  fields := #[{ name := "posts", type := .int, accessFlags := 18, slot := 0, constantValue := 0 }, { name := "totalLength", type := .long, accessFlags := 18, slot := 1, constantValue := 0 }]
  methods := #[k2m0, k2m1]
  instanceTypes := #[.int, .long]
  staticTypes := #[]
  resolved := Array.replicate 63 none
  statics := none }

def pool3 : Array CpInfo := pool [(1, u "java/lang/Cloneable"), (0, .class_ 1), (0, u "java/lang/Object"), (0, .class_ 3)] 3

/-- java/lang/Cloneable -/
def k3 : Class := { plain "java/lang/Cloneable" (some 0) with
  accessFlags := 1537
  interfaces := #[]
  cf := some (fileOf pool3 2 #[] #[] 1537 4 #[] #[])
  fields := #[]
  methods := #[]
  instanceTypes := #[]
  staticTypes := #[]
  resolved := Array.replicate 8 none
  statics := none }

def pool4 : Array CpInfo := pool [(1, u "java/io/Serializable"), (0, .class_ 1), (0, u "java/lang/Object"), (0, .class_ 3)] 3

/-- java/io/Serializable -/
def k4 : Class := { plain "java/io/Serializable" (some 0) with
  accessFlags := 1537
  interfaces := #[]
  cf := some (fileOf pool4 2 #[] #[] 1537 4 #[] #[])
  fields := #[]
  methods := #[]
  instanceTypes := #[]
  staticTypes := #[]
  resolved := Array.replicate 8 none
  statics := none }

/-- the primitive byte -/
def k5 : Class := { plain "byte" none with kind := .primitive 'B', accessFlags := 0x411 }
/-- [B -/
def k6 : Class := { plain "[B" (some 0) with kind := .array 5 .byte, interfaces := #[3, 4], accessFlags := 1041 }

/-- the primitive int -/
def k7 : Class := { plain "int" none with kind := .primitive 'I', accessFlags := 0x411 }
/-- [I -/
def k8 : Class := { plain "[I" (some 0) with kind := .array 7 .int, interfaces := #[3, 4], accessFlags := 1041 }

def heap : Heap := #[]
def classes : Array Class := #[k0, k1, k2, k3, k4, k5, k6, k7, k8]
def interned : List (Array UInt16 × Addr) := []
def slotsUsed : Nat := 0
def theMethod : MethodId := ⟨1, 1⟩
def args0 : Array Value := #[.int 5, .long 60, .int 7, .int 8]
def aboutOver (below : List Frame) : State where
  vm := { classes := classes, interned := interned.toArray }
  heap := heap
  slotsUsed := slotsUsed
  threads := #[{ frames := .invoking theMethod args0 :: below }]
def below0 : List Frame := [.native { method := ⟨0, 0⟩, args := #[] }]
def about1 : State := aboutOver below0
def p0 : Program := .bare "" "" ""
def e0 : Env := launch0.env 0 0 0
theorem w_frames : about1.frames = Frame.invoking theMethod args0 :: below0 := rfl
set_option maxRecDepth 65536 in
theorem w_args : argsFit about1.vm theMethod args0 = true := by decide +kernel
set_option maxRecDepth 65536 in
theorem w_heap : heapFits about1 = true := by decide +kernel
set_option maxRecDepth 65536 in
theorem w_runnable : about1.curStatus? = some .runnable := by decide +kernel
set_option maxRecDepth 65536 in
theorem w_alone : about1.alone = true := by decide +kernel
set_option maxRecDepth 65536 in
theorem w_named : about1.methodNamed? x = some theMethod := by decide +kernel
set_option maxRecDepth 65536 in
theorem w_hears : about1.hears theMethod below0 = true := by decide +kernel
set_option maxRecDepth 65536 in
theorem w_ripe : about1.ripe theMethod args0 below0 = true := by decide +kernel
theorem w_running : about1.status = .running := rfl
set_option maxRecDepth 65536 in
theorem w_room : about1.hasRoom e0.platform room_1 = true :=
  launch0.hasRoom_least _ room_1 (by decide +kernel) (by decide +kernel) (by decide +kernel) (by decide +kernel) (by decide +kernel) (by decide +kernel)
theorem allAtoms_all (ts : List Jvm.Cond) (a : Array Jvm.Value) (st : Jvm.State) : (allAtoms ts).before a st = ts.all (fun c => c.before a st) := by
  induction ts with
  | nil => rfl
  | cons c t ih =>
    show (Jvm.Cond.and c (allAtoms t)).before a st = _
    rw [Jvm.Cond.before_and, ih, List.all_cons]
def words1 : List Jvm.Cond := Jvm.Cond.code x code maxLocals ret :: tables_1
/-- a 'code' word, met by the world's own term for the bytes: nothing is compared byte by byte -/
theorem code_word {y : MethodName} {bytes : ByteArray} {mx : Nat} {rt : Option FieldType} {a : Array Value} {s : State} {m : MethodId} {meth : Method} {c : Code} (h1 : s.methodNamed? y = some m) (h2 : s.vm.method? m = some meth) (h3 : meth.code = some c) (h4 : c.code = bytes)
    (h5 : (c.maxLocals == mx && c.exceptionTable.isEmpty && decide (c.maxStack ≤ mostOperands) && decide (meth.sig.returnType = rt) && !meth.locks && decide (parseMethodDescriptor y.desc = some meth.sig)) = true) : (Jvm.Cond.code y bytes mx rt).before a s = true := by
  simp only [Bool.and_eq_true, beq_iff_eq, Bool.not_eq_true', decide_eq_true_eq] at h5
  obtain ⟨⟨⟨⟨⟨g1, g2⟩, g3⟩, g4⟩, g5⟩, g6⟩ := h5
  simp [Cond.before, Cond.holds, Cond.value, h1, h2, h3, h4, g1, g2, g3, g4, g5, g6]
def isCode : Jvm.Cond → Bool
  | .code _ _ _ _ => true
  | _ => false
theorem all_split {L : List Jvm.Cond} {P : Jvm.Cond → Bool} (h1 : L.all (fun c => isCode c || P c) = true) (h2 : ∀ c ∈ L.filter isCode, P c = true) : L.all P = true := by
  refine List.all_eq_true.mpr fun c hc => ?_
  have h := List.all_eq_true.mp h1 c hc
  rcases Bool.eq_false_or_eq_true (isCode c) with hi | hi
  · exact h2 c (List.mem_filter.mpr ⟨hc, hi⟩)
  · simpa [hi] using h
set_option maxRecDepth 65536 in
theorem w_c0 : (Jvm.Cond.code x code maxLocals ret).before args0 about1 = true := code_word (m := ⟨1, 1⟩) (meth := k1m1) (c := k1c1) (by decide +kernel) rfl rfl rfl (by decide +kernel)
set_option maxRecDepth 65536 in
theorem w_c1 : (Jvm.Cond.code ({ cls := "com/example/freshness/freshness/engine/Statistics", name := "<init>", desc := "(IJ)V" } : Jvm.MethodName) prog_24_method_1_code (4 : Nat) (Option.none : Option Jvm.ClassFile.FieldType)).before args0 about1 = true := code_word (m := ⟨2, 0⟩) (meth := k2m0) (c := k2c0) (by decide +kernel) rfl rfl rfl (by decide +kernel)
set_option maxRecDepth 65536 in
theorem w_c2 : (Jvm.Cond.code ({ cls := "java/lang/Object", name := "<init>", desc := "()V" } : Jvm.MethodName) object_method_1_code (1 : Nat) (Option.none : Option Jvm.ClassFile.FieldType)).before args0 about1 = true := code_word (m := ⟨0, 0⟩) (meth := k0m0) (c := k0c0) (by decide +kernel) rfl rfl rfl (by decide +kernel)
set_option maxRecDepth 65536 in
theorem w_c3 : (Jvm.Cond.code ({ cls := "com/example/freshness/freshness/engine/Statistics", name := "getAverageLength", desc := "()D" } : Jvm.MethodName) prog_24_method_4_code (1 : Nat) (Option.some Jvm.ClassFile.FieldType.double)).before args0 about1 = true := code_word (m := ⟨2, 1⟩) (meth := k2m1) (c := k2c1) (by decide +kernel) rfl rfl rfl (by decide +kernel)
def codes1 : List Jvm.Cond := [Jvm.Cond.code x code maxLocals ret, Jvm.Cond.code ({ cls := "com/example/freshness/freshness/engine/Statistics", name := "<init>", desc := "(IJ)V" } : Jvm.MethodName) prog_24_method_1_code (4 : Nat) (Option.none : Option Jvm.ClassFile.FieldType), Jvm.Cond.code ({ cls := "java/lang/Object", name := "<init>", desc := "()V" } : Jvm.MethodName) object_method_1_code (1 : Nat) (Option.none : Option Jvm.ClassFile.FieldType), Jvm.Cond.code ({ cls := "com/example/freshness/freshness/engine/Statistics", name := "getAverageLength", desc := "()D" } : Jvm.MethodName) prog_24_method_4_code (1 : Nat) (Option.some Jvm.ClassFile.FieldType.double)]
set_option maxRecDepth 65536 in
theorem codes_eq : words1.filter isCode = codes1 := rfl
theorem w_codes : ∀ c ∈ words1.filter isCode, c.before args0 about1 = true := by
  rw [codes_eq]
  intro c hc
  simp only [codes1, List.mem_cons, List.not_mem_nil, or_false] at hc
  rcases hc with rfl | rfl | rfl | rfl
  · exact w_c0
  · exact w_c1
  · exact w_c2
  · exact w_c3
set_option maxRecDepth 65536 in
theorem w_t1 : words1.all (fun c => isCode c || c.before args0 about1) = true := by decide +kernel
theorem w_tables : (allAtoms (Jvm.Cond.code x code maxLocals ret :: tables_1)).before args0 about1 = true := by
  rw [allAtoms_all]
  show words1.all (fun c => c.before args0 about1) = true
  refine all_split ?_ w_codes
  rw [w_t1]
set_option maxRecDepth 65536 in
theorem w_case : (Jvm.Cond.and given_1 narrow_1).before args0 about1 = true := by decide +kernel
theorem w_applies : (headSpec (Jvm.Cond.code x code maxLocals ret :: tables_1) room_1).applies x e0.platform about1 = true :=
  (Spec.applies_iff w_frames).mpr ⟨w_running, w_runnable, w_alone, w_named, w_hears, w_ripe, w_room, w_tables⟩
theorem atStart : AtStart classFile x code maxLocals ret World_1 tables_1 room_1 Calls_1 rest_1 Pre_1 launch0 p0 e0 about1 theMethod args0 below0 :=
  ⟨lists_1, trivial, launch0.admits_env _ _ _, launch0.least_env, fairChoices_fair.cas, fairChoices_fair.clock, w_frames, w_args, w_heap, w_applies, trivial, trivial, w_case⟩
end start1
theorem witness_1 : WitnessClaimed_1 := ⟨start1.p0, start1.e0, start1.about1, start1.theMethod, start1.args0, start1.below0, start1.atStart⟩
end Jvm.Pilot.@@N@@
