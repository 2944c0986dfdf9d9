import JvmDerived
import JvmDerived.Pilot.@@N@@Statement
import JvmDerived.Pilot.@@N@@Code
set_option linter.unusedVariables false
set_option linter.unusedSimpArgs false
namespace Jvm.Pilot.@@N@@
open Jvm Jvm.ClassFile Sem Op Lib Jvm.Free Jvm.Stand Jvm.LawKit Jvm.RoadKit Bundle Jvm.Pilot.@@N@@.Jvm.D

section Own
variable {p : Program} {l : Launch} {e : Env} {R : Room} {s : State} {m : MethodId} {args : Array Value} {below : List Frame} {meth : Method} {c : Code} {T : State} {locs : List Loc} {cells slots : Nat} {Z : State} {h h' : Heap}
def own_Go (tb : Tables) (e : Env) (below : List Frame) (P : State → Outcome → Prop) (A : State) : Prop := ∃ t o, Steps tb e below A t ∧ P t o
def own_P (below : List Frame) (s : State) (Q : Option Value → Heap → List Loc → Prop) (kc ks : Nat) (t : State) (o : Outcome) : Prop := t.status = .running ∧ Ended t below o ∧ ∃ v L, o = .returned v ∧ Q v t.heap L ∧ FrameEnd s o t L kc ks
theorem own_st {tb : Tables} {P : State → Outcome → Prop} {A B : State} (k : ∀ t, Steps tb e below B t → Steps tb e below A t) (h : own_Go tb e below P B) : own_Go tb e below P A := by
  obtain ⟨t, o, h1, h2⟩ := h
  exact ⟨t, o, k t h1, h2⟩
theorem own_tr {tb : Tables} {P : State → Outcome → Prop} {A B : State} (k : Steps tb e below A B) (h : own_Go tb e below P B) : own_Go tb e below P A := by
  obtain ⟨t, o, h1, h2⟩ := h
  exact ⟨t, o, k.trans h1, h2⟩
theorem own_ret (X : Stand p l e R s m args below meth c T locs cells slots) (hx : p.tables.exec = Jvm.exec) (hnl : meth.locks = false) {pc : Nat} {Ls : Array Slot} {w : Value} {t : FieldType} {i : Instr} {rest : List Value} (hret : meth.sig.returnType = some t) (hn : narrow t w = w)
    (hi : (i = .ireturn ∧ (t = .int ∨ t = .boolean ∨ t = .byte ∨ t = .char ∨ t = .short) ∧ ∃ z, w = .int z) ∨ (i = .lreturn ∧ t = .long ∧ ∃ z, w = .long z) ∨ (i = .dreturn ∧ t = .double ∧ ∃ z, w = .double z) ∨ (i = .freturn ∧ t = .float ∧ ∃ z, w = .float z) ∨ (i = .areturn ∧ t.isReference = true ∧ w.isRef = true))
    (hd : decode c.code pc = .ok (i, 1)) {Q : Option Value → Heap → List Loc → Prop} {kc ks : Nat} (hq : Q (some w) T.heap locs) (hc : cells ≤ kc) (hs : slots ≤ ks) : own_Go p.tables e below (own_P below s Q kc ks) (T.setTop (mkF m pc Ls (w :: rest))) := by
  obtain ⟨fs, hr, hrun, hended, hW, hsame⟩ := X.leave (v := some w) (fun h => by rw [hret] at h; cases h) hnl
  exact ⟨_, _, retOut X hx hret hn hi hd hr, hrun, hended, _, _, rfl, hq, ⟨_, rfl⟩, hW, hsame.mono hc hs⟩
theorem own_ret0 (X : Stand p l e R s m args below meth c T locs cells slots) (hx : p.tables.exec = Jvm.exec) (hnl : meth.locks = false) {pc : Nat} {Ls : Array Slot} (hret : meth.sig.returnType = none)
    (hd : decode c.code pc = .ok (.return_, 1)) {Q : Option Value → Heap → List Loc → Prop} {kc ks : Nat} (hq : Q none T.heap locs) (hc : cells ≤ kc) (hs : slots ≤ ks) : own_Go p.tables e below (own_P below s Q kc ks) (T.setTop (mkF m pc Ls [])) := by
  obtain ⟨fs, hr, hrun, hended, hW, hsame⟩ := X.leave (v := none) (fun _ => rfl) hnl
  exact ⟨_, _, X.returnOut hx hret hd hr, hrun, hended, _, _, rfl, hq, ⟨_, rfl⟩, hW, hsame.mono hc hs⟩
theorem own_lrem {g : JFrame} {target : State} (X : Stand p l e R s m args below meth c T locs cells slots) (hx : p.tables.exec = Jvm.exec) (hg : g.method = m) {x y : Int64} {rest : List Value} (hd : decode c.code g.pc = .ok (.lrem, 1)) (hs : g.stack = .long y :: .long x :: rest) (hy : y ≠ 0)
    (hr : Steps p.tables e below (T.setTop { g with pc := g.pc + 1, stack := .long (x % y) :: rest }) target) : Steps p.tables e below (T.setTop g) target := by
  exact XS.lrem X.here hx hg hd hs hy (by rw [lrem_mod]; exact hr)
end Own

section OwnF
open Jvm.FP.Core in
theorem own_fin {i : Int} {a : UInt64} (ha : DInt i a) (sa : sgn (val64 a) = false) : ∃ c q, val64 a = .fin false c q := by
  unfold DInt at ha
  cases hva : val64 a with
  | nan => rw [hva] at ha; exact ha.elim
  | inf s => rw [hva] at ha; exact ha.elim
  | fin s c q => rw [hva] at sa; have es : s = false := sa; subst es; exact ⟨c, q, rfl⟩
open Jvm.FP.Core in
theorem own_quot {j : Int} {a b : UInt64} (ha : ∃ c q, val64 a = .fin false c q) (hb : DInt j b) (sb : sgn (val64 b) = false) (hj : j ≠ 0) :
    ∃ ca qa cb qb, val64 a = .fin false ca qa ∧ val64 b = .fin false cb qb ∧ 0 < cb ∧ -1074 ≤ qa ∧ zmag b64 (val64 a) = ca * 2 ^ (qa + 1074).toNat ∧ cb * 2 ^ qb.toNat = j.natAbs * 2 ^ (-qb).toNat ∧ val64 (FP.Core.ddiv a b) = roundRatio b64 false ca cb (qa - qb) ∧ val64 (FP.Core.dmul a b) = roundRatio b64 false (ca * cb) 1 (qa + qb) := by
  obtain ⟨ca, qa, hva⟩ := ha
  obtain ⟨cb, qb, hvb⟩ := own_fin hb sb
  unfold DInt at hb
  rw [hvb] at hb
  have hcb : cb ≠ 0 := fun q => hj ((whole_zero hb).mp q)
  have ff := val64_fits a
  rw [hva] at ff
  have hq := ff.2.1
  rw [qmin_b64] at hq
  refine ⟨ca, qa, cb, qb, hva, hvb, by omega, hq, ?_, whole_natAbs hb, ?_, ?_⟩
  · rw [hva]; show inUnits ca qa b64.qmin = _; rw [qmin_b64]; rfl
  · rw [val64_ddiv, hva, hvb]; simp [quotient, hcb]
  · rw [val64_dmul, hva, hvb]; simp [exactProduct, round]
theorem own_pow {v ca cb nj : Nat} {qa qb e0 : Int} (h0 : e0 ≤ -1074) (h0e : e0 ≤ qa - qb) (hq : -1074 ≤ qa) (e2 : cb * 2 ^ qb.toNat = nj * 2 ^ (-qb).toNat) :
    ∃ k, 0 < k ∧ ∃ m, 0 < m ∧ v * 2 ^ (-1074 - e0).toNat * cb * k = v * nj * m ∧ ca * 2 ^ (qa - qb - e0).toNat * k = ca * 2 ^ (qa + 1074).toNat * m := by
  refine ⟨2 ^ qb.toNat, Nat.two_pow_pos _, 2 ^ ((-1074 - e0).toNat + (-qb).toNat), Nat.two_pow_pos _, ?_, ?_⟩
  · calc v * 2 ^ (-1074 - e0).toNat * cb * 2 ^ qb.toNat = v * 2 ^ (-1074 - e0).toNat * (cb * 2 ^ qb.toNat) := by ac_rfl
      _ = v * nj * 2 ^ ((-1074 - e0).toNat + (-qb).toNat) := by rw [e2, Nat.pow_add]; ac_rfl
  · have e3 : (qa - qb - e0).toNat + qb.toNat = (qa + 1074).toNat + ((-1074 - e0).toNat + (-qb).toNat) := by omega
    rw [Nat.mul_assoc, ← Nat.pow_add, e3, Nat.pow_add, Nat.mul_assoc]
open Jvm.FP.Core in
theorem own_div_ge {j : Int} {a b V : UInt64} (ha : ∃ c q, val64 a = .fin false c q) (hb : DInt j b) (sb : sgn (val64 b) = false) (hj : j ≠ 0) (h : zmag b64 (val64 V) * j.natAbs ≤ zmag b64 (val64 a)) : zmag b64 (val64 V) ≤ zmag b64 (val64 (FP.Core.ddiv a b)) := by
  obtain ⟨ca, qa, cb, qb, -, -, hcb, hq, e1, e2, e3, -⟩ := own_quot ha hb sb hj
  rw [e3]
  obtain ⟨e0, g1, g2⟩ : ∃ e0 : Int, e0 ≤ -1074 ∧ e0 ≤ qa - qb := ⟨min (-1074) (qa - qb), by omega, by omega⟩
  refine zmag_roundRatio_ge good_b64 (e0 := e0) hcb (val64_fits V) (by rw [qmin_b64]; exact g1) g2 ?_
  rw [qmin_b64]
  obtain ⟨k, hk, m, hm, f1, f2⟩ := own_pow (v := zmag b64 (val64 V)) (ca := ca) g1 g2 hq e2
  unfold inUnits
  refine Nat.le_of_mul_le_mul_right ?_ hk
  rw [f1, f2, ← e1]
  exact Nat.mul_le_mul_right m h
open Jvm.FP.Core in
theorem own_div_le {j : Int} {a b V : UInt64} (ha : ∃ c q, val64 a = .fin false c q) (hb : DInt j b) (sb : sgn (val64 b) = false) (hj : j ≠ 0) (hV : val64 V ≠ .nan) (h : zmag b64 (val64 a) ≤ zmag b64 (val64 V) * j.natAbs) : zmag b64 (val64 (FP.Core.ddiv a b)) ≤ zmag b64 (val64 V) := by
  obtain ⟨ca, qa, cb, qb, -, -, hcb, hq, e1, e2, e3, -⟩ := own_quot ha hb sb hj
  rw [e3]
  obtain ⟨e0, g1, g2⟩ : ∃ e0 : Int, e0 ≤ -1074 ∧ e0 ≤ qa - qb := ⟨min (-1074) (qa - qb), by omega, by omega⟩
  refine zmag_roundRatio_le good_b64 (e0 := e0) hcb (val64_fits V) hV (by rw [qmin_b64]; exact g1) g2 ?_
  rw [qmin_b64]
  obtain ⟨k, hk, m, hm, f1, f2⟩ := own_pow (v := zmag b64 (val64 V)) (ca := ca) g1 g2 hq e2
  unfold inUnits
  refine Nat.le_of_mul_le_mul_right ?_ hk
  rw [f1, f2, ← e1]
  exact Nat.mul_le_mul_right m h
open Jvm.FP.Core in
theorem own_div_nn {j : Int} {a b : UInt64} (ha : ∃ c q, val64 a = .fin false c q) (hb : DInt j b) (sb : sgn (val64 b) = false) (hj : j ≠ 0) : val64 (FP.Core.ddiv a b) ≠ .nan ∧ sgn (val64 (FP.Core.ddiv a b)) = false := by
  obtain ⟨ca, qa, cb, qb, -, -, hcb, -, e1, e2, e3, -⟩ := own_quot ha hb sb hj
  rw [e3]
  exact ⟨roundRatio_ne_nan _ _ _ _ _, sgn_roundRatio _ _ _ _ _⟩
open Jvm.FP.Core in
/-- a product that is a number of the format -/
theorem own_mul_eq {j : Int} {a b V : UInt64} (ha : ∃ c q, val64 a = .fin false c q) (hb : DInt j b) (sb : sgn (val64 b) = false) (hj : j ≠ 0) (hV : val64 V ≠ .nan) (h : zmag b64 (val64 a) * j.natAbs = zmag b64 (val64 V)) :
    val64 (FP.Core.dmul a b) ≠ .nan ∧ sgn (val64 (FP.Core.dmul a b)) = false ∧ zmag b64 (val64 (FP.Core.dmul a b)) = zmag b64 (val64 V) := by
  obtain ⟨ca, qa, cb, qb, -, -, hcb, hq, e1, e2, -, e3⟩ := own_quot ha hb sb hj
  rw [e3]
  refine ⟨roundRatio_ne_nan _ _ _ _ _, sgn_roundRatio _ _ _ _ _, ?_⟩
  obtain ⟨e0, g1, g2⟩ : ∃ e0 : Int, e0 ≤ -1074 ∧ e0 ≤ qa + qb := ⟨min (-1074) (qa + qb), by omega, by omega⟩
  have key : inUnits (ca * cb) (qa + qb) e0 = zmag b64 (val64 V) * 2 ^ (b64.qmin - e0).toNat * 1 := by
    rw [← h, e1, qmin_b64, Nat.mul_one]
    unfold inUnits
    refine Nat.eq_of_mul_eq_mul_right (Nat.two_pow_pos qb.toNat) ?_
    have e4 : (qa + qb - e0).toNat + (-qb).toNat = (qa + 1074).toNat + (-1074 - e0).toNat + qb.toNat := by omega
    calc ca * cb * 2 ^ (qa + qb - e0).toNat * 2 ^ qb.toNat = ca * (cb * 2 ^ qb.toNat) * 2 ^ (qa + qb - e0).toNat := by ac_rfl
      _ = ca * j.natAbs * 2 ^ ((qa + qb - e0).toNat + (-qb).toNat) := by rw [e2, Nat.pow_add]; ac_rfl
      _ = ca * 2 ^ (qa + 1074).toNat * j.natAbs * 2 ^ (-1074 - e0).toNat * 2 ^ qb.toNat := by rw [e4, Nat.pow_add, Nat.pow_add]; ac_rfl
  exact Nat.le_antisymm (zmag_roundRatio_le good_b64 (by decide) (val64_fits V) hV (by rw [qmin_b64]; exact g1) g2 (Nat.le_of_eq key)) (zmag_roundRatio_ge good_b64 (by decide) (val64_fits V) (by rw [qmin_b64]; exact g1) g2 (Nat.le_of_eq key.symm))
open Jvm.FP.Core in
theorem own_l2d_s {n : Int64} (h : 0 ≤ n.toInt) : sgn (val64 (FP.Core.l2d n)) = false := by
  obtain ⟨c, q, e⟩ := l2d_shape n
  rw [e]
  simp [FP.Core.sgn, h]
open Jvm.FP.Core in
theorem own_l2d_f {n : Int64} (h : 0 ≤ n.toInt) : ∃ c q, val64 (FP.Core.l2d n) = .fin false c q := by
  obtain ⟨c, q, e⟩ := l2d_shape n
  exact ⟨c, q, e.trans (by rw [decide_eq_false (by omega)])⟩
open Jvm.FP.Core in
theorem own_zval {a : UInt64} (h : sgn (val64 a) = false) : zval b64 (val64 a) = (zmag b64 (val64 a) : Int) := by
  unfold zval; rw [h]; rfl
open Jvm.FP.Core in
theorem own_zmagI {i : Int} {a : UInt64} (h : DInt i a) (s : sgn (val64 a) = false) : (zmag b64 (val64 a) : Int) = i * ((FP.Core.one64 : Nat) : Int) := by
  rw [← own_zval s, DInt_zval h]
open Jvm.FP.Core in
/-- a double of the worth c / 2 ^ k -/
theorem own_frac {c k : Nat} (hc : c < 2 ^ 53) (hk : k ≤ 900) : ∃ V : UInt64, (∃ c q, val64 V = .fin false c q) ∧ val64 V ≠ .nan ∧ sgn (val64 V) = false ∧ zmag b64 (val64 V) * 2 ^ k = c * FP.Core.one64 := by
  obtain ⟨c', q', e1, e2⟩ := round_exact good_b64 false (c := c) (q := -(k : Int)) hc (by rw [qmin_b64]; omega) (by show -(k : Int) ≤ 971; omega)
  have e : val64 (of64 (.fin false c' q')) = .fin false c' q' := val64_of64 (by rw [← e1]; exact round_fits good_b64 _)
  refine ⟨of64 (.fin false c' q'), ⟨c', q', e⟩, ?_, ?_, ?_⟩
  all_goals rw [e]
  · simp
  · rfl
  · show inUnits c' q' b64.qmin * 2 ^ k = _
    rw [e2, qmin_b64]
    rw [← pow_qmin64, qmin_b64]
    unfold inUnits
    rw [Nat.mul_assoc, ← Nat.pow_add]
    have ek : (-(k : Int) - -1074).toNat + k = (- -1074 : Int).toNat := by omega
    rw [ek]
open Jvm.FP.Core in
theorem own_cmp {a b : UInt64} (na : val64 a ≠ .nan) (nb : val64 b ≠ .nan) (sa : sgn (val64 a) = false) (sb : sgn (val64 b) = false) : FP.dcmp a b = some (compare (zmag b64 (val64 a) : Int) (zmag b64 (val64 b) : Int)) := by
  have h := dcmp_zval na nb
  rw [own_zval sa, own_zval sb] at h
  exact h
open Jvm.FP.Core in
theorem own_cmpLt {a b : UInt64} (na : val64 a ≠ .nan) (nb : val64 b ≠ .nan) (sa : sgn (val64 a) = false) (sb : sgn (val64 b) = false) (h : zmag b64 (val64 a) < zmag b64 (val64 b)) (o : CmpOp) : cmpValue (FP.dcmp a b) o = -1 := by
  rw [own_cmp na nb sa sb, (compare_lt_iff _ _).mpr (by omega)]; rfl
open Jvm.FP.Core in
theorem own_cmpEq {a b : UInt64} (na : val64 a ≠ .nan) (nb : val64 b ≠ .nan) (sa : sgn (val64 a) = false) (sb : sgn (val64 b) = false) (h : zmag b64 (val64 a) = zmag b64 (val64 b)) (o : CmpOp) : cmpValue (FP.dcmp a b) o = 0 := by
  rw [own_cmp na nb sa sb, (compare_eq_iff _ _).mpr (by omega)]; rfl
open Jvm.FP.Core in
theorem own_cmpLe {a b : UInt64} (na : val64 a ≠ .nan) (nb : val64 b ≠ .nan) (sa : sgn (val64 a) = false) (sb : sgn (val64 b) = false) (h : zmag b64 (val64 a) ≤ zmag b64 (val64 b)) (o : CmpOp) : ¬ (0 : Int32) < cmpValue (FP.dcmp a b) o := by
  rcases Nat.lt_or_eq_of_le h with q | q
  · rw [own_cmpLt na nb sa sb q]; decide
  · rw [own_cmpEq na nb sa sb q]; decide
open Jvm.FP.Core in
theorem own_l2d_nn (n : Int64) : val64 (FP.Core.l2d n) ≠ .nan := by
  obtain ⟨c, q, e⟩ := l2d_shape n
  rw [e]; simp
open Jvm.FP.Core in
theorem own_l2d_z {n : Int64} (h : 0 ≤ n.toInt) (h' : n.toInt ≤ 9007199254740992) : zmag b64 (val64 (FP.Core.l2d n)) = n.toInt.natAbs * FP.Core.one64 := by
  have q := own_zmagI (l2d_int (a := n) (by have : (2 : Nat) ^ 53 = 9007199254740992 := by decide
                                            omega)) (own_l2d_s h)
  have e : ((n.toInt.natAbs : Nat) : Int) = n.toInt := by omega
  rw [← e] at q
  generalize FP.Core.one64 = P at q ⊢
  exact_mod_cast q
theorem own_unit : ∃ P : Nat, 0 < P ∧ P = FP.Core.one64 := ⟨_, FP.Core.one64_pos, rfl⟩
theorem own_l2d_i {n : Int64} (h : 0 ≤ n.toInt) (h' : n.toInt ≤ 9007199254740992) : FP.Core.DInt n.toInt (FP.Core.l2d n) := FP.Core.l2d_int (by
  have : (2 : Nat) ^ 53 = 9007199254740992 := by decide
  omega)
theorem own_dv_eq {n d k : Int64} (hn : 0 ≤ n.toInt) (hn' : n.toInt ≤ 9007199254740992) (hd : 0 < d.toInt) (hd' : d.toInt ≤ 9007199254740992) (hk : 0 ≤ k.toInt) (e : n.toInt = k.toInt * d.toInt) (o : CmpOp) : cmpValue (FP.dcmp (FP.ddiv (FP.l2d n) (FP.l2d d)) (FP.l2d k)) o = 0 := by
  have hk' : k.toInt ≤ 9007199254740992 := by
    have : k.toInt * 1 ≤ k.toInt * d.toInt := Int.mul_le_mul_of_nonneg_left (by omega) hk
    omega
  have Ad := own_l2d_i (Int.le_of_lt hd) hd'
  obtain ⟨q1, q2⟩ := own_div_nn (own_l2d_f hn) Ad (own_l2d_s (Int.le_of_lt hd)) (by omega)
  refine own_cmpEq q1 (own_l2d_nn k) q2 (own_l2d_s hk) ?_ o
  have zk := own_l2d_z hk hk'
  have zn := own_l2d_z hn hn'
  have e' : n.toInt.natAbs = k.toInt.natAbs * d.toInt.natAbs := by rw [e, Int.natAbs_mul]
  have e2 : FP.Core.zmag FP.Core.b64 (FP.Core.val64 (FP.Core.l2d k)) * d.toInt.natAbs = FP.Core.zmag FP.Core.b64 (FP.Core.val64 (FP.Core.l2d n)) := by
    rw [zk, zn, e']
    generalize FP.Core.one64 = P
    ac_rfl
  exact Nat.le_antisymm (own_div_le (own_l2d_f hn) Ad (own_l2d_s (Int.le_of_lt hd)) (by omega) (own_l2d_nn k) (Nat.le_of_eq e2.symm)) (own_div_ge (own_l2d_f hn) Ad (own_l2d_s (Int.le_of_lt hd)) (by omega) (Nat.le_of_eq e2))
end OwnF


theorem own_K : (4741671816366391296 : UInt64) = FP.l2d 1000000000 := by decide +kernel
def own_r (c d : Int64) : UInt64 := FP.ddiv (FP.dmul (FP.l2d c) (4741671816366391296 : UInt64)) (FP.l2d d)
theorem own_mul {c : Int64} (h0 : 0 ≤ c.toInt) (h1 : c.toInt ≤ 9000000) : FP.dmul (FP.l2d c) (4741671816366391296 : UInt64) = FP.l2d (c * 1000000000) ∧ (c * 1000000000).toInt = c.toInt * 1000000000 := by
  have e9 : (1000000000 : Int64).toInt = 1000000000 := by decide
  constructor
  · rw [own_K]
    refine dmul_k (A := 9000000) (B := 1000000000) (by omega) (by omega) (by omega) (by omega) (by decide) (by decide) (by decide) ?_ ?_
    · intro q; exact absurd q.2 (by decide)
    · intro q; exact absurd q.1 (by decide)
  · rw [FP.Core.int64_mul (by rw [e9]; omega) (by rw [e9]; omega), e9]
theorem own_mask (x m : Int64) (k : Nat) (hk : k ≤ 63) (hm : m.toBitVec.toNat = 2 ^ k - 1) : 0 ≤ (x &&& m).toInt ∧ (x &&& m).toInt < (2 ^ k : Nat) := by
  rw [c_maskL x m k hk hm]
  have : (0 : Int) < ((2 ^ k : Nat) : Int) := by have := Nat.two_pow_pos k; omega
  exact ⟨Int.emod_nonneg _ (by omega), Int.emod_lt_of_pos _ this⟩
theorem own_one (x : Int64) (h0 : 0 ≤ x.toInt) (h1 : x.toInt < 1000000) : (x + 1).toInt = x.toInt + 1 := by
  have e1 : (1 : Int64).toInt = 1 := by decide
  rw [FP.Core.int64_add (by omega) (by omega), e1]
/-- the quotient is whole -/
theorem own_b1 {c d : Int64} (h0 : 0 ≤ c.toInt) (h1 : c.toInt ≤ 65535) (d0 : 1 ≤ d.toInt) (d1 : d.toInt ≤ 64) (hr : lcmpW ((c * 1000000000) % d) (0 : Int64) = (0 : Int32)) (o : CmpOp) : cmpValue (FP.dcmp (own_r c d) (FP.l2d ((c * 1000000000) / d))) o = 0 := by
  obtain ⟨e1, e2⟩ := own_mul h0 (by omega)
  unfold own_r
  rw [e1]
  have hr' : ((c * 1000000000) % d).toInt = 0 := by rw [(lw_eq _ _).mp hr]; decide
  rw [Int64.toInt_mod, e2, Int.tmod_eq_emod_of_nonneg (by omega)] at hr'
  have hq : ((c * 1000000000) / d).toInt = (c.toInt * 1000000000) / d.toInt := by
    rw [Int64.toInt_div_of_ne_right _ _ (fun q => by rw [q] at d0; exact absurd d0 (by decide)), e2, Int.tdiv_eq_ediv_of_nonneg (by omega)]
  refine own_dv_eq (by omega) (by omega) (by omega) (by omega) ?_ ?_ o
  · rw [hq]; exact Int.ediv_nonneg (by omega) (by omega)
  · rw [hq, e2]; exact (Int.ediv_mul_cancel (Int.dvd_of_emod_eq_zero hr')).symm
set_option maxHeartbeats 4000000 in
/-- it is not -/
theorem own_b2 {c d : Int64} (h0 : 0 ≤ c.toInt) (h1 : c.toInt ≤ 65535) (d0 : 1 ≤ d.toInt) (d1 : d.toInt ≤ 64) (hr : ¬ lcmpW ((c * 1000000000) % d) (0 : Int64) = (0 : Int32)) (o : CmpOp) :
    cmpValue (FP.dcmp (FP.l2d ((c * 1000000000) / d)) (own_r c d)) o = -1 ∧ cmpValue (FP.dcmp (own_r c d) (FP.l2d ((c * 1000000000) / d + 1))) o = -1 := by
  obtain ⟨e1, e2⟩ := own_mul h0 (by omega)
  obtain ⟨P, hP, eP⟩ := own_unit
  unfold own_r
  rw [e1]
  have hr' : ((c * 1000000000) % d).toInt ≠ 0 := fun q => hr ((lw_eq _ _).mpr (Int64.toInt_inj.mp (by rw [q]; decide)))
  rw [Int64.toInt_mod, e2, Int.tmod_eq_emod_of_nonneg (by omega)] at hr'
  have hq : ((c * 1000000000) / d).toInt = (c.toInt * 1000000000) / d.toInt := by
    rw [Int64.toInt_div_of_ne_right _ _ (fun q => by rw [q] at d0; exact absurd d0 (by decide)), e2, Int.tdiv_eq_ediv_of_nonneg (by omega)]
  have hr0 := Int.emod_nonneg (c.toInt * 1000000000) (show d.toInt ≠ 0 by omega)
  have hr1 := Int.emod_lt_of_pos (c.toInt * 1000000000) (show 0 < d.toInt by omega)
  have hdm := Int.mul_ediv_add_emod (c.toInt * 1000000000) d.toInt
  have hq0 : 0 ≤ (c.toInt * 1000000000) / d.toInt := Int.ediv_nonneg (by omega) (by omega)
  have hq1 : (c.toInt * 1000000000) / d.toInt ≤ 65535000000000 := by
    have := Int.ediv_le_self d.toInt (show 0 ≤ c.toInt * 1000000000 by omega); omega
  have hq' : ((c * 1000000000) / d + 1).toInt = (c.toInt * 1000000000) / d.toInt + 1 := by
    have e1 : (1 : Int64).toInt = 1 := by decide
    rw [FP.Core.int64_add (by rw [hq, e1]; omega) (by rw [hq, e1]; omega), hq, e1]
  have p53 : (2 : Nat) ^ 53 = 9007199254740992 := by decide
  have Ad := FP.Core.l2d_int (a := d) (by omega)
  have sn : 0 ≤ (c * 1000000000).toInt := by omega
  obtain ⟨q1, q2⟩ := own_div_nn (own_l2d_f sn) Ad (own_l2d_s (by omega)) (by omega)
  have zn := own_l2d_z sn (by omega)
  rw [← eP] at zn
  have z1 := own_l2d_z (n := (c * 1000000000) / d) (by omega) (by omega)
  have z2 := own_l2d_z (n := (c * 1000000000) / d + 1) (by omega) (by omega)
  rw [← eP] at z1 z2
  have en : ((c * 1000000000).toInt.natAbs : Int) = c.toInt * 1000000000 := by rw [e2]; exact Int.natAbs_of_nonneg (by omega)
  have ed : (d.toInt.natAbs : Int) = d.toInt := Int.natAbs_of_nonneg (by omega)
  have dj : d.toInt ≠ 0 := by omega
  have sd : 0 ≤ d.toInt := by omega
  have bD : d.toInt.natAbs ≤ 64 := by omega
  rw [hq] at z1; rw [hq'] at z2
  have sq : 0 ≤ ((c * 1000000000) / d).toInt := by omega
  have sq' : 0 ≤ ((c * 1000000000) / d + 1).toInt := by omega
  generalize c.toInt * 1000000000 / d.toInt = q at *
  generalize c.toInt * 1000000000 % d.toInt = r at *
  obtain ⟨qn, rfl⟩ : ∃ k : Nat, q = k := ⟨q.natAbs, by omega⟩
  obtain ⟨rn, rfl⟩ : ∃ k : Nat, r = k := ⟨r.natAbs, by omega⟩
  rw [← en, ← ed] at hdm
  have hN : d.toInt.natAbs * qn + rn = (c * 1000000000).toInt.natAbs := by exact_mod_cast hdm
  have rD : rn < d.toInt.natAbs := by omega
  have r0 : 1 ≤ rn := by omega
  obtain ⟨V, -, v1, v2, v3⟩ := own_frac (c := 64 * qn + 1) (k := 6) (by omega) (by decide)
  obtain ⟨U, -, u1, u2, u3⟩ := own_frac (c := 64 * qn + 63) (k := 6) (by omega) (by decide)
  have e6 : (2 : Nat) ^ 6 = 64 := by decide
  rw [e6, ← eP] at v3 u3
  have t1 : (64 * qn + 1) * d.toInt.natAbs ≤ (c * 1000000000).toInt.natAbs * 64 := by
    rw [← hN, Nat.add_mul, Nat.one_mul, Nat.mul_assoc, Nat.mul_comm qn, Nat.add_mul]
    generalize d.toInt.natAbs * qn = M
    omega
  have t2 : (c * 1000000000).toInt.natAbs * 64 ≤ (64 * qn + 63) * d.toInt.natAbs := by
    rw [← hN, Nat.add_mul _ _ d.toInt.natAbs, Nat.mul_assoc, Nat.mul_comm qn, Nat.add_mul]
    generalize d.toInt.natAbs * qn = M
    omega
  have w1 : FP.Core.zmag FP.Core.b64 (FP.Core.val64 V) ≤ FP.Core.zmag FP.Core.b64 (FP.Core.val64 (FP.Core.ddiv (FP.l2d (c * 1000000000)) (FP.l2d d))) := by
    refine own_div_ge (own_l2d_f sn) Ad (own_l2d_s sd) dj ?_
    rw [show FP.Core.val64 (FP.l2d (c * 1000000000)) = FP.Core.val64 (FP.Core.l2d (c * 1000000000)) from rfl, zn]
    refine Nat.le_of_mul_le_mul_right (c := 64) ?_ (by decide)
    calc _ = (FP.Core.zmag FP.Core.b64 (FP.Core.val64 V) * 64) * d.toInt.natAbs := by ac_rfl
      _ = ((64 * qn + 1) * d.toInt.natAbs) * P := by rw [v3]; ac_rfl
      _ ≤ ((c * 1000000000).toInt.natAbs * 64) * P := Nat.mul_le_mul_right _ t1
      _ = _ := by ac_rfl
  have w2 : FP.Core.zmag FP.Core.b64 (FP.Core.val64 (FP.Core.ddiv (FP.l2d (c * 1000000000)) (FP.l2d d))) ≤ FP.Core.zmag FP.Core.b64 (FP.Core.val64 U) := by
    refine own_div_le (own_l2d_f sn) Ad (own_l2d_s sd) dj u1 ?_
    rw [show FP.Core.val64 (FP.l2d (c * 1000000000)) = FP.Core.val64 (FP.Core.l2d (c * 1000000000)) from rfl, zn]
    refine Nat.le_of_mul_le_mul_right (c := 64) ?_ (by decide)
    calc _ = ((c * 1000000000).toInt.natAbs * 64) * P := by ac_rfl
      _ ≤ ((64 * qn + 63) * d.toInt.natAbs) * P := Nat.mul_le_mul_right _ t2
      _ = (FP.Core.zmag FP.Core.b64 (FP.Core.val64 U) * 64) * d.toInt.natAbs := by rw [u3]; ac_rfl
      _ = _ := by ac_rfl
  have n1 : ((qn : Int)).natAbs = qn := by omega
  have n2 : ((qn : Int) + 1).natAbs = qn + 1 := by omega
  rw [n1] at z1; rw [n2] at z2
  rw [Nat.add_mul, Nat.mul_assoc] at v3 u3
  rw [Nat.add_mul] at z2
  refine ⟨own_cmpLt (own_l2d_nn _) q1 (own_l2d_s sq) q2 (Nat.lt_of_lt_of_le ?_ w1) o, own_cmpLt q1 (own_l2d_nn _) q2 (own_l2d_s sq') (Nat.lt_of_le_of_lt w2 ?_) o⟩
  · show FP.Core.zmag FP.Core.b64 (FP.Core.val64 (FP.Core.l2d _)) < _
    omega
  · show _ < FP.Core.zmag FP.Core.b64 (FP.Core.val64 (FP.Core.l2d _))
    omega
/-- the second rate -/
theorem own_b3 {c s : Int64} (h0 : 0 ≤ c.toInt) (h1 : c.toInt ≤ 2047) (d0 : 1 ≤ s.toInt) (d1 : s.toInt ≤ 4096) (o : CmpOp) : cmpValue (FP.dcmp (own_r (c * s) (s * 1000000000)) (FP.l2d c)) o = 0 := by
  have b1 : 0 ≤ c.toInt * s.toInt := Int.mul_nonneg h0 (by omega)
  have b2 : c.toInt * s.toInt ≤ 2047 * 4096 := Int.mul_le_mul h1 d1 (by omega) (by omega)
  have e0 : (c * s).toInt = c.toInt * s.toInt := FP.Core.int64_mul (by omega) (by omega)
  have e9 : (1000000000 : Int64).toInt = 1000000000 := by decide
  have e3 : (s * 1000000000).toInt = s.toInt * 1000000000 := by rw [FP.Core.int64_mul (by rw [e9]; omega) (by rw [e9]; omega), e9]
  obtain ⟨e1, e2⟩ := own_mul (c := c * s) (by omega) (by omega)
  unfold own_r
  rw [e1]
  refine own_dv_eq (by omega) (by omega) (by omega) (by omega) h0 ?_ o
  rw [e2, e0, e3]; ac_rfl

theorem own_d2_0 : decode jdk_30_method_1_code 0 = .ok (.aload_n 0, 1) := by decide +kernel
theorem own_d2_1 : decode jdk_30_method_1_code 1 = .ok (.invokespecial 1, 3) := by decide +kernel
theorem own_d2_4 : decode jdk_30_method_1_code 4 = .ok (.return_, 1) := by decide +kernel
theorem own_pn0 : plainName "java/lang/Record" = true := by first | (simp [plainName, overriddenIn]; done) | decide +kernel
theorem own_ef2 (m : MethodId) (x0 : Addr) : entryFrame m #[(.ref x0)] 1 = mkF m 0 #[.val (.ref x0)] [] := by first | (simp [entryFrame, mkF, argsToLocals, Value.category]; done) | rfl
def own_Q2 (Z : State) (a1 : Addr) (h0 : Heap) (n0 : Nat) (v : Option Value) (h : Heap) (L : List Loc) : Prop := v = none ∧ Fr n0 L ∧ h = h0
set_option maxRecDepth 65536 in
set_option maxHeartbeats 40000000 in
theorem own_rm2 (l : Launch) (Z : State) (a0 : Array Value) (hw : ∀ d ∈ tables_1, d.before a0 Z = true) (ws : List Jvm.Cond) (a1 : Addr) (h0 : Heap) (n0 : Nat) (Z0 : n0 ≤ h0.size)  :
    MetFree l (⟨"java/lang/Record", "<init>", "()V"⟩ : MethodName) (head1 (Jvm.Cond.code (⟨"java/lang/Record", "<init>", "()V"⟩ : MethodName) jdk_30_method_1_code 1 none :: ws) ({ frames := 1, cells := 0, slots := 0, locals := 12 } : Room)) (fun a U => a = #[(.ref a1)] ∧ Z.Warmed39 U.vm ∧ U.heap = h0) (fun _ _ _ _ _ => True) (fun _ U o U' => ∃ v L, o = .returned v ∧ own_Q2 Z a1 h0 n0 v U'.heap L ∧ FrameEnd U o U' L ({ frames := 1, cells := 0, slots := 0, locals := 12 } : Room).cells ({ frames := 1, cells := 0, slots := 0, locals := 12 } : Room).slots) := by
  refine MetFree.of_bodySF (plainFor_of_name own_pn0) hisR ?_
  intro p e s m args below meth c s₁ Bd hml0 hP hK
  obtain ⟨rfl, hZ, hh⟩ := hP
  have hx := Bd.exec
  have hby := Bd.bytes
  have hml : c.maxLocals = 1 := hml0
  have hown : s.vm.findClass "java/lang/Record" = some m.cls := findClass_of_methodNamed Bd.named
  have hnm := (name_of_methodNamed Bd.named Bd.method).1
  have hnl : meth.locks = false := Bd.notSynchronized
  have X0 : Stand p l e ({ frames := 1, cells := 0, slots := 0, locals := 12 } : Room) s m #[(.ref a1)] below meth c s₁ [] 0 0 := Stand.of_body Bd
  have e0 : s₁.heap = h0 := by rw [← hh, Bd.state]; rfl
  have N0 := Fr.nil n0
  show own_Go p.tables e below (own_P below s (own_Q2 Z a1 h0 n0) ({ frames := 1, cells := 0, slots := 0, locals := 12 } : Room).cells ({ frames := 1, cells := 0, slots := 0, locals := 12 } : Room).slots) _
  refine own_st (fun t_ k_ => castTop (own_ef2 m a1) k_) ?_
  show own_Go p.tables e below _ (s₁.setTop (mkF m 0 #[.val (.ref a1)] []))
  refine own_st (fun t_ k_ => XS.aloadN X0.here hx rfl (hb hby own_d2_0) rfl rfl k_) ?_
  show own_Go p.tables e below _ (s₁.setTop (mkF m 1 #[.val (.ref a1)] [(.ref a1)]))
  obtain ⟨T101, X101, e101, st101⟩ := initO X0 hx hZ hown (hw _ (List.mem_of_getElem? (i := 13) rfl)) (hw _ (List.mem_of_getElem? (i := 14) rfl)) (hw _ (List.mem_of_getElem? (i := 15) rfl)) e0 (g := (mkF m 1 #[.val (.ref a1)] [(.ref a1)])) rfl (by rw [hml]; rfl) rfl (hb hby own_d2_1) (by decide) (W := 0) (by show 2 * 0 + _ ≤ _; exact Nat.le_of_eq rfl) (by decide)
  refine own_st (st101) ?_
  show own_Go p.tables e below _ (T101.setTop (mkF m 4 #[.val (.ref a1)] []))
  exact own_ret0 X101 hx hnl Bd.returns (hb hby own_d2_4) ⟨rfl, N0, e101⟩ (by decide) (by decide)

theorem own_d1_0 : decode prog_15_method_1_code 0 = .ok (.aload_n 0, 1) := by decide +kernel
theorem own_d1_1 : decode prog_15_method_1_code 1 = .ok (.invokespecial 1, 3) := by decide +kernel
theorem own_d1_4 : decode prog_15_method_1_code 4 = .ok (.aload_n 0, 1) := by decide +kernel
theorem own_d1_5 : decode prog_15_method_1_code 5 = .ok (.lload_n 1, 1) := by decide +kernel
theorem own_d1_6 : decode prog_15_method_1_code 6 = .ok (.putfield 7, 3) := by decide +kernel
theorem own_d1_9 : decode prog_15_method_1_code 9 = .ok (.aload_n 0, 1) := by decide +kernel
theorem own_d1_10 : decode prog_15_method_1_code 10 = .ok (.lload_n 3, 1) := by decide +kernel
theorem own_d1_11 : decode prog_15_method_1_code 11 = .ok (.putfield 13, 3) := by decide +kernel
theorem own_d1_14 : decode prog_15_method_1_code 14 = .ok (.aload_n 0, 1) := by decide +kernel
theorem own_d1_15 : decode prog_15_method_1_code 15 = .ok (.lload 5, 2) := by decide +kernel
theorem own_d1_17 : decode prog_15_method_1_code 17 = .ok (.putfield 16, 3) := by decide +kernel
theorem own_d1_20 : decode prog_15_method_1_code 20 = .ok (.aload_n 0, 1) := by decide +kernel
theorem own_d1_21 : decode prog_15_method_1_code 21 = .ok (.aload 7, 2) := by decide +kernel
theorem own_d1_23 : decode prog_15_method_1_code 23 = .ok (.putfield 19, 3) := by decide +kernel
theorem own_d1_26 : decode prog_15_method_1_code 26 = .ok (.return_, 1) := by decide +kernel
theorem own_pn1 : plainName "com/example/marshalyard/marshalyard/bench/RmiCalls$Run" = true := by first | (simp [plainName, overriddenIn]; done) | decide +kernel
theorem own_pd0 : parseMethodDescriptor "()V" = some ⟨[], none⟩ := by decide +kernel
theorem own_ef1 (m : MethodId) (x0 : Addr) (x1 : Int64) (x2 : Int64) (x3 : Int64) : entryFrame m #[(.ref x0), (.long x1), (.long x2), (.long x3), .null] 8 = mkF m 0 #[.val (.ref x0), .val (.long x1), .second, .val (.long x2), .second, .val (.long x3), .second, .val .null] [] := by first | (simp [entryFrame, mkF, argsToLocals, Value.category]; done) | rfl
def own_Q1 (Z : State) (a1 : Addr) (p1 : Int64) (p2 : Int64) (p3 : Int64) (h0 : Heap) (n0 : Nat) (v : Option Value) (h : Heap) (L : List Loc) : Prop := v = none ∧ Fr n0 L ∧ Keep h0 h [a1] ∧ Fld Z h a1 "com/example/marshalyard/marshalyard/bench/RmiCalls$Run" "calls" "J" (.long p1) ∧ Fld Z h a1 "com/example/marshalyard/marshalyard/bench/RmiCalls$Run" "nanos" "J" (.long p3)
set_option maxRecDepth 65536 in
set_option maxHeartbeats 40000000 in
theorem own_rm1 (l : Launch) (Z : State) (a0 : Array Value) (hw : ∀ d ∈ tables_1, d.before a0 Z = true) (ws : List Jvm.Cond) (a1 : Addr) (p1 : Int64) (p2 : Int64) (p3 : Int64) (h0 : Heap) (n0 : Nat) (Z0 : n0 ≤ h0.size) (q0 : Exa Z h0 a1 "com/example/marshalyard/marshalyard/bench/RmiCalls$Run") (q1 : Fld Z h0 a1 "com/example/marshalyard/marshalyard/bench/RmiCalls$Run" "calls" "J" (.long (0 : Int64))) (q2 : Fld Z h0 a1 "com/example/marshalyard/marshalyard/bench/RmiCalls$Run" "failed" "J" (.long (0 : Int64))) (q3 : Fld Z h0 a1 "com/example/marshalyard/marshalyard/bench/RmiCalls$Run" "nanos" "J" (.long (0 : Int64))) (q4 : Fld Z h0 a1 "com/example/marshalyard/marshalyard/bench/RmiCalls$Run" "firstFailure" "Ljava/lang/String;" .null) (q5 : n0 ≤ a1) :
    MetFree l (⟨"com/example/marshalyard/marshalyard/bench/RmiCalls$Run", "<init>", "(JJJLjava/lang/String;)V"⟩ : MethodName) (head1 (Jvm.Cond.code (⟨"com/example/marshalyard/marshalyard/bench/RmiCalls$Run", "<init>", "(JJJLjava/lang/String;)V"⟩ : MethodName) prog_15_method_1_code 8 none :: ws) ({ frames := 2, cells := 0, slots := 0, locals := 24 } : Room)) (fun a U => a = #[(.ref a1), (.long p1), (.long p2), (.long p3), .null] ∧ Z.Warmed39 U.vm ∧ U.heap = h0) (fun _ _ _ _ _ => True) (fun _ U o U' => ∃ v L, o = .returned v ∧ own_Q1 Z a1 p1 p2 p3 h0 n0 v U'.heap L ∧ FrameEnd U o U' L ({ frames := 2, cells := 0, slots := 0, locals := 24 } : Room).cells ({ frames := 2, cells := 0, slots := 0, locals := 24 } : Room).slots) := by
  refine MetFree.of_bodySF (plainFor_of_name own_pn1) hisR ?_
  intro p e s m args below meth c s₁ Bd hml0 hP hK
  obtain ⟨rfl, hZ, hh⟩ := hP
  have hx := Bd.exec
  have hby := Bd.bytes
  have hml : c.maxLocals = 8 := hml0
  have hown : s.vm.findClass "com/example/marshalyard/marshalyard/bench/RmiCalls$Run" = some m.cls := findClass_of_methodNamed Bd.named
  have hnm := (name_of_methodNamed Bd.named Bd.method).1
  have hnl : meth.locks = false := Bd.notSynchronized
  have X0 : Stand p l e ({ frames := 2, cells := 0, slots := 0, locals := 24 } : Room) s m #[(.ref a1), (.long p1), (.long p2), (.long p3), .null] below meth c s₁ [] 0 0 := Stand.of_body Bd
  have e0 : s₁.heap = h0 := by rw [← hh, Bd.state]; rfl
  have N0 := Fr.nil n0
  show own_Go p.tables e below (own_P below s (own_Q1 Z a1 p1 p2 p3 h0 n0) ({ frames := 2, cells := 0, slots := 0, locals := 24 } : Room).cells ({ frames := 2, cells := 0, slots := 0, locals := 24 } : Room).slots) _
  refine own_st (fun t_ k_ => castTop (own_ef1 m a1 p1 p2 p3) k_) ?_
  show own_Go p.tables e below _ (s₁.setTop (mkF m 0 #[.val (.ref a1), .val (.long p1), .second, .val (.long p2), .second, .val (.long p3), .second, .val .null] []))
  refine own_st (fun t_ k_ => XS.aloadN X0.here hx rfl (hb hby own_d1_0) rfl rfl k_) ?_
  show own_Go p.tables e below _ (s₁.setTop (mkF m 1 #[.val (.ref a1), .val (.long p1), .second, .val (.long p2), .second, .val (.long p3), .second, .val .null] [(.ref a1)]))
  obtain ⟨_, _, ⟨T102, L102, k102, n102⟩, -, X102, ⟨Lc102, hQ102, l102, y102, z102⟩, st102⟩ := X0.specialBack hx (y := (⟨"java/lang/Record", "<init>", "()V"⟩ : MethodName)) rfl hown (mvT hZ (hw _ (List.mem_of_getElem? (i := 8) rfl))) (mvT hZ (hw _ (List.mem_of_getElem? (i := 9) rfl))) (mvT hZ (hw _ (List.mem_of_getElem? (i := 12) rfl))) (by decide) (backOf (W := 0) (own_rm2 l Z a0 hw [] a1 h0 n0 (Nat.le_trans Z0 (Keep.refl h0 [a1]).1)) hZ (hw _ (List.mem_of_getElem? (i := 12) rfl)) (hw _ (List.mem_of_getElem? (i := 11) rfl)) (by decide) (by decide)) (g := (mkF m 1 #[.val (.ref a1), .val (.long p1), .second, .val (.long p2), .second, .val (.long p3), .second, .val .null] [(.ref a1)])) rfl (by rw [hml]; rfl) (Steps.refl _) (a := a1) (argsL := []) (rest := []) (lenOf own_pd0 rfl) rfl (by show 2 * 0 + _ ≤ _; exact Nat.le_of_eq rfl) (hb hby own_d1_1) (fun _ _ => ⟨rfl, e0, (by decide : 0 + 0 ≤ _), (by decide : 0 + 0 ≤ _)⟩)
  dsimp only [Pt.U, Pt.locs, Pt.cells, Pt.slots] at X102 l102 y102 z102 st102 hQ102
  subst l102 y102 z102
  obtain ⟨rfl, N102q, eq102⟩ := hQ102
  have N102 := Fr.app N0 N102q
  refine own_tr st102 ?_
  show own_Go p.tables e below _ (T102.setTop (mkF m 4 #[.val (.ref a1), .val (.long p1), .second, .val (.long p2), .second, .val (.long p3), .second, .val .null] []))
  refine own_st (fun t_ k_ => XS.aloadN X102.here hx rfl (hb hby own_d1_4) rfl rfl k_) ?_
  show own_Go p.tables e below _ (T102.setTop (mkF m 5 #[.val (.ref a1), .val (.long p1), .second, .val (.long p2), .second, .val (.long p3), .second, .val .null] [(.ref a1)]))
  refine own_st (fun t_ k_ => XS.lloadN X102.here hx rfl (hb hby own_d1_5) rfl k_) ?_
  show own_Go p.tables e below _ (T102.setTop (mkF m 6 #[.val (.ref a1), .val (.long p1), .second, .val (.long p2), .second, .val (.long p3), .second, .val .null] [(.long p1), (.ref a1)]))
  obtain ⟨T103, h103, X103, e103, W103, st103⟩ := putF X102 hx hZ hown (host := "") (Or.inl (hw _ (List.mem_of_getElem? (i := 16) rfl))) Via.refl eq102 q1 q0 (Or.inr ⟨(hw _ (List.mem_of_getElem? (i := 17) rfl)), rfl, hnm⟩) (hw _ (List.mem_of_getElem? (i := 3) rfl)) (ty := .long) (by decide) rfl rfl (g := (mkF m 6 #[.val (.ref a1), .val (.long p1), .second, .val (.long p2), .second, .val (.long p3), .second, .val .null] [(.long p1), (.ref a1)])) rfl rfl (hb hby own_d1_6)
  have Fw103 : Fld Z h103 a1 "com/example/marshalyard/marshalyard/bench/RmiCalls$Run" "calls" "J" (.long p1) := q1.same W103
  have N103 := Fr.snoc X103 N102 q5
  have K103 : Keep h0 h103 [a1] := (Keep.refl h0 [a1]).wr W103 (Or.inl (List.mem_of_getElem? (i := 0) rfl))
  refine own_st (st103) ?_
  show own_Go p.tables e below _ (T103.setTop (mkF m 9 #[.val (.ref a1), .val (.long p1), .second, .val (.long p2), .second, .val (.long p3), .second, .val .null] []))
  refine own_st (fun t_ k_ => XS.aloadN X103.here hx rfl (hb hby own_d1_9) rfl rfl k_) ?_
  show own_Go p.tables e below _ (T103.setTop (mkF m 10 #[.val (.ref a1), .val (.long p1), .second, .val (.long p2), .second, .val (.long p3), .second, .val .null] [(.ref a1)]))
  refine own_st (fun t_ k_ => XS.lloadN X103.here hx rfl (hb hby own_d1_10) rfl k_) ?_
  show own_Go p.tables e below _ (T103.setTop (mkF m 11 #[.val (.ref a1), .val (.long p1), .second, .val (.long p2), .second, .val (.long p3), .second, .val .null] [(.long p2), (.ref a1)]))
  obtain ⟨T104, h104, X104, e104, W104, st104⟩ := putF X103 hx hZ hown (host := "") (Or.inl (hw _ (List.mem_of_getElem? (i := 18) rfl))) Via.refl e103 (q2.other W103 (Or.inr (slot_ne (Or.inr (hw _ (List.mem_of_getElem? (i := 19) rfl))) (Or.inr (hw _ (List.mem_of_getElem? (i := 17) rfl))) (by decide) (t := .long) (t' := .long) (by decide) (by decide)))) (q0.wr W103) (Or.inr ⟨(hw _ (List.mem_of_getElem? (i := 19) rfl)), rfl, hnm⟩) (hw _ (List.mem_of_getElem? (i := 3) rfl)) (ty := .long) (by decide) rfl rfl (g := (mkF m 11 #[.val (.ref a1), .val (.long p1), .second, .val (.long p2), .second, .val (.long p3), .second, .val .null] [(.long p2), (.ref a1)])) rfl rfl (hb hby own_d1_11)
  have Fw104 : Fld Z h104 a1 "com/example/marshalyard/marshalyard/bench/RmiCalls$Run" "failed" "J" (.long p2) := (q2.other W103 (Or.inr (slot_ne (Or.inr (hw _ (List.mem_of_getElem? (i := 19) rfl))) (Or.inr (hw _ (List.mem_of_getElem? (i := 17) rfl))) (by decide) (t := .long) (t' := .long) (by decide) (by decide)))).same W104
  have N104 := Fr.snoc X104 N103 q5
  have K104 : Keep h0 h104 [a1] := K103.wr W104 (Or.inl (List.mem_of_getElem? (i := 0) rfl))
  refine own_st (st104) ?_
  show own_Go p.tables e below _ (T104.setTop (mkF m 14 #[.val (.ref a1), .val (.long p1), .second, .val (.long p2), .second, .val (.long p3), .second, .val .null] []))
  refine own_st (fun t_ k_ => XS.aloadN X104.here hx rfl (hb hby own_d1_14) rfl rfl k_) ?_
  show own_Go p.tables e below _ (T104.setTop (mkF m 15 #[.val (.ref a1), .val (.long p1), .second, .val (.long p2), .second, .val (.long p3), .second, .val .null] [(.ref a1)]))
  refine own_st (fun t_ k_ => XS.lload X104.here hx rfl (hb hby own_d1_15) rfl k_) ?_
  show own_Go p.tables e below _ (T104.setTop (mkF m 17 #[.val (.ref a1), .val (.long p1), .second, .val (.long p2), .second, .val (.long p3), .second, .val .null] [(.long p3), (.ref a1)]))
  obtain ⟨T105, h105, X105, e105, W105, st105⟩ := putF X104 hx hZ hown (host := "") (Or.inl (hw _ (List.mem_of_getElem? (i := 20) rfl))) Via.refl e104 ((q3.other W103 (Or.inr (slot_ne (Or.inr (hw _ (List.mem_of_getElem? (i := 21) rfl))) (Or.inr (hw _ (List.mem_of_getElem? (i := 17) rfl))) (by decide) (t := .long) (t' := .long) (by decide) (by decide)))).other W104 (Or.inr (slot_ne (Or.inr (hw _ (List.mem_of_getElem? (i := 21) rfl))) (Or.inr (hw _ (List.mem_of_getElem? (i := 19) rfl))) (by decide) (t := .long) (t' := .long) (by decide) (by decide)))) ((q0.wr W103).wr W104) (Or.inr ⟨(hw _ (List.mem_of_getElem? (i := 21) rfl)), rfl, hnm⟩) (hw _ (List.mem_of_getElem? (i := 3) rfl)) (ty := .long) (by decide) rfl rfl (g := (mkF m 17 #[.val (.ref a1), .val (.long p1), .second, .val (.long p2), .second, .val (.long p3), .second, .val .null] [(.long p3), (.ref a1)])) rfl rfl (hb hby own_d1_17)
  have Fw105 : Fld Z h105 a1 "com/example/marshalyard/marshalyard/bench/RmiCalls$Run" "nanos" "J" (.long p3) := ((q3.other W103 (Or.inr (slot_ne (Or.inr (hw _ (List.mem_of_getElem? (i := 21) rfl))) (Or.inr (hw _ (List.mem_of_getElem? (i := 17) rfl))) (by decide) (t := .long) (t' := .long) (by decide) (by decide)))).other W104 (Or.inr (slot_ne (Or.inr (hw _ (List.mem_of_getElem? (i := 21) rfl))) (Or.inr (hw _ (List.mem_of_getElem? (i := 19) rfl))) (by decide) (t := .long) (t' := .long) (by decide) (by decide)))).same W105
  have N105 := Fr.snoc X105 N104 q5
  have K105 : Keep h0 h105 [a1] := K104.wr W105 (Or.inl (List.mem_of_getElem? (i := 0) rfl))
  refine own_st (st105) ?_
  show own_Go p.tables e below _ (T105.setTop (mkF m 20 #[.val (.ref a1), .val (.long p1), .second, .val (.long p2), .second, .val (.long p3), .second, .val .null] []))
  refine own_st (fun t_ k_ => XS.aloadN X105.here hx rfl (hb hby own_d1_20) rfl rfl k_) ?_
  show own_Go p.tables e below _ (T105.setTop (mkF m 21 #[.val (.ref a1), .val (.long p1), .second, .val (.long p2), .second, .val (.long p3), .second, .val .null] [(.ref a1)]))
  refine own_st (fun t_ k_ => XS.aload X105.here hx rfl (hb hby own_d1_21) rfl rfl k_) ?_
  show own_Go p.tables e below _ (T105.setTop (mkF m 23 #[.val (.ref a1), .val (.long p1), .second, .val (.long p2), .second, .val (.long p3), .second, .val .null] [.null, (.ref a1)]))
  obtain ⟨T106, h106, X106, e106, W106, st106⟩ := putF X105 hx hZ hown (host := "") (Or.inl (hw _ (List.mem_of_getElem? (i := 22) rfl))) Via.refl e105 (((q4.other W103 (Or.inr (slot_ne (Or.inr (hw _ (List.mem_of_getElem? (i := 23) rfl))) (Or.inr (hw _ (List.mem_of_getElem? (i := 17) rfl))) (by decide) (t := (.object "java/lang/String")) (t' := .long) (by decide) (by decide)))).other W104 (Or.inr (slot_ne (Or.inr (hw _ (List.mem_of_getElem? (i := 23) rfl))) (Or.inr (hw _ (List.mem_of_getElem? (i := 19) rfl))) (by decide) (t := (.object "java/lang/String")) (t' := .long) (by decide) (by decide)))).other W105 (Or.inr (slot_ne (Or.inr (hw _ (List.mem_of_getElem? (i := 23) rfl))) (Or.inr (hw _ (List.mem_of_getElem? (i := 21) rfl))) (by decide) (t := (.object "java/lang/String")) (t' := .long) (by decide) (by decide)))) (((q0.wr W103).wr W104).wr W105) (Or.inr ⟨(hw _ (List.mem_of_getElem? (i := 23) rfl)), rfl, hnm⟩) (hw _ (List.mem_of_getElem? (i := 3) rfl)) (ty := (.object "java/lang/String")) (by decide) rfl rfl (g := (mkF m 23 #[.val (.ref a1), .val (.long p1), .second, .val (.long p2), .second, .val (.long p3), .second, .val .null] [.null, (.ref a1)])) rfl rfl (hb hby own_d1_23)
  have Fw106 : Fld Z h106 a1 "com/example/marshalyard/marshalyard/bench/RmiCalls$Run" "firstFailure" "Ljava/lang/String;" .null := (((q4.other W103 (Or.inr (slot_ne (Or.inr (hw _ (List.mem_of_getElem? (i := 23) rfl))) (Or.inr (hw _ (List.mem_of_getElem? (i := 17) rfl))) (by decide) (t := (.object "java/lang/String")) (t' := .long) (by decide) (by decide)))).other W104 (Or.inr (slot_ne (Or.inr (hw _ (List.mem_of_getElem? (i := 23) rfl))) (Or.inr (hw _ (List.mem_of_getElem? (i := 19) rfl))) (by decide) (t := (.object "java/lang/String")) (t' := .long) (by decide) (by decide)))).other W105 (Or.inr (slot_ne (Or.inr (hw _ (List.mem_of_getElem? (i := 23) rfl))) (Or.inr (hw _ (List.mem_of_getElem? (i := 21) rfl))) (by decide) (t := (.object "java/lang/String")) (t' := .long) (by decide) (by decide)))).same W106
  have N106 := Fr.snoc X106 N105 q5
  have K106 : Keep h0 h106 [a1] := K105.wr W106 (Or.inl (List.mem_of_getElem? (i := 0) rfl))
  refine own_st (st106) ?_
  show own_Go p.tables e below _ (T106.setTop (mkF m 26 #[.val (.ref a1), .val (.long p1), .second, .val (.long p2), .second, .val (.long p3), .second, .val .null] []))
  exact own_ret0 X106 hx hnl Bd.returns (hb hby own_d1_26) ⟨rfl, N106, (by rw [e106]; exact K106), (by rw [e106]; exact (((Fw103.other W104 (Or.inr (slot_ne (Or.inr (hw _ (List.mem_of_getElem? (i := 17) rfl))) (Or.inr (hw _ (List.mem_of_getElem? (i := 19) rfl))) (by decide) (t := .long) (t' := .long) (by decide) (by decide)))).other W105 (Or.inr (slot_ne (Or.inr (hw _ (List.mem_of_getElem? (i := 17) rfl))) (Or.inr (hw _ (List.mem_of_getElem? (i := 21) rfl))) (by decide) (t := .long) (t' := .long) (by decide) (by decide)))).other W106 (Or.inr (slot_ne (Or.inr (hw _ (List.mem_of_getElem? (i := 17) rfl))) (Or.inr (hw _ (List.mem_of_getElem? (i := 23) rfl))) (by decide) (t := .long) (t' := (.object "java/lang/String")) (by decide) (by decide))))), (by rw [e106]; exact (Fw105.other W106 (Or.inr (slot_ne (Or.inr (hw _ (List.mem_of_getElem? (i := 21) rfl))) (Or.inr (hw _ (List.mem_of_getElem? (i := 23) rfl))) (by decide) (t := .long) (t' := (.object "java/lang/String")) (by decide) (by decide)))))⟩ (by decide) (by decide)

theorem own_d4_0 : decode prog_15_method_2_code 0 = .ok (.aload_n 0, 1) := by decide +kernel
theorem own_d4_1 : decode prog_15_method_2_code 1 = .ok (.getfield 7, 3) := by decide +kernel
theorem own_d4_4 : decode prog_15_method_2_code 4 = .ok (.l2d, 1) := by decide +kernel
theorem own_d4_5 : decode prog_15_method_2_code 5 = .ok (.ldc2_w 23, 3) := by decide +kernel
theorem own_d4_8 : decode prog_15_method_2_code 8 = .ok (.dmul, 1) := by decide +kernel
theorem own_d4_9 : decode prog_15_method_2_code 9 = .ok (.aload_n 0, 1) := by decide +kernel
theorem own_d4_10 : decode prog_15_method_2_code 10 = .ok (.getfield 16, 3) := by decide +kernel
theorem own_d4_13 : decode prog_15_method_2_code 13 = .ok (.l2d, 1) := by decide +kernel
theorem own_d4_14 : decode prog_15_method_2_code 14 = .ok (.ddiv, 1) := by decide +kernel
theorem own_d4_15 : decode prog_15_method_2_code 15 = .ok (.dreturn, 1) := by decide +kernel
theorem own_ef4 (m : MethodId) (x0 : Addr) : entryFrame m #[(.ref x0)] 1 = mkF m 0 #[.val (.ref x0)] [] := by first | (simp [entryFrame, mkF, argsToLocals, Value.category]; done) | rfl
def own_Q4 (Z : State) (a1 : Addr) (c1 : Int64) (d1 : Int64) (h0 : Heap) (n0 : Nat) (v : Option Value) (h : Heap) (L : List Loc) : Prop := v = some (.double (own_r c1 d1)) ∧ Fr n0 L ∧ h = h0
set_option maxRecDepth 65536 in
set_option maxHeartbeats 40000000 in
theorem own_rm4 (l : Launch) (Z : State) (a0 : Array Value) (hw : ∀ d ∈ tables_1, d.before a0 Z = true) (ws : List Jvm.Cond) (a1 : Addr) (c1 : Int64) (d1 : Int64) (h0 : Heap) (n0 : Nat) (Z0 : n0 ≤ h0.size) (q0 : Fld Z h0 a1 "com/example/marshalyard/marshalyard/bench/RmiCalls$Run" "calls" "J" (.long c1)) (q1 : Fld Z h0 a1 "com/example/marshalyard/marshalyard/bench/RmiCalls$Run" "nanos" "J" (.long d1)) (hd : d1 ≠ 0) :
    MetFree l (⟨"com/example/marshalyard/marshalyard/bench/RmiCalls$Run", "perSecond", "()D"⟩ : MethodName) (head1 (Jvm.Cond.code (⟨"com/example/marshalyard/marshalyard/bench/RmiCalls$Run", "perSecond", "()D"⟩ : MethodName) prog_15_method_2_code 1 (some .double) :: ws) ({ frames := 0, cells := 0, slots := 0, locals := 0 } : Room)) (fun a U => a = #[(.ref a1)] ∧ Z.Warmed39 U.vm ∧ U.heap = h0) (fun _ _ _ _ _ => True) (fun _ U o U' => ∃ v L, o = .returned v ∧ own_Q4 Z a1 c1 d1 h0 n0 v U'.heap L ∧ FrameEnd U o U' L ({ frames := 0, cells := 0, slots := 0, locals := 0 } : Room).cells ({ frames := 0, cells := 0, slots := 0, locals := 0 } : Room).slots) := by
  refine MetFree.of_bodySF (plainFor_of_name own_pn1) hisR ?_
  intro p e s m args below meth c s₁ Bd hml0 hP hK
  obtain ⟨rfl, hZ, hh⟩ := hP
  have hx := Bd.exec
  have hby := Bd.bytes
  have hml : c.maxLocals = 1 := hml0
  have hown : s.vm.findClass "com/example/marshalyard/marshalyard/bench/RmiCalls$Run" = some m.cls := findClass_of_methodNamed Bd.named
  have hnm := (name_of_methodNamed Bd.named Bd.method).1
  have hnl : meth.locks = false := Bd.notSynchronized
  have X0 : Stand p l e ({ frames := 0, cells := 0, slots := 0, locals := 0 } : Room) s m #[(.ref a1)] below meth c s₁ [] 0 0 := Stand.of_body Bd
  have e0 : s₁.heap = h0 := by rw [← hh, Bd.state]; rfl
  have N0 := Fr.nil n0
  show own_Go p.tables e below (own_P below s (own_Q4 Z a1 c1 d1 h0 n0) ({ frames := 0, cells := 0, slots := 0, locals := 0 } : Room).cells ({ frames := 0, cells := 0, slots := 0, locals := 0 } : Room).slots) _
  refine own_st (fun t_ k_ => castTop (own_ef4 m a1) k_) ?_
  show own_Go p.tables e below _ (s₁.setTop (mkF m 0 #[.val (.ref a1)] []))
  refine own_st (fun t_ k_ => XS.aloadN X0.here hx rfl (hb hby own_d4_0) rfl rfl k_) ?_
  show own_Go p.tables e below _ (s₁.setTop (mkF m 1 #[.val (.ref a1)] [(.ref a1)]))
  obtain ⟨T107, X107, e107, st107⟩ := getF X0 hx hZ hown (host := "") (Or.inl (hw _ (List.mem_of_getElem? (i := 16) rfl))) Via.refl e0 q0 (g := (mkF m 1 #[.val (.ref a1)] [(.ref a1)])) rfl rfl (hb hby own_d4_1)
  refine own_st (st107) ?_
  show own_Go p.tables e below _ (T107.setTop (mkF m 4 #[.val (.ref a1)] [(.long c1)]))
  refine own_st (fun t_ k_ => XS.l2dS X107.here hx rfl (hb hby own_d4_4) rfl rfl k_) ?_
  show own_Go p.tables e below _ (T107.setTop (mkF m 5 #[.val (.ref a1)] [(.double (FP.l2d c1))]))
  refine own_st (X107.ldc2DoubleC hx hown (mvT hZ (hw _ (List.mem_of_getElem? (i := 29) rfl))) (g := (mkF m 5 #[.val (.ref a1)] [(.double (FP.l2d c1))])) rfl (hb hby own_d4_5)) ?_
  show own_Go p.tables e below _ (T107.setTop (mkF m 8 #[.val (.ref a1)] [(.double (4741671816366391296 : UInt64)), (.double (FP.l2d c1))]))
  refine own_st (fun t_ k_ => XS.dmulS X107.here hx rfl (hb hby own_d4_8) rfl (Fl.dmul_out (Fl.l2d_fin c1) (by unfold Fl.Fin64; decide)) rfl k_) ?_
  show own_Go p.tables e below _ (T107.setTop (mkF m 9 #[.val (.ref a1)] [(.double (FP.dmul (FP.l2d c1) (4741671816366391296 : UInt64)))]))
  refine own_st (fun t_ k_ => XS.aloadN X107.here hx rfl (hb hby own_d4_9) rfl rfl k_) ?_
  show own_Go p.tables e below _ (T107.setTop (mkF m 10 #[.val (.ref a1)] [(.ref a1), (.double (FP.dmul (FP.l2d c1) (4741671816366391296 : UInt64)))]))
  obtain ⟨T108, X108, e108, st108⟩ := getF X107 hx hZ hown (host := "") (Or.inl (hw _ (List.mem_of_getElem? (i := 20) rfl))) Via.refl e107 q1 (g := (mkF m 10 #[.val (.ref a1)] [(.ref a1), (.double (FP.dmul (FP.l2d c1) (4741671816366391296 : UInt64)))])) rfl rfl (hb hby own_d4_10)
  refine own_st (st108) ?_
  show own_Go p.tables e below _ (T108.setTop (mkF m 13 #[.val (.ref a1)] [(.long d1), (.double (FP.dmul (FP.l2d c1) (4741671816366391296 : UInt64)))]))
  refine own_st (fun t_ k_ => XS.l2dS X108.here hx rfl (hb hby own_d4_13) rfl rfl k_) ?_
  show own_Go p.tables e below _ (T108.setTop (mkF m 14 #[.val (.ref a1)] [(.double (FP.l2d d1)), (.double (FP.dmul (FP.l2d c1) (4741671816366391296 : UInt64)))]))
  refine own_st (fun t_ k_ => XS.ddivS X108.here hx rfl (hb hby own_d4_14) rfl (Fl.ddiv_out (Fl.dmul_out (Fl.l2d_fin c1) (by unfold Fl.Fin64; decide)) (Fl.l2d_fin d1) (Fl.l2d_nz hd)) rfl k_) ?_
  show own_Go p.tables e below _ (T108.setTop (mkF m 15 #[.val (.ref a1)] [(.double (FP.ddiv (FP.dmul (FP.l2d c1) (4741671816366391296 : UInt64)) (FP.l2d d1)))]))
  exact own_ret (w := (.double (FP.ddiv (FP.dmul (FP.l2d c1) (4741671816366391296 : UInt64)) (FP.l2d d1)))) X108 hx hnl Bd.returns rfl (Or.inr (Or.inr (Or.inl ⟨rfl, rfl, _, rfl⟩))) (hb hby own_d4_15) ⟨rfl, N0, e108⟩ (by decide) (by decide)

theorem own_pn2 : plainName "com/example/marshalyard/marshalyard/bench/RunPerSecondPinLaw" = true := by first | (simp [plainName, overriddenIn]; done) | decide +kernel
theorem own_pd1 : parseMethodDescriptor "(JJJLjava/lang/String;)V" = some ⟨[.long, .long, .long, (.object "java/lang/String")], none⟩ := by decide +kernel
theorem own_pd2 : parseMethodDescriptor "()D" = some ⟨[], some .double⟩ := by decide +kernel
theorem own_ef0 (m : MethodId) (x0 : Int32) (x1 : Int32) (x2 : Int32) (x3 : Int32) (x4 : Int64) : entryFrame m #[(.int x0), (.int x1), (.int x2), (.int x3), (.long x4)] maxLocals = mkF m 0 #[.val (.int x0), .val (.int x1), .val (.int x2), .val (.int x3), .val (.long x4), .second, .unset, .unset, .unset, .unset, .unset, .unset, .unset, .unset, .unset, .unset, .unset, .unset, .unset, .unset, .unset, .unset, .unset, .unset, .unset, .unset] [] := by first | (simp [entryFrame, mkF, argsToLocals, Value.category, maxLocals]; done) | rfl
def own_Q0 (Z : State) (p0 : Int32) (p1 : Int32) (p2 : Int32) (p3 : Int32) (p4 : Int64) (h0 : Heap) (n0 : Nat) (v : Option Value) (h : Heap) (L : List Loc) : Prop := v = some (.int (1 : Int32)) ∧ Fr n0 L ∧ Keep h0 h []
set_option maxRecDepth 65536 in
set_option maxHeartbeats 40000000 in
theorem own_rm0 (l : Launch) (Z : State) (a0 : Array Value) (hw : ∀ d ∈ tables_1, d.before a0 Z = true) (ws : List Jvm.Cond) (p0 : Int32) (p1 : Int32) (p2 : Int32) (p3 : Int32) (p4 : Int64) (h0 : Heap) (n0 : Nat) (Z0 : n0 ≤ h0.size)  :
    MetFree l x (head1 (Jvm.Cond.code x code maxLocals ret :: ws) room_1) (fun a U => a = #[(.int p0), (.int p1), (.int p2), (.int p3), (.long p4)] ∧ Z.Warmed39 U.vm ∧ U.heap = h0) (fun _ _ _ _ _ => True) (fun _ U o U' => ∃ v L, o = .returned v ∧ own_Q0 Z p0 p1 p2 p3 p4 h0 n0 v U'.heap L ∧ FrameEnd U o U' L room_1.cells room_1.slots) := by
  refine MetFree.of_bodySF (plainFor_of_name own_pn2) hisR ?_
  intro p e s m args below meth c s₁ Bd hml0 hP hK
  obtain ⟨rfl, hZ, hh⟩ := hP
  have hx := Bd.exec
  have hby := Bd.bytes
  have hml : c.maxLocals = 26 := hml0
  have hown : s.vm.findClass "com/example/marshalyard/marshalyard/bench/RunPerSecondPinLaw" = some m.cls := findClass_of_methodNamed Bd.named
  have hnm := (name_of_methodNamed Bd.named Bd.method).1
  have hnl : meth.locks = false := Bd.notSynchronized
  have X0 : Stand p l e room_1 s m #[(.int p0), (.int p1), (.int p2), (.int p3), (.long p4)] below meth c s₁ [] 0 0 := Stand.of_body Bd
  have e0 : s₁.heap = h0 := by rw [← hh, Bd.state]; rfl
  have N0 := Fr.nil n0
  show own_Go p.tables e below (own_P below s (own_Q0 Z p0 p1 p2 p3 p4 h0 n0) room_1.cells room_1.slots) _
  refine own_st (fun t_ k_ => castTop (own_ef0 m p0 p1 p2 p3 p4) k_) ?_
  show own_Go p.tables e below _ (s₁.setTop (mkF m 0 #[.val (.int p0), .val (.int p1), .val (.int p2), .val (.int p3), .val (.long p4), .second, .unset, .unset, .unset, .unset, .unset, .unset, .unset, .unset, .unset, .unset, .unset, .unset, .unset, .unset, .unset, .unset, .unset, .unset, .unset, .unset] []))
  obtain ⟨cc, hc⟩ : ∃ z, z = p0.toInt64 &&& 65535 := ⟨_, rfl⟩
  obtain ⟨dd, hd⟩ : ∃ z, z = (p1.toInt64 &&& 63) + 1 := ⟨_, rfl⟩
  obtain ⟨u, hu⟩ : ∃ z, z = (p2.toInt64 &&& 4095) + 1 := ⟨_, rfl⟩
  obtain ⟨c2, hc2⟩ : ∃ z, z = p3.toInt64 &&& 2047 := ⟨_, rfl⟩
  have bc : 0 ≤ cc.toInt ∧ cc.toInt ≤ 65535 := by have q := own_mask p0.toInt64 65535 16 (by decide) (by decide); rw [← hc] at q; exact ⟨q.1, by have := q.2; simp at this; omega⟩
  have bd : 1 ≤ dd.toInt ∧ dd.toInt ≤ 64 := by have q := own_mask p1.toInt64 63 6 (by decide) (by decide); have q2 := q.2; simp at q2; rw [hd, own_one _ q.1 (by omega)]; omega
  have bu : 1 ≤ u.toInt ∧ u.toInt ≤ 4096 := by have q := own_mask p2.toInt64 4095 12 (by decide) (by decide); have q2 := q.2; simp at q2; rw [hu, own_one _ q.1 (by omega)]; omega
  have bc2 : 0 ≤ c2.toInt ∧ c2.toInt ≤ 2047 := by have q := own_mask p3.toInt64 2047 11 (by decide) (by decide); rw [← hc2] at q; exact ⟨q.1, by have := q.2; simp at this; omega⟩
  have nd : dd ≠ 0 := fun q => by rw [q] at bd; exact absurd bd.1 (by decide)
  have nu : u * 1000000000 ≠ 0 := fun q => by have e9 : (1000000000 : Int64).toInt = 1000000000 := (by decide); have e3 : (u * 1000000000).toInt = u.toInt * 1000000000 := (by rw [FP.Core.int64_mul (by rw [e9]; omega) (by rw [e9]; omega), e9]); rw [q] at e3; have z : (0 : Int64).toInt = 0 := (by decide); omega
  refine own_st (fun t_ k_ => XS.iloadN X0.here hx rfl (hb hby at_0) rfl k_) ?_
  show own_Go p.tables e below _ (s₁.setTop (mkF m 1 #[.val (.int p0), .val (.int p1), .val (.int p2), .val (.int p3), .val (.long p4), .second, .unset, .unset, .unset, .unset, .unset, .unset, .unset, .unset, .unset, .unset, .unset, .unset, .unset, .unset, .unset, .unset, .unset, .unset, .unset, .unset] [(.int p0)]))
  refine own_st (fun t_ k_ => XS.i2l X0.here hx rfl (hb hby at_1) rfl k_) ?_
  show own_Go p.tables e below _ (s₁.setTop (mkF m 2 #[.val (.int p0), .val (.int p1), .val (.int p2), .val (.int p3), .val (.long p4), .second, .unset, .unset, .unset, .unset, .unset, .unset, .unset, .unset, .unset, .unset, .unset, .unset, .unset, .unset, .unset, .unset, .unset, .unset, .unset, .unset] [(.long (p0.toInt64))]))
  refine own_st (X0.ldc2Long hx hown (mvT hZ (hw _ (List.mem_of_getElem? (i := 0) rfl))) (g := (mkF m 2 #[.val (.int p0), .val (.int p1), .val (.int p2), .val (.int p3), .val (.long p4), .second, .unset, .unset, .unset, .unset, .unset, .unset, .unset, .unset, .unset, .unset, .unset, .unset, .unset, .unset, .unset, .unset, .unset, .unset, .unset, .unset] [(.long (p0.toInt64))])) rfl (hb hby at_2)) ?_
  show own_Go p.tables e below _ (s₁.setTop (mkF m 5 #[.val (.int p0), .val (.int p1), .val (.int p2), .val (.int p3), .val (.long p4), .second, .unset, .unset, .unset, .unset, .unset, .unset, .unset, .unset, .unset, .unset, .unset, .unset, .unset, .unset, .unset, .unset, .unset, .unset, .unset, .unset] [(.long (65535 : Int64)), (.long (p0.toInt64))]))
  refine own_st (fun t_ k_ => XS.land X0.here hx rfl (hb hby at_5) rfl k_) ?_
  show own_Go p.tables e below _ (s₁.setTop (mkF m 6 #[.val (.int p0), .val (.int p1), .val (.int p2), .val (.int p3), .val (.long p4), .second, .unset, .unset, .unset, .unset, .unset, .unset, .unset, .unset, .unset, .unset, .unset, .unset, .unset, .unset, .unset, .unset, .unset, .unset, .unset, .unset] [(.long ((p0.toInt64) &&& (65535 : Int64)))]))
  rw [show ((p0.toInt64) &&& (65535 : Int64)) = cc from hc.symm]
  show own_Go p.tables e below _ (s₁.setTop (mkF m 6 #[.val (.int p0), .val (.int p1), .val (.int p2), .val (.int p3), .val (.long p4), .second, .unset, .unset, .unset, .unset, .unset, .unset, .unset, .unset, .unset, .unset, .unset, .unset, .unset, .unset, .unset, .unset, .unset, .unset, .unset, .unset] [(.long cc)]))
  refine own_st (fun t_ k_ => XS.lstore X0.here hx rfl (hb hby at_6) rfl (l' := #[.val (.int p0), .val (.int p1), .val (.int p2), .val (.int p3), .val (.long p4), .second, .val (.long cc), .second, .unset, .unset, .unset, .unset, .unset, .unset, .unset, .unset, .unset, .unset, .unset, .unset, .unset, .unset, .unset, .unset, .unset, .unset]) rfl k_) ?_
  show own_Go p.tables e below _ (s₁.setTop (mkF m 8 #[.val (.int p0), .val (.int p1), .val (.int p2), .val (.int p3), .val (.long p4), .second, .val (.long cc), .second, .unset, .unset, .unset, .unset, .unset, .unset, .unset, .unset, .unset, .unset, .unset, .unset, .unset, .unset, .unset, .unset, .unset, .unset] []))
  refine own_st (fun t_ k_ => XS.iloadN X0.here hx rfl (hb hby at_8) rfl k_) ?_
  show own_Go p.tables e below _ (s₁.setTop (mkF m 9 #[.val (.int p0), .val (.int p1), .val (.int p2), .val (.int p3), .val (.long p4), .second, .val (.long cc), .second, .unset, .unset, .unset, .unset, .unset, .unset, .unset, .unset, .unset, .unset, .unset, .unset, .unset, .unset, .unset, .unset, .unset, .unset] [(.int p1)]))
  refine own_st (fun t_ k_ => XS.i2l X0.here hx rfl (hb hby at_9) rfl k_) ?_
  show own_Go p.tables e below _ (s₁.setTop (mkF m 10 #[.val (.int p0), .val (.int p1), .val (.int p2), .val (.int p3), .val (.long p4), .second, .val (.long cc), .second, .unset, .unset, .unset, .unset, .unset, .unset, .unset, .unset, .unset, .unset, .unset, .unset, .unset, .unset, .unset, .unset, .unset, .unset] [(.long (p1.toInt64))]))
  refine own_st (X0.ldc2Long hx hown (mvT hZ (hw _ (List.mem_of_getElem? (i := 1) rfl))) (g := (mkF m 10 #[.val (.int p0), .val (.int p1), .val (.int p2), .val (.int p3), .val (.long p4), .second, .val (.long cc), .second, .unset, .unset, .unset, .unset, .unset, .unset, .unset, .unset, .unset, .unset, .unset, .unset, .unset, .unset, .unset, .unset, .unset, .unset] [(.long (p1.toInt64))])) rfl (hb hby at_10)) ?_
  show own_Go p.tables e below _ (s₁.setTop (mkF m 13 #[.val (.int p0), .val (.int p1), .val (.int p2), .val (.int p3), .val (.long p4), .second, .val (.long cc), .second, .unset, .unset, .unset, .unset, .unset, .unset, .unset, .unset, .unset, .unset, .unset, .unset, .unset, .unset, .unset, .unset, .unset, .unset] [(.long (63 : Int64)), (.long (p1.toInt64))]))
  refine own_st (fun t_ k_ => XS.land X0.here hx rfl (hb hby at_13) rfl k_) ?_
  show own_Go p.tables e below _ (s₁.setTop (mkF m 14 #[.val (.int p0), .val (.int p1), .val (.int p2), .val (.int p3), .val (.long p4), .second, .val (.long cc), .second, .unset, .unset, .unset, .unset, .unset, .unset, .unset, .unset, .unset, .unset, .unset, .unset, .unset, .unset, .unset, .unset, .unset, .unset] [(.long ((p1.toInt64) &&& (63 : Int64)))]))
  refine own_st (fun t_ k_ => XS.lconst X0.here hx rfl (hb hby at_14) k_) ?_
  show own_Go p.tables e below _ (s₁.setTop (mkF m 15 #[.val (.int p0), .val (.int p1), .val (.int p2), .val (.int p3), .val (.long p4), .second, .val (.long cc), .second, .unset, .unset, .unset, .unset, .unset, .unset, .unset, .unset, .unset, .unset, .unset, .unset, .unset, .unset, .unset, .unset, .unset, .unset] [(.long (1 : Int64)), (.long ((p1.toInt64) &&& (63 : Int64)))]))
  refine own_st (fun t_ k_ => XS.ladd X0.here hx rfl (hb hby at_15) rfl k_) ?_
  show own_Go p.tables e below _ (s₁.setTop (mkF m 16 #[.val (.int p0), .val (.int p1), .val (.int p2), .val (.int p3), .val (.long p4), .second, .val (.long cc), .second, .unset, .unset, .unset, .unset, .unset, .unset, .unset, .unset, .unset, .unset, .unset, .unset, .unset, .unset, .unset, .unset, .unset, .unset] [(.long (((p1.toInt64) &&& (63 : Int64)) + (1 : Int64)))]))
  rw [show (((p1.toInt64) &&& (63 : Int64)) + (1 : Int64)) = dd from hd.symm]
  show own_Go p.tables e below _ (s₁.setTop (mkF m 16 #[.val (.int p0), .val (.int p1), .val (.int p2), .val (.int p3), .val (.long p4), .second, .val (.long cc), .second, .unset, .unset, .unset, .unset, .unset, .unset, .unset, .unset, .unset, .unset, .unset, .unset, .unset, .unset, .unset, .unset, .unset, .unset] [(.long dd)]))
  refine own_st (fun t_ k_ => XS.lstore X0.here hx rfl (hb hby at_16) rfl (l' := #[.val (.int p0), .val (.int p1), .val (.int p2), .val (.int p3), .val (.long p4), .second, .val (.long cc), .second, .val (.long dd), .second, .unset, .unset, .unset, .unset, .unset, .unset, .unset, .unset, .unset, .unset, .unset, .unset, .unset, .unset, .unset, .unset]) rfl k_) ?_
  show own_Go p.tables e below _ (s₁.setTop (mkF m 18 #[.val (.int p0), .val (.int p1), .val (.int p2), .val (.int p3), .val (.long p4), .second, .val (.long cc), .second, .val (.long dd), .second, .unset, .unset, .unset, .unset, .unset, .unset, .unset, .unset, .unset, .unset, .unset, .unset, .unset, .unset, .unset, .unset] []))
  obtain ⟨T109, h109, X109, e109, E109, A109, D109, -, st109⟩ := newO X0 hx hZ hown (hw _ (List.mem_of_getElem? (i := 2) rfl)) (hw _ (List.mem_of_getElem? (i := 3) rfl)) (hw _ (List.mem_of_getElem? (i := 4) rfl)) e0 (g := (mkF m 18 #[.val (.int p0), .val (.int p1), .val (.int p2), .val (.int p3), .val (.long p4), .second, .val (.long cc), .second, .val (.long dd), .second, .unset, .unset, .unset, .unset, .unset, .unset, .unset, .unset, .unset, .unset, .unset, .unset, .unset, .unset, .unset, .unset] [])) rfl (hb hby at_18) (by decide) (by decide)
  obtain ⟨b109, g109⟩ : ∃ z, z = h0.size := ⟨_, rfl⟩
  rw [← g109] at A109 D109 st109
  have fr109 : h0.size ≤ b109 := Nat.le_trans (Keep.refl h0 []).1 (Nat.le_of_eq g109.symm)
  have ge109 : n0 ≤ b109 := Nat.le_trans Z0 fr109
  have K109 : Keep h0 h109 [] := (Keep.refl h0 []).ext E109
  have F109_17 : Fld Z h109 b109 "com/example/marshalyard/marshalyard/bench/RmiCalls$Run" "calls" "J" (.long (0 : Int64)) := D109 (Or.inr (hw _ (List.mem_of_getElem? (i := 17) rfl))) (ty := .long) (by decide)
  have F109_19 : Fld Z h109 b109 "com/example/marshalyard/marshalyard/bench/RmiCalls$Run" "failed" "J" (.long (0 : Int64)) := D109 (Or.inr (hw _ (List.mem_of_getElem? (i := 19) rfl))) (ty := .long) (by decide)
  have F109_21 : Fld Z h109 b109 "com/example/marshalyard/marshalyard/bench/RmiCalls$Run" "nanos" "J" (.long (0 : Int64)) := D109 (Or.inr (hw _ (List.mem_of_getElem? (i := 21) rfl))) (ty := .long) (by decide)
  have F109_23 : Fld Z h109 b109 "com/example/marshalyard/marshalyard/bench/RmiCalls$Run" "firstFailure" "Ljava/lang/String;" .null := D109 (Or.inr (hw _ (List.mem_of_getElem? (i := 23) rfl))) (ty := (.object "java/lang/String")) (by decide)
  refine own_st (st109) ?_
  show own_Go p.tables e below _ (T109.setTop (mkF m 21 #[.val (.int p0), .val (.int p1), .val (.int p2), .val (.int p3), .val (.long p4), .second, .val (.long cc), .second, .val (.long dd), .second, .unset, .unset, .unset, .unset, .unset, .unset, .unset, .unset, .unset, .unset, .unset, .unset, .unset, .unset, .unset, .unset] [(.ref b109)]))
  refine own_st (fun t_ k_ => XS.dup X109.here hx rfl (hb hby at_21) rfl rfl k_) ?_
  show own_Go p.tables e below _ (T109.setTop (mkF m 22 #[.val (.int p0), .val (.int p1), .val (.int p2), .val (.int p3), .val (.long p4), .second, .val (.long cc), .second, .val (.long dd), .second, .unset, .unset, .unset, .unset, .unset, .unset, .unset, .unset, .unset, .unset, .unset, .unset, .unset, .unset, .unset, .unset] [(.ref b109), (.ref b109)]))
  refine own_st (fun t_ k_ => XS.lload X109.here hx rfl (hb hby at_22) rfl k_) ?_
  show own_Go p.tables e below _ (T109.setTop (mkF m 24 #[.val (.int p0), .val (.int p1), .val (.int p2), .val (.int p3), .val (.long p4), .second, .val (.long cc), .second, .val (.long dd), .second, .unset, .unset, .unset, .unset, .unset, .unset, .unset, .unset, .unset, .unset, .unset, .unset, .unset, .unset, .unset, .unset] [(.long cc), (.ref b109), (.ref b109)]))
  refine own_st (fun t_ k_ => XS.lload X109.here hx rfl (hb hby at_24) rfl k_) ?_
  show own_Go p.tables e below _ (T109.setTop (mkF m 26 #[.val (.int p0), .val (.int p1), .val (.int p2), .val (.int p3), .val (.long p4), .second, .val (.long cc), .second, .val (.long dd), .second, .unset, .unset, .unset, .unset, .unset, .unset, .unset, .unset, .unset, .unset, .unset, .unset, .unset, .unset, .unset, .unset] [(.long p4), (.long cc), (.ref b109), (.ref b109)]))
  refine own_st (fun t_ k_ => XS.lload X109.here hx rfl (hb hby at_26) rfl k_) ?_
  show own_Go p.tables e below _ (T109.setTop (mkF m 28 #[.val (.int p0), .val (.int p1), .val (.int p2), .val (.int p3), .val (.long p4), .second, .val (.long cc), .second, .val (.long dd), .second, .unset, .unset, .unset, .unset, .unset, .unset, .unset, .unset, .unset, .unset, .unset, .unset, .unset, .unset, .unset, .unset] [(.long dd), (.long p4), (.long cc), (.ref b109), (.ref b109)]))
  refine own_st (fun t_ k_ => XS.aconstNull X109.here hx rfl (hb hby at_28) k_) ?_
  show own_Go p.tables e below _ (T109.setTop (mkF m 29 #[.val (.int p0), .val (.int p1), .val (.int p2), .val (.int p3), .val (.long p4), .second, .val (.long cc), .second, .val (.long dd), .second, .unset, .unset, .unset, .unset, .unset, .unset, .unset, .unset, .unset, .unset, .unset, .unset, .unset, .unset, .unset, .unset] [.null, (.long dd), (.long p4), (.long cc), (.ref b109), (.ref b109)]))
  obtain ⟨_, _, ⟨T110, L110, k110, n110⟩, -, X110, ⟨Lc110, hQ110, l110, y110, z110⟩, st110⟩ := X109.specialBack hx (y := (⟨"com/example/marshalyard/marshalyard/bench/RmiCalls$Run", "<init>", "(JJJLjava/lang/String;)V"⟩ : MethodName)) rfl hown (mvT hZ (hw _ (List.mem_of_getElem? (i := 5) rfl))) (mvT hZ (hw _ (List.mem_of_getElem? (i := 6) rfl))) (mvT hZ (hw _ (List.mem_of_getElem? (i := 7) rfl))) (by decide) (backOf (W := 1) (own_rm1 l Z a0 hw [] b109 cc p4 dd h109 n0 (Nat.le_trans Z0 K109.1) A109 F109_17 F109_19 F109_21 F109_23 ge109) hZ (hw _ (List.mem_of_getElem? (i := 7) rfl)) (hw _ (List.mem_of_getElem? (i := 4) rfl)) (by decide) (by decide)) (g := (mkF m 29 #[.val (.int p0), .val (.int p1), .val (.int p2), .val (.int p3), .val (.long p4), .second, .val (.long cc), .second, .val (.long dd), .second, .unset, .unset, .unset, .unset, .unset, .unset, .unset, .unset, .unset, .unset, .unset, .unset, .unset, .unset, .unset, .unset] [.null, (.long dd), (.long p4), (.long cc), (.ref b109), (.ref b109)])) rfl (by rw [hml]; rfl) (Steps.refl _) (a := b109) (argsL := [(.long cc), (.long p4), (.long dd), .null]) (rest := [(.ref b109)]) (lenOf own_pd1 rfl) rfl (by show 2 * 0 + _ ≤ _; exact Nat.le_of_eq rfl) (hb hby at_29) (fun _ _ => ⟨rfl, e109, (by decide : 1 + 0 ≤ _), (by decide : 4 + 0 ≤ _)⟩)
  dsimp only [Pt.U, Pt.locs, Pt.cells, Pt.slots] at X110 l110 y110 z110 st110 hQ110
  subst l110 y110 z110
  obtain ⟨rfl, N110q, Kq110, P110_0, P110_1⟩ := hQ110
  have N110 := Fr.app N0 N110q
  have K110 : Keep h0 T110.heap [] := K109.trans Kq110 (allS (P := fun x => x ∈ [] ∨ h0.size ≤ x) (Or.inr fr109) all0)
  refine own_tr st110 ?_
  show own_Go p.tables e below _ (T110.setTop (mkF m 32 #[.val (.int p0), .val (.int p1), .val (.int p2), .val (.int p3), .val (.long p4), .second, .val (.long cc), .second, .val (.long dd), .second, .unset, .unset, .unset, .unset, .unset, .unset, .unset, .unset, .unset, .unset, .unset, .unset, .unset, .unset, .unset, .unset] [(.ref b109)]))
  obtain ⟨cq111, kq111, q111a, q111b, q111c⟩ := isOf hZ rfl (A109.keep Kq110)
  obtain ⟨_, _, ⟨T111, L111, k111, n111⟩, -, X111, ⟨Lc111, hQ111, l111, y111, z111⟩, st111⟩ := X110.virtualBack hx (y := (⟨"com/example/marshalyard/marshalyard/bench/RmiCalls$Run", "perSecond", "()D"⟩ : MethodName)) (z := (⟨"com/example/marshalyard/marshalyard/bench/RmiCalls$Run", "perSecond", "()D"⟩ : MethodName)) hown (mvT hZ (hw _ (List.mem_of_getElem? (i := 24) rfl))) (mvT hZ (hw _ (List.mem_of_getElem? (i := 25) rfl))) (notFace_of_selects (args := #[]) (mvT hZ (hw _ (List.mem_of_getElem? (i := 27) rfl)))) (mvT hZ (hw _ (List.mem_of_getElem? (i := 27) rfl))) (mvT hZ (hw _ (List.mem_of_getElem? (i := 26) rfl))) (by decide) (backOf (W := 0) (own_rm4 l Z a0 hw [] b109 cc dd T110.heap n0 (Nat.le_trans Z0 K110.1) P110_0 P110_1 nd) hZ (hw _ (List.mem_of_getElem? (i := 28) rfl)) (hw _ (List.mem_of_getElem? (i := 4) rfl)) (by decide) (by decide)) q111a q111c (g := (mkF m 32 #[.val (.int p0), .val (.int p1), .val (.int p2), .val (.int p3), .val (.long p4), .second, .val (.long cc), .second, .val (.long dd), .second, .unset, .unset, .unset, .unset, .unset, .unset, .unset, .unset, .unset, .unset, .unset, .unset, .unset, .unset, .unset, .unset] [(.ref b109)])) rfl (by rw [hml]; rfl) (Steps.refl _) (argsL := []) (rest := []) (lenOf own_pd2 rfl) rfl (by show 2 * 0 + _ ≤ _; exact Nat.le_of_eq rfl) (hb hby at_32) (fun _ _ => ⟨rfl, rfl, (by decide : 1 + 0 ≤ _), (by decide : 4 + 0 ≤ _)⟩)
  dsimp only [Pt.U, Pt.locs, Pt.cells, Pt.slots] at X111 l111 y111 z111 st111 hQ111
  subst l111 y111 z111
  obtain ⟨rfl, N111q, eq111⟩ := hQ111
  have N111 := Fr.app N110 N111q
  refine own_tr st111 ?_
  show own_Go p.tables e below _ (T111.setTop (mkF m 35 #[.val (.int p0), .val (.int p1), .val (.int p2), .val (.int p3), .val (.long p4), .second, .val (.long cc), .second, .val (.long dd), .second, .unset, .unset, .unset, .unset, .unset, .unset, .unset, .unset, .unset, .unset, .unset, .unset, .unset, .unset, .unset, .unset] [(.double (own_r cc dd))]))
  refine own_st (fun t_ k_ => XS.dstore X111.here hx rfl (hb hby at_35) rfl (l' := #[.val (.int p0), .val (.int p1), .val (.int p2), .val (.int p3), .val (.long p4), .second, .val (.long cc), .second, .val (.long dd), .second, .val (.double (own_r cc dd)), .second, .unset, .unset, .unset, .unset, .unset, .unset, .unset, .unset, .unset, .unset, .unset, .unset, .unset, .unset]) rfl k_) ?_
  show own_Go p.tables e below _ (T111.setTop (mkF m 37 #[.val (.int p0), .val (.int p1), .val (.int p2), .val (.int p3), .val (.long p4), .second, .val (.long cc), .second, .val (.long dd), .second, .val (.double (own_r cc dd)), .second, .unset, .unset, .unset, .unset, .unset, .unset, .unset, .unset, .unset, .unset, .unset, .unset, .unset, .unset] []))
  refine own_st (fun t_ k_ => XS.lload X111.here hx rfl (hb hby at_37) rfl k_) ?_
  show own_Go p.tables e below _ (T111.setTop (mkF m 39 #[.val (.int p0), .val (.int p1), .val (.int p2), .val (.int p3), .val (.long p4), .second, .val (.long cc), .second, .val (.long dd), .second, .val (.double (own_r cc dd)), .second, .unset, .unset, .unset, .unset, .unset, .unset, .unset, .unset, .unset, .unset, .unset, .unset, .unset, .unset] [(.long cc)]))
  refine own_st (X111.ldc2Long hx hown (mvT hZ (hw _ (List.mem_of_getElem? (i := 30) rfl))) (g := (mkF m 39 #[.val (.int p0), .val (.int p1), .val (.int p2), .val (.int p3), .val (.long p4), .second, .val (.long cc), .second, .val (.long dd), .second, .val (.double (own_r cc dd)), .second, .unset, .unset, .unset, .unset, .unset, .unset, .unset, .unset, .unset, .unset, .unset, .unset, .unset, .unset] [(.long cc)])) rfl (hb hby at_39)) ?_
  show own_Go p.tables e below _ (T111.setTop (mkF m 42 #[.val (.int p0), .val (.int p1), .val (.int p2), .val (.int p3), .val (.long p4), .second, .val (.long cc), .second, .val (.long dd), .second, .val (.double (own_r cc dd)), .second, .unset, .unset, .unset, .unset, .unset, .unset, .unset, .unset, .unset, .unset, .unset, .unset, .unset, .unset] [(.long (1000000000 : Int64)), (.long cc)]))
  refine own_st (fun t_ k_ => XS.lmul X111.here hx rfl (hb hby at_42) rfl k_) ?_
  show own_Go p.tables e below _ (T111.setTop (mkF m 43 #[.val (.int p0), .val (.int p1), .val (.int p2), .val (.int p3), .val (.long p4), .second, .val (.long cc), .second, .val (.long dd), .second, .val (.double (own_r cc dd)), .second, .unset, .unset, .unset, .unset, .unset, .unset, .unset, .unset, .unset, .unset, .unset, .unset, .unset, .unset] [(.long (cc * (1000000000 : Int64)))]))
  refine own_st (fun t_ k_ => XS.lstore X111.here hx rfl (hb hby at_43) rfl (l' := #[.val (.int p0), .val (.int p1), .val (.int p2), .val (.int p3), .val (.long p4), .second, .val (.long cc), .second, .val (.long dd), .second, .val (.double (own_r cc dd)), .second, .val (.long (cc * (1000000000 : Int64))), .second, .unset, .unset, .unset, .unset, .unset, .unset, .unset, .unset, .unset, .unset, .unset, .unset]) rfl k_) ?_
  show own_Go p.tables e below _ (T111.setTop (mkF m 45 #[.val (.int p0), .val (.int p1), .val (.int p2), .val (.int p3), .val (.long p4), .second, .val (.long cc), .second, .val (.long dd), .second, .val (.double (own_r cc dd)), .second, .val (.long (cc * (1000000000 : Int64))), .second, .unset, .unset, .unset, .unset, .unset, .unset, .unset, .unset, .unset, .unset, .unset, .unset] []))
  refine own_st (fun t_ k_ => XS.lload X111.here hx rfl (hb hby at_45) rfl k_) ?_
  show own_Go p.tables e below _ (T111.setTop (mkF m 47 #[.val (.int p0), .val (.int p1), .val (.int p2), .val (.int p3), .val (.long p4), .second, .val (.long cc), .second, .val (.long dd), .second, .val (.double (own_r cc dd)), .second, .val (.long (cc * (1000000000 : Int64))), .second, .unset, .unset, .unset, .unset, .unset, .unset, .unset, .unset, .unset, .unset, .unset, .unset] [(.long (cc * (1000000000 : Int64)))]))
  refine own_st (fun t_ k_ => XS.lload X111.here hx rfl (hb hby at_47) rfl k_) ?_
  show own_Go p.tables e below _ (T111.setTop (mkF m 49 #[.val (.int p0), .val (.int p1), .val (.int p2), .val (.int p3), .val (.long p4), .second, .val (.long cc), .second, .val (.long dd), .second, .val (.double (own_r cc dd)), .second, .val (.long (cc * (1000000000 : Int64))), .second, .unset, .unset, .unset, .unset, .unset, .unset, .unset, .unset, .unset, .unset, .unset, .unset] [(.long dd), (.long (cc * (1000000000 : Int64)))]))
  refine own_st (fun t_ k_ => XS.ldiv X111.here hx rfl (hb hby at_49) rfl nd k_) ?_
  show own_Go p.tables e below _ (T111.setTop (mkF m 50 #[.val (.int p0), .val (.int p1), .val (.int p2), .val (.int p3), .val (.long p4), .second, .val (.long cc), .second, .val (.long dd), .second, .val (.double (own_r cc dd)), .second, .val (.long (cc * (1000000000 : Int64))), .second, .unset, .unset, .unset, .unset, .unset, .unset, .unset, .unset, .unset, .unset, .unset, .unset] [(.long ((cc * (1000000000 : Int64)) / dd))]))
  refine own_st (fun t_ k_ => XS.lstore X111.here hx rfl (hb hby at_50) rfl (l' := #[.val (.int p0), .val (.int p1), .val (.int p2), .val (.int p3), .val (.long p4), .second, .val (.long cc), .second, .val (.long dd), .second, .val (.double (own_r cc dd)), .second, .val (.long (cc * (1000000000 : Int64))), .second, .val (.long ((cc * (1000000000 : Int64)) / dd)), .second, .unset, .unset, .unset, .unset, .unset, .unset, .unset, .unset, .unset, .unset]) rfl k_) ?_
  show own_Go p.tables e below _ (T111.setTop (mkF m 52 #[.val (.int p0), .val (.int p1), .val (.int p2), .val (.int p3), .val (.long p4), .second, .val (.long cc), .second, .val (.long dd), .second, .val (.double (own_r cc dd)), .second, .val (.long (cc * (1000000000 : Int64))), .second, .val (.long ((cc * (1000000000 : Int64)) / dd)), .second, .unset, .unset, .unset, .unset, .unset, .unset, .unset, .unset, .unset, .unset] []))
  refine own_st (fun t_ k_ => XS.lload X111.here hx rfl (hb hby at_52) rfl k_) ?_
  show own_Go p.tables e below _ (T111.setTop (mkF m 54 #[.val (.int p0), .val (.int p1), .val (.int p2), .val (.int p3), .val (.long p4), .second, .val (.long cc), .second, .val (.long dd), .second, .val (.double (own_r cc dd)), .second, .val (.long (cc * (1000000000 : Int64))), .second, .val (.long ((cc * (1000000000 : Int64)) / dd)), .second, .unset, .unset, .unset, .unset, .unset, .unset, .unset, .unset, .unset, .unset] [(.long (cc * (1000000000 : Int64)))]))
  refine own_st (fun t_ k_ => XS.lload X111.here hx rfl (hb hby at_54) rfl k_) ?_
  show own_Go p.tables e below _ (T111.setTop (mkF m 56 #[.val (.int p0), .val (.int p1), .val (.int p2), .val (.int p3), .val (.long p4), .second, .val (.long cc), .second, .val (.long dd), .second, .val (.double (own_r cc dd)), .second, .val (.long (cc * (1000000000 : Int64))), .second, .val (.long ((cc * (1000000000 : Int64)) / dd)), .second, .unset, .unset, .unset, .unset, .unset, .unset, .unset, .unset, .unset, .unset] [(.long dd), (.long (cc * (1000000000 : Int64)))]))
  refine own_st (fun t_ k_ => own_lrem X111 hx rfl (hb hby at_56) rfl nd k_) ?_
  show own_Go p.tables e below _ (T111.setTop (mkF m 57 #[.val (.int p0), .val (.int p1), .val (.int p2), .val (.int p3), .val (.long p4), .second, .val (.long cc), .second, .val (.long dd), .second, .val (.double (own_r cc dd)), .second, .val (.long (cc * (1000000000 : Int64))), .second, .val (.long ((cc * (1000000000 : Int64)) / dd)), .second, .unset, .unset, .unset, .unset, .unset, .unset, .unset, .unset, .unset, .unset] [(.long ((cc * (1000000000 : Int64)) % dd))]))
  refine own_st (fun t_ k_ => XS.lstore X111.here hx rfl (hb hby at_57) rfl (l' := #[.val (.int p0), .val (.int p1), .val (.int p2), .val (.int p3), .val (.long p4), .second, .val (.long cc), .second, .val (.long dd), .second, .val (.double (own_r cc dd)), .second, .val (.long (cc * (1000000000 : Int64))), .second, .val (.long ((cc * (1000000000 : Int64)) / dd)), .second, .val (.long ((cc * (1000000000 : Int64)) % dd)), .second, .unset, .unset, .unset, .unset, .unset, .unset, .unset, .unset]) rfl k_) ?_
  show own_Go p.tables e below _ (T111.setTop (mkF m 59 #[.val (.int p0), .val (.int p1), .val (.int p2), .val (.int p3), .val (.long p4), .second, .val (.long cc), .second, .val (.long dd), .second, .val (.double (own_r cc dd)), .second, .val (.long (cc * (1000000000 : Int64))), .second, .val (.long ((cc * (1000000000 : Int64)) / dd)), .second, .val (.long ((cc * (1000000000 : Int64)) % dd)), .second, .unset, .unset, .unset, .unset, .unset, .unset, .unset, .unset] []))
  refine own_st (fun t_ k_ => XS.lload X111.here hx rfl (hb hby at_59) rfl k_) ?_
  show own_Go p.tables e below _ (T111.setTop (mkF m 61 #[.val (.int p0), .val (.int p1), .val (.int p2), .val (.int p3), .val (.long p4), .second, .val (.long cc), .second, .val (.long dd), .second, .val (.double (own_r cc dd)), .second, .val (.long (cc * (1000000000 : Int64))), .second, .val (.long ((cc * (1000000000 : Int64)) / dd)), .second, .val (.long ((cc * (1000000000 : Int64)) % dd)), .second, .unset, .unset, .unset, .unset, .unset, .unset, .unset, .unset] [(.long ((cc * (1000000000 : Int64)) % dd))]))
  refine own_st (fun t_ k_ => XS.lconst X111.here hx rfl (hb hby at_61) k_) ?_
  show own_Go p.tables e below _ (T111.setTop (mkF m 62 #[.val (.int p0), .val (.int p1), .val (.int p2), .val (.int p3), .val (.long p4), .second, .val (.long cc), .second, .val (.long dd), .second, .val (.double (own_r cc dd)), .second, .val (.long (cc * (1000000000 : Int64))), .second, .val (.long ((cc * (1000000000 : Int64)) / dd)), .second, .val (.long ((cc * (1000000000 : Int64)) % dd)), .second, .unset, .unset, .unset, .unset, .unset, .unset, .unset, .unset] [(.long (0 : Int64)), (.long ((cc * (1000000000 : Int64)) % dd))]))
  refine own_st (fun t_ k_ => XS.lcmp X111.here hx rfl (hb hby at_62) rfl k_) ?_
  show own_Go p.tables e below _ (T111.setTop (mkF m 63 #[.val (.int p0), .val (.int p1), .val (.int p2), .val (.int p3), .val (.long p4), .second, .val (.long cc), .second, .val (.long dd), .second, .val (.double (own_r cc dd)), .second, .val (.long (cc * (1000000000 : Int64))), .second, .val (.long ((cc * (1000000000 : Int64)) / dd)), .second, .val (.long ((cc * (1000000000 : Int64)) % dd)), .second, .unset, .unset, .unset, .unset, .unset, .unset, .unset, .unset] [(.int (lcmpW ((cc * (1000000000 : Int64)) % dd) (0 : Int64)))]))
  by_cases c63_112 : (lcmpW ((cc * (1000000000 : Int64)) % dd) (0 : Int64)) = (0 : Int32)
  · skip
    refine own_st (fun t_ k_ => XS.ifNo X111.here hx rfl (hb hby at_63) rfl ((if0 _ _).trans (teq c63_112).2) k_) ?_
    show own_Go p.tables e below _ (T111.setTop (mkF m 66 #[.val (.int p0), .val (.int p1), .val (.int p2), .val (.int p3), .val (.long p4), .second, .val (.long cc), .second, .val (.long dd), .second, .val (.double (own_r cc dd)), .second, .val (.long (cc * (1000000000 : Int64))), .second, .val (.long ((cc * (1000000000 : Int64)) / dd)), .second, .val (.long ((cc * (1000000000 : Int64)) % dd)), .second, .unset, .unset, .unset, .unset, .unset, .unset, .unset, .unset] []))
    refine own_st (fun t_ k_ => XS.dload X111.here hx rfl (hb hby at_66) rfl k_) ?_
    show own_Go p.tables e below _ (T111.setTop (mkF m 68 #[.val (.int p0), .val (.int p1), .val (.int p2), .val (.int p3), .val (.long p4), .second, .val (.long cc), .second, .val (.long dd), .second, .val (.double (own_r cc dd)), .second, .val (.long (cc * (1000000000 : Int64))), .second, .val (.long ((cc * (1000000000 : Int64)) / dd)), .second, .val (.long ((cc * (1000000000 : Int64)) % dd)), .second, .unset, .unset, .unset, .unset, .unset, .unset, .unset, .unset] [(.double (own_r cc dd))]))
    refine own_st (fun t_ k_ => XS.lload X111.here hx rfl (hb hby at_68) rfl k_) ?_
    show own_Go p.tables e below _ (T111.setTop (mkF m 70 #[.val (.int p0), .val (.int p1), .val (.int p2), .val (.int p3), .val (.long p4), .second, .val (.long cc), .second, .val (.long dd), .second, .val (.double (own_r cc dd)), .second, .val (.long (cc * (1000000000 : Int64))), .second, .val (.long ((cc * (1000000000 : Int64)) / dd)), .second, .val (.long ((cc * (1000000000 : Int64)) % dd)), .second, .unset, .unset, .unset, .unset, .unset, .unset, .unset, .unset] [(.long ((cc * (1000000000 : Int64)) / dd)), (.double (own_r cc dd))]))
    refine own_st (fun t_ k_ => XS.l2dS X111.here hx rfl (hb hby at_70) rfl rfl k_) ?_
    show own_Go p.tables e below _ (T111.setTop (mkF m 71 #[.val (.int p0), .val (.int p1), .val (.int p2), .val (.int p3), .val (.long p4), .second, .val (.long cc), .second, .val (.long dd), .second, .val (.double (own_r cc dd)), .second, .val (.long (cc * (1000000000 : Int64))), .second, .val (.long ((cc * (1000000000 : Int64)) / dd)), .second, .val (.long ((cc * (1000000000 : Int64)) % dd)), .second, .unset, .unset, .unset, .unset, .unset, .unset, .unset, .unset] [(.double (FP.l2d ((cc * (1000000000 : Int64)) / dd))), (.double (own_r cc dd))]))
    refine own_st (fun t_ k_ => XS.dcmpS X111.here hx rfl (hb hby at_71) rfl rfl k_) ?_
    show own_Go p.tables e below _ (T111.setTop (mkF m 72 #[.val (.int p0), .val (.int p1), .val (.int p2), .val (.int p3), .val (.long p4), .second, .val (.long cc), .second, .val (.long dd), .second, .val (.double (own_r cc dd)), .second, .val (.long (cc * (1000000000 : Int64))), .second, .val (.long ((cc * (1000000000 : Int64)) / dd)), .second, .val (.long ((cc * (1000000000 : Int64)) % dd)), .second, .unset, .unset, .unset, .unset, .unset, .unset, .unset, .unset] [(.int (cmpValue (FP.dcmp (own_r cc dd) (FP.l2d ((cc * (1000000000 : Int64)) / dd))) .l))]))
    refine own_st (fun t_ k_ => XS.ifNo X111.here hx rfl (hb hby at_72) rfl ((if0 _ _).trans (teq (own_b1 bc.1 bc.2 bd.1 bd.2 c63_112 .l : (cmpValue (FP.dcmp (own_r cc dd) (FP.l2d ((cc * (1000000000 : Int64)) / dd))) .l) = (0 : Int32))).2) k_) ?_
    show own_Go p.tables e below _ (T111.setTop (mkF m 75 #[.val (.int p0), .val (.int p1), .val (.int p2), .val (.int p3), .val (.long p4), .second, .val (.long cc), .second, .val (.long dd), .second, .val (.double (own_r cc dd)), .second, .val (.long (cc * (1000000000 : Int64))), .second, .val (.long ((cc * (1000000000 : Int64)) / dd)), .second, .val (.long ((cc * (1000000000 : Int64)) % dd)), .second, .unset, .unset, .unset, .unset, .unset, .unset, .unset, .unset] []))
    refine own_st (fun t_ k_ => XS.iconst X111.here hx rfl (hb hby at_75) k_) ?_
    show own_Go p.tables e below _ (T111.setTop (mkF m 76 #[.val (.int p0), .val (.int p1), .val (.int p2), .val (.int p3), .val (.long p4), .second, .val (.long cc), .second, .val (.long dd), .second, .val (.double (own_r cc dd)), .second, .val (.long (cc * (1000000000 : Int64))), .second, .val (.long ((cc * (1000000000 : Int64)) / dd)), .second, .val (.long ((cc * (1000000000 : Int64)) % dd)), .second, .unset, .unset, .unset, .unset, .unset, .unset, .unset, .unset] [(.int (1 : Int32))]))
    refine own_st (fun t_ k_ => XS.goto X111.here hx rfl (pc0 := 76) (pc' := 80) rfl (hb hby at_76) (by decide) (by decide) k_) ?_
    show own_Go p.tables e below _ (T111.setTop (mkF m 80 #[.val (.int p0), .val (.int p1), .val (.int p2), .val (.int p3), .val (.long p4), .second, .val (.long cc), .second, .val (.long dd), .second, .val (.double (own_r cc dd)), .second, .val (.long (cc * (1000000000 : Int64))), .second, .val (.long ((cc * (1000000000 : Int64)) / dd)), .second, .val (.long ((cc * (1000000000 : Int64)) % dd)), .second, .unset, .unset, .unset, .unset, .unset, .unset, .unset, .unset] [(.int (1 : Int32))]))
    refine own_st (fun t_ k_ => XS.istore X111.here hx rfl (hb hby at_80) rfl (l' := #[.val (.int p0), .val (.int p1), .val (.int p2), .val (.int p3), .val (.long p4), .second, .val (.long cc), .second, .val (.long dd), .second, .val (.double (own_r cc dd)), .second, .val (.long (cc * (1000000000 : Int64))), .second, .val (.long ((cc * (1000000000 : Int64)) / dd)), .second, .val (.long ((cc * (1000000000 : Int64)) % dd)), .second, .val (.int (1 : Int32)), .unset, .unset, .unset, .unset, .unset, .unset, .unset]) rfl k_) ?_
    show own_Go p.tables e below _ (T111.setTop (mkF m 82 #[.val (.int p0), .val (.int p1), .val (.int p2), .val (.int p3), .val (.long p4), .second, .val (.long cc), .second, .val (.long dd), .second, .val (.double (own_r cc dd)), .second, .val (.long (cc * (1000000000 : Int64))), .second, .val (.long ((cc * (1000000000 : Int64)) / dd)), .second, .val (.long ((cc * (1000000000 : Int64)) % dd)), .second, .val (.int (1 : Int32)), .unset, .unset, .unset, .unset, .unset, .unset, .unset] []))
    refine own_st (fun t_ k_ => XS.goto X111.here hx rfl (pc0 := 82) (pc' := 112) rfl (hb hby at_82) (by decide) (by decide) k_) ?_
    show own_Go p.tables e below _ (T111.setTop (mkF m 112 #[.val (.int p0), .val (.int p1), .val (.int p2), .val (.int p3), .val (.long p4), .second, .val (.long cc), .second, .val (.long dd), .second, .val (.double (own_r cc dd)), .second, .val (.long (cc * (1000000000 : Int64))), .second, .val (.long ((cc * (1000000000 : Int64)) / dd)), .second, .val (.long ((cc * (1000000000 : Int64)) % dd)), .second, .val (.int (1 : Int32)), .unset, .unset, .unset, .unset, .unset, .unset, .unset] []))
    refine own_st (fun t_ k_ => XS.iloadN X111.here hx rfl (hb hby at_112) rfl k_) ?_
    show own_Go p.tables e below _ (T111.setTop (mkF m 113 #[.val (.int p0), .val (.int p1), .val (.int p2), .val (.int p3), .val (.long p4), .second, .val (.long cc), .second, .val (.long dd), .second, .val (.double (own_r cc dd)), .second, .val (.long (cc * (1000000000 : Int64))), .second, .val (.long ((cc * (1000000000 : Int64)) / dd)), .second, .val (.long ((cc * (1000000000 : Int64)) % dd)), .second, .val (.int (1 : Int32)), .unset, .unset, .unset, .unset, .unset, .unset, .unset] [(.int p2)]))
    refine own_st (fun t_ k_ => XS.i2l X111.here hx rfl (hb hby at_113) rfl k_) ?_
    show own_Go p.tables e below _ (T111.setTop (mkF m 114 #[.val (.int p0), .val (.int p1), .val (.int p2), .val (.int p3), .val (.long p4), .second, .val (.long cc), .second, .val (.long dd), .second, .val (.double (own_r cc dd)), .second, .val (.long (cc * (1000000000 : Int64))), .second, .val (.long ((cc * (1000000000 : Int64)) / dd)), .second, .val (.long ((cc * (1000000000 : Int64)) % dd)), .second, .val (.int (1 : Int32)), .unset, .unset, .unset, .unset, .unset, .unset, .unset] [(.long (p2.toInt64))]))
    refine own_st (X111.ldc2Long hx hown (mvT hZ (hw _ (List.mem_of_getElem? (i := 31) rfl))) (g := (mkF m 114 #[.val (.int p0), .val (.int p1), .val (.int p2), .val (.int p3), .val (.long p4), .second, .val (.long cc), .second, .val (.long dd), .second, .val (.double (own_r cc dd)), .second, .val (.long (cc * (1000000000 : Int64))), .second, .val (.long ((cc * (1000000000 : Int64)) / dd)), .second, .val (.long ((cc * (1000000000 : Int64)) % dd)), .second, .val (.int (1 : Int32)), .unset, .unset, .unset, .unset, .unset, .unset, .unset] [(.long (p2.toInt64))])) rfl (hb hby at_114)) ?_
    show own_Go p.tables e below _ (T111.setTop (mkF m 117 #[.val (.int p0), .val (.int p1), .val (.int p2), .val (.int p3), .val (.long p4), .second, .val (.long cc), .second, .val (.long dd), .second, .val (.double (own_r cc dd)), .second, .val (.long (cc * (1000000000 : Int64))), .second, .val (.long ((cc * (1000000000 : Int64)) / dd)), .second, .val (.long ((cc * (1000000000 : Int64)) % dd)), .second, .val (.int (1 : Int32)), .unset, .unset, .unset, .unset, .unset, .unset, .unset] [(.long (4095 : Int64)), (.long (p2.toInt64))]))
    refine own_st (fun t_ k_ => XS.land X111.here hx rfl (hb hby at_117) rfl k_) ?_
    show own_Go p.tables e below _ (T111.setTop (mkF m 118 #[.val (.int p0), .val (.int p1), .val (.int p2), .val (.int p3), .val (.long p4), .second, .val (.long cc), .second, .val (.long dd), .second, .val (.double (own_r cc dd)), .second, .val (.long (cc * (1000000000 : Int64))), .second, .val (.long ((cc * (1000000000 : Int64)) / dd)), .second, .val (.long ((cc * (1000000000 : Int64)) % dd)), .second, .val (.int (1 : Int32)), .unset, .unset, .unset, .unset, .unset, .unset, .unset] [(.long ((p2.toInt64) &&& (4095 : Int64)))]))
    refine own_st (fun t_ k_ => XS.lconst X111.here hx rfl (hb hby at_118) k_) ?_
    show own_Go p.tables e below _ (T111.setTop (mkF m 119 #[.val (.int p0), .val (.int p1), .val (.int p2), .val (.int p3), .val (.long p4), .second, .val (.long cc), .second, .val (.long dd), .second, .val (.double (own_r cc dd)), .second, .val (.long (cc * (1000000000 : Int64))), .second, .val (.long ((cc * (1000000000 : Int64)) / dd)), .second, .val (.long ((cc * (1000000000 : Int64)) % dd)), .second, .val (.int (1 : Int32)), .unset, .unset, .unset, .unset, .unset, .unset, .unset] [(.long (1 : Int64)), (.long ((p2.toInt64) &&& (4095 : Int64)))]))
    refine own_st (fun t_ k_ => XS.ladd X111.here hx rfl (hb hby at_119) rfl k_) ?_
    show own_Go p.tables e below _ (T111.setTop (mkF m 120 #[.val (.int p0), .val (.int p1), .val (.int p2), .val (.int p3), .val (.long p4), .second, .val (.long cc), .second, .val (.long dd), .second, .val (.double (own_r cc dd)), .second, .val (.long (cc * (1000000000 : Int64))), .second, .val (.long ((cc * (1000000000 : Int64)) / dd)), .second, .val (.long ((cc * (1000000000 : Int64)) % dd)), .second, .val (.int (1 : Int32)), .unset, .unset, .unset, .unset, .unset, .unset, .unset] [(.long (((p2.toInt64) &&& (4095 : Int64)) + (1 : Int64)))]))
    rw [show (((p2.toInt64) &&& (4095 : Int64)) + (1 : Int64)) = u from hu.symm]
    show own_Go p.tables e below _ (T111.setTop (mkF m 120 #[.val (.int p0), .val (.int p1), .val (.int p2), .val (.int p3), .val (.long p4), .second, .val (.long cc), .second, .val (.long dd), .second, .val (.double (own_r cc dd)), .second, .val (.long (cc * (1000000000 : Int64))), .second, .val (.long ((cc * (1000000000 : Int64)) / dd)), .second, .val (.long ((cc * (1000000000 : Int64)) % dd)), .second, .val (.int (1 : Int32)), .unset, .unset, .unset, .unset, .unset, .unset, .unset] [(.long u)]))
    refine own_st (fun t_ k_ => XS.lstore X111.here hx rfl (hb hby at_120) rfl (l' := #[.val (.int p0), .val (.int p1), .val (.int p2), .val (.int p3), .val (.long p4), .second, .val (.long cc), .second, .val (.long dd), .second, .val (.double (own_r cc dd)), .second, .val (.long (cc * (1000000000 : Int64))), .second, .val (.long ((cc * (1000000000 : Int64)) / dd)), .second, .val (.long ((cc * (1000000000 : Int64)) % dd)), .second, .val (.int (1 : Int32)), .val (.long u), .second, .unset, .unset, .unset, .unset, .unset]) rfl k_) ?_
    show own_Go p.tables e below _ (T111.setTop (mkF m 122 #[.val (.int p0), .val (.int p1), .val (.int p2), .val (.int p3), .val (.long p4), .second, .val (.long cc), .second, .val (.long dd), .second, .val (.double (own_r cc dd)), .second, .val (.long (cc * (1000000000 : Int64))), .second, .val (.long ((cc * (1000000000 : Int64)) / dd)), .second, .val (.long ((cc * (1000000000 : Int64)) % dd)), .second, .val (.int (1 : Int32)), .val (.long u), .second, .unset, .unset, .unset, .unset, .unset] []))
    refine own_st (fun t_ k_ => XS.iloadN X111.here hx rfl (hb hby at_122) rfl k_) ?_
    show own_Go p.tables e below _ (T111.setTop (mkF m 123 #[.val (.int p0), .val (.int p1), .val (.int p2), .val (.int p3), .val (.long p4), .second, .val (.long cc), .second, .val (.long dd), .second, .val (.double (own_r cc dd)), .second, .val (.long (cc * (1000000000 : Int64))), .second, .val (.long ((cc * (1000000000 : Int64)) / dd)), .second, .val (.long ((cc * (1000000000 : Int64)) % dd)), .second, .val (.int (1 : Int32)), .val (.long u), .second, .unset, .unset, .unset, .unset, .unset] [(.int p3)]))
    refine own_st (fun t_ k_ => XS.i2l X111.here hx rfl (hb hby at_123) rfl k_) ?_
    show own_Go p.tables e below _ (T111.setTop (mkF m 124 #[.val (.int p0), .val (.int p1), .val (.int p2), .val (.int p3), .val (.long p4), .second, .val (.long cc), .second, .val (.long dd), .second, .val (.double (own_r cc dd)), .second, .val (.long (cc * (1000000000 : Int64))), .second, .val (.long ((cc * (1000000000 : Int64)) / dd)), .second, .val (.long ((cc * (1000000000 : Int64)) % dd)), .second, .val (.int (1 : Int32)), .val (.long u), .second, .unset, .unset, .unset, .unset, .unset] [(.long (p3.toInt64))]))
    refine own_st (X111.ldc2Long hx hown (mvT hZ (hw _ (List.mem_of_getElem? (i := 32) rfl))) (g := (mkF m 124 #[.val (.int p0), .val (.int p1), .val (.int p2), .val (.int p3), .val (.long p4), .second, .val (.long cc), .second, .val (.long dd), .second, .val (.double (own_r cc dd)), .second, .val (.long (cc * (1000000000 : Int64))), .second, .val (.long ((cc * (1000000000 : Int64)) / dd)), .second, .val (.long ((cc * (1000000000 : Int64)) % dd)), .second, .val (.int (1 : Int32)), .val (.long u), .second, .unset, .unset, .unset, .unset, .unset] [(.long (p3.toInt64))])) rfl (hb hby at_124)) ?_
    show own_Go p.tables e below _ (T111.setTop (mkF m 127 #[.val (.int p0), .val (.int p1), .val (.int p2), .val (.int p3), .val (.long p4), .second, .val (.long cc), .second, .val (.long dd), .second, .val (.double (own_r cc dd)), .second, .val (.long (cc * (1000000000 : Int64))), .second, .val (.long ((cc * (1000000000 : Int64)) / dd)), .second, .val (.long ((cc * (1000000000 : Int64)) % dd)), .second, .val (.int (1 : Int32)), .val (.long u), .second, .unset, .unset, .unset, .unset, .unset] [(.long (2047 : Int64)), (.long (p3.toInt64))]))
    refine own_st (fun t_ k_ => XS.land X111.here hx rfl (hb hby at_127) rfl k_) ?_
    show own_Go p.tables e below _ (T111.setTop (mkF m 128 #[.val (.int p0), .val (.int p1), .val (.int p2), .val (.int p3), .val (.long p4), .second, .val (.long cc), .second, .val (.long dd), .second, .val (.double (own_r cc dd)), .second, .val (.long (cc * (1000000000 : Int64))), .second, .val (.long ((cc * (1000000000 : Int64)) / dd)), .second, .val (.long ((cc * (1000000000 : Int64)) % dd)), .second, .val (.int (1 : Int32)), .val (.long u), .second, .unset, .unset, .unset, .unset, .unset] [(.long ((p3.toInt64) &&& (2047 : Int64)))]))
    rw [show ((p3.toInt64) &&& (2047 : Int64)) = c2 from hc2.symm]
    show own_Go p.tables e below _ (T111.setTop (mkF m 128 #[.val (.int p0), .val (.int p1), .val (.int p2), .val (.int p3), .val (.long p4), .second, .val (.long cc), .second, .val (.long dd), .second, .val (.double (own_r cc dd)), .second, .val (.long (cc * (1000000000 : Int64))), .second, .val (.long ((cc * (1000000000 : Int64)) / dd)), .second, .val (.long ((cc * (1000000000 : Int64)) % dd)), .second, .val (.int (1 : Int32)), .val (.long u), .second, .unset, .unset, .unset, .unset, .unset] [(.long c2)]))
    refine own_st (fun t_ k_ => XS.lstore X111.here hx rfl (hb hby at_128) rfl (l' := #[.val (.int p0), .val (.int p1), .val (.int p2), .val (.int p3), .val (.long p4), .second, .val (.long cc), .second, .val (.long dd), .second, .val (.double (own_r cc dd)), .second, .val (.long (cc * (1000000000 : Int64))), .second, .val (.long ((cc * (1000000000 : Int64)) / dd)), .second, .val (.long ((cc * (1000000000 : Int64)) % dd)), .second, .val (.int (1 : Int32)), .val (.long u), .second, .val (.long c2), .second, .unset, .unset, .unset]) rfl k_) ?_
    show own_Go p.tables e below _ (T111.setTop (mkF m 130 #[.val (.int p0), .val (.int p1), .val (.int p2), .val (.int p3), .val (.long p4), .second, .val (.long cc), .second, .val (.long dd), .second, .val (.double (own_r cc dd)), .second, .val (.long (cc * (1000000000 : Int64))), .second, .val (.long ((cc * (1000000000 : Int64)) / dd)), .second, .val (.long ((cc * (1000000000 : Int64)) % dd)), .second, .val (.int (1 : Int32)), .val (.long u), .second, .val (.long c2), .second, .unset, .unset, .unset] []))
    obtain ⟨T113, h113, X113, e113, E113, A113, D113, -, st113⟩ := newO X111 hx hZ hown (hw _ (List.mem_of_getElem? (i := 2) rfl)) (hw _ (List.mem_of_getElem? (i := 3) rfl)) (hw _ (List.mem_of_getElem? (i := 4) rfl)) eq111 (g := (mkF m 130 #[.val (.int p0), .val (.int p1), .val (.int p2), .val (.int p3), .val (.long p4), .second, .val (.long cc), .second, .val (.long dd), .second, .val (.double (own_r cc dd)), .second, .val (.long (cc * (1000000000 : Int64))), .second, .val (.long ((cc * (1000000000 : Int64)) / dd)), .second, .val (.long ((cc * (1000000000 : Int64)) % dd)), .second, .val (.int (1 : Int32)), .val (.long u), .second, .val (.long c2), .second, .unset, .unset, .unset] [])) rfl (hb hby at_130) (by decide) (by decide)
    obtain ⟨b113, g113⟩ : ∃ z, z = T110.heap.size := ⟨_, rfl⟩
    rw [← g113] at A113 D113 st113
    have fr113 : h0.size ≤ b113 := Nat.le_trans K110.1 (Nat.le_of_eq g113.symm)
    have ge113 : n0 ≤ b113 := Nat.le_trans Z0 fr113
    have K113 : Keep h0 h113 [] := K110.ext E113
    have F113_17 : Fld Z h113 b113 "com/example/marshalyard/marshalyard/bench/RmiCalls$Run" "calls" "J" (.long (0 : Int64)) := D113 (Or.inr (hw _ (List.mem_of_getElem? (i := 17) rfl))) (ty := .long) (by decide)
    have F113_19 : Fld Z h113 b113 "com/example/marshalyard/marshalyard/bench/RmiCalls$Run" "failed" "J" (.long (0 : Int64)) := D113 (Or.inr (hw _ (List.mem_of_getElem? (i := 19) rfl))) (ty := .long) (by decide)
    have F113_21 : Fld Z h113 b113 "com/example/marshalyard/marshalyard/bench/RmiCalls$Run" "nanos" "J" (.long (0 : Int64)) := D113 (Or.inr (hw _ (List.mem_of_getElem? (i := 21) rfl))) (ty := .long) (by decide)
    have F113_23 : Fld Z h113 b113 "com/example/marshalyard/marshalyard/bench/RmiCalls$Run" "firstFailure" "Ljava/lang/String;" .null := D113 (Or.inr (hw _ (List.mem_of_getElem? (i := 23) rfl))) (ty := (.object "java/lang/String")) (by decide)
    refine own_st (st113) ?_
    show own_Go p.tables e below _ (T113.setTop (mkF m 133 #[.val (.int p0), .val (.int p1), .val (.int p2), .val (.int p3), .val (.long p4), .second, .val (.long cc), .second, .val (.long dd), .second, .val (.double (own_r cc dd)), .second, .val (.long (cc * (1000000000 : Int64))), .second, .val (.long ((cc * (1000000000 : Int64)) / dd)), .second, .val (.long ((cc * (1000000000 : Int64)) % dd)), .second, .val (.int (1 : Int32)), .val (.long u), .second, .val (.long c2), .second, .unset, .unset, .unset] [(.ref b113)]))
    refine own_st (fun t_ k_ => XS.dup X113.here hx rfl (hb hby at_133) rfl rfl k_) ?_
    show own_Go p.tables e below _ (T113.setTop (mkF m 134 #[.val (.int p0), .val (.int p1), .val (.int p2), .val (.int p3), .val (.long p4), .second, .val (.long cc), .second, .val (.long dd), .second, .val (.double (own_r cc dd)), .second, .val (.long (cc * (1000000000 : Int64))), .second, .val (.long ((cc * (1000000000 : Int64)) / dd)), .second, .val (.long ((cc * (1000000000 : Int64)) % dd)), .second, .val (.int (1 : Int32)), .val (.long u), .second, .val (.long c2), .second, .unset, .unset, .unset] [(.ref b113), (.ref b113)]))
    refine own_st (fun t_ k_ => XS.lload X113.here hx rfl (hb hby at_134) rfl k_) ?_
    show own_Go p.tables e below _ (T113.setTop (mkF m 136 #[.val (.int p0), .val (.int p1), .val (.int p2), .val (.int p3), .val (.long p4), .second, .val (.long cc), .second, .val (.long dd), .second, .val (.double (own_r cc dd)), .second, .val (.long (cc * (1000000000 : Int64))), .second, .val (.long ((cc * (1000000000 : Int64)) / dd)), .second, .val (.long ((cc * (1000000000 : Int64)) % dd)), .second, .val (.int (1 : Int32)), .val (.long u), .second, .val (.long c2), .second, .unset, .unset, .unset] [(.long c2), (.ref b113), (.ref b113)]))
    refine own_st (fun t_ k_ => XS.lload X113.here hx rfl (hb hby at_136) rfl k_) ?_
    show own_Go p.tables e below _ (T113.setTop (mkF m 138 #[.val (.int p0), .val (.int p1), .val (.int p2), .val (.int p3), .val (.long p4), .second, .val (.long cc), .second, .val (.long dd), .second, .val (.double (own_r cc dd)), .second, .val (.long (cc * (1000000000 : Int64))), .second, .val (.long ((cc * (1000000000 : Int64)) / dd)), .second, .val (.long ((cc * (1000000000 : Int64)) % dd)), .second, .val (.int (1 : Int32)), .val (.long u), .second, .val (.long c2), .second, .unset, .unset, .unset] [(.long u), (.long c2), (.ref b113), (.ref b113)]))
    refine own_st (fun t_ k_ => XS.lmul X113.here hx rfl (hb hby at_138) rfl k_) ?_
    show own_Go p.tables e below _ (T113.setTop (mkF m 139 #[.val (.int p0), .val (.int p1), .val (.int p2), .val (.int p3), .val (.long p4), .second, .val (.long cc), .second, .val (.long dd), .second, .val (.double (own_r cc dd)), .second, .val (.long (cc * (1000000000 : Int64))), .second, .val (.long ((cc * (1000000000 : Int64)) / dd)), .second, .val (.long ((cc * (1000000000 : Int64)) % dd)), .second, .val (.int (1 : Int32)), .val (.long u), .second, .val (.long c2), .second, .unset, .unset, .unset] [(.long (c2 * u)), (.ref b113), (.ref b113)]))
    refine own_st (fun t_ k_ => XS.lload X113.here hx rfl (hb hby at_139) rfl k_) ?_
    show own_Go p.tables e below _ (T113.setTop (mkF m 141 #[.val (.int p0), .val (.int p1), .val (.int p2), .val (.int p3), .val (.long p4), .second, .val (.long cc), .second, .val (.long dd), .second, .val (.double (own_r cc dd)), .second, .val (.long (cc * (1000000000 : Int64))), .second, .val (.long ((cc * (1000000000 : Int64)) / dd)), .second, .val (.long ((cc * (1000000000 : Int64)) % dd)), .second, .val (.int (1 : Int32)), .val (.long u), .second, .val (.long c2), .second, .unset, .unset, .unset] [(.long p4), (.long (c2 * u)), (.ref b113), (.ref b113)]))
    refine own_st (fun t_ k_ => XS.lload X113.here hx rfl (hb hby at_141) rfl k_) ?_
    show own_Go p.tables e below _ (T113.setTop (mkF m 143 #[.val (.int p0), .val (.int p1), .val (.int p2), .val (.int p3), .val (.long p4), .second, .val (.long cc), .second, .val (.long dd), .second, .val (.double (own_r cc dd)), .second, .val (.long (cc * (1000000000 : Int64))), .second, .val (.long ((cc * (1000000000 : Int64)) / dd)), .second, .val (.long ((cc * (1000000000 : Int64)) % dd)), .second, .val (.int (1 : Int32)), .val (.long u), .second, .val (.long c2), .second, .unset, .unset, .unset] [(.long u), (.long p4), (.long (c2 * u)), (.ref b113), (.ref b113)]))
    refine own_st (X113.ldc2Long hx hown (mvT hZ (hw _ (List.mem_of_getElem? (i := 30) rfl))) (g := (mkF m 143 #[.val (.int p0), .val (.int p1), .val (.int p2), .val (.int p3), .val (.long p4), .second, .val (.long cc), .second, .val (.long dd), .second, .val (.double (own_r cc dd)), .second, .val (.long (cc * (1000000000 : Int64))), .second, .val (.long ((cc * (1000000000 : Int64)) / dd)), .second, .val (.long ((cc * (1000000000 : Int64)) % dd)), .second, .val (.int (1 : Int32)), .val (.long u), .second, .val (.long c2), .second, .unset, .unset, .unset] [(.long u), (.long p4), (.long (c2 * u)), (.ref b113), (.ref b113)])) rfl (hb hby at_143)) ?_
    show own_Go p.tables e below _ (T113.setTop (mkF m 146 #[.val (.int p0), .val (.int p1), .val (.int p2), .val (.int p3), .val (.long p4), .second, .val (.long cc), .second, .val (.long dd), .second, .val (.double (own_r cc dd)), .second, .val (.long (cc * (1000000000 : Int64))), .second, .val (.long ((cc * (1000000000 : Int64)) / dd)), .second, .val (.long ((cc * (1000000000 : Int64)) % dd)), .second, .val (.int (1 : Int32)), .val (.long u), .second, .val (.long c2), .second, .unset, .unset, .unset] [(.long (1000000000 : Int64)), (.long u), (.long p4), (.long (c2 * u)), (.ref b113), (.ref b113)]))
    refine own_st (fun t_ k_ => XS.lmul X113.here hx rfl (hb hby at_146) rfl k_) ?_
    show own_Go p.tables e below _ (T113.setTop (mkF m 147 #[.val (.int p0), .val (.int p1), .val (.int p2), .val (.int p3), .val (.long p4), .second, .val (.long cc), .second, .val (.long dd), .second, .val (.double (own_r cc dd)), .second, .val (.long (cc * (1000000000 : Int64))), .second, .val (.long ((cc * (1000000000 : Int64)) / dd)), .second, .val (.long ((cc * (1000000000 : Int64)) % dd)), .second, .val (.int (1 : Int32)), .val (.long u), .second, .val (.long c2), .second, .unset, .unset, .unset] [(.long (u * (1000000000 : Int64))), (.long p4), (.long (c2 * u)), (.ref b113), (.ref b113)]))
    refine own_st (fun t_ k_ => XS.aconstNull X113.here hx rfl (hb hby at_147) k_) ?_
    show own_Go p.tables e below _ (T113.setTop (mkF m 148 #[.val (.int p0), .val (.int p1), .val (.int p2), .val (.int p3), .val (.long p4), .second, .val (.long cc), .second, .val (.long dd), .second, .val (.double (own_r cc dd)), .second, .val (.long (cc * (1000000000 : Int64))), .second, .val (.long ((cc * (1000000000 : Int64)) / dd)), .second, .val (.long ((cc * (1000000000 : Int64)) % dd)), .second, .val (.int (1 : Int32)), .val (.long u), .second, .val (.long c2), .second, .unset, .unset, .unset] [.null, (.long (u * (1000000000 : Int64))), (.long p4), (.long (c2 * u)), (.ref b113), (.ref b113)]))
    obtain ⟨_, _, ⟨T114, L114, k114, n114⟩, -, X114, ⟨Lc114, hQ114, l114, y114, z114⟩, st114⟩ := X113.specialBack hx (y := (⟨"com/example/marshalyard/marshalyard/bench/RmiCalls$Run", "<init>", "(JJJLjava/lang/String;)V"⟩ : MethodName)) rfl hown (mvT hZ (hw _ (List.mem_of_getElem? (i := 5) rfl))) (mvT hZ (hw _ (List.mem_of_getElem? (i := 6) rfl))) (mvT hZ (hw _ (List.mem_of_getElem? (i := 7) rfl))) (by decide) (backOf (W := 1) (own_rm1 l Z a0 hw [] b113 (c2 * u) p4 (u * (1000000000 : Int64)) h113 n0 (Nat.le_trans Z0 K113.1) A113 F113_17 F113_19 F113_21 F113_23 ge113) hZ (hw _ (List.mem_of_getElem? (i := 7) rfl)) (hw _ (List.mem_of_getElem? (i := 4) rfl)) (by decide) (by decide)) (g := (mkF m 148 #[.val (.int p0), .val (.int p1), .val (.int p2), .val (.int p3), .val (.long p4), .second, .val (.long cc), .second, .val (.long dd), .second, .val (.double (own_r cc dd)), .second, .val (.long (cc * (1000000000 : Int64))), .second, .val (.long ((cc * (1000000000 : Int64)) / dd)), .second, .val (.long ((cc * (1000000000 : Int64)) % dd)), .second, .val (.int (1 : Int32)), .val (.long u), .second, .val (.long c2), .second, .unset, .unset, .unset] [.null, (.long (u * (1000000000 : Int64))), (.long p4), (.long (c2 * u)), (.ref b113), (.ref b113)])) rfl (by rw [hml]; rfl) (Steps.refl _) (a := b113) (argsL := [(.long (c2 * u)), (.long p4), (.long (u * (1000000000 : Int64))), .null]) (rest := [(.ref b113)]) (lenOf own_pd1 rfl) rfl (by show 2 * 0 + _ ≤ _; exact Nat.le_of_eq rfl) (hb hby at_148) (fun _ _ => ⟨rfl, e113, (by decide : 2 + 0 ≤ _), (by decide : 8 + 0 ≤ _)⟩)
    dsimp only [Pt.U, Pt.locs, Pt.cells, Pt.slots] at X114 l114 y114 z114 st114 hQ114
    subst l114 y114 z114
    obtain ⟨rfl, N114q, Kq114, P114_0, P114_1⟩ := hQ114
    have N114 := Fr.app N111 N114q
    have K114 : Keep h0 T114.heap [] := K113.trans Kq114 (allS (P := fun x => x ∈ [] ∨ h0.size ≤ x) (Or.inr fr113) all0)
    refine own_tr st114 ?_
    show own_Go p.tables e below _ (T114.setTop (mkF m 151 #[.val (.int p0), .val (.int p1), .val (.int p2), .val (.int p3), .val (.long p4), .second, .val (.long cc), .second, .val (.long dd), .second, .val (.double (own_r cc dd)), .second, .val (.long (cc * (1000000000 : Int64))), .second, .val (.long ((cc * (1000000000 : Int64)) / dd)), .second, .val (.long ((cc * (1000000000 : Int64)) % dd)), .second, .val (.int (1 : Int32)), .val (.long u), .second, .val (.long c2), .second, .unset, .unset, .unset] [(.ref b113)]))
    obtain ⟨cq115, kq115, q115a, q115b, q115c⟩ := isOf hZ rfl (A113.keep Kq114)
    obtain ⟨_, _, ⟨T115, L115, k115, n115⟩, -, X115, ⟨Lc115, hQ115, l115, y115, z115⟩, st115⟩ := X114.virtualBack hx (y := (⟨"com/example/marshalyard/marshalyard/bench/RmiCalls$Run", "perSecond", "()D"⟩ : MethodName)) (z := (⟨"com/example/marshalyard/marshalyard/bench/RmiCalls$Run", "perSecond", "()D"⟩ : MethodName)) hown (mvT hZ (hw _ (List.mem_of_getElem? (i := 24) rfl))) (mvT hZ (hw _ (List.mem_of_getElem? (i := 25) rfl))) (notFace_of_selects (args := #[]) (mvT hZ (hw _ (List.mem_of_getElem? (i := 27) rfl)))) (mvT hZ (hw _ (List.mem_of_getElem? (i := 27) rfl))) (mvT hZ (hw _ (List.mem_of_getElem? (i := 26) rfl))) (by decide) (backOf (W := 0) (own_rm4 l Z a0 hw [] b113 (c2 * u) (u * (1000000000 : Int64)) T114.heap n0 (Nat.le_trans Z0 K114.1) P114_0 P114_1 nu) hZ (hw _ (List.mem_of_getElem? (i := 28) rfl)) (hw _ (List.mem_of_getElem? (i := 4) rfl)) (by decide) (by decide)) q115a q115c (g := (mkF m 151 #[.val (.int p0), .val (.int p1), .val (.int p2), .val (.int p3), .val (.long p4), .second, .val (.long cc), .second, .val (.long dd), .second, .val (.double (own_r cc dd)), .second, .val (.long (cc * (1000000000 : Int64))), .second, .val (.long ((cc * (1000000000 : Int64)) / dd)), .second, .val (.long ((cc * (1000000000 : Int64)) % dd)), .second, .val (.int (1 : Int32)), .val (.long u), .second, .val (.long c2), .second, .unset, .unset, .unset] [(.ref b113)])) rfl (by rw [hml]; rfl) (Steps.refl _) (argsL := []) (rest := []) (lenOf own_pd2 rfl) rfl (by show 2 * 0 + _ ≤ _; exact Nat.le_of_eq rfl) (hb hby at_151) (fun _ _ => ⟨rfl, rfl, (by decide : 2 + 0 ≤ _), (by decide : 8 + 0 ≤ _)⟩)
    dsimp only [Pt.U, Pt.locs, Pt.cells, Pt.slots] at X115 l115 y115 z115 st115 hQ115
    subst l115 y115 z115
    obtain ⟨rfl, N115q, eq115⟩ := hQ115
    have N115 := Fr.app N114 N115q
    refine own_tr st115 ?_
    show own_Go p.tables e below _ (T115.setTop (mkF m 154 #[.val (.int p0), .val (.int p1), .val (.int p2), .val (.int p3), .val (.long p4), .second, .val (.long cc), .second, .val (.long dd), .second, .val (.double (own_r cc dd)), .second, .val (.long (cc * (1000000000 : Int64))), .second, .val (.long ((cc * (1000000000 : Int64)) / dd)), .second, .val (.long ((cc * (1000000000 : Int64)) % dd)), .second, .val (.int (1 : Int32)), .val (.long u), .second, .val (.long c2), .second, .unset, .unset, .unset] [(.double (own_r (c2 * u) (u * (1000000000 : Int64))))]))
    refine own_st (fun t_ k_ => XS.dstore X115.here hx rfl (hb hby at_154) rfl (l' := #[.val (.int p0), .val (.int p1), .val (.int p2), .val (.int p3), .val (.long p4), .second, .val (.long cc), .second, .val (.long dd), .second, .val (.double (own_r cc dd)), .second, .val (.long (cc * (1000000000 : Int64))), .second, .val (.long ((cc * (1000000000 : Int64)) / dd)), .second, .val (.long ((cc * (1000000000 : Int64)) % dd)), .second, .val (.int (1 : Int32)), .val (.long u), .second, .val (.long c2), .second, .val (.double (own_r (c2 * u) (u * (1000000000 : Int64)))), .second, .unset]) rfl k_) ?_
    show own_Go p.tables e below _ (T115.setTop (mkF m 156 #[.val (.int p0), .val (.int p1), .val (.int p2), .val (.int p3), .val (.long p4), .second, .val (.long cc), .second, .val (.long dd), .second, .val (.double (own_r cc dd)), .second, .val (.long (cc * (1000000000 : Int64))), .second, .val (.long ((cc * (1000000000 : Int64)) / dd)), .second, .val (.long ((cc * (1000000000 : Int64)) % dd)), .second, .val (.int (1 : Int32)), .val (.long u), .second, .val (.long c2), .second, .val (.double (own_r (c2 * u) (u * (1000000000 : Int64)))), .second, .unset] []))
    refine own_st (fun t_ k_ => XS.dload X115.here hx rfl (hb hby at_156) rfl k_) ?_
    show own_Go p.tables e below _ (T115.setTop (mkF m 158 #[.val (.int p0), .val (.int p1), .val (.int p2), .val (.int p3), .val (.long p4), .second, .val (.long cc), .second, .val (.long dd), .second, .val (.double (own_r cc dd)), .second, .val (.long (cc * (1000000000 : Int64))), .second, .val (.long ((cc * (1000000000 : Int64)) / dd)), .second, .val (.long ((cc * (1000000000 : Int64)) % dd)), .second, .val (.int (1 : Int32)), .val (.long u), .second, .val (.long c2), .second, .val (.double (own_r (c2 * u) (u * (1000000000 : Int64)))), .second, .unset] [(.double (own_r (c2 * u) (u * (1000000000 : Int64))))]))
    refine own_st (fun t_ k_ => XS.lload X115.here hx rfl (hb hby at_158) rfl k_) ?_
    show own_Go p.tables e below _ (T115.setTop (mkF m 160 #[.val (.int p0), .val (.int p1), .val (.int p2), .val (.int p3), .val (.long p4), .second, .val (.long cc), .second, .val (.long dd), .second, .val (.double (own_r cc dd)), .second, .val (.long (cc * (1000000000 : Int64))), .second, .val (.long ((cc * (1000000000 : Int64)) / dd)), .second, .val (.long ((cc * (1000000000 : Int64)) % dd)), .second, .val (.int (1 : Int32)), .val (.long u), .second, .val (.long c2), .second, .val (.double (own_r (c2 * u) (u * (1000000000 : Int64)))), .second, .unset] [(.long c2), (.double (own_r (c2 * u) (u * (1000000000 : Int64))))]))
    refine own_st (fun t_ k_ => XS.l2dS X115.here hx rfl (hb hby at_160) rfl rfl k_) ?_
    show own_Go p.tables e below _ (T115.setTop (mkF m 161 #[.val (.int p0), .val (.int p1), .val (.int p2), .val (.int p3), .val (.long p4), .second, .val (.long cc), .second, .val (.long dd), .second, .val (.double (own_r cc dd)), .second, .val (.long (cc * (1000000000 : Int64))), .second, .val (.long ((cc * (1000000000 : Int64)) / dd)), .second, .val (.long ((cc * (1000000000 : Int64)) % dd)), .second, .val (.int (1 : Int32)), .val (.long u), .second, .val (.long c2), .second, .val (.double (own_r (c2 * u) (u * (1000000000 : Int64)))), .second, .unset] [(.double (FP.l2d c2)), (.double (own_r (c2 * u) (u * (1000000000 : Int64))))]))
    refine own_st (fun t_ k_ => XS.dcmpS X115.here hx rfl (hb hby at_161) rfl rfl k_) ?_
    show own_Go p.tables e below _ (T115.setTop (mkF m 162 #[.val (.int p0), .val (.int p1), .val (.int p2), .val (.int p3), .val (.long p4), .second, .val (.long cc), .second, .val (.long dd), .second, .val (.double (own_r cc dd)), .second, .val (.long (cc * (1000000000 : Int64))), .second, .val (.long ((cc * (1000000000 : Int64)) / dd)), .second, .val (.long ((cc * (1000000000 : Int64)) % dd)), .second, .val (.int (1 : Int32)), .val (.long u), .second, .val (.long c2), .second, .val (.double (own_r (c2 * u) (u * (1000000000 : Int64)))), .second, .unset] [(.int (cmpValue (FP.dcmp (own_r (c2 * u) (u * (1000000000 : Int64))) (FP.l2d c2)) .l))]))
    refine own_st (fun t_ k_ => XS.ifNo X115.here hx rfl (hb hby at_162) rfl ((if0 _ _).trans (teq (own_b3 bc2.1 bc2.2 bu.1 bu.2 .l : (cmpValue (FP.dcmp (own_r (c2 * u) (u * (1000000000 : Int64))) (FP.l2d c2)) .l) = (0 : Int32))).2) k_) ?_
    show own_Go p.tables e below _ (T115.setTop (mkF m 165 #[.val (.int p0), .val (.int p1), .val (.int p2), .val (.int p3), .val (.long p4), .second, .val (.long cc), .second, .val (.long dd), .second, .val (.double (own_r cc dd)), .second, .val (.long (cc * (1000000000 : Int64))), .second, .val (.long ((cc * (1000000000 : Int64)) / dd)), .second, .val (.long ((cc * (1000000000 : Int64)) % dd)), .second, .val (.int (1 : Int32)), .val (.long u), .second, .val (.long c2), .second, .val (.double (own_r (c2 * u) (u * (1000000000 : Int64)))), .second, .unset] []))
    refine own_st (fun t_ k_ => XS.iconst X115.here hx rfl (hb hby at_165) k_) ?_
    show own_Go p.tables e below _ (T115.setTop (mkF m 166 #[.val (.int p0), .val (.int p1), .val (.int p2), .val (.int p3), .val (.long p4), .second, .val (.long cc), .second, .val (.long dd), .second, .val (.double (own_r cc dd)), .second, .val (.long (cc * (1000000000 : Int64))), .second, .val (.long ((cc * (1000000000 : Int64)) / dd)), .second, .val (.long ((cc * (1000000000 : Int64)) % dd)), .second, .val (.int (1 : Int32)), .val (.long u), .second, .val (.long c2), .second, .val (.double (own_r (c2 * u) (u * (1000000000 : Int64)))), .second, .unset] [(.int (1 : Int32))]))
    refine own_st (fun t_ k_ => XS.goto X115.here hx rfl (pc0 := 166) (pc' := 170) rfl (hb hby at_166) (by decide) (by decide) k_) ?_
    show own_Go p.tables e below _ (T115.setTop (mkF m 170 #[.val (.int p0), .val (.int p1), .val (.int p2), .val (.int p3), .val (.long p4), .second, .val (.long cc), .second, .val (.long dd), .second, .val (.double (own_r cc dd)), .second, .val (.long (cc * (1000000000 : Int64))), .second, .val (.long ((cc * (1000000000 : Int64)) / dd)), .second, .val (.long ((cc * (1000000000 : Int64)) % dd)), .second, .val (.int (1 : Int32)), .val (.long u), .second, .val (.long c2), .second, .val (.double (own_r (c2 * u) (u * (1000000000 : Int64)))), .second, .unset] [(.int (1 : Int32))]))
    refine own_st (fun t_ k_ => XS.istore X115.here hx rfl (hb hby at_170) rfl (l' := #[.val (.int p0), .val (.int p1), .val (.int p2), .val (.int p3), .val (.long p4), .second, .val (.long cc), .second, .val (.long dd), .second, .val (.double (own_r cc dd)), .second, .val (.long (cc * (1000000000 : Int64))), .second, .val (.long ((cc * (1000000000 : Int64)) / dd)), .second, .val (.long ((cc * (1000000000 : Int64)) % dd)), .second, .val (.int (1 : Int32)), .val (.long u), .second, .val (.long c2), .second, .val (.double (own_r (c2 * u) (u * (1000000000 : Int64)))), .second, .val (.int (1 : Int32))]) rfl k_) ?_
    show own_Go p.tables e below _ (T115.setTop (mkF m 172 #[.val (.int p0), .val (.int p1), .val (.int p2), .val (.int p3), .val (.long p4), .second, .val (.long cc), .second, .val (.long dd), .second, .val (.double (own_r cc dd)), .second, .val (.long (cc * (1000000000 : Int64))), .second, .val (.long ((cc * (1000000000 : Int64)) / dd)), .second, .val (.long ((cc * (1000000000 : Int64)) % dd)), .second, .val (.int (1 : Int32)), .val (.long u), .second, .val (.long c2), .second, .val (.double (own_r (c2 * u) (u * (1000000000 : Int64)))), .second, .val (.int (1 : Int32))] []))
    refine own_st (fun t_ k_ => XS.iload X115.here hx rfl (hb hby at_172) rfl k_) ?_
    show own_Go p.tables e below _ (T115.setTop (mkF m 174 #[.val (.int p0), .val (.int p1), .val (.int p2), .val (.int p3), .val (.long p4), .second, .val (.long cc), .second, .val (.long dd), .second, .val (.double (own_r cc dd)), .second, .val (.long (cc * (1000000000 : Int64))), .second, .val (.long ((cc * (1000000000 : Int64)) / dd)), .second, .val (.long ((cc * (1000000000 : Int64)) % dd)), .second, .val (.int (1 : Int32)), .val (.long u), .second, .val (.long c2), .second, .val (.double (own_r (c2 * u) (u * (1000000000 : Int64)))), .second, .val (.int (1 : Int32))] [(.int (1 : Int32))]))
    refine own_st (fun t_ k_ => XS.ifNo X115.here hx rfl (hb hby at_174) rfl ((if0 _ _).trans (feq (by decide : ¬ ((1 : Int32) = (0 : Int32)))).1) k_) ?_
    show own_Go p.tables e below _ (T115.setTop (mkF m 177 #[.val (.int p0), .val (.int p1), .val (.int p2), .val (.int p3), .val (.long p4), .second, .val (.long cc), .second, .val (.long dd), .second, .val (.double (own_r cc dd)), .second, .val (.long (cc * (1000000000 : Int64))), .second, .val (.long ((cc * (1000000000 : Int64)) / dd)), .second, .val (.long ((cc * (1000000000 : Int64)) % dd)), .second, .val (.int (1 : Int32)), .val (.long u), .second, .val (.long c2), .second, .val (.double (own_r (c2 * u) (u * (1000000000 : Int64)))), .second, .val (.int (1 : Int32))] []))
    refine own_st (fun t_ k_ => XS.iload X115.here hx rfl (hb hby at_177) rfl k_) ?_
    show own_Go p.tables e below _ (T115.setTop (mkF m 179 #[.val (.int p0), .val (.int p1), .val (.int p2), .val (.int p3), .val (.long p4), .second, .val (.long cc), .second, .val (.long dd), .second, .val (.double (own_r cc dd)), .second, .val (.long (cc * (1000000000 : Int64))), .second, .val (.long ((cc * (1000000000 : Int64)) / dd)), .second, .val (.long ((cc * (1000000000 : Int64)) % dd)), .second, .val (.int (1 : Int32)), .val (.long u), .second, .val (.long c2), .second, .val (.double (own_r (c2 * u) (u * (1000000000 : Int64)))), .second, .val (.int (1 : Int32))] [(.int (1 : Int32))]))
    refine own_st (fun t_ k_ => XS.ifNo X115.here hx rfl (hb hby at_179) rfl ((if0 _ _).trans (feq (by decide : ¬ ((1 : Int32) = (0 : Int32)))).1) k_) ?_
    show own_Go p.tables e below _ (T115.setTop (mkF m 182 #[.val (.int p0), .val (.int p1), .val (.int p2), .val (.int p3), .val (.long p4), .second, .val (.long cc), .second, .val (.long dd), .second, .val (.double (own_r cc dd)), .second, .val (.long (cc * (1000000000 : Int64))), .second, .val (.long ((cc * (1000000000 : Int64)) / dd)), .second, .val (.long ((cc * (1000000000 : Int64)) % dd)), .second, .val (.int (1 : Int32)), .val (.long u), .second, .val (.long c2), .second, .val (.double (own_r (c2 * u) (u * (1000000000 : Int64)))), .second, .val (.int (1 : Int32))] []))
    refine own_st (fun t_ k_ => XS.iconst X115.here hx rfl (hb hby at_182) k_) ?_
    show own_Go p.tables e below _ (T115.setTop (mkF m 183 #[.val (.int p0), .val (.int p1), .val (.int p2), .val (.int p3), .val (.long p4), .second, .val (.long cc), .second, .val (.long dd), .second, .val (.double (own_r cc dd)), .second, .val (.long (cc * (1000000000 : Int64))), .second, .val (.long ((cc * (1000000000 : Int64)) / dd)), .second, .val (.long ((cc * (1000000000 : Int64)) % dd)), .second, .val (.int (1 : Int32)), .val (.long u), .second, .val (.long c2), .second, .val (.double (own_r (c2 * u) (u * (1000000000 : Int64)))), .second, .val (.int (1 : Int32))] [(.int (1 : Int32))]))
    refine own_st (fun t_ k_ => XS.goto X115.here hx rfl (pc0 := 183) (pc' := 187) rfl (hb hby at_183) (by decide) (by decide) k_) ?_
    show own_Go p.tables e below _ (T115.setTop (mkF m 187 #[.val (.int p0), .val (.int p1), .val (.int p2), .val (.int p3), .val (.long p4), .second, .val (.long cc), .second, .val (.long dd), .second, .val (.double (own_r cc dd)), .second, .val (.long (cc * (1000000000 : Int64))), .second, .val (.long ((cc * (1000000000 : Int64)) / dd)), .second, .val (.long ((cc * (1000000000 : Int64)) % dd)), .second, .val (.int (1 : Int32)), .val (.long u), .second, .val (.long c2), .second, .val (.double (own_r (c2 * u) (u * (1000000000 : Int64)))), .second, .val (.int (1 : Int32))] [(.int (1 : Int32))]))
    exact own_ret (w := (.int (1 : Int32))) X115 hx hnl Bd.returns rfl (Or.inl ⟨rfl, by decide, _, rfl⟩) (hb hby at_187) ⟨rfl, N115, (by rw [eq115]; exact K114)⟩ (by decide) (by decide)
  · skip
    refine own_st (fun t_ k_ => XS.ifYes X111.here hx rfl (pc0 := 63) (pc' := 85) rfl (hb hby at_63) rfl ((if0 _ _).trans (feq c63_112).2) (by decide) (by decide) k_) ?_
    show own_Go p.tables e below _ (T111.setTop (mkF m 85 #[.val (.int p0), .val (.int p1), .val (.int p2), .val (.int p3), .val (.long p4), .second, .val (.long cc), .second, .val (.long dd), .second, .val (.double (own_r cc dd)), .second, .val (.long (cc * (1000000000 : Int64))), .second, .val (.long ((cc * (1000000000 : Int64)) / dd)), .second, .val (.long ((cc * (1000000000 : Int64)) % dd)), .second, .unset, .unset, .unset, .unset, .unset, .unset, .unset, .unset] []))
    refine own_st (fun t_ k_ => XS.lload X111.here hx rfl (hb hby at_85) rfl k_) ?_
    show own_Go p.tables e below _ (T111.setTop (mkF m 87 #[.val (.int p0), .val (.int p1), .val (.int p2), .val (.int p3), .val (.long p4), .second, .val (.long cc), .second, .val (.long dd), .second, .val (.double (own_r cc dd)), .second, .val (.long (cc * (1000000000 : Int64))), .second, .val (.long ((cc * (1000000000 : Int64)) / dd)), .second, .val (.long ((cc * (1000000000 : Int64)) % dd)), .second, .unset, .unset, .unset, .unset, .unset, .unset, .unset, .unset] [(.long ((cc * (1000000000 : Int64)) / dd))]))
    refine own_st (fun t_ k_ => XS.l2dS X111.here hx rfl (hb hby at_87) rfl rfl k_) ?_
    show own_Go p.tables e below _ (T111.setTop (mkF m 88 #[.val (.int p0), .val (.int p1), .val (.int p2), .val (.int p3), .val (.long p4), .second, .val (.long cc), .second, .val (.long dd), .second, .val (.double (own_r cc dd)), .second, .val (.long (cc * (1000000000 : Int64))), .second, .val (.long ((cc * (1000000000 : Int64)) / dd)), .second, .val (.long ((cc * (1000000000 : Int64)) % dd)), .second, .unset, .unset, .unset, .unset, .unset, .unset, .unset, .unset] [(.double (FP.l2d ((cc * (1000000000 : Int64)) / dd)))]))
    refine own_st (fun t_ k_ => XS.dload X111.here hx rfl (hb hby at_88) rfl k_) ?_
    show own_Go p.tables e below _ (T111.setTop (mkF m 90 #[.val (.int p0), .val (.int p1), .val (.int p2), .val (.int p3), .val (.long p4), .second, .val (.long cc), .second, .val (.long dd), .second, .val (.double (own_r cc dd)), .second, .val (.long (cc * (1000000000 : Int64))), .second, .val (.long ((cc * (1000000000 : Int64)) / dd)), .second, .val (.long ((cc * (1000000000 : Int64)) % dd)), .second, .unset, .unset, .unset, .unset, .unset, .unset, .unset, .unset] [(.double (own_r cc dd)), (.double (FP.l2d ((cc * (1000000000 : Int64)) / dd)))]))
    refine own_st (fun t_ k_ => XS.dcmpS X111.here hx rfl (hb hby at_90) rfl rfl k_) ?_
    show own_Go p.tables e below _ (T111.setTop (mkF m 91 #[.val (.int p0), .val (.int p1), .val (.int p2), .val (.int p3), .val (.long p4), .second, .val (.long cc), .second, .val (.long dd), .second, .val (.double (own_r cc dd)), .second, .val (.long (cc * (1000000000 : Int64))), .second, .val (.long ((cc * (1000000000 : Int64)) / dd)), .second, .val (.long ((cc * (1000000000 : Int64)) % dd)), .second, .unset, .unset, .unset, .unset, .unset, .unset, .unset, .unset] [(.int (cmpValue (FP.dcmp (FP.l2d ((cc * (1000000000 : Int64)) / dd)) (own_r cc dd)) .g))]))
    refine own_st (fun t_ k_ => XS.ifNo X111.here hx rfl (hb hby at_91) rfl ((if0 _ _).trans (tlt (by have w_ := (own_b2 bc.1 bc.2 bd.1 bd.2 c63_112 .g).1; rw [w_]; decide : (cmpValue (FP.dcmp (FP.l2d ((cc * (1000000000 : Int64)) / dd)) (own_r cc dd)) .g) < (0 : Int32))).2.1) k_) ?_
    show own_Go p.tables e below _ (T111.setTop (mkF m 94 #[.val (.int p0), .val (.int p1), .val (.int p2), .val (.int p3), .val (.long p4), .second, .val (.long cc), .second, .val (.long dd), .second, .val (.double (own_r cc dd)), .second, .val (.long (cc * (1000000000 : Int64))), .second, .val (.long ((cc * (1000000000 : Int64)) / dd)), .second, .val (.long ((cc * (1000000000 : Int64)) % dd)), .second, .unset, .unset, .unset, .unset, .unset, .unset, .unset, .unset] []))
    refine own_st (fun t_ k_ => XS.dload X111.here hx rfl (hb hby at_94) rfl k_) ?_
    show own_Go p.tables e below _ (T111.setTop (mkF m 96 #[.val (.int p0), .val (.int p1), .val (.int p2), .val (.int p3), .val (.long p4), .second, .val (.long cc), .second, .val (.long dd), .second, .val (.double (own_r cc dd)), .second, .val (.long (cc * (1000000000 : Int64))), .second, .val (.long ((cc * (1000000000 : Int64)) / dd)), .second, .val (.long ((cc * (1000000000 : Int64)) % dd)), .second, .unset, .unset, .unset, .unset, .unset, .unset, .unset, .unset] [(.double (own_r cc dd))]))
    refine own_st (fun t_ k_ => XS.lload X111.here hx rfl (hb hby at_96) rfl k_) ?_
    show own_Go p.tables e below _ (T111.setTop (mkF m 98 #[.val (.int p0), .val (.int p1), .val (.int p2), .val (.int p3), .val (.long p4), .second, .val (.long cc), .second, .val (.long dd), .second, .val (.double (own_r cc dd)), .second, .val (.long (cc * (1000000000 : Int64))), .second, .val (.long ((cc * (1000000000 : Int64)) / dd)), .second, .val (.long ((cc * (1000000000 : Int64)) % dd)), .second, .unset, .unset, .unset, .unset, .unset, .unset, .unset, .unset] [(.long ((cc * (1000000000 : Int64)) / dd)), (.double (own_r cc dd))]))
    refine own_st (fun t_ k_ => XS.lconst X111.here hx rfl (hb hby at_98) k_) ?_
    show own_Go p.tables e below _ (T111.setTop (mkF m 99 #[.val (.int p0), .val (.int p1), .val (.int p2), .val (.int p3), .val (.long p4), .second, .val (.long cc), .second, .val (.long dd), .second, .val (.double (own_r cc dd)), .second, .val (.long (cc * (1000000000 : Int64))), .second, .val (.long ((cc * (1000000000 : Int64)) / dd)), .second, .val (.long ((cc * (1000000000 : Int64)) % dd)), .second, .unset, .unset, .unset, .unset, .unset, .unset, .unset, .unset] [(.long (1 : Int64)), (.long ((cc * (1000000000 : Int64)) / dd)), (.double (own_r cc dd))]))
    refine own_st (fun t_ k_ => XS.ladd X111.here hx rfl (hb hby at_99) rfl k_) ?_
    show own_Go p.tables e below _ (T111.setTop (mkF m 100 #[.val (.int p0), .val (.int p1), .val (.int p2), .val (.int p3), .val (.long p4), .second, .val (.long cc), .second, .val (.long dd), .second, .val (.double (own_r cc dd)), .second, .val (.long (cc * (1000000000 : Int64))), .second, .val (.long ((cc * (1000000000 : Int64)) / dd)), .second, .val (.long ((cc * (1000000000 : Int64)) % dd)), .second, .unset, .unset, .unset, .unset, .unset, .unset, .unset, .unset] [(.long (((cc * (1000000000 : Int64)) / dd) + (1 : Int64))), (.double (own_r cc dd))]))
    refine own_st (fun t_ k_ => XS.l2dS X111.here hx rfl (hb hby at_100) rfl rfl k_) ?_
    show own_Go p.tables e below _ (T111.setTop (mkF m 101 #[.val (.int p0), .val (.int p1), .val (.int p2), .val (.int p3), .val (.long p4), .second, .val (.long cc), .second, .val (.long dd), .second, .val (.double (own_r cc dd)), .second, .val (.long (cc * (1000000000 : Int64))), .second, .val (.long ((cc * (1000000000 : Int64)) / dd)), .second, .val (.long ((cc * (1000000000 : Int64)) % dd)), .second, .unset, .unset, .unset, .unset, .unset, .unset, .unset, .unset] [(.double (FP.l2d (((cc * (1000000000 : Int64)) / dd) + (1 : Int64)))), (.double (own_r cc dd))]))
    refine own_st (fun t_ k_ => XS.dcmpS X111.here hx rfl (hb hby at_101) rfl rfl k_) ?_
    show own_Go p.tables e below _ (T111.setTop (mkF m 102 #[.val (.int p0), .val (.int p1), .val (.int p2), .val (.int p3), .val (.long p4), .second, .val (.long cc), .second, .val (.long dd), .second, .val (.double (own_r cc dd)), .second, .val (.long (cc * (1000000000 : Int64))), .second, .val (.long ((cc * (1000000000 : Int64)) / dd)), .second, .val (.long ((cc * (1000000000 : Int64)) % dd)), .second, .unset, .unset, .unset, .unset, .unset, .unset, .unset, .unset] [(.int (cmpValue (FP.dcmp (own_r cc dd) (FP.l2d (((cc * (1000000000 : Int64)) / dd) + (1 : Int64)))) .g))]))
    refine own_st (fun t_ k_ => XS.ifNo X111.here hx rfl (hb hby at_102) rfl ((if0 _ _).trans (tlt (by have w_ := (own_b2 bc.1 bc.2 bd.1 bd.2 c63_112 .g).2; rw [w_]; decide : (cmpValue (FP.dcmp (own_r cc dd) (FP.l2d (((cc * (1000000000 : Int64)) / dd) + (1 : Int64)))) .g) < (0 : Int32))).2.1) k_) ?_
    show own_Go p.tables e below _ (T111.setTop (mkF m 105 #[.val (.int p0), .val (.int p1), .val (.int p2), .val (.int p3), .val (.long p4), .second, .val (.long cc), .second, .val (.long dd), .second, .val (.double (own_r cc dd)), .second, .val (.long (cc * (1000000000 : Int64))), .second, .val (.long ((cc * (1000000000 : Int64)) / dd)), .second, .val (.long ((cc * (1000000000 : Int64)) % dd)), .second, .unset, .unset, .unset, .unset, .unset, .unset, .unset, .unset] []))
    refine own_st (fun t_ k_ => XS.iconst X111.here hx rfl (hb hby at_105) k_) ?_
    show own_Go p.tables e below _ (T111.setTop (mkF m 106 #[.val (.int p0), .val (.int p1), .val (.int p2), .val (.int p3), .val (.long p4), .second, .val (.long cc), .second, .val (.long dd), .second, .val (.double (own_r cc dd)), .second, .val (.long (cc * (1000000000 : Int64))), .second, .val (.long ((cc * (1000000000 : Int64)) / dd)), .second, .val (.long ((cc * (1000000000 : Int64)) % dd)), .second, .unset, .unset, .unset, .unset, .unset, .unset, .unset, .unset] [(.int (1 : Int32))]))
    refine own_st (fun t_ k_ => XS.goto X111.here hx rfl (pc0 := 106) (pc' := 110) rfl (hb hby at_106) (by decide) (by decide) k_) ?_
    show own_Go p.tables e below _ (T111.setTop (mkF m 110 #[.val (.int p0), .val (.int p1), .val (.int p2), .val (.int p3), .val (.long p4), .second, .val (.long cc), .second, .val (.long dd), .second, .val (.double (own_r cc dd)), .second, .val (.long (cc * (1000000000 : Int64))), .second, .val (.long ((cc * (1000000000 : Int64)) / dd)), .second, .val (.long ((cc * (1000000000 : Int64)) % dd)), .second, .unset, .unset, .unset, .unset, .unset, .unset, .unset, .unset] [(.int (1 : Int32))]))
    refine own_st (fun t_ k_ => XS.istore X111.here hx rfl (hb hby at_110) rfl (l' := #[.val (.int p0), .val (.int p1), .val (.int p2), .val (.int p3), .val (.long p4), .second, .val (.long cc), .second, .val (.long dd), .second, .val (.double (own_r cc dd)), .second, .val (.long (cc * (1000000000 : Int64))), .second, .val (.long ((cc * (1000000000 : Int64)) / dd)), .second, .val (.long ((cc * (1000000000 : Int64)) % dd)), .second, .val (.int (1 : Int32)), .unset, .unset, .unset, .unset, .unset, .unset, .unset]) rfl k_) ?_
    show own_Go p.tables e below _ (T111.setTop (mkF m 112 #[.val (.int p0), .val (.int p1), .val (.int p2), .val (.int p3), .val (.long p4), .second, .val (.long cc), .second, .val (.long dd), .second, .val (.double (own_r cc dd)), .second, .val (.long (cc * (1000000000 : Int64))), .second, .val (.long ((cc * (1000000000 : Int64)) / dd)), .second, .val (.long ((cc * (1000000000 : Int64)) % dd)), .second, .val (.int (1 : Int32)), .unset, .unset, .unset, .unset, .unset, .unset, .unset] []))
    refine own_st (fun t_ k_ => XS.iloadN X111.here hx rfl (hb hby at_112) rfl k_) ?_
    show own_Go p.tables e below _ (T111.setTop (mkF m 113 #[.val (.int p0), .val (.int p1), .val (.int p2), .val (.int p3), .val (.long p4), .second, .val (.long cc), .second, .val (.long dd), .second, .val (.double (own_r cc dd)), .second, .val (.long (cc * (1000000000 : Int64))), .second, .val (.long ((cc * (1000000000 : Int64)) / dd)), .second, .val (.long ((cc * (1000000000 : Int64)) % dd)), .second, .val (.int (1 : Int32)), .unset, .unset, .unset, .unset, .unset, .unset, .unset] [(.int p2)]))
    refine own_st (fun t_ k_ => XS.i2l X111.here hx rfl (hb hby at_113) rfl k_) ?_
    show own_Go p.tables e below _ (T111.setTop (mkF m 114 #[.val (.int p0), .val (.int p1), .val (.int p2), .val (.int p3), .val (.long p4), .second, .val (.long cc), .second, .val (.long dd), .second, .val (.double (own_r cc dd)), .second, .val (.long (cc * (1000000000 : Int64))), .second, .val (.long ((cc * (1000000000 : Int64)) / dd)), .second, .val (.long ((cc * (1000000000 : Int64)) % dd)), .second, .val (.int (1 : Int32)), .unset, .unset, .unset, .unset, .unset, .unset, .unset] [(.long (p2.toInt64))]))
    refine own_st (X111.ldc2Long hx hown (mvT hZ (hw _ (List.mem_of_getElem? (i := 31) rfl))) (g := (mkF m 114 #[.val (.int p0), .val (.int p1), .val (.int p2), .val (.int p3), .val (.long p4), .second, .val (.long cc), .second, .val (.long dd), .second, .val (.double (own_r cc dd)), .second, .val (.long (cc * (1000000000 : Int64))), .second, .val (.long ((cc * (1000000000 : Int64)) / dd)), .second, .val (.long ((cc * (1000000000 : Int64)) % dd)), .second, .val (.int (1 : Int32)), .unset, .unset, .unset, .unset, .unset, .unset, .unset] [(.long (p2.toInt64))])) rfl (hb hby at_114)) ?_
    show own_Go p.tables e below _ (T111.setTop (mkF m 117 #[.val (.int p0), .val (.int p1), .val (.int p2), .val (.int p3), .val (.long p4), .second, .val (.long cc), .second, .val (.long dd), .second, .val (.double (own_r cc dd)), .second, .val (.long (cc * (1000000000 : Int64))), .second, .val (.long ((cc * (1000000000 : Int64)) / dd)), .second, .val (.long ((cc * (1000000000 : Int64)) % dd)), .second, .val (.int (1 : Int32)), .unset, .unset, .unset, .unset, .unset, .unset, .unset] [(.long (4095 : Int64)), (.long (p2.toInt64))]))
    refine own_st (fun t_ k_ => XS.land X111.here hx rfl (hb hby at_117) rfl k_) ?_
    show own_Go p.tables e below _ (T111.setTop (mkF m 118 #[.val (.int p0), .val (.int p1), .val (.int p2), .val (.int p3), .val (.long p4), .second, .val (.long cc), .second, .val (.long dd), .second, .val (.double (own_r cc dd)), .second, .val (.long (cc * (1000000000 : Int64))), .second, .val (.long ((cc * (1000000000 : Int64)) / dd)), .second, .val (.long ((cc * (1000000000 : Int64)) % dd)), .second, .val (.int (1 : Int32)), .unset, .unset, .unset, .unset, .unset, .unset, .unset] [(.long ((p2.toInt64) &&& (4095 : Int64)))]))
    refine own_st (fun t_ k_ => XS.lconst X111.here hx rfl (hb hby at_118) k_) ?_
    show own_Go p.tables e below _ (T111.setTop (mkF m 119 #[.val (.int p0), .val (.int p1), .val (.int p2), .val (.int p3), .val (.long p4), .second, .val (.long cc), .second, .val (.long dd), .second, .val (.double (own_r cc dd)), .second, .val (.long (cc * (1000000000 : Int64))), .second, .val (.long ((cc * (1000000000 : Int64)) / dd)), .second, .val (.long ((cc * (1000000000 : Int64)) % dd)), .second, .val (.int (1 : Int32)), .unset, .unset, .unset, .unset, .unset, .unset, .unset] [(.long (1 : Int64)), (.long ((p2.toInt64) &&& (4095 : Int64)))]))
    refine own_st (fun t_ k_ => XS.ladd X111.here hx rfl (hb hby at_119) rfl k_) ?_
    show own_Go p.tables e below _ (T111.setTop (mkF m 120 #[.val (.int p0), .val (.int p1), .val (.int p2), .val (.int p3), .val (.long p4), .second, .val (.long cc), .second, .val (.long dd), .second, .val (.double (own_r cc dd)), .second, .val (.long (cc * (1000000000 : Int64))), .second, .val (.long ((cc * (1000000000 : Int64)) / dd)), .second, .val (.long ((cc * (1000000000 : Int64)) % dd)), .second, .val (.int (1 : Int32)), .unset, .unset, .unset, .unset, .unset, .unset, .unset] [(.long (((p2.toInt64) &&& (4095 : Int64)) + (1 : Int64)))]))
    rw [show (((p2.toInt64) &&& (4095 : Int64)) + (1 : Int64)) = u from hu.symm]
    show own_Go p.tables e below _ (T111.setTop (mkF m 120 #[.val (.int p0), .val (.int p1), .val (.int p2), .val (.int p3), .val (.long p4), .second, .val (.long cc), .second, .val (.long dd), .second, .val (.double (own_r cc dd)), .second, .val (.long (cc * (1000000000 : Int64))), .second, .val (.long ((cc * (1000000000 : Int64)) / dd)), .second, .val (.long ((cc * (1000000000 : Int64)) % dd)), .second, .val (.int (1 : Int32)), .unset, .unset, .unset, .unset, .unset, .unset, .unset] [(.long u)]))
    refine own_st (fun t_ k_ => XS.lstore X111.here hx rfl (hb hby at_120) rfl (l' := #[.val (.int p0), .val (.int p1), .val (.int p2), .val (.int p3), .val (.long p4), .second, .val (.long cc), .second, .val (.long dd), .second, .val (.double (own_r cc dd)), .second, .val (.long (cc * (1000000000 : Int64))), .second, .val (.long ((cc * (1000000000 : Int64)) / dd)), .second, .val (.long ((cc * (1000000000 : Int64)) % dd)), .second, .val (.int (1 : Int32)), .val (.long u), .second, .unset, .unset, .unset, .unset, .unset]) rfl k_) ?_
    show own_Go p.tables e below _ (T111.setTop (mkF m 122 #[.val (.int p0), .val (.int p1), .val (.int p2), .val (.int p3), .val (.long p4), .second, .val (.long cc), .second, .val (.long dd), .second, .val (.double (own_r cc dd)), .second, .val (.long (cc * (1000000000 : Int64))), .second, .val (.long ((cc * (1000000000 : Int64)) / dd)), .second, .val (.long ((cc * (1000000000 : Int64)) % dd)), .second, .val (.int (1 : Int32)), .val (.long u), .second, .unset, .unset, .unset, .unset, .unset] []))
    refine own_st (fun t_ k_ => XS.iloadN X111.here hx rfl (hb hby at_122) rfl k_) ?_
    show own_Go p.tables e below _ (T111.setTop (mkF m 123 #[.val (.int p0), .val (.int p1), .val (.int p2), .val (.int p3), .val (.long p4), .second, .val (.long cc), .second, .val (.long dd), .second, .val (.double (own_r cc dd)), .second, .val (.long (cc * (1000000000 : Int64))), .second, .val (.long ((cc * (1000000000 : Int64)) / dd)), .second, .val (.long ((cc * (1000000000 : Int64)) % dd)), .second, .val (.int (1 : Int32)), .val (.long u), .second, .unset, .unset, .unset, .unset, .unset] [(.int p3)]))
    refine own_st (fun t_ k_ => XS.i2l X111.here hx rfl (hb hby at_123) rfl k_) ?_
    show own_Go p.tables e below _ (T111.setTop (mkF m 124 #[.val (.int p0), .val (.int p1), .val (.int p2), .val (.int p3), .val (.long p4), .second, .val (.long cc), .second, .val (.long dd), .second, .val (.double (own_r cc dd)), .second, .val (.long (cc * (1000000000 : Int64))), .second, .val (.long ((cc * (1000000000 : Int64)) / dd)), .second, .val (.long ((cc * (1000000000 : Int64)) % dd)), .second, .val (.int (1 : Int32)), .val (.long u), .second, .unset, .unset, .unset, .unset, .unset] [(.long (p3.toInt64))]))
    refine own_st (X111.ldc2Long hx hown (mvT hZ (hw _ (List.mem_of_getElem? (i := 32) rfl))) (g := (mkF m 124 #[.val (.int p0), .val (.int p1), .val (.int p2), .val (.int p3), .val (.long p4), .second, .val (.long cc), .second, .val (.long dd), .second, .val (.double (own_r cc dd)), .second, .val (.long (cc * (1000000000 : Int64))), .second, .val (.long ((cc * (1000000000 : Int64)) / dd)), .second, .val (.long ((cc * (1000000000 : Int64)) % dd)), .second, .val (.int (1 : Int32)), .val (.long u), .second, .unset, .unset, .unset, .unset, .unset] [(.long (p3.toInt64))])) rfl (hb hby at_124)) ?_
    show own_Go p.tables e below _ (T111.setTop (mkF m 127 #[.val (.int p0), .val (.int p1), .val (.int p2), .val (.int p3), .val (.long p4), .second, .val (.long cc), .second, .val (.long dd), .second, .val (.double (own_r cc dd)), .second, .val (.long (cc * (1000000000 : Int64))), .second, .val (.long ((cc * (1000000000 : Int64)) / dd)), .second, .val (.long ((cc * (1000000000 : Int64)) % dd)), .second, .val (.int (1 : Int32)), .val (.long u), .second, .unset, .unset, .unset, .unset, .unset] [(.long (2047 : Int64)), (.long (p3.toInt64))]))
    refine own_st (fun t_ k_ => XS.land X111.here hx rfl (hb hby at_127) rfl k_) ?_
    show own_Go p.tables e below _ (T111.setTop (mkF m 128 #[.val (.int p0), .val (.int p1), .val (.int p2), .val (.int p3), .val (.long p4), .second, .val (.long cc), .second, .val (.long dd), .second, .val (.double (own_r cc dd)), .second, .val (.long (cc * (1000000000 : Int64))), .second, .val (.long ((cc * (1000000000 : Int64)) / dd)), .second, .val (.long ((cc * (1000000000 : Int64)) % dd)), .second, .val (.int (1 : Int32)), .val (.long u), .second, .unset, .unset, .unset, .unset, .unset] [(.long ((p3.toInt64) &&& (2047 : Int64)))]))
    rw [show ((p3.toInt64) &&& (2047 : Int64)) = c2 from hc2.symm]
    show own_Go p.tables e below _ (T111.setTop (mkF m 128 #[.val (.int p0), .val (.int p1), .val (.int p2), .val (.int p3), .val (.long p4), .second, .val (.long cc), .second, .val (.long dd), .second, .val (.double (own_r cc dd)), .second, .val (.long (cc * (1000000000 : Int64))), .second, .val (.long ((cc * (1000000000 : Int64)) / dd)), .second, .val (.long ((cc * (1000000000 : Int64)) % dd)), .second, .val (.int (1 : Int32)), .val (.long u), .second, .unset, .unset, .unset, .unset, .unset] [(.long c2)]))
    refine own_st (fun t_ k_ => XS.lstore X111.here hx rfl (hb hby at_128) rfl (l' := #[.val (.int p0), .val (.int p1), .val (.int p2), .val (.int p3), .val (.long p4), .second, .val (.long cc), .second, .val (.long dd), .second, .val (.double (own_r cc dd)), .second, .val (.long (cc * (1000000000 : Int64))), .second, .val (.long ((cc * (1000000000 : Int64)) / dd)), .second, .val (.long ((cc * (1000000000 : Int64)) % dd)), .second, .val (.int (1 : Int32)), .val (.long u), .second, .val (.long c2), .second, .unset, .unset, .unset]) rfl k_) ?_
    show own_Go p.tables e below _ (T111.setTop (mkF m 130 #[.val (.int p0), .val (.int p1), .val (.int p2), .val (.int p3), .val (.long p4), .second, .val (.long cc), .second, .val (.long dd), .second, .val (.double (own_r cc dd)), .second, .val (.long (cc * (1000000000 : Int64))), .second, .val (.long ((cc * (1000000000 : Int64)) / dd)), .second, .val (.long ((cc * (1000000000 : Int64)) % dd)), .second, .val (.int (1 : Int32)), .val (.long u), .second, .val (.long c2), .second, .unset, .unset, .unset] []))
    obtain ⟨T116, h116, X116, e116, E116, A116, D116, -, st116⟩ := newO X111 hx hZ hown (hw _ (List.mem_of_getElem? (i := 2) rfl)) (hw _ (List.mem_of_getElem? (i := 3) rfl)) (hw _ (List.mem_of_getElem? (i := 4) rfl)) eq111 (g := (mkF m 130 #[.val (.int p0), .val (.int p1), .val (.int p2), .val (.int p3), .val (.long p4), .second, .val (.long cc), .second, .val (.long dd), .second, .val (.double (own_r cc dd)), .second, .val (.long (cc * (1000000000 : Int64))), .second, .val (.long ((cc * (1000000000 : Int64)) / dd)), .second, .val (.long ((cc * (1000000000 : Int64)) % dd)), .second, .val (.int (1 : Int32)), .val (.long u), .second, .val (.long c2), .second, .unset, .unset, .unset] [])) rfl (hb hby at_130) (by decide) (by decide)
    obtain ⟨b116, g116⟩ : ∃ z, z = T110.heap.size := ⟨_, rfl⟩
    rw [← g116] at A116 D116 st116
    have fr116 : h0.size ≤ b116 := Nat.le_trans K110.1 (Nat.le_of_eq g116.symm)
    have ge116 : n0 ≤ b116 := Nat.le_trans Z0 fr116
    have K116 : Keep h0 h116 [] := K110.ext E116
    have F116_17 : Fld Z h116 b116 "com/example/marshalyard/marshalyard/bench/RmiCalls$Run" "calls" "J" (.long (0 : Int64)) := D116 (Or.inr (hw _ (List.mem_of_getElem? (i := 17) rfl))) (ty := .long) (by decide)
    have F116_19 : Fld Z h116 b116 "com/example/marshalyard/marshalyard/bench/RmiCalls$Run" "failed" "J" (.long (0 : Int64)) := D116 (Or.inr (hw _ (List.mem_of_getElem? (i := 19) rfl))) (ty := .long) (by decide)
    have F116_21 : Fld Z h116 b116 "com/example/marshalyard/marshalyard/bench/RmiCalls$Run" "nanos" "J" (.long (0 : Int64)) := D116 (Or.inr (hw _ (List.mem_of_getElem? (i := 21) rfl))) (ty := .long) (by decide)
    have F116_23 : Fld Z h116 b116 "com/example/marshalyard/marshalyard/bench/RmiCalls$Run" "firstFailure" "Ljava/lang/String;" .null := D116 (Or.inr (hw _ (List.mem_of_getElem? (i := 23) rfl))) (ty := (.object "java/lang/String")) (by decide)
    refine own_st (st116) ?_
    show own_Go p.tables e below _ (T116.setTop (mkF m 133 #[.val (.int p0), .val (.int p1), .val (.int p2), .val (.int p3), .val (.long p4), .second, .val (.long cc), .second, .val (.long dd), .second, .val (.double (own_r cc dd)), .second, .val (.long (cc * (1000000000 : Int64))), .second, .val (.long ((cc * (1000000000 : Int64)) / dd)), .second, .val (.long ((cc * (1000000000 : Int64)) % dd)), .second, .val (.int (1 : Int32)), .val (.long u), .second, .val (.long c2), .second, .unset, .unset, .unset] [(.ref b116)]))
    refine own_st (fun t_ k_ => XS.dup X116.here hx rfl (hb hby at_133) rfl rfl k_) ?_
    show own_Go p.tables e below _ (T116.setTop (mkF m 134 #[.val (.int p0), .val (.int p1), .val (.int p2), .val (.int p3), .val (.long p4), .second, .val (.long cc), .second, .val (.long dd), .second, .val (.double (own_r cc dd)), .second, .val (.long (cc * (1000000000 : Int64))), .second, .val (.long ((cc * (1000000000 : Int64)) / dd)), .second, .val (.long ((cc * (1000000000 : Int64)) % dd)), .second, .val (.int (1 : Int32)), .val (.long u), .second, .val (.long c2), .second, .unset, .unset, .unset] [(.ref b116), (.ref b116)]))
    refine own_st (fun t_ k_ => XS.lload X116.here hx rfl (hb hby at_134) rfl k_) ?_
    show own_Go p.tables e below _ (T116.setTop (mkF m 136 #[.val (.int p0), .val (.int p1), .val (.int p2), .val (.int p3), .val (.long p4), .second, .val (.long cc), .second, .val (.long dd), .second, .val (.double (own_r cc dd)), .second, .val (.long (cc * (1000000000 : Int64))), .second, .val (.long ((cc * (1000000000 : Int64)) / dd)), .second, .val (.long ((cc * (1000000000 : Int64)) % dd)), .second, .val (.int (1 : Int32)), .val (.long u), .second, .val (.long c2), .second, .unset, .unset, .unset] [(.long c2), (.ref b116), (.ref b116)]))
    refine own_st (fun t_ k_ => XS.lload X116.here hx rfl (hb hby at_136) rfl k_) ?_
    show own_Go p.tables e below _ (T116.setTop (mkF m 138 #[.val (.int p0), .val (.int p1), .val (.int p2), .val (.int p3), .val (.long p4), .second, .val (.long cc), .second, .val (.long dd), .second, .val (.double (own_r cc dd)), .second, .val (.long (cc * (1000000000 : Int64))), .second, .val (.long ((cc * (1000000000 : Int64)) / dd)), .second, .val (.long ((cc * (1000000000 : Int64)) % dd)), .second, .val (.int (1 : Int32)), .val (.long u), .second, .val (.long c2), .second, .unset, .unset, .unset] [(.long u), (.long c2), (.ref b116), (.ref b116)]))
    refine own_st (fun t_ k_ => XS.lmul X116.here hx rfl (hb hby at_138) rfl k_) ?_
    show own_Go p.tables e below _ (T116.setTop (mkF m 139 #[.val (.int p0), .val (.int p1), .val (.int p2), .val (.int p3), .val (.long p4), .second, .val (.long cc), .second, .val (.long dd), .second, .val (.double (own_r cc dd)), .second, .val (.long (cc * (1000000000 : Int64))), .second, .val (.long ((cc * (1000000000 : Int64)) / dd)), .second, .val (.long ((cc * (1000000000 : Int64)) % dd)), .second, .val (.int (1 : Int32)), .val (.long u), .second, .val (.long c2), .second, .unset, .unset, .unset] [(.long (c2 * u)), (.ref b116), (.ref b116)]))
    refine own_st (fun t_ k_ => XS.lload X116.here hx rfl (hb hby at_139) rfl k_) ?_
    show own_Go p.tables e below _ (T116.setTop (mkF m 141 #[.val (.int p0), .val (.int p1), .val (.int p2), .val (.int p3), .val (.long p4), .second, .val (.long cc), .second, .val (.long dd), .second, .val (.double (own_r cc dd)), .second, .val (.long (cc * (1000000000 : Int64))), .second, .val (.long ((cc * (1000000000 : Int64)) / dd)), .second, .val (.long ((cc * (1000000000 : Int64)) % dd)), .second, .val (.int (1 : Int32)), .val (.long u), .second, .val (.long c2), .second, .unset, .unset, .unset] [(.long p4), (.long (c2 * u)), (.ref b116), (.ref b116)]))
    refine own_st (fun t_ k_ => XS.lload X116.here hx rfl (hb hby at_141) rfl k_) ?_
    show own_Go p.tables e below _ (T116.setTop (mkF m 143 #[.val (.int p0), .val (.int p1), .val (.int p2), .val (.int p3), .val (.long p4), .second, .val (.long cc), .second, .val (.long dd), .second, .val (.double (own_r cc dd)), .second, .val (.long (cc * (1000000000 : Int64))), .second, .val (.long ((cc * (1000000000 : Int64)) / dd)), .second, .val (.long ((cc * (1000000000 : Int64)) % dd)), .second, .val (.int (1 : Int32)), .val (.long u), .second, .val (.long c2), .second, .unset, .unset, .unset] [(.long u), (.long p4), (.long (c2 * u)), (.ref b116), (.ref b116)]))
    refine own_st (X116.ldc2Long hx hown (mvT hZ (hw _ (List.mem_of_getElem? (i := 30) rfl))) (g := (mkF m 143 #[.val (.int p0), .val (.int p1), .val (.int p2), .val (.int p3), .val (.long p4), .second, .val (.long cc), .second, .val (.long dd), .second, .val (.double (own_r cc dd)), .second, .val (.long (cc * (1000000000 : Int64))), .second, .val (.long ((cc * (1000000000 : Int64)) / dd)), .second, .val (.long ((cc * (1000000000 : Int64)) % dd)), .second, .val (.int (1 : Int32)), .val (.long u), .second, .val (.long c2), .second, .unset, .unset, .unset] [(.long u), (.long p4), (.long (c2 * u)), (.ref b116), (.ref b116)])) rfl (hb hby at_143)) ?_
    show own_Go p.tables e below _ (T116.setTop (mkF m 146 #[.val (.int p0), .val (.int p1), .val (.int p2), .val (.int p3), .val (.long p4), .second, .val (.long cc), .second, .val (.long dd), .second, .val (.double (own_r cc dd)), .second, .val (.long (cc * (1000000000 : Int64))), .second, .val (.long ((cc * (1000000000 : Int64)) / dd)), .second, .val (.long ((cc * (1000000000 : Int64)) % dd)), .second, .val (.int (1 : Int32)), .val (.long u), .second, .val (.long c2), .second, .unset, .unset, .unset] [(.long (1000000000 : Int64)), (.long u), (.long p4), (.long (c2 * u)), (.ref b116), (.ref b116)]))
    refine own_st (fun t_ k_ => XS.lmul X116.here hx rfl (hb hby at_146) rfl k_) ?_
    show own_Go p.tables e below _ (T116.setTop (mkF m 147 #[.val (.int p0), .val (.int p1), .val (.int p2), .val (.int p3), .val (.long p4), .second, .val (.long cc), .second, .val (.long dd), .second, .val (.double (own_r cc dd)), .second, .val (.long (cc * (1000000000 : Int64))), .second, .val (.long ((cc * (1000000000 : Int64)) / dd)), .second, .val (.long ((cc * (1000000000 : Int64)) % dd)), .second, .val (.int (1 : Int32)), .val (.long u), .second, .val (.long c2), .second, .unset, .unset, .unset] [(.long (u * (1000000000 : Int64))), (.long p4), (.long (c2 * u)), (.ref b116), (.ref b116)]))
    refine own_st (fun t_ k_ => XS.aconstNull X116.here hx rfl (hb hby at_147) k_) ?_
    show own_Go p.tables e below _ (T116.setTop (mkF m 148 #[.val (.int p0), .val (.int p1), .val (.int p2), .val (.int p3), .val (.long p4), .second, .val (.long cc), .second, .val (.long dd), .second, .val (.double (own_r cc dd)), .second, .val (.long (cc * (1000000000 : Int64))), .second, .val (.long ((cc * (1000000000 : Int64)) / dd)), .second, .val (.long ((cc * (1000000000 : Int64)) % dd)), .second, .val (.int (1 : Int32)), .val (.long u), .second, .val (.long c2), .second, .unset, .unset, .unset] [.null, (.long (u * (1000000000 : Int64))), (.long p4), (.long (c2 * u)), (.ref b116), (.ref b116)]))
    obtain ⟨_, _, ⟨T117, L117, k117, n117⟩, -, X117, ⟨Lc117, hQ117, l117, y117, z117⟩, st117⟩ := X116.specialBack hx (y := (⟨"com/example/marshalyard/marshalyard/bench/RmiCalls$Run", "<init>", "(JJJLjava/lang/String;)V"⟩ : MethodName)) rfl hown (mvT hZ (hw _ (List.mem_of_getElem? (i := 5) rfl))) (mvT hZ (hw _ (List.mem_of_getElem? (i := 6) rfl))) (mvT hZ (hw _ (List.mem_of_getElem? (i := 7) rfl))) (by decide) (backOf (W := 1) (own_rm1 l Z a0 hw [] b116 (c2 * u) p4 (u * (1000000000 : Int64)) h116 n0 (Nat.le_trans Z0 K116.1) A116 F116_17 F116_19 F116_21 F116_23 ge116) hZ (hw _ (List.mem_of_getElem? (i := 7) rfl)) (hw _ (List.mem_of_getElem? (i := 4) rfl)) (by decide) (by decide)) (g := (mkF m 148 #[.val (.int p0), .val (.int p1), .val (.int p2), .val (.int p3), .val (.long p4), .second, .val (.long cc), .second, .val (.long dd), .second, .val (.double (own_r cc dd)), .second, .val (.long (cc * (1000000000 : Int64))), .second, .val (.long ((cc * (1000000000 : Int64)) / dd)), .second, .val (.long ((cc * (1000000000 : Int64)) % dd)), .second, .val (.int (1 : Int32)), .val (.long u), .second, .val (.long c2), .second, .unset, .unset, .unset] [.null, (.long (u * (1000000000 : Int64))), (.long p4), (.long (c2 * u)), (.ref b116), (.ref b116)])) rfl (by rw [hml]; rfl) (Steps.refl _) (a := b116) (argsL := [(.long (c2 * u)), (.long p4), (.long (u * (1000000000 : Int64))), .null]) (rest := [(.ref b116)]) (lenOf own_pd1 rfl) rfl (by show 2 * 0 + _ ≤ _; exact Nat.le_of_eq rfl) (hb hby at_148) (fun _ _ => ⟨rfl, e116, (by decide : 2 + 0 ≤ _), (by decide : 8 + 0 ≤ _)⟩)
    dsimp only [Pt.U, Pt.locs, Pt.cells, Pt.slots] at X117 l117 y117 z117 st117 hQ117
    subst l117 y117 z117
    obtain ⟨rfl, N117q, Kq117, P117_0, P117_1⟩ := hQ117
    have N117 := Fr.app N111 N117q
    have K117 : Keep h0 T117.heap [] := K116.trans Kq117 (allS (P := fun x => x ∈ [] ∨ h0.size ≤ x) (Or.inr fr116) all0)
    refine own_tr st117 ?_
    show own_Go p.tables e below _ (T117.setTop (mkF m 151 #[.val (.int p0), .val (.int p1), .val (.int p2), .val (.int p3), .val (.long p4), .second, .val (.long cc), .second, .val (.long dd), .second, .val (.double (own_r cc dd)), .second, .val (.long (cc * (1000000000 : Int64))), .second, .val (.long ((cc * (1000000000 : Int64)) / dd)), .second, .val (.long ((cc * (1000000000 : Int64)) % dd)), .second, .val (.int (1 : Int32)), .val (.long u), .second, .val (.long c2), .second, .unset, .unset, .unset] [(.ref b116)]))
    obtain ⟨cq118, kq118, q118a, q118b, q118c⟩ := isOf hZ rfl (A116.keep Kq117)
    obtain ⟨_, _, ⟨T118, L118, k118, n118⟩, -, X118, ⟨Lc118, hQ118, l118, y118, z118⟩, st118⟩ := X117.virtualBack hx (y := (⟨"com/example/marshalyard/marshalyard/bench/RmiCalls$Run", "perSecond", "()D"⟩ : MethodName)) (z := (⟨"com/example/marshalyard/marshalyard/bench/RmiCalls$Run", "perSecond", "()D"⟩ : MethodName)) hown (mvT hZ (hw _ (List.mem_of_getElem? (i := 24) rfl))) (mvT hZ (hw _ (List.mem_of_getElem? (i := 25) rfl))) (notFace_of_selects (args := #[]) (mvT hZ (hw _ (List.mem_of_getElem? (i := 27) rfl)))) (mvT hZ (hw _ (List.mem_of_getElem? (i := 27) rfl))) (mvT hZ (hw _ (List.mem_of_getElem? (i := 26) rfl))) (by decide) (backOf (W := 0) (own_rm4 l Z a0 hw [] b116 (c2 * u) (u * (1000000000 : Int64)) T117.heap n0 (Nat.le_trans Z0 K117.1) P117_0 P117_1 nu) hZ (hw _ (List.mem_of_getElem? (i := 28) rfl)) (hw _ (List.mem_of_getElem? (i := 4) rfl)) (by decide) (by decide)) q118a q118c (g := (mkF m 151 #[.val (.int p0), .val (.int p1), .val (.int p2), .val (.int p3), .val (.long p4), .second, .val (.long cc), .second, .val (.long dd), .second, .val (.double (own_r cc dd)), .second, .val (.long (cc * (1000000000 : Int64))), .second, .val (.long ((cc * (1000000000 : Int64)) / dd)), .second, .val (.long ((cc * (1000000000 : Int64)) % dd)), .second, .val (.int (1 : Int32)), .val (.long u), .second, .val (.long c2), .second, .unset, .unset, .unset] [(.ref b116)])) rfl (by rw [hml]; rfl) (Steps.refl _) (argsL := []) (rest := []) (lenOf own_pd2 rfl) rfl (by show 2 * 0 + _ ≤ _; exact Nat.le_of_eq rfl) (hb hby at_151) (fun _ _ => ⟨rfl, rfl, (by decide : 2 + 0 ≤ _), (by decide : 8 + 0 ≤ _)⟩)
    dsimp only [Pt.U, Pt.locs, Pt.cells, Pt.slots] at X118 l118 y118 z118 st118 hQ118
    subst l118 y118 z118
    obtain ⟨rfl, N118q, eq118⟩ := hQ118
    have N118 := Fr.app N117 N118q
    refine own_tr st118 ?_
    show own_Go p.tables e below _ (T118.setTop (mkF m 154 #[.val (.int p0), .val (.int p1), .val (.int p2), .val (.int p3), .val (.long p4), .second, .val (.long cc), .second, .val (.long dd), .second, .val (.double (own_r cc dd)), .second, .val (.long (cc * (1000000000 : Int64))), .second, .val (.long ((cc * (1000000000 : Int64)) / dd)), .second, .val (.long ((cc * (1000000000 : Int64)) % dd)), .second, .val (.int (1 : Int32)), .val (.long u), .second, .val (.long c2), .second, .unset, .unset, .unset] [(.double (own_r (c2 * u) (u * (1000000000 : Int64))))]))
    refine own_st (fun t_ k_ => XS.dstore X118.here hx rfl (hb hby at_154) rfl (l' := #[.val (.int p0), .val (.int p1), .val (.int p2), .val (.int p3), .val (.long p4), .second, .val (.long cc), .second, .val (.long dd), .second, .val (.double (own_r cc dd)), .second, .val (.long (cc * (1000000000 : Int64))), .second, .val (.long ((cc * (1000000000 : Int64)) / dd)), .second, .val (.long ((cc * (1000000000 : Int64)) % dd)), .second, .val (.int (1 : Int32)), .val (.long u), .second, .val (.long c2), .second, .val (.double (own_r (c2 * u) (u * (1000000000 : Int64)))), .second, .unset]) rfl k_) ?_
    show own_Go p.tables e below _ (T118.setTop (mkF m 156 #[.val (.int p0), .val (.int p1), .val (.int p2), .val (.int p3), .val (.long p4), .second, .val (.long cc), .second, .val (.long dd), .second, .val (.double (own_r cc dd)), .second, .val (.long (cc * (1000000000 : Int64))), .second, .val (.long ((cc * (1000000000 : Int64)) / dd)), .second, .val (.long ((cc * (1000000000 : Int64)) % dd)), .second, .val (.int (1 : Int32)), .val (.long u), .second, .val (.long c2), .second, .val (.double (own_r (c2 * u) (u * (1000000000 : Int64)))), .second, .unset] []))
    refine own_st (fun t_ k_ => XS.dload X118.here hx rfl (hb hby at_156) rfl k_) ?_
    show own_Go p.tables e below _ (T118.setTop (mkF m 158 #[.val (.int p0), .val (.int p1), .val (.int p2), .val (.int p3), .val (.long p4), .second, .val (.long cc), .second, .val (.long dd), .second, .val (.double (own_r cc dd)), .second, .val (.long (cc * (1000000000 : Int64))), .second, .val (.long ((cc * (1000000000 : Int64)) / dd)), .second, .val (.long ((cc * (1000000000 : Int64)) % dd)), .second, .val (.int (1 : Int32)), .val (.long u), .second, .val (.long c2), .second, .val (.double (own_r (c2 * u) (u * (1000000000 : Int64)))), .second, .unset] [(.double (own_r (c2 * u) (u * (1000000000 : Int64))))]))
    refine own_st (fun t_ k_ => XS.lload X118.here hx rfl (hb hby at_158) rfl k_) ?_
    show own_Go p.tables e below _ (T118.setTop (mkF m 160 #[.val (.int p0), .val (.int p1), .val (.int p2), .val (.int p3), .val (.long p4), .second, .val (.long cc), .second, .val (.long dd), .second, .val (.double (own_r cc dd)), .second, .val (.long (cc * (1000000000 : Int64))), .second, .val (.long ((cc * (1000000000 : Int64)) / dd)), .second, .val (.long ((cc * (1000000000 : Int64)) % dd)), .second, .val (.int (1 : Int32)), .val (.long u), .second, .val (.long c2), .second, .val (.double (own_r (c2 * u) (u * (1000000000 : Int64)))), .second, .unset] [(.long c2), (.double (own_r (c2 * u) (u * (1000000000 : Int64))))]))
    refine own_st (fun t_ k_ => XS.l2dS X118.here hx rfl (hb hby at_160) rfl rfl k_) ?_
    show own_Go p.tables e below _ (T118.setTop (mkF m 161 #[.val (.int p0), .val (.int p1), .val (.int p2), .val (.int p3), .val (.long p4), .second, .val (.long cc), .second, .val (.long dd), .second, .val (.double (own_r cc dd)), .second, .val (.long (cc * (1000000000 : Int64))), .second, .val (.long ((cc * (1000000000 : Int64)) / dd)), .second, .val (.long ((cc * (1000000000 : Int64)) % dd)), .second, .val (.int (1 : Int32)), .val (.long u), .second, .val (.long c2), .second, .val (.double (own_r (c2 * u) (u * (1000000000 : Int64)))), .second, .unset] [(.double (FP.l2d c2)), (.double (own_r (c2 * u) (u * (1000000000 : Int64))))]))
    refine own_st (fun t_ k_ => XS.dcmpS X118.here hx rfl (hb hby at_161) rfl rfl k_) ?_
    show own_Go p.tables e below _ (T118.setTop (mkF m 162 #[.val (.int p0), .val (.int p1), .val (.int p2), .val (.int p3), .val (.long p4), .second, .val (.long cc), .second, .val (.long dd), .second, .val (.double (own_r cc dd)), .second, .val (.long (cc * (1000000000 : Int64))), .second, .val (.long ((cc * (1000000000 : Int64)) / dd)), .second, .val (.long ((cc * (1000000000 : Int64)) % dd)), .second, .val (.int (1 : Int32)), .val (.long u), .second, .val (.long c2), .second, .val (.double (own_r (c2 * u) (u * (1000000000 : Int64)))), .second, .unset] [(.int (cmpValue (FP.dcmp (own_r (c2 * u) (u * (1000000000 : Int64))) (FP.l2d c2)) .l))]))
    refine own_st (fun t_ k_ => XS.ifNo X118.here hx rfl (hb hby at_162) rfl ((if0 _ _).trans (teq (own_b3 bc2.1 bc2.2 bu.1 bu.2 .l : (cmpValue (FP.dcmp (own_r (c2 * u) (u * (1000000000 : Int64))) (FP.l2d c2)) .l) = (0 : Int32))).2) k_) ?_
    show own_Go p.tables e below _ (T118.setTop (mkF m 165 #[.val (.int p0), .val (.int p1), .val (.int p2), .val (.int p3), .val (.long p4), .second, .val (.long cc), .second, .val (.long dd), .second, .val (.double (own_r cc dd)), .second, .val (.long (cc * (1000000000 : Int64))), .second, .val (.long ((cc * (1000000000 : Int64)) / dd)), .second, .val (.long ((cc * (1000000000 : Int64)) % dd)), .second, .val (.int (1 : Int32)), .val (.long u), .second, .val (.long c2), .second, .val (.double (own_r (c2 * u) (u * (1000000000 : Int64)))), .second, .unset] []))
    refine own_st (fun t_ k_ => XS.iconst X118.here hx rfl (hb hby at_165) k_) ?_
    show own_Go p.tables e below _ (T118.setTop (mkF m 166 #[.val (.int p0), .val (.int p1), .val (.int p2), .val (.int p3), .val (.long p4), .second, .val (.long cc), .second, .val (.long dd), .second, .val (.double (own_r cc dd)), .second, .val (.long (cc * (1000000000 : Int64))), .second, .val (.long ((cc * (1000000000 : Int64)) / dd)), .second, .val (.long ((cc * (1000000000 : Int64)) % dd)), .second, .val (.int (1 : Int32)), .val (.long u), .second, .val (.long c2), .second, .val (.double (own_r (c2 * u) (u * (1000000000 : Int64)))), .second, .unset] [(.int (1 : Int32))]))
    refine own_st (fun t_ k_ => XS.goto X118.here hx rfl (pc0 := 166) (pc' := 170) rfl (hb hby at_166) (by decide) (by decide) k_) ?_
    show own_Go p.tables e below _ (T118.setTop (mkF m 170 #[.val (.int p0), .val (.int p1), .val (.int p2), .val (.int p3), .val (.long p4), .second, .val (.long cc), .second, .val (.long dd), .second, .val (.double (own_r cc dd)), .second, .val (.long (cc * (1000000000 : Int64))), .second, .val (.long ((cc * (1000000000 : Int64)) / dd)), .second, .val (.long ((cc * (1000000000 : Int64)) % dd)), .second, .val (.int (1 : Int32)), .val (.long u), .second, .val (.long c2), .second, .val (.double (own_r (c2 * u) (u * (1000000000 : Int64)))), .second, .unset] [(.int (1 : Int32))]))
    refine own_st (fun t_ k_ => XS.istore X118.here hx rfl (hb hby at_170) rfl (l' := #[.val (.int p0), .val (.int p1), .val (.int p2), .val (.int p3), .val (.long p4), .second, .val (.long cc), .second, .val (.long dd), .second, .val (.double (own_r cc dd)), .second, .val (.long (cc * (1000000000 : Int64))), .second, .val (.long ((cc * (1000000000 : Int64)) / dd)), .second, .val (.long ((cc * (1000000000 : Int64)) % dd)), .second, .val (.int (1 : Int32)), .val (.long u), .second, .val (.long c2), .second, .val (.double (own_r (c2 * u) (u * (1000000000 : Int64)))), .second, .val (.int (1 : Int32))]) rfl k_) ?_
    show own_Go p.tables e below _ (T118.setTop (mkF m 172 #[.val (.int p0), .val (.int p1), .val (.int p2), .val (.int p3), .val (.long p4), .second, .val (.long cc), .second, .val (.long dd), .second, .val (.double (own_r cc dd)), .second, .val (.long (cc * (1000000000 : Int64))), .second, .val (.long ((cc * (1000000000 : Int64)) / dd)), .second, .val (.long ((cc * (1000000000 : Int64)) % dd)), .second, .val (.int (1 : Int32)), .val (.long u), .second, .val (.long c2), .second, .val (.double (own_r (c2 * u) (u * (1000000000 : Int64)))), .second, .val (.int (1 : Int32))] []))
    refine own_st (fun t_ k_ => XS.iload X118.here hx rfl (hb hby at_172) rfl k_) ?_
    show own_Go p.tables e below _ (T118.setTop (mkF m 174 #[.val (.int p0), .val (.int p1), .val (.int p2), .val (.int p3), .val (.long p4), .second, .val (.long cc), .second, .val (.long dd), .second, .val (.double (own_r cc dd)), .second, .val (.long (cc * (1000000000 : Int64))), .second, .val (.long ((cc * (1000000000 : Int64)) / dd)), .second, .val (.long ((cc * (1000000000 : Int64)) % dd)), .second, .val (.int (1 : Int32)), .val (.long u), .second, .val (.long c2), .second, .val (.double (own_r (c2 * u) (u * (1000000000 : Int64)))), .second, .val (.int (1 : Int32))] [(.int (1 : Int32))]))
    refine own_st (fun t_ k_ => XS.ifNo X118.here hx rfl (hb hby at_174) rfl ((if0 _ _).trans (feq (by decide : ¬ ((1 : Int32) = (0 : Int32)))).1) k_) ?_
    show own_Go p.tables e below _ (T118.setTop (mkF m 177 #[.val (.int p0), .val (.int p1), .val (.int p2), .val (.int p3), .val (.long p4), .second, .val (.long cc), .second, .val (.long dd), .second, .val (.double (own_r cc dd)), .second, .val (.long (cc * (1000000000 : Int64))), .second, .val (.long ((cc * (1000000000 : Int64)) / dd)), .second, .val (.long ((cc * (1000000000 : Int64)) % dd)), .second, .val (.int (1 : Int32)), .val (.long u), .second, .val (.long c2), .second, .val (.double (own_r (c2 * u) (u * (1000000000 : Int64)))), .second, .val (.int (1 : Int32))] []))
    refine own_st (fun t_ k_ => XS.iload X118.here hx rfl (hb hby at_177) rfl k_) ?_
    show own_Go p.tables e below _ (T118.setTop (mkF m 179 #[.val (.int p0), .val (.int p1), .val (.int p2), .val (.int p3), .val (.long p4), .second, .val (.long cc), .second, .val (.long dd), .second, .val (.double (own_r cc dd)), .second, .val (.long (cc * (1000000000 : Int64))), .second, .val (.long ((cc * (1000000000 : Int64)) / dd)), .second, .val (.long ((cc * (1000000000 : Int64)) % dd)), .second, .val (.int (1 : Int32)), .val (.long u), .second, .val (.long c2), .second, .val (.double (own_r (c2 * u) (u * (1000000000 : Int64)))), .second, .val (.int (1 : Int32))] [(.int (1 : Int32))]))
    refine own_st (fun t_ k_ => XS.ifNo X118.here hx rfl (hb hby at_179) rfl ((if0 _ _).trans (feq (by decide : ¬ ((1 : Int32) = (0 : Int32)))).1) k_) ?_
    show own_Go p.tables e below _ (T118.setTop (mkF m 182 #[.val (.int p0), .val (.int p1), .val (.int p2), .val (.int p3), .val (.long p4), .second, .val (.long cc), .second, .val (.long dd), .second, .val (.double (own_r cc dd)), .second, .val (.long (cc * (1000000000 : Int64))), .second, .val (.long ((cc * (1000000000 : Int64)) / dd)), .second, .val (.long ((cc * (1000000000 : Int64)) % dd)), .second, .val (.int (1 : Int32)), .val (.long u), .second, .val (.long c2), .second, .val (.double (own_r (c2 * u) (u * (1000000000 : Int64)))), .second, .val (.int (1 : Int32))] []))
    refine own_st (fun t_ k_ => XS.iconst X118.here hx rfl (hb hby at_182) k_) ?_
    show own_Go p.tables e below _ (T118.setTop (mkF m 183 #[.val (.int p0), .val (.int p1), .val (.int p2), .val (.int p3), .val (.long p4), .second, .val (.long cc), .second, .val (.long dd), .second, .val (.double (own_r cc dd)), .second, .val (.long (cc * (1000000000 : Int64))), .second, .val (.long ((cc * (1000000000 : Int64)) / dd)), .second, .val (.long ((cc * (1000000000 : Int64)) % dd)), .second, .val (.int (1 : Int32)), .val (.long u), .second, .val (.long c2), .second, .val (.double (own_r (c2 * u) (u * (1000000000 : Int64)))), .second, .val (.int (1 : Int32))] [(.int (1 : Int32))]))
    refine own_st (fun t_ k_ => XS.goto X118.here hx rfl (pc0 := 183) (pc' := 187) rfl (hb hby at_183) (by decide) (by decide) k_) ?_
    show own_Go p.tables e below _ (T118.setTop (mkF m 187 #[.val (.int p0), .val (.int p1), .val (.int p2), .val (.int p3), .val (.long p4), .second, .val (.long cc), .second, .val (.long dd), .second, .val (.double (own_r cc dd)), .second, .val (.long (cc * (1000000000 : Int64))), .second, .val (.long ((cc * (1000000000 : Int64)) / dd)), .second, .val (.long ((cc * (1000000000 : Int64)) % dd)), .second, .val (.int (1 : Int32)), .val (.long u), .second, .val (.long c2), .second, .val (.double (own_r (c2 * u) (u * (1000000000 : Int64)))), .second, .val (.int (1 : Int32))] [(.int (1 : Int32))]))
    exact own_ret (w := (.int (1 : Int32))) X118 hx hnl Bd.returns rfl (Or.inl ⟨rfl, by decide, _, rfl⟩) (hb hby at_187) ⟨rfl, N118, (by rw [eq118]; exact K117)⟩ (by decide) (by decide)

set_option maxRecDepth 65536 in
set_option maxHeartbeats 40000000 in
theorem comes_1 {Post : Tables → Env → Array Value → State → Outcome → State → Prop} (hpost : ∀ tb e args s v u, (limb_1_1.after args s (.returned v) u = true ∧ limb_1_2.after args s (.returned v) u = true ∧ True) → FrameEnd s (.returned v) u (Jvm.fieldLocs frame_1_writes args s ++ Jvm.arrayLocs frame_1_arrays args s ++ Jvm.staticLocs frame_1_statics s) 16 128 → Post tb e args s (.returned v) u) :
    ArmFor flags0 classFile x code maxLocals ret World_1 tables_1 room_1 Calls_1 rest_1 Pre_1 Post := by
  intro l hfl _ _ p e ha hc hk s m args below hf hA hF happ hP
  obtain ⟨hcalls, hrest, hpre⟩ := hP
  obtain ⟨-, -, -, hnamed, -, -, -, hat⟩ := (Spec.applies_iff hf).mp happ
  obtain ⟨hg, hn⟩ := and_e (Cond.before_iff.mp (show (Jvm.Cond.and given_1 narrow_1).before args s = true from hpre))
  obtain ⟨hcount, g0⟩ := and_e hg
  obtain ⟨v0, g1⟩ := and_e g0
  obtain ⟨v1, g2⟩ := and_e g1
  obtain ⟨v2, g3⟩ := and_e g2
  obtain ⟨v3, g4⟩ := and_e g3
  have v4 := g4
  obtain ⟨w0, w1, w2, w3, w4, rfl⟩ : ∃ w0 w1 w2 w3 w4 : Value, args = #[w0, w1, w2, w3, w4] := by
    have hs : args.size = 5 := by simpa [Cond.value, given_1] using hcount
    obtain ⟨L⟩ := args
    match L, hs with
    | [w0, w1, w2, w3, w4], _ => exact ⟨w0, w1, w2, w3, w4, rfl⟩
  have hw := fun d (hd : d ∈ tables_1) => atoms_spec (ws := Jvm.Cond.code x code maxLocals ret :: tables_1) hat d (List.mem_cons_of_mem _ hd)
  have hfit : Fit s := fun {y c} hc i hi => by
    obtain ⟨ha, rfl⟩ := Array.getElem?_eq_some_iff.mp hc
    have q := List.all_eq_true.mp ((Array.all_eq_true_iff_forall_mem.mp hF) _ (Array.getElem_mem ha)) i (List.mem_range.mpr hi)
    simpa [Array.getElem?_eq_getElem hi] using q
  obtain ⟨i0, ei0⟩ := is_v v0
  obtain rfl : w0 = (.int i0) := Option.some.inj ei0
  obtain ⟨i1, ei1⟩ := is_v v1
  obtain rfl : w1 = (.int i1) := Option.some.inj ei1
  obtain ⟨i2, ei2⟩ := is_v v2
  obtain rfl : w2 = (.int i2) := Option.some.inj ei2
  obtain ⟨i3, ei3⟩ := is_v v3
  obtain rfl : w3 = (.int i3) := Option.some.inj ei3
  obtain ⟨i4, ei4⟩ := isL_v v4
  obtain rfl : w4 = (.long i4) := Option.some.inj ei4
  obtain ⟨n, o, h1, h2, h3, _, L, rfl, ⟨rfl, N, -⟩, hq⟩ := own_rm0 l s _ hw tables_1 i0 i1 i2 i3 i4 s.heap s.heap.size (Nat.le_refl _) p e ha hc hk s m _ below hf ((Spec.applies_iff_loose hf).mp happ).1 ⟨rfl, State.Warmed39.refl s, rfl⟩ trivial
  refine ⟨n, _, h1, h2, h3, hpost _ _ _ _ _ _ ⟨Cond.after_iff.mpr rfl, Cond.after_iff.mpr (eq_i res_at (Term.int_eval (1)) rfl), trivial⟩ ⟨hq.1, hq.2.1, (hq.2.2.sift fun y hy => Or.inr (N y hy)).mono (by decide) (by decide)⟩⟩
theorem main_1_1 : Claimed_1_1 := comes_1 fun _ _ _ _ _ _ h hF => ⟨h.1, hF⟩
theorem main_1_2 : Claimed_1_2 := comes_1 fun _ _ _ _ _ _ h hF => ⟨h.2.1, hF⟩

end Jvm.Pilot.@@N@@
namespace Jvm.Pilot.@@N@@
open Jvm Jvm.ClassFile Sem Op Lib Jvm.Free Jvm.Stand Jvm.Pilot.@@N@@.Jvm.D
/-! MADE BY PROGRAM (witnessworld.py) out of the Statement's table words and the real class files: 10 classes; the members and pool entries that the words name. The judged class is class 1, her method 1. -/
namespace start1
open Jvm.ClassFile
def u (s : String) : CpInfo := .utf8 (stringToUtf16 s)
/-- a pool by its gaps: so many unusable entries, then the entry; so many at the end -/
def gap : Nat → List CpInfo → List CpInfo
  | 0, r => r
  | n + 1, r => .unusable :: gap n r
def poolList (es : List (Nat × CpInfo)) (last : Nat) : List CpInfo := es.foldr (fun e r => gap e.1 (e.2 :: r)) (gap last [])
def pool (es : List (Nat × CpInfo)) (last : Nat) : Array CpInfo := ⟨poolList es last⟩
def fileOf (pool : Array CpInfo) (this : Nat) (attrs : Array Attribute := #[]) (ms : Array MethodInfo := #[]) (fl : Nat := 33) (sup : Nat := 0) (ifs : Array Nat := #[]) (fds : Array FieldInfo := #[]) : ClassFile where
  minorVersion := 0
  majorVersion := 65
  constantPool := pool
  accessFlags := fl
  thisClass := this
  superClass := sup
  interfaces := ifs
  fields := fds
  methods := ms
  attributes := attrs
def plain (name : String) (sup : Option ClassId) : Class where
  name := name
  kind := .ordinary
  loader := none
  accessFlags := 33
  super := sup
  interfaces := #[]
  cf := none
  fields := #[]
  methods := #[]
  instanceTypes := #[]
  staticTypes := #[]
  resolved := #[]
  callSites := []
  init := .initialized
  statics := none
  mirror := none

def pool0 : Array CpInfo := pool [(5, u "<init>"), (0, u "()V"), (1, .class_ 10), (1, u "java/lang/Object")] 113

def k0c0 : Code := { maxStack := 0, maxLocals := 1, code := object_method_1_code, exceptionTable := #[], attributes := #[] }
def k0m0 : Method := { name := "<init>", desc := "()V", sig := { parameters := [], returnType := none }, accessFlags := 1, code := some k0c0 }
/-- java/lang/Object -/
def k0 : Class := { plain "java/lang/Object" none with
  accessFlags := 33
  interfaces := #[]
  cf := some (fileOf pool0 8 #[] #[{ accessFlags := 1, nameIndex := 5, descriptorIndex := 6, attributes := #[] }] 33 0 #[] #[])
  fields := #[]
  methods := #[k0m0]
  instanceTypes := #[]
  staticTypes := #[]
  resolved := Array.replicate 124 none
  statics := none }

def pool1 : Array CpInfo := pool [(2, .class_ 4), (1, u "java/lang/Object"), (0, u "<init>"), (0, u "()V"), (0, .long 65535), (1, .long 63), (1, .class_ 12), (0, u "com/example/marshalyard/marshalyard/bench/RmiCalls$Run"), (0, .methodref 11 14), (0, .nameAndType 5 15), (0, u "(JJJLjava/lang/String;)V"), (0, .methodref 11 17), (0, .nameAndType 18 19), (0, u "perSecond"), (0, u "()D"), (0, .long 1000000000), (1, .long 4095), (1, .long 2047), (1, .class_ 27), (0, u "com/example/marshalyard/marshalyard/bench/RunPerSecondPinLaw"), (2, u "law"), (0, u "(IIIIJ)Z")] 7

def k1m0 : Method := { name := "<init>", desc := "()V", sig := { parameters := [], returnType := none }, accessFlags := 1, code := none }
def k1c1 : Code := { maxStack := 10, maxLocals := 26, code := code, exceptionTable := #[], attributes := #[] }
def k1m1 : Method := { name := "law", desc := "(IIIIJ)Z", sig := { parameters := [.int, .int, .int, .int, .long], returnType := some .boolean }, accessFlags := 9, code := some k1c1 }
/-- com/example/marshalyard/marshalyard/bench/RunPerSecondPinLaw -/
def k1 : Class := { plain "com/example/marshalyard/marshalyard/bench/RunPerSecondPinLaw" (some 0) with
  accessFlags := 49
  interfaces := #[]
  cf := some (fileOf pool1 26 #[] #[{ accessFlags := 1, nameIndex := 5, descriptorIndex := 6, attributes := #[] }, { accessFlags := 9, nameIndex := 30, descriptorIndex := 31, attributes := #[] }] 49 2 #[] #[])
  fields := #[]
  methods := #[k1m0, k1m1]
  instanceTypes := #[]
  staticTypes := #[]
  resolved := Array.replicate 39 none
  statics := none }

def pool2 : Array CpInfo := pool [(1, .methodref 2 3), (0, .class_ 4), (0, .nameAndType 5 6), (0, u "java/lang/Object"), (0, u "<init>"), (0, u "()V"), (0, .class_ 8), (0, u "java/lang/Record")] 13

def k2c0 : Code := { maxStack := 1, maxLocals := 1, code := jdk_30_method_1_code, exceptionTable := #[], attributes := #[] }
def k2m0 : Method := { name := "<init>", desc := "()V", sig := { parameters := [], returnType := none }, accessFlags := 4, code := some k2c0 }
/-- java/lang/Record -/
def k2 : Class := { plain "java/lang/Record" (some 0) with
  accessFlags := 1057
  interfaces := #[]
  cf := some (fileOf pool2 7 #[] #[{ accessFlags := 4, nameIndex := 5, descriptorIndex := 6, attributes := #[] }] 1057 2 #[] #[])
  fields := #[]
  methods := #[k2m0]
  instanceTypes := #[]
  staticTypes := #[]
  resolved := Array.replicate 22 none
  statics := none }

def pool3 : Array CpInfo := pool [(1, .methodref 2 3), (0, .class_ 4), (0, .nameAndType 5 6), (0, u "java/lang/Record"), (0, u "<init>"), (0, u "()V"), (0, .fieldref 8 9), (0, .class_ 10), (0, .nameAndType 11 12), (0, u "com/example/marshalyard/marshalyard/bench/RmiCalls$Run"), (0, u "calls"), (0, u "J"), (0, .fieldref 8 14), (0, .nameAndType 15 12), (0, u "failed"), (0, .fieldref 8 17), (0, .nameAndType 18 12), (0, u "nanos"), (0, .fieldref 8 20), (0, .nameAndType 21 22), (0, u "firstFailure"), (0, u "Ljava/lang/String;"), (0, .double 4741671816366391296), (13, u "(JJJLjava/lang/String;)V"), (3, u "perSecond"), (0, u "()D"), (7, .class_ 51), (0, u "com/example/marshalyard/marshalyard/bench/RmiCalls")] 22

def k3c0 : Code := { maxStack := 3, maxLocals := 8, code := prog_15_method_1_code, exceptionTable := #[], attributes := #[] }
def k3m0 : Method := { name := "<init>", desc := "(JJJLjava/lang/String;)V", sig := { parameters := [.long, .long, .long, (.object "java/lang/String")], returnType := none }, accessFlags := 0, code := some k3c0 }
def k3c1 : Code := { maxStack := 4, maxLocals := 1, code := prog_15_method_2_code, exceptionTable := #[], attributes := #[] }
def k3m1 : Method := { name := "perSecond", desc := "()D", sig := { parameters := [], returnType := some .double }, accessFlags := 0, code := some k3c1 }
/-- com/example/marshalyard/marshalyard/bench/RmiCalls$Run -/
def k3 : Class := { plain "com/example/marshalyard/marshalyard/bench/RmiCalls$Run" (some 2) with
  accessFlags := 48
  interfaces := #[]
  cf := some (fileOf pool3 8 #[.nestHost 50] #[{ accessFlags := 0, nameIndex := 5, descriptorIndex := 37, attributes := #[] }, { accessFlags := 0, nameIndex := 41, descriptorIndex := 42, attributes := #[] }] 48 2 #[] #[{ accessFlags := 18, nameIndex := 11, descriptorIndex := 12, attributes := #[] }, { accessFlags := 18, nameIndex := 15, descriptorIndex := 12, attributes := #[] }, { accessFlags := 18, nameIndex := 18, descriptorIndex := 12, attributes := #[] }, { accessFlags := 18, nameIndex := 21, descriptorIndex := 22, attributes := #[] }])
  fields := #[{ name := "calls", type := .long, accessFlags := 18, slot := 0, constantValue := 0 }, { name := "failed", type := .long, accessFlags := 18, slot := 1, constantValue := 0 }, { name := "nanos", type := .long, accessFlags := 18, slot := 2, constantValue := 0 }, { name := "firstFailure", type := (.object "java/lang/String"), accessFlags := 18, slot := 3, constantValue := 0 }]
  methods := #[k3m0, k3m1]
  instanceTypes := #[.long, .long, .long, (.object "java/lang/String")]
  staticTypes := #[]
  resolved := Array.replicate 74 none
  statics := none }

def pool4 : Array CpInfo := pool [(1, u "java/lang/Cloneable"), (0, .class_ 1), (0, u "java/lang/Object"), (0, .class_ 3)] 3

/-- java/lang/Cloneable -/
def k4 : Class := { plain "java/lang/Cloneable" (some 0) with
  accessFlags := 1537
  interfaces := #[]
  cf := some (fileOf pool4 2 #[] #[] 1537 4 #[] #[])
  fields := #[]
  methods := #[]
  instanceTypes := #[]
  staticTypes := #[]
  resolved := Array.replicate 8 none
  statics := none }

def pool5 : Array CpInfo := pool [(1, u "java/io/Serializable"), (0, .class_ 1), (0, u "java/lang/Object"), (0, .class_ 3)] 3

/-- java/io/Serializable -/
def k5 : Class := { plain "java/io/Serializable" (some 0) with
  accessFlags := 1537
  interfaces := #[]
  cf := some (fileOf pool5 2 #[] #[] 1537 4 #[] #[])
  fields := #[]
  methods := #[]
  instanceTypes := #[]
  staticTypes := #[]
  resolved := Array.replicate 8 none
  statics := none }

/-- the primitive byte -/
def k6 : Class := { plain "byte" none with kind := .primitive 'B', accessFlags := 0x411 }
/-- [B -/
def k7 : Class := { plain "[B" (some 0) with kind := .array 6 .byte, interfaces := #[4, 5], accessFlags := 1041 }

/-- the primitive int -/
def k8 : Class := { plain "int" none with kind := .primitive 'I', accessFlags := 0x411 }
/-- [I -/
def k9 : Class := { plain "[I" (some 0) with kind := .array 8 .int, interfaces := #[4, 5], accessFlags := 1041 }

def heap : Heap := #[]
def classes : Array Class := #[k0, k1, k2, k3, k4, k5, k6, k7, k8, k9]
def interned : List (Array UInt16 × Addr) := []
def slotsUsed : Nat := 0
def theMethod : MethodId := ⟨1, 1⟩
def args0 : Array Value := #[.int 5, .int 6, .int 7, .int 8, .long 9]
def aboutOver (below : List Frame) : State where
  vm := { classes := classes, interned := interned.toArray }
  heap := heap
  slotsUsed := slotsUsed
  threads := #[{ frames := .invoking theMethod args0 :: below }]
def below0 : List Frame := [.native { method := ⟨0, 0⟩, args := #[] }]
def about1 : State := aboutOver below0
def p0 : Program := .bare "" "" ""
def e0 : Env := launch0.env 0 0 0
theorem w_frames : about1.frames = Frame.invoking theMethod args0 :: below0 := rfl
set_option maxRecDepth 65536 in
theorem w_args : argsFit about1.vm theMethod args0 = true := by decide +kernel
set_option maxRecDepth 65536 in
theorem w_heap : heapFits about1 = true := by decide +kernel
set_option maxRecDepth 65536 in
theorem w_runnable : about1.curStatus? = some .runnable := by decide +kernel
set_option maxRecDepth 65536 in
theorem w_alone : about1.alone = true := by decide +kernel
set_option maxRecDepth 65536 in
theorem w_named : about1.methodNamed? x = some theMethod := by decide +kernel
set_option maxRecDepth 65536 in
theorem w_hears : about1.hears theMethod below0 = true := by decide +kernel
set_option maxRecDepth 65536 in
theorem w_ripe : about1.ripe theMethod args0 below0 = true := by decide +kernel
theorem w_running : about1.status = .running := rfl
set_option maxRecDepth 65536 in
theorem w_room : about1.hasRoom e0.platform room_1 = true :=
  launch0.hasRoom_least _ room_1 (by decide +kernel) (by decide +kernel) (by decide +kernel) (by decide +kernel) (by decide +kernel) (by decide +kernel)
theorem allAtoms_all (ts : List Jvm.Cond) (a : Array Jvm.Value) (st : Jvm.State) : (allAtoms ts).before a st = ts.all (fun c => c.before a st) := by
  induction ts with
  | nil => rfl
  | cons c t ih =>
    show (Jvm.Cond.and c (allAtoms t)).before a st = _
    rw [Jvm.Cond.before_and, ih, List.all_cons]
def words1 : List Jvm.Cond := Jvm.Cond.code x code maxLocals ret :: tables_1
/-- a 'code' word, met by the world's own term for the bytes: nothing is compared byte by byte -/
theorem code_word {y : MethodName} {bytes : ByteArray} {mx : Nat} {rt : Option FieldType} {a : Array Value} {s : State} {m : MethodId} {meth : Method} {c : Code} (h1 : s.methodNamed? y = some m) (h2 : s.vm.method? m = some meth) (h3 : meth.code = some c) (h4 : c.code = bytes)
    (h5 : (c.maxLocals == mx && c.exceptionTable.isEmpty && decide (c.maxStack ≤ mostOperands) && decide (meth.sig.returnType = rt) && !meth.locks && decide (parseMethodDescriptor y.desc = some meth.sig)) = true) : (Jvm.Cond.code y bytes mx rt).before a s = true := by
  simp only [Bool.and_eq_true, beq_iff_eq, Bool.not_eq_true', decide_eq_true_eq] at h5
  obtain ⟨⟨⟨⟨⟨g1, g2⟩, g3⟩, g4⟩, g5⟩, g6⟩ := h5
  simp [Cond.before, Cond.holds, Cond.value, h1, h2, h3, h4, g1, g2, g3, g4, g5, g6]
def isCode : Jvm.Cond → Bool
  | .code _ _ _ _ => true
  | _ => false
theorem all_split {L : List Jvm.Cond} {P : Jvm.Cond → Bool} (h1 : L.all (fun c => isCode c || P c) = true) (h2 : ∀ c ∈ L.filter isCode, P c = true) : L.all P = true := by
  refine List.all_eq_true.mpr fun c hc => ?_
  have h := List.all_eq_true.mp h1 c hc
  rcases Bool.eq_false_or_eq_true (isCode c) with hi | hi
  · exact h2 c (List.mem_filter.mpr ⟨hc, hi⟩)
  · simpa [hi] using h
set_option maxRecDepth 65536 in
theorem w_c0 : (Jvm.Cond.code x code maxLocals ret).before args0 about1 = true := code_word (m := ⟨1, 1⟩) (meth := k1m1) (c := k1c1) (by decide +kernel) rfl rfl rfl (by decide +kernel)
set_option maxRecDepth 65536 in
theorem w_c1 : (Jvm.Cond.code ({ cls := "com/example/marshalyard/marshalyard/bench/RmiCalls$Run", name := "<init>", desc := "(JJJLjava/lang/String;)V" } : Jvm.MethodName) prog_15_method_1_code (8 : Nat) (Option.none : Option Jvm.ClassFile.FieldType)).before args0 about1 = true := code_word (m := ⟨3, 0⟩) (meth := k3m0) (c := k3c0) (by decide +kernel) rfl rfl rfl (by decide +kernel)
set_option maxRecDepth 65536 in
theorem w_c2 : (Jvm.Cond.code ({ cls := "java/lang/Record", name := "<init>", desc := "()V" } : Jvm.MethodName) jdk_30_method_1_code (1 : Nat) (Option.none : Option Jvm.ClassFile.FieldType)).before args0 about1 = true := code_word (m := ⟨2, 0⟩) (meth := k2m0) (c := k2c0) (by decide +kernel) rfl rfl rfl (by decide +kernel)
set_option maxRecDepth 65536 in
theorem w_c3 : (Jvm.Cond.code ({ cls := "java/lang/Object", name := "<init>", desc := "()V" } : Jvm.MethodName) object_method_1_code (1 : Nat) (Option.none : Option Jvm.ClassFile.FieldType)).before args0 about1 = true := code_word (m := ⟨0, 0⟩) (meth := k0m0) (c := k0c0) (by decide +kernel) rfl rfl rfl (by decide +kernel)
set_option maxRecDepth 65536 in
theorem w_c4 : (Jvm.Cond.code ({ cls := "com/example/marshalyard/marshalyard/bench/RmiCalls$Run", name := "perSecond", desc := "()D" } : Jvm.MethodName) prog_15_method_2_code (1 : Nat) (Option.some Jvm.ClassFile.FieldType.double)).before args0 about1 = true := code_word (m := ⟨3, 1⟩) (meth := k3m1) (c := k3c1) (by decide +kernel) rfl rfl rfl (by decide +kernel)
def codes1 : List Jvm.Cond := [Jvm.Cond.code x code maxLocals ret, Jvm.Cond.code ({ cls := "com/example/marshalyard/marshalyard/bench/RmiCalls$Run", name := "<init>", desc := "(JJJLjava/lang/String;)V" } : Jvm.MethodName) prog_15_method_1_code (8 : Nat) (Option.none : Option Jvm.ClassFile.FieldType), Jvm.Cond.code ({ cls := "java/lang/Record", name := "<init>", desc := "()V" } : Jvm.MethodName) jdk_30_method_1_code (1 : Nat) (Option.none : Option Jvm.ClassFile.FieldType), Jvm.Cond.code ({ cls := "java/lang/Object", name := "<init>", desc := "()V" } : Jvm.MethodName) object_method_1_code (1 : Nat) (Option.none : Option Jvm.ClassFile.FieldType), Jvm.Cond.code ({ cls := "com/example/marshalyard/marshalyard/bench/RmiCalls$Run", name := "perSecond", desc := "()D" } : Jvm.MethodName) prog_15_method_2_code (1 : Nat) (Option.some Jvm.ClassFile.FieldType.double)]
set_option maxRecDepth 65536 in
theorem codes_eq : words1.filter isCode = codes1 := rfl
theorem w_codes : ∀ c ∈ words1.filter isCode, c.before args0 about1 = true := by
  rw [codes_eq]
  intro c hc
  simp only [codes1, List.mem_cons, List.not_mem_nil, or_false] at hc
  rcases hc with rfl | rfl | rfl | rfl | rfl
  · exact w_c0
  · exact w_c1
  · exact w_c2
  · exact w_c3
  · exact w_c4
set_option maxRecDepth 65536 in
theorem w_t1 : (words1.take 24).all (fun c => isCode c || c.before args0 about1) = true := by decide +kernel
set_option maxRecDepth 65536 in
theorem w_t2 : (words1.drop 24).all (fun c => isCode c || c.before args0 about1) = true := by decide +kernel
theorem w_tables : (allAtoms (Jvm.Cond.code x code maxLocals ret :: tables_1)).before args0 about1 = true := by
  rw [allAtoms_all]
  show words1.all (fun c => c.before args0 about1) = true
  refine all_split ?_ w_codes
  rw [← List.take_append_drop 24 words1, List.all_append, w_t1, w_t2]
  rfl
set_option maxRecDepth 65536 in
theorem w_case : (Jvm.Cond.and given_1 narrow_1).before args0 about1 = true := by decide +kernel
theorem w_applies : (headSpec (Jvm.Cond.code x code maxLocals ret :: tables_1) room_1).applies x e0.platform about1 = true :=
  (Spec.applies_iff w_frames).mpr ⟨w_running, w_runnable, w_alone, w_named, w_hears, w_ripe, w_room, w_tables⟩
theorem atStart : AtStart classFile x code maxLocals ret World_1 tables_1 room_1 Calls_1 rest_1 Pre_1 launch0 p0 e0 about1 theMethod args0 below0 :=
  ⟨lists_1, trivial, launch0.admits_env _ _ _, launch0.least_env, fairChoices_fair.cas, fairChoices_fair.clock, w_frames, w_args, w_heap, w_applies, trivial, trivial, w_case⟩
end start1
theorem witness_1 : WitnessClaimed_1 := ⟨start1.p0, start1.e0, start1.about1, start1.theMethod, start1.args0, start1.below0, start1.atStart⟩
end Jvm.Pilot.@@N@@
