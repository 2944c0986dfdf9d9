import JvmDerived
import JvmDerived.Pilot.@@N@@Statement
import JvmDerived.Pilot.@@N@@Code
set_option linter.unusedVariables false
set_option linter.unusedSimpArgs false
namespace Jvm.Pilot.@@N@@
open Jvm Jvm.ClassFile Sem Op Lib Jvm.Free Jvm.Stand Jvm.LawKit Jvm.RoadKit Bundle Jvm.Pilot.@@N@@.Jvm.D

section Own
variable {p : Program} {l : Launch} {e : Env} {R : Room} {s : State} {m : MethodId} {args : Array Value} {below : List Frame} {meth : Method} {c : Code} {T : State} {locs : List Loc} {cells slots : Nat} {Z : State} {h h' : Heap}
def own_Go (tb : Tables) (e : Env) (below : List Frame) (P : State → Outcome → Prop) (A : State) : Prop := ∃ t o, Steps tb e below A t ∧ P t o
def own_P (below : List Frame) (s : State) (Q : Option Value → Heap → List Loc → Prop) (kc ks : Nat) (t : State) (o : Outcome) : Prop := t.status = .running ∧ Ended t below o ∧ ∃ v L, o = .returned v ∧ Q v t.heap L ∧ FrameEnd s o t L kc ks
theorem own_st {tb : Tables} {P : State → Outcome → Prop} {A B : State} (k : ∀ t, Steps tb e below B t → Steps tb e below A t) (h : own_Go tb e below P B) : own_Go tb e below P A := by
  obtain ⟨t, o, h1, h2⟩ := h
  exact ⟨t, o, k t h1, h2⟩
theorem own_tr {tb : Tables} {P : State → Outcome → Prop} {A B : State} (k : Steps tb e below A B) (h : own_Go tb e below P B) : own_Go tb e below P A := by
  obtain ⟨t, o, h1, h2⟩ := h
  exact ⟨t, o, k.trans h1, h2⟩
theorem own_ret (X : Stand p l e R s m args below meth c T locs cells slots) (hx : p.tables.exec = Jvm.exec) (hnl : meth.locks = false) {pc : Nat} {Ls : Array Slot} {w : Value} {t : FieldType} {i : Instr} {rest : List Value} (hret : meth.sig.returnType = some t) (hn : narrow t w = w)
    (hi : (i = .ireturn ∧ (t = .int ∨ t = .boolean ∨ t = .byte ∨ t = .char ∨ t = .short) ∧ ∃ z, w = .int z) ∨ (i = .lreturn ∧ t = .long ∧ ∃ z, w = .long z) ∨ (i = .dreturn ∧ t = .double ∧ ∃ z, w = .double z) ∨ (i = .freturn ∧ t = .float ∧ ∃ z, w = .float z) ∨ (i = .areturn ∧ t.isReference = true ∧ w.isRef = true))
    (hd : decode c.code pc = .ok (i, 1)) {Q : Option Value → Heap → List Loc → Prop} {kc ks : Nat} (hq : Q (some w) T.heap locs) (hc : cells ≤ kc) (hs : slots ≤ ks) : own_Go p.tables e below (own_P below s Q kc ks) (T.setTop (mkF m pc Ls (w :: rest))) := by
  obtain ⟨fs, hr, hrun, hended, hW, hsame⟩ := X.leave (v := some w) (fun h => by rw [hret] at h; cases h) hnl
  exact ⟨_, _, retOut X hx hret hn hi hd hr, hrun, hended, _, _, rfl, hq, ⟨_, rfl⟩, hW, hsame.mono hc hs⟩
theorem own_ret0 (X : Stand p l e R s m args below meth c T locs cells slots) (hx : p.tables.exec = Jvm.exec) (hnl : meth.locks = false) {pc : Nat} {Ls : Array Slot} (hret : meth.sig.returnType = none)
    (hd : decode c.code pc = .ok (.return_, 1)) {Q : Option Value → Heap → List Loc → Prop} {kc ks : Nat} (hq : Q none T.heap locs) (hc : cells ≤ kc) (hs : slots ≤ ks) : own_Go p.tables e below (own_P below s Q kc ks) (T.setTop (mkF m pc Ls [])) := by
  obtain ⟨fs, hr, hrun, hended, hW, hsame⟩ := X.leave (v := none) (fun _ => rfl) hnl
  exact ⟨_, _, X.returnOut hx hret hd hr, hrun, hended, _, _, rfl, hq, ⟨_, rfl⟩, hW, hsame.mono hc hs⟩
end Own

section OwnW
variable {args : Array Value} {first s : State} {o : Option Outcome} {idx : List Nat} {t : Term}
theorem own_eqI {k : Int32} (h : (Cond.eq t (.int k)).value args first o s idx = some true) : t.eval args first o idx s = some (.int k) := by
  simp only [Cond.value, Term.eval] at h; cases ht : t.eval args first o idx s with | none => simp [ht] at h | some x => cases x <;> simp [ht] at h ⊢; exact h
theorem own_eqJ {k : Int64} (h : (Cond.eq t (.long k)).value args first o s idx = some true) : t.eval args first o idx s = some (.long k) := by
  simp only [Cond.value, Term.eval] at h; cases ht : t.eval args first o idx s with | none => simp [ht] at h | some x => cases x <;> simp [ht] at h ⊢; exact h
theorem own_eqD {k : Int64} (h : (Cond.eq t (.op1 .bitsD (.long k))).value args first o s idx = some true) : t.eval args first o idx s = some (.double k.toUInt64) := by
  simp only [Cond.value, Term.eval, Unary.apply, Option.bind_eq_bind, Option.bind_some] at h; cases ht : t.eval args first o idx s with | none => simp [ht] at h | some x => cases x <;> simp [ht] at h ⊢; exact h
end OwnW

theorem own_dcmp (a b : Int32) (o : CmpOp) : cmpValue (FP.dcmp (FP.i2d a) (FP.i2d b)) o = if a < b then -1 else if a = b then 0 else 1 := by
  have q : FP.dcmp (FP.i2d a) (FP.i2d b) = some (compare a.toInt b.toInt) := FP.Core.dcmp_int (FP.Core.i2d_int a) (FP.Core.i2d_int b)
  rw [q, FP.Core.compare_ite]
  simp only [Int32.lt_iff_toInt_lt, ← Int32.toInt_inj]
  split
  · rfl
  · split <;> rfl
theorem own_gt (a b : Int32) : ((0 : Int32) < (if a < b then -1 else if a = b then 0 else 1)) ↔ b < a := by
  by_cases q : a < b
  · rw [if_pos q]
    have n : ¬ b < a := by rw [Int32.lt_iff_toInt_lt] at q ⊢; omega
    exact ⟨fun h => absurd h (by decide), fun h => absurd h n⟩
  · rw [if_neg q]
    by_cases r : a = b
    · rw [if_pos r]
      have n : ¬ b < a := by rw [r, Int32.lt_iff_toInt_lt]; omega
      exact ⟨fun h => absurd h (by decide), fun h => absurd h n⟩
    · rw [if_neg r]
      have n : b < a := by rw [Int32.lt_iff_toInt_lt] at q ⊢; rw [← Int32.toInt_inj] at r; omega
      exact ⟨fun _ => n, fun _ => by decide⟩
theorem own_ls (a b : Int32) : ((if a < b then -1 else if a = b then 0 else 1) < (0 : Int32)) ↔ a < b := by
  by_cases q : a < b
  · rw [if_pos q]; exact ⟨fun _ => q, fun _ => by decide⟩
  · rw [if_neg q]
    by_cases r : a = b
    · rw [if_pos r]; exact ⟨fun h => absurd h (by decide), fun h => absurd h q⟩
    · rw [if_neg r]; exact ⟨fun h => absurd h (by decide), fun h => absurd h q⟩

def own_empty (lo hi : UInt64) : Int32 := if (0 : Int32) < cmpValue (FP.dcmp lo hi) .g then 1 else 0
theorem own_law (a b : Int32) : own_empty (FP.i2d a) (FP.i2d b) = if b < a then 1 else 0 := by
  simp only [own_empty, own_dcmp, own_gt]
theorem own_e1 : own_empty (9218868437227405312 : UInt64) (18442240474082181120 : UInt64) = 1 := by decide +kernel
theorem own_e2 : own_empty (18442240474082181120 : UInt64) (9218868437227405312 : UInt64) = 0 := by decide +kernel

theorem own_d2_0 : decode jdk_30_method_1_code 0 = .ok (.aload_n 0, 1) := by decide +kernel
theorem own_d2_1 : decode jdk_30_method_1_code 1 = .ok (.invokespecial 1, 3) := by decide +kernel
theorem own_d2_4 : decode jdk_30_method_1_code 4 = .ok (.return_, 1) := by decide +kernel
theorem own_pn0 : plainName "java/lang/Record" = true := by first | (simp [plainName, overriddenIn]; done) | decide +kernel
theorem own_ef2 (m : MethodId) (x0 : Addr) : entryFrame m #[(.ref x0)] 1 = mkF m 0 #[.val (.ref x0)] [] := by first | (simp [entryFrame, mkF, argsToLocals, Value.category]; done) | rfl
def own_Q2 (Z : State) (a1 : Addr) (h0 : Heap) (n0 : Nat) (v : Option Value) (h : Heap) (L : List Loc) : Prop := v = none ∧ Fr n0 L ∧ h = h0
set_option maxRecDepth 65536 in
set_option maxHeartbeats 40000000 in
theorem own_rm2 (l : Launch) (Z : State) (a0 : Array Value) (hw : ∀ d ∈ tables_1, d.before a0 Z = true) (ws : List Jvm.Cond) (a1 : Addr) (h0 : Heap) (n0 : Nat) (Z0 : n0 ≤ h0.size)  :
    MetFree l (⟨"java/lang/Record", "<init>", "()V"⟩ : MethodName) (head1 (Jvm.Cond.code (⟨"java/lang/Record", "<init>", "()V"⟩ : MethodName) jdk_30_method_1_code 1 none :: ws) ({ frames := 1, cells := 0, slots := 0, locals := 12 } : Room)) (fun a U => a = #[(.ref a1)] ∧ Z.Warmed39 U.vm ∧ U.heap = h0) (fun _ _ _ _ _ => True) (fun _ U o U' => ∃ v L, o = .returned v ∧ own_Q2 Z a1 h0 n0 v U'.heap L ∧ FrameEnd U o U' L ({ frames := 1, cells := 0, slots := 0, locals := 12 } : Room).cells ({ frames := 1, cells := 0, slots := 0, locals := 12 } : Room).slots) := by
  refine MetFree.of_bodySF (plainFor_of_name own_pn0) hisR ?_
  intro p e s m args below meth c s₁ Bd hml0 hP hK
  obtain ⟨rfl, hZ, hh⟩ := hP
  have hx := Bd.exec
  have hby := Bd.bytes
  have hml : c.maxLocals = 1 := hml0
  have hown : s.vm.findClass "java/lang/Record" = some m.cls := findClass_of_methodNamed Bd.named
  have hnm := (name_of_methodNamed Bd.named Bd.method).1
  have hnl : meth.locks = false := Bd.notSynchronized
  have X0 : Stand p l e ({ frames := 1, cells := 0, slots := 0, locals := 12 } : Room) s m #[(.ref a1)] below meth c s₁ [] 0 0 := Stand.of_body Bd
  have e0 : s₁.heap = h0 := by rw [← hh, Bd.state]; rfl
  have N0 := Fr.nil n0
  show own_Go p.tables e below (own_P below s (own_Q2 Z a1 h0 n0) ({ frames := 1, cells := 0, slots := 0, locals := 12 } : Room).cells ({ frames := 1, cells := 0, slots := 0, locals := 12 } : Room).slots) _
  refine own_st (fun t_ k_ => castTop (own_ef2 m a1) k_) ?_
  show own_Go p.tables e below _ (s₁.setTop (mkF m 0 #[.val (.ref a1)] []))
  refine own_st (fun t_ k_ => XS.aloadN X0.here hx rfl (hb hby own_d2_0) rfl rfl k_) ?_
  show own_Go p.tables e below _ (s₁.setTop (mkF m 1 #[.val (.ref a1)] [(.ref a1)]))
  obtain ⟨T101, X101, e101, st101⟩ := initO X0 hx hZ hown (hw _ (List.mem_of_getElem? (i := 11) rfl)) (hw _ (List.mem_of_getElem? (i := 12) rfl)) (hw _ (List.mem_of_getElem? (i := 13) rfl)) e0 (g := (mkF m 1 #[.val (.ref a1)] [(.ref a1)])) rfl (by rw [hml]; rfl) rfl (hb hby own_d2_1) (by decide) (W := 0) (by show 2 * 0 + _ ≤ _; exact Nat.le_of_eq rfl) (by decide)
  refine own_st (st101) ?_
  show own_Go p.tables e below _ (T101.setTop (mkF m 4 #[.val (.ref a1)] []))
  exact own_ret0 X101 hx hnl Bd.returns (hb hby own_d2_4) ⟨rfl, N0, e101⟩ (by decide) (by decide)

theorem own_d1_0 : decode prog_60_method_1_code 0 = .ok (.aload_n 0, 1) := by decide +kernel
theorem own_d1_1 : decode prog_60_method_1_code 1 = .ok (.invokespecial 1, 3) := by decide +kernel
theorem own_d1_4 : decode prog_60_method_1_code 4 = .ok (.aload_n 0, 1) := by decide +kernel
theorem own_d1_5 : decode prog_60_method_1_code 5 = .ok (.dload_n 1, 1) := by decide +kernel
theorem own_d1_6 : decode prog_60_method_1_code 6 = .ok (.putfield 7, 3) := by decide +kernel
theorem own_d1_9 : decode prog_60_method_1_code 9 = .ok (.aload_n 0, 1) := by decide +kernel
theorem own_d1_10 : decode prog_60_method_1_code 10 = .ok (.dload_n 3, 1) := by decide +kernel
theorem own_d1_11 : decode prog_60_method_1_code 11 = .ok (.putfield 13, 3) := by decide +kernel
theorem own_d1_14 : decode prog_60_method_1_code 14 = .ok (.return_, 1) := by decide +kernel
theorem own_pn1 : plainName "com/example/cima/cima/model/Interval" = true := by first | (simp [plainName, overriddenIn]; done) | decide +kernel
theorem own_pd0 : parseMethodDescriptor "()V" = some ⟨[], none⟩ := by decide +kernel
theorem own_ef1 (m : MethodId) (x0 : Addr) (x1 : UInt64) (x2 : UInt64) : entryFrame m #[(.ref x0), (.double x1), (.double x2)] 5 = mkF m 0 #[.val (.ref x0), .val (.double x1), .second, .val (.double x2), .second] [] := by first | (simp [entryFrame, mkF, argsToLocals, Value.category]; done) | rfl
def own_Q1 (Z : State) (a1 : Addr) (p2 : UInt64) (p3 : UInt64) (h0 : Heap) (n0 : Nat) (v : Option Value) (h : Heap) (L : List Loc) : Prop := v = none ∧ Fr n0 L ∧ Keep h0 h [a1] ∧ Fld Z h a1 "com/example/cima/cima/model/Interval" "low" "D" (.double p2) ∧ Fld Z h a1 "com/example/cima/cima/model/Interval" "high" "D" (.double p3)
set_option maxRecDepth 65536 in
set_option maxHeartbeats 40000000 in
theorem own_rm1 (l : Launch) (Z : State) (a0 : Array Value) (hw : ∀ d ∈ tables_1, d.before a0 Z = true) (ws : List Jvm.Cond) (a1 : Addr) (p2 : UInt64) (p3 : UInt64) (h0 : Heap) (n0 : Nat) (Z0 : n0 ≤ h0.size) (q0 : Exa Z h0 a1 "com/example/cima/cima/model/Interval") (q1 : Fld Z h0 a1 "com/example/cima/cima/model/Interval" "low" "D" (.double 0)) (q2 : Fld Z h0 a1 "com/example/cima/cima/model/Interval" "high" "D" (.double 0)) (q3 : n0 ≤ a1) :
    MetFree l (⟨"com/example/cima/cima/model/Interval", "<init>", "(DD)V"⟩ : MethodName) (head1 (Jvm.Cond.code (⟨"com/example/cima/cima/model/Interval", "<init>", "(DD)V"⟩ : MethodName) prog_60_method_1_code 5 none :: ws) ({ frames := 2, cells := 0, slots := 0, locals := 24 } : Room)) (fun a U => a = #[(.ref a1), (.double p2), (.double p3)] ∧ Z.Warmed39 U.vm ∧ U.heap = h0) (fun _ _ _ _ _ => True) (fun _ U o U' => ∃ v L, o = .returned v ∧ own_Q1 Z a1 p2 p3 h0 n0 v U'.heap L ∧ FrameEnd U o U' L ({ frames := 2, cells := 0, slots := 0, locals := 24 } : Room).cells ({ frames := 2, cells := 0, slots := 0, locals := 24 } : Room).slots) := by
  refine MetFree.of_bodySF (plainFor_of_name own_pn1) hisR ?_
  intro p e s m args below meth c s₁ Bd hml0 hP hK
  obtain ⟨rfl, hZ, hh⟩ := hP
  have hx := Bd.exec
  have hby := Bd.bytes
  have hml : c.maxLocals = 5 := hml0
  have hown : s.vm.findClass "com/example/cima/cima/model/Interval" = some m.cls := findClass_of_methodNamed Bd.named
  have hnm := (name_of_methodNamed Bd.named Bd.method).1
  have hnl : meth.locks = false := Bd.notSynchronized
  have X0 : Stand p l e ({ frames := 2, cells := 0, slots := 0, locals := 24 } : Room) s m #[(.ref a1), (.double p2), (.double p3)] below meth c s₁ [] 0 0 := Stand.of_body Bd
  have e0 : s₁.heap = h0 := by rw [← hh, Bd.state]; rfl
  have N0 := Fr.nil n0
  show own_Go p.tables e below (own_P below s (own_Q1 Z a1 p2 p3 h0 n0) ({ frames := 2, cells := 0, slots := 0, locals := 24 } : Room).cells ({ frames := 2, cells := 0, slots := 0, locals := 24 } : Room).slots) _
  refine own_st (fun t_ k_ => castTop (own_ef1 m a1 p2 p3) k_) ?_
  show own_Go p.tables e below _ (s₁.setTop (mkF m 0 #[.val (.ref a1), .val (.double p2), .second, .val (.double p3), .second] []))
  refine own_st (fun t_ k_ => XS.aloadN X0.here hx rfl (hb hby own_d1_0) rfl rfl k_) ?_
  show own_Go p.tables e below _ (s₁.setTop (mkF m 1 #[.val (.ref a1), .val (.double p2), .second, .val (.double p3), .second] [(.ref a1)]))
  obtain ⟨_, _, ⟨T102, L102, k102, n102⟩, -, X102, ⟨Lc102, hQ102, l102, y102, z102⟩, st102⟩ := X0.specialBack hx (y := (⟨"java/lang/Record", "<init>", "()V"⟩ : MethodName)) rfl hown (mvT hZ (hw _ (List.mem_of_getElem? (i := 6) rfl))) (mvT hZ (hw _ (List.mem_of_getElem? (i := 7) rfl))) (mvT hZ (hw _ (List.mem_of_getElem? (i := 10) rfl))) (by decide) (backOf (W := 0) (own_rm2 l Z a0 hw [] a1 h0 n0 (Nat.le_trans Z0 (Keep.refl h0 [a1]).1)) hZ (hw _ (List.mem_of_getElem? (i := 10) rfl)) (hw _ (List.mem_of_getElem? (i := 9) rfl)) (by decide) (by decide)) (g := (mkF m 1 #[.val (.ref a1), .val (.double p2), .second, .val (.double p3), .second] [(.ref a1)])) rfl (by rw [hml]; rfl) (Steps.refl _) (a := a1) (argsL := []) (rest := []) (lenOf own_pd0 rfl) rfl (by show 2 * 0 + _ ≤ _; exact Nat.le_of_eq rfl) (hb hby own_d1_1) (fun _ _ => ⟨rfl, e0, (by decide : 0 + 0 ≤ _), (by decide : 0 + 0 ≤ _)⟩)
  dsimp only [Pt.U, Pt.locs, Pt.cells, Pt.slots] at X102 l102 y102 z102 st102 hQ102
  subst l102 y102 z102
  obtain ⟨rfl, N102q, eq102⟩ := hQ102
  have N102 := Fr.app N0 N102q
  refine own_tr st102 ?_
  show own_Go p.tables e below _ (T102.setTop (mkF m 4 #[.val (.ref a1), .val (.double p2), .second, .val (.double p3), .second] []))
  refine own_st (fun t_ k_ => XS.aloadN X102.here hx rfl (hb hby own_d1_4) rfl rfl k_) ?_
  show own_Go p.tables e below _ (T102.setTop (mkF m 5 #[.val (.ref a1), .val (.double p2), .second, .val (.double p3), .second] [(.ref a1)]))
  refine own_st (fun t_ k_ => XS.dloadN X102.here hx rfl (hb hby own_d1_5) rfl k_) ?_
  show own_Go p.tables e below _ (T102.setTop (mkF m 6 #[.val (.ref a1), .val (.double p2), .second, .val (.double p3), .second] [(.double p2), (.ref a1)]))
  obtain ⟨T103, h103, X103, e103, W103, st103⟩ := putF X102 hx hZ hown (host := "") (Or.inl (hw _ (List.mem_of_getElem? (i := 14) rfl))) Via.refl eq102 q1 q0 (Or.inr ⟨(hw _ (List.mem_of_getElem? (i := 15) rfl)), rfl, hnm⟩) (hw _ (List.mem_of_getElem? (i := 1) rfl)) (ty := .double) (by decide) rfl rfl (g := (mkF m 6 #[.val (.ref a1), .val (.double p2), .second, .val (.double p3), .second] [(.double p2), (.ref a1)])) rfl rfl (hb hby own_d1_6)
  have Fw103 : Fld Z h103 a1 "com/example/cima/cima/model/Interval" "low" "D" (.double p2) := q1.same W103
  have N103 := Fr.snoc X103 N102 q3
  have K103 : Keep h0 h103 [a1] := (Keep.refl h0 [a1]).wr W103 (Or.inl (List.mem_of_getElem? (i := 0) rfl))
  refine own_st (st103) ?_
  show own_Go p.tables e below _ (T103.setTop (mkF m 9 #[.val (.ref a1), .val (.double p2), .second, .val (.double p3), .second] []))
  refine own_st (fun t_ k_ => XS.aloadN X103.here hx rfl (hb hby own_d1_9) rfl rfl k_) ?_
  show own_Go p.tables e below _ (T103.setTop (mkF m 10 #[.val (.ref a1), .val (.double p2), .second, .val (.double p3), .second] [(.ref a1)]))
  refine own_st (fun t_ k_ => XS.dloadN X103.here hx rfl (hb hby own_d1_10) rfl k_) ?_
  show own_Go p.tables e below _ (T103.setTop (mkF m 11 #[.val (.ref a1), .val (.double p2), .second, .val (.double p3), .second] [(.double p3), (.ref a1)]))
  obtain ⟨T104, h104, X104, e104, W104, st104⟩ := putF X103 hx hZ hown (host := "") (Or.inl (hw _ (List.mem_of_getElem? (i := 16) rfl))) Via.refl e103 (q2.other W103 (Or.inr (slot_ne (Or.inr (hw _ (List.mem_of_getElem? (i := 17) rfl))) (Or.inr (hw _ (List.mem_of_getElem? (i := 15) rfl))) (by decide) (t := .double) (t' := .double) (by decide) (by decide)))) (q0.wr W103) (Or.inr ⟨(hw _ (List.mem_of_getElem? (i := 17) rfl)), rfl, hnm⟩) (hw _ (List.mem_of_getElem? (i := 1) rfl)) (ty := .double) (by decide) rfl rfl (g := (mkF m 11 #[.val (.ref a1), .val (.double p2), .second, .val (.double p3), .second] [(.double p3), (.ref a1)])) rfl rfl (hb hby own_d1_11)
  have Fw104 : Fld Z h104 a1 "com/example/cima/cima/model/Interval" "high" "D" (.double p3) := (q2.other W103 (Or.inr (slot_ne (Or.inr (hw _ (List.mem_of_getElem? (i := 17) rfl))) (Or.inr (hw _ (List.mem_of_getElem? (i := 15) rfl))) (by decide) (t := .double) (t' := .double) (by decide) (by decide)))).same W104
  have N104 := Fr.snoc X104 N103 q3
  have K104 : Keep h0 h104 [a1] := K103.wr W104 (Or.inl (List.mem_of_getElem? (i := 0) rfl))
  refine own_st (st104) ?_
  show own_Go p.tables e below _ (T104.setTop (mkF m 14 #[.val (.ref a1), .val (.double p2), .second, .val (.double p3), .second] []))
  exact own_ret0 X104 hx hnl Bd.returns (hb hby own_d1_14) ⟨rfl, N104, (by rw [e104]; exact K104), (by rw [e104]; exact (Fw103.other W104 (Or.inr (slot_ne (Or.inr (hw _ (List.mem_of_getElem? (i := 15) rfl))) (Or.inr (hw _ (List.mem_of_getElem? (i := 17) rfl))) (by decide) (t := .double) (t' := .double) (by decide) (by decide))))), (by rw [e104]; exact Fw104)⟩ (by decide) (by decide)

theorem own_d4_0 : decode prog_60_method_3_code 0 = .ok (.aload_n 0, 1) := by decide +kernel
theorem own_d4_1 : decode prog_60_method_3_code 1 = .ok (.getfield 7, 3) := by decide +kernel
theorem own_d4_4 : decode prog_60_method_3_code 4 = .ok (.aload_n 0, 1) := by decide +kernel
theorem own_d4_5 : decode prog_60_method_3_code 5 = .ok (.getfield 13, 3) := by decide +kernel
theorem own_d4_8 : decode prog_60_method_3_code 8 = .ok (.dcmp .g, 1) := by decide +kernel
theorem own_d4_9 : decode prog_60_method_3_code 9 = .ok (.ifCond .le 7, 3) := by decide +kernel
theorem own_d4_12 : decode prog_60_method_3_code 12 = .ok (.iconst 1, 1) := by decide +kernel
theorem own_d4_13 : decode prog_60_method_3_code 13 = .ok (.goto 4, 3) := by decide +kernel
theorem own_d4_16 : decode prog_60_method_3_code 16 = .ok (.iconst 0, 1) := by decide +kernel
theorem own_d4_17 : decode prog_60_method_3_code 17 = .ok (.ireturn, 1) := by decide +kernel
theorem own_ef4 (m : MethodId) (x0 : Addr) : entryFrame m #[(.ref x0)] 1 = mkF m 0 #[.val (.ref x0)] [] := by first | (simp [entryFrame, mkF, argsToLocals, Value.category]; done) | rfl
def own_Q4 (Z : State) (a1 : Addr) (lo : UInt64) (hi : UInt64) (h0 : Heap) (n0 : Nat) (v : Option Value) (h : Heap) (L : List Loc) : Prop := v = some (.int (own_empty lo hi)) ∧ Fr n0 L ∧ h = h0
set_option maxRecDepth 65536 in
set_option maxHeartbeats 40000000 in
theorem own_rm4 (l : Launch) (Z : State) (a0 : Array Value) (hw : ∀ d ∈ tables_1, d.before a0 Z = true) (ws : List Jvm.Cond) (a1 : Addr) (lo : UInt64) (hi : UInt64) (h0 : Heap) (n0 : Nat) (Z0 : n0 ≤ h0.size) (q0 : Fld Z h0 a1 "com/example/cima/cima/model/Interval" "low" "D" (.double lo)) (q1 : Fld Z h0 a1 "com/example/cima/cima/model/Interval" "high" "D" (.double hi)) :
    MetFree l (⟨"com/example/cima/cima/model/Interval", "isEmpty", "()Z"⟩ : MethodName) (head1 (Jvm.Cond.code (⟨"com/example/cima/cima/model/Interval", "isEmpty", "()Z"⟩ : MethodName) prog_60_method_3_code 1 (some .boolean) :: ws) ({ frames := 0, cells := 0, slots := 0, locals := 0 } : Room)) (fun a U => a = #[(.ref a1)] ∧ Z.Warmed39 U.vm ∧ U.heap = h0) (fun _ _ _ _ _ => True) (fun _ U o U' => ∃ v L, o = .returned v ∧ own_Q4 Z a1 lo hi h0 n0 v U'.heap L ∧ FrameEnd U o U' L ({ frames := 0, cells := 0, slots := 0, locals := 0 } : Room).cells ({ frames := 0, cells := 0, slots := 0, locals := 0 } : Room).slots) := by
  refine MetFree.of_bodySF (plainFor_of_name own_pn1) hisR ?_
  intro p e s m args below meth c s₁ Bd hml0 hP hK
  obtain ⟨rfl, hZ, hh⟩ := hP
  have hx := Bd.exec
  have hby := Bd.bytes
  have hml : c.maxLocals = 1 := hml0
  have hown : s.vm.findClass "com/example/cima/cima/model/Interval" = some m.cls := findClass_of_methodNamed Bd.named
  have hnm := (name_of_methodNamed Bd.named Bd.method).1
  have hnl : meth.locks = false := Bd.notSynchronized
  have X0 : Stand p l e ({ frames := 0, cells := 0, slots := 0, locals := 0 } : Room) s m #[(.ref a1)] below meth c s₁ [] 0 0 := Stand.of_body Bd
  have e0 : s₁.heap = h0 := by rw [← hh, Bd.state]; rfl
  have N0 := Fr.nil n0
  show own_Go p.tables e below (own_P below s (own_Q4 Z a1 lo hi h0 n0) ({ frames := 0, cells := 0, slots := 0, locals := 0 } : Room).cells ({ frames := 0, cells := 0, slots := 0, locals := 0 } : Room).slots) _
  refine own_st (fun t_ k_ => castTop (own_ef4 m a1) k_) ?_
  show own_Go p.tables e below _ (s₁.setTop (mkF m 0 #[.val (.ref a1)] []))
  refine own_st (fun t_ k_ => XS.aloadN X0.here hx rfl (hb hby own_d4_0) rfl rfl k_) ?_
  show own_Go p.tables e below _ (s₁.setTop (mkF m 1 #[.val (.ref a1)] [(.ref a1)]))
  obtain ⟨T105, X105, e105, st105⟩ := getF X0 hx hZ hown (host := "") (Or.inl (hw _ (List.mem_of_getElem? (i := 14) rfl))) Via.refl e0 q0 (g := (mkF m 1 #[.val (.ref a1)] [(.ref a1)])) rfl rfl (hb hby own_d4_1)
  refine own_st (st105) ?_
  show own_Go p.tables e below _ (T105.setTop (mkF m 4 #[.val (.ref a1)] [(.double lo)]))
  refine own_st (fun t_ k_ => XS.aloadN X105.here hx rfl (hb hby own_d4_4) rfl rfl k_) ?_
  show own_Go p.tables e below _ (T105.setTop (mkF m 5 #[.val (.ref a1)] [(.ref a1), (.double lo)]))
  obtain ⟨T106, X106, e106, st106⟩ := getF X105 hx hZ hown (host := "") (Or.inl (hw _ (List.mem_of_getElem? (i := 16) rfl))) Via.refl e105 q1 (g := (mkF m 5 #[.val (.ref a1)] [(.ref a1), (.double lo)])) rfl rfl (hb hby own_d4_5)
  refine own_st (st106) ?_
  show own_Go p.tables e below _ (T106.setTop (mkF m 8 #[.val (.ref a1)] [(.double hi), (.double lo)]))
  refine own_st (fun t_ k_ => XS.dcmpS X106.here hx rfl (hb hby own_d4_8) rfl rfl k_) ?_
  show own_Go p.tables e below _ (T106.setTop (mkF m 9 #[.val (.ref a1)] [(.int (cmpValue (FP.dcmp lo hi) .g))]))
  by_cases c9_107 : (0 : Int32) < (cmpValue (FP.dcmp lo hi) .g)
  · skip
    refine own_st (fun t_ k_ => XS.ifNo X106.here hx rfl (hb hby own_d4_9) rfl ((if0 _ _).trans (tlt c9_107).2.2.2) k_) ?_
    show own_Go p.tables e below _ (T106.setTop (mkF m 12 #[.val (.ref a1)] []))
    refine own_st (fun t_ k_ => XS.iconst X106.here hx rfl (hb hby own_d4_12) k_) ?_
    show own_Go p.tables e below _ (T106.setTop (mkF m 13 #[.val (.ref a1)] [(.int (1 : Int32))]))
    refine own_st (fun t_ k_ => XS.goto X106.here hx rfl (pc0 := 13) (pc' := 17) rfl (hb hby own_d4_13) (by decide) (by decide) k_) ?_
    show own_Go p.tables e below _ (T106.setTop (mkF m 17 #[.val (.ref a1)] [(.int (1 : Int32))]))
    exact own_ret (w := (.int (1 : Int32))) X106 hx hnl Bd.returns rfl (Or.inl ⟨rfl, by decide, _, rfl⟩) (hb hby own_d4_17) ⟨(by simp [own_empty, c9_107]), N0, e106⟩ (by decide) (by decide)
  · skip
    refine own_st (fun t_ k_ => XS.ifYes X106.here hx rfl (pc0 := 9) (pc' := 16) rfl (hb hby own_d4_9) rfl ((if0 _ _).trans (flt c9_107).2.2.2) (by decide) (by decide) k_) ?_
    show own_Go p.tables e below _ (T106.setTop (mkF m 16 #[.val (.ref a1)] []))
    refine own_st (fun t_ k_ => XS.iconst X106.here hx rfl (hb hby own_d4_16) k_) ?_
    show own_Go p.tables e below _ (T106.setTop (mkF m 17 #[.val (.ref a1)] [(.int (0 : Int32))]))
    exact own_ret (w := (.int (0 : Int32))) X106 hx hnl Bd.returns rfl (Or.inl ⟨rfl, by decide, _, rfl⟩) (hb hby own_d4_17) ⟨(by simp [own_empty, c9_107]), N0, e106⟩ (by decide) (by decide)

theorem own_pn2 : plainName "com/example/cima/cima/model/IntervalIsEmptyPinLaw" = true := by first | (simp [plainName, overriddenIn]; done) | decide +kernel
theorem own_pd1 : parseMethodDescriptor "(DD)V" = some ⟨[.double, .double], none⟩ := by decide +kernel
theorem own_pd2 : parseMethodDescriptor "()Z" = some ⟨[], some .boolean⟩ := by decide +kernel
theorem own_ef0 (m : MethodId) (x0 : Int32) (x1 : Int32) : entryFrame m #[(.int x0), (.int x1)] maxLocals = mkF m 0 #[.val (.int x0), .val (.int x1), .unset, .unset, .unset, .unset, .unset] [] := by first | (simp [entryFrame, mkF, argsToLocals, Value.category, maxLocals]; done) | rfl
def own_Q0 (Z : State) (p0 : Int32) (p1 : Int32) (a_Interval_EMPTY : Addr) (a_Interval_ALL : Addr) (h0 : Heap) (n0 : Nat) (v : Option Value) (h : Heap) (L : List Loc) : Prop := v = some (.int (1 : Int32)) ∧ Fr n0 L ∧ Keep h0 h []
set_option maxRecDepth 65536 in
set_option maxHeartbeats 40000000 in
theorem own_rm0 (l : Launch) (Z : State) (a0 : Array Value) (hw : ∀ d ∈ tables_1, d.before a0 Z = true) (ws : List Jvm.Cond) (p0 : Int32) (p1 : Int32) (a_Interval_EMPTY : Addr) (a_Interval_ALL : Addr) (h0 : Heap) (n0 : Nat) (Z0 : n0 ≤ h0.size) (q0 : Old Z n0 h0) (q1 : Sta Z Z.heap "com/example/cima/cima/model/Interval" "EMPTY" "Lcom/example/cima/cima/model/Interval;" (.ref a_Interval_EMPTY)) (q2 : Exa Z Z.heap a_Interval_EMPTY "com/example/cima/cima/model/Interval") (q3 : Fld Z Z.heap a_Interval_EMPTY "com/example/cima/cima/model/Interval" "low" "D" (.double (9218868437227405312 : UInt64))) (q4 : Fld Z Z.heap a_Interval_EMPTY "com/example/cima/cima/model/Interval" "high" "D" (.double (18442240474082181120 : UInt64))) (q5 : Sta Z Z.heap "com/example/cima/cima/model/Interval" "ALL" "Lcom/example/cima/cima/model/Interval;" (.ref a_Interval_ALL)) (q6 : Exa Z Z.heap a_Interval_ALL "com/example/cima/cima/model/Interval") (q7 : Fld Z Z.heap a_Interval_ALL "com/example/cima/cima/model/Interval" "low" "D" (.double (18442240474082181120 : UInt64))) (q8 : Fld Z Z.heap a_Interval_ALL "com/example/cima/cima/model/Interval" "high" "D" (.double (9218868437227405312 : UInt64))) :
    MetFree l x (head1 (Jvm.Cond.code x code maxLocals ret :: ws) room_1) (fun a U => a = #[(.int p0), (.int p1)] ∧ Z.Warmed39 U.vm ∧ U.heap = h0) (fun _ _ _ _ _ => True) (fun _ U o U' => ∃ v L, o = .returned v ∧ own_Q0 Z p0 p1 a_Interval_EMPTY a_Interval_ALL h0 n0 v U'.heap L ∧ FrameEnd U o U' L room_1.cells room_1.slots) := by
  refine MetFree.of_bodySF (plainFor_of_name own_pn2) hisR ?_
  intro p e s m args below meth c s₁ Bd hml0 hP hK
  obtain ⟨rfl, hZ, hh⟩ := hP
  have hx := Bd.exec
  have hby := Bd.bytes
  have hml : c.maxLocals = 7 := hml0
  have hown : s.vm.findClass "com/example/cima/cima/model/IntervalIsEmptyPinLaw" = some m.cls := findClass_of_methodNamed Bd.named
  have hnm := (name_of_methodNamed Bd.named Bd.method).1
  have hnl : meth.locks = false := Bd.notSynchronized
  have X0 : Stand p l e room_1 s m #[(.int p0), (.int p1)] below meth c s₁ [] 0 0 := Stand.of_body Bd
  have e0 : s₁.heap = h0 := by rw [← hh, Bd.state]; rfl
  have N0 := Fr.nil n0
  show own_Go p.tables e below (own_P below s (own_Q0 Z p0 p1 a_Interval_EMPTY a_Interval_ALL h0 n0) room_1.cells room_1.slots) _
  refine own_st (fun t_ k_ => castTop (own_ef0 m p0 p1) k_) ?_
  show own_Go p.tables e below _ (s₁.setTop (mkF m 0 #[.val (.int p0), .val (.int p1), .unset, .unset, .unset, .unset, .unset] []))
  obtain ⟨T108, h108, X108, e108, E108, A108, D108, -, st108⟩ := newO X0 hx hZ hown (hw _ (List.mem_of_getElem? (i := 0) rfl)) (hw _ (List.mem_of_getElem? (i := 1) rfl)) (hw _ (List.mem_of_getElem? (i := 2) rfl)) e0 (g := (mkF m 0 #[.val (.int p0), .val (.int p1), .unset, .unset, .unset, .unset, .unset] [])) rfl (hb hby at_0) (by decide) (by decide)
  obtain ⟨b108, g108⟩ : ∃ z, z = h0.size := ⟨_, rfl⟩
  rw [← g108] at A108 D108 st108
  have fr108 : h0.size ≤ b108 := Nat.le_trans (Keep.refl h0 []).1 (Nat.le_of_eq g108.symm)
  have ge108 : n0 ≤ b108 := Nat.le_trans Z0 fr108
  have K108 : Keep h0 h108 [] := (Keep.refl h0 []).ext E108
  have F108_15 : Fld Z h108 b108 "com/example/cima/cima/model/Interval" "low" "D" (.double 0) := D108 (Or.inr (hw _ (List.mem_of_getElem? (i := 15) rfl))) (ty := .double) (by decide)
  have F108_17 : Fld Z h108 b108 "com/example/cima/cima/model/Interval" "high" "D" (.double 0) := D108 (Or.inr (hw _ (List.mem_of_getElem? (i := 17) rfl))) (ty := .double) (by decide)
  refine own_st (st108) ?_
  show own_Go p.tables e below _ (T108.setTop (mkF m 3 #[.val (.int p0), .val (.int p1), .unset, .unset, .unset, .unset, .unset] [(.ref b108)]))
  refine own_st (fun t_ k_ => XS.dup X108.here hx rfl (hb hby at_3) rfl rfl k_) ?_
  show own_Go p.tables e below _ (T108.setTop (mkF m 4 #[.val (.int p0), .val (.int p1), .unset, .unset, .unset, .unset, .unset] [(.ref b108), (.ref b108)]))
  refine own_st (fun t_ k_ => XS.iloadN X108.here hx rfl (hb hby at_4) rfl k_) ?_
  show own_Go p.tables e below _ (T108.setTop (mkF m 5 #[.val (.int p0), .val (.int p1), .unset, .unset, .unset, .unset, .unset] [(.int p0), (.ref b108), (.ref b108)]))
  refine own_st (fun t_ k_ => XS.i2dS X108.here hx rfl (hb hby at_5) rfl rfl k_) ?_
  show own_Go p.tables e below _ (T108.setTop (mkF m 6 #[.val (.int p0), .val (.int p1), .unset, .unset, .unset, .unset, .unset] [(.double (FP.i2d p0)), (.ref b108), (.ref b108)]))
  refine own_st (fun t_ k_ => XS.iloadN X108.here hx rfl (hb hby at_6) rfl k_) ?_
  show own_Go p.tables e below _ (T108.setTop (mkF m 7 #[.val (.int p0), .val (.int p1), .unset, .unset, .unset, .unset, .unset] [(.int p1), (.double (FP.i2d p0)), (.ref b108), (.ref b108)]))
  refine own_st (fun t_ k_ => XS.i2dS X108.here hx rfl (hb hby at_7) rfl rfl k_) ?_
  show own_Go p.tables e below _ (T108.setTop (mkF m 8 #[.val (.int p0), .val (.int p1), .unset, .unset, .unset, .unset, .unset] [(.double (FP.i2d p1)), (.double (FP.i2d p0)), (.ref b108), (.ref b108)]))
  obtain ⟨_, _, ⟨T109, L109, k109, n109⟩, -, X109, ⟨Lc109, hQ109, l109, y109, z109⟩, st109⟩ := X108.specialBack hx (y := (⟨"com/example/cima/cima/model/Interval", "<init>", "(DD)V"⟩ : MethodName)) rfl hown (mvT hZ (hw _ (List.mem_of_getElem? (i := 3) rfl))) (mvT hZ (hw _ (List.mem_of_getElem? (i := 4) rfl))) (mvT hZ (hw _ (List.mem_of_getElem? (i := 5) rfl))) (by decide) (backOf (W := 1) (own_rm1 l Z a0 hw [] b108 (FP.i2d p0) (FP.i2d p1) h108 n0 (Nat.le_trans Z0 K108.1) A108 F108_15 F108_17 ge108) hZ (hw _ (List.mem_of_getElem? (i := 5) rfl)) (hw _ (List.mem_of_getElem? (i := 2) rfl)) (by decide) (by decide)) (g := (mkF m 8 #[.val (.int p0), .val (.int p1), .unset, .unset, .unset, .unset, .unset] [(.double (FP.i2d p1)), (.double (FP.i2d p0)), (.ref b108), (.ref b108)])) rfl (by rw [hml]; rfl) (Steps.refl _) (a := b108) (argsL := [(.double (FP.i2d p0)), (.double (FP.i2d p1))]) (rest := [(.ref b108)]) (lenOf own_pd1 rfl) rfl (by show 2 * 0 + _ ≤ _; exact Nat.le_of_eq rfl) (hb hby at_8) (fun _ _ => ⟨rfl, e108, (by decide : 1 + 0 ≤ _), (by decide : 2 + 0 ≤ _)⟩)
  dsimp only [Pt.U, Pt.locs, Pt.cells, Pt.slots] at X109 l109 y109 z109 st109 hQ109
  subst l109 y109 z109
  obtain ⟨rfl, N109q, Kq109, P109_0, P109_1⟩ := hQ109
  have N109 := Fr.app N0 N109q
  have K109 : Keep h0 T109.heap [] := K108.trans Kq109 (allS (P := fun x => x ∈ [] ∨ h0.size ≤ x) (Or.inr fr108) all0)
  refine own_tr st109 ?_
  show own_Go p.tables e below _ (T109.setTop (mkF m 11 #[.val (.int p0), .val (.int p1), .unset, .unset, .unset, .unset, .unset] [(.ref b108)]))
  refine own_st (fun t_ k_ => XS.astoreN X109.here hx rfl (hb hby at_11) rfl rfl (l' := #[.val (.int p0), .val (.int p1), .val (.ref b108), .unset, .unset, .unset, .unset]) rfl k_) ?_
  show own_Go p.tables e below _ (T109.setTop (mkF m 12 #[.val (.int p0), .val (.int p1), .val (.ref b108), .unset, .unset, .unset, .unset] []))
  refine own_st (fun t_ k_ => XS.iloadN X109.here hx rfl (hb hby at_12) rfl k_) ?_
  show own_Go p.tables e below _ (T109.setTop (mkF m 13 #[.val (.int p0), .val (.int p1), .val (.ref b108), .unset, .unset, .unset, .unset] [(.int p0)]))
  refine own_st (fun t_ k_ => XS.iloadN X109.here hx rfl (hb hby at_13) rfl k_) ?_
  show own_Go p.tables e below _ (T109.setTop (mkF m 14 #[.val (.int p0), .val (.int p1), .val (.ref b108), .unset, .unset, .unset, .unset] [(.int p1), (.int p0)]))
  by_cases c14_110 : p1 < p0
  · skip
    refine own_st (fun t_ k_ => XS.icmpNo X109.here hx rfl (hb hby at_14) rfl (tlt c14_110).2.2.2 k_) ?_
    show own_Go p.tables e below _ (T109.setTop (mkF m 17 #[.val (.int p0), .val (.int p1), .val (.ref b108), .unset, .unset, .unset, .unset] []))
    refine own_st (fun t_ k_ => XS.iconst X109.here hx rfl (hb hby at_17) k_) ?_
    show own_Go p.tables e below _ (T109.setTop (mkF m 18 #[.val (.int p0), .val (.int p1), .val (.ref b108), .unset, .unset, .unset, .unset] [(.int (1 : Int32))]))
    refine own_st (fun t_ k_ => XS.goto X109.here hx rfl (pc0 := 18) (pc' := 22) rfl (hb hby at_18) (by decide) (by decide) k_) ?_
    show own_Go p.tables e below _ (T109.setTop (mkF m 22 #[.val (.int p0), .val (.int p1), .val (.ref b108), .unset, .unset, .unset, .unset] [(.int (1 : Int32))]))
    refine own_st (fun t_ k_ => XS.istoreN X109.here hx rfl (hb hby at_22) rfl (l' := #[.val (.int p0), .val (.int p1), .val (.ref b108), .val (.int (1 : Int32)), .unset, .unset, .unset]) rfl k_) ?_
    show own_Go p.tables e below _ (T109.setTop (mkF m 23 #[.val (.int p0), .val (.int p1), .val (.ref b108), .val (.int (1 : Int32)), .unset, .unset, .unset] []))
    refine own_st (fun t_ k_ => XS.aloadN X109.here hx rfl (hb hby at_23) rfl rfl k_) ?_
    show own_Go p.tables e below _ (T109.setTop (mkF m 24 #[.val (.int p0), .val (.int p1), .val (.ref b108), .val (.int (1 : Int32)), .unset, .unset, .unset] [(.ref b108)]))
    obtain ⟨cq111, kq111, q111a, q111b, q111c⟩ := isOf hZ rfl (A108.keep Kq109)
    obtain ⟨_, _, ⟨T111, L111, k111, n111⟩, -, X111, ⟨Lc111, hQ111, l111, y111, z111⟩, st111⟩ := X109.virtualBack hx (y := (⟨"com/example/cima/cima/model/Interval", "isEmpty", "()Z"⟩ : MethodName)) (z := (⟨"com/example/cima/cima/model/Interval", "isEmpty", "()Z"⟩ : MethodName)) hown (mvT hZ (hw _ (List.mem_of_getElem? (i := 18) rfl))) (mvT hZ (hw _ (List.mem_of_getElem? (i := 19) rfl))) (notFace_of_selects (args := #[]) (mvT hZ (hw _ (List.mem_of_getElem? (i := 21) rfl)))) (mvT hZ (hw _ (List.mem_of_getElem? (i := 21) rfl))) (mvT hZ (hw _ (List.mem_of_getElem? (i := 20) rfl))) (by decide) (backOf (W := 0) (own_rm4 l Z a0 hw [] b108 (FP.i2d p0) (FP.i2d p1) T109.heap n0 (Nat.le_trans Z0 K109.1) P109_0 P109_1) hZ (hw _ (List.mem_of_getElem? (i := 22) rfl)) (hw _ (List.mem_of_getElem? (i := 2) rfl)) (by decide) (by decide)) q111a q111c (g := (mkF m 24 #[.val (.int p0), .val (.int p1), .val (.ref b108), .val (.int (1 : Int32)), .unset, .unset, .unset] [(.ref b108)])) rfl (by rw [hml]; rfl) (Steps.refl _) (argsL := []) (rest := []) (lenOf own_pd2 rfl) rfl (by show 2 * 0 + _ ≤ _; exact Nat.le_of_eq rfl) (hb hby at_24) (fun _ _ => ⟨rfl, rfl, (by decide : 1 + 0 ≤ _), (by decide : 2 + 0 ≤ _)⟩)
    dsimp only [Pt.U, Pt.locs, Pt.cells, Pt.slots] at X111 l111 y111 z111 st111 hQ111
    subst l111 y111 z111
    obtain ⟨rfl, N111q, eq111⟩ := hQ111
    have N111 := Fr.app N109 N111q
    refine own_tr st111 ?_
    show own_Go p.tables e below _ (T111.setTop (mkF m 27 #[.val (.int p0), .val (.int p1), .val (.ref b108), .val (.int (1 : Int32)), .unset, .unset, .unset] [(.int (own_empty (FP.i2d p0) (FP.i2d p1)))]))
    refine own_st (fun t_ k_ => XS.iloadN X111.here hx rfl (hb hby at_27) rfl k_) ?_
    show own_Go p.tables e below _ (T111.setTop (mkF m 28 #[.val (.int p0), .val (.int p1), .val (.ref b108), .val (.int (1 : Int32)), .unset, .unset, .unset] [(.int (1 : Int32)), (.int (own_empty (FP.i2d p0) (FP.i2d p1)))]))
    refine own_st (fun t_ k_ => XS.icmpNo X111.here hx rfl (hb hby at_28) rfl (teq (by rw [own_law]; simp [c14_110] : (own_empty (FP.i2d p0) (FP.i2d p1)) = (1 : Int32))).2 k_) ?_
    show own_Go p.tables e below _ (T111.setTop (mkF m 31 #[.val (.int p0), .val (.int p1), .val (.ref b108), .val (.int (1 : Int32)), .unset, .unset, .unset] []))
    refine own_st (fun t_ k_ => XS.iconst X111.here hx rfl (hb hby at_31) k_) ?_
    show own_Go p.tables e below _ (T111.setTop (mkF m 32 #[.val (.int p0), .val (.int p1), .val (.ref b108), .val (.int (1 : Int32)), .unset, .unset, .unset] [(.int (1 : Int32))]))
    refine own_st (fun t_ k_ => XS.goto X111.here hx rfl (pc0 := 32) (pc' := 36) rfl (hb hby at_32) (by decide) (by decide) k_) ?_
    show own_Go p.tables e below _ (T111.setTop (mkF m 36 #[.val (.int p0), .val (.int p1), .val (.ref b108), .val (.int (1 : Int32)), .unset, .unset, .unset] [(.int (1 : Int32))]))
    refine own_st (fun t_ k_ => XS.istore X111.here hx rfl (hb hby at_36) rfl (l' := #[.val (.int p0), .val (.int p1), .val (.ref b108), .val (.int (1 : Int32)), .val (.int (1 : Int32)), .unset, .unset]) rfl k_) ?_
    show own_Go p.tables e below _ (T111.setTop (mkF m 38 #[.val (.int p0), .val (.int p1), .val (.ref b108), .val (.int (1 : Int32)), .val (.int (1 : Int32)), .unset, .unset] []))
    obtain ⟨T112, X112, e112, st112⟩ := getS2 X111 hx hZ hown (host := "") (Or.inl (hw _ (List.mem_of_getElem? (i := 23) rfl))) Via.refl eq111 (q1.ext ((q0.ext E108).keep Kq109 (allS ge108 all0)).2) (g := (mkF m 38 #[.val (.int p0), .val (.int p1), .val (.ref b108), .val (.int (1 : Int32)), .val (.int (1 : Int32)), .unset, .unset] [])) rfl (hb hby at_38)
    refine own_st (st112) ?_
    show own_Go p.tables e below _ (T112.setTop (mkF m 41 #[.val (.int p0), .val (.int p1), .val (.ref b108), .val (.int (1 : Int32)), .val (.int (1 : Int32)), .unset, .unset] [(.ref a_Interval_EMPTY)]))
    obtain ⟨cq113, kq113, q113a, q113b, q113c⟩ := isOf hZ e112 (q2.ext ((q0.ext E108).keep Kq109 (allS ge108 all0)).2)
    obtain ⟨_, _, ⟨T113, L113, k113, n113⟩, -, X113, ⟨Lc113, hQ113, l113, y113, z113⟩, st113⟩ := X112.virtualBack hx (y := (⟨"com/example/cima/cima/model/Interval", "isEmpty", "()Z"⟩ : MethodName)) (z := (⟨"com/example/cima/cima/model/Interval", "isEmpty", "()Z"⟩ : MethodName)) hown (mvT hZ (hw _ (List.mem_of_getElem? (i := 18) rfl))) (mvT hZ (hw _ (List.mem_of_getElem? (i := 19) rfl))) (notFace_of_selects (args := #[]) (mvT hZ (hw _ (List.mem_of_getElem? (i := 21) rfl)))) (mvT hZ (hw _ (List.mem_of_getElem? (i := 21) rfl))) (mvT hZ (hw _ (List.mem_of_getElem? (i := 20) rfl))) (by decide) (backOf (W := 0) (own_rm4 l Z a0 hw [] a_Interval_EMPTY (9218868437227405312 : UInt64) (18442240474082181120 : UInt64) T109.heap n0 (Nat.le_trans Z0 K109.1) (q3.ext ((q0.ext E108).keep Kq109 (allS ge108 all0)).2) (q4.ext ((q0.ext E108).keep Kq109 (allS ge108 all0)).2)) hZ (hw _ (List.mem_of_getElem? (i := 22) rfl)) (hw _ (List.mem_of_getElem? (i := 2) rfl)) (by decide) (by decide)) q113a q113c (g := (mkF m 41 #[.val (.int p0), .val (.int p1), .val (.ref b108), .val (.int (1 : Int32)), .val (.int (1 : Int32)), .unset, .unset] [(.ref a_Interval_EMPTY)])) rfl (by rw [hml]; rfl) (Steps.refl _) (argsL := []) (rest := []) (lenOf own_pd2 rfl) rfl (by show 2 * 0 + _ ≤ _; exact Nat.le_of_eq rfl) (hb hby at_41) (fun _ _ => ⟨rfl, e112, (by decide : 1 + 0 ≤ _), (by decide : 2 + 0 ≤ _)⟩)
    dsimp only [Pt.U, Pt.locs, Pt.cells, Pt.slots] at X113 l113 y113 z113 st113 hQ113
    subst l113 y113 z113
    obtain ⟨rfl, N113q, eq113⟩ := hQ113
    have N113 := Fr.app N111 N113q
    refine own_tr st113 ?_
    show own_Go p.tables e below _ (T113.setTop (mkF m 44 #[.val (.int p0), .val (.int p1), .val (.ref b108), .val (.int (1 : Int32)), .val (.int (1 : Int32)), .unset, .unset] [(.int (own_empty (9218868437227405312 : UInt64) (18442240474082181120 : UInt64)))]))
    refine own_st (fun t_ k_ => XS.istore X113.here hx rfl (hb hby at_44) rfl (l' := #[.val (.int p0), .val (.int p1), .val (.ref b108), .val (.int (1 : Int32)), .val (.int (1 : Int32)), .val (.int (own_empty (9218868437227405312 : UInt64) (18442240474082181120 : UInt64))), .unset]) rfl k_) ?_
    show own_Go p.tables e below _ (T113.setTop (mkF m 46 #[.val (.int p0), .val (.int p1), .val (.ref b108), .val (.int (1 : Int32)), .val (.int (1 : Int32)), .val (.int (own_empty (9218868437227405312 : UInt64) (18442240474082181120 : UInt64))), .unset] []))
    obtain ⟨T114, X114, e114, st114⟩ := getS2 X113 hx hZ hown (host := "") (Or.inl (hw _ (List.mem_of_getElem? (i := 25) rfl))) Via.refl eq113 (q5.ext ((q0.ext E108).keep Kq109 (allS ge108 all0)).2) (g := (mkF m 46 #[.val (.int p0), .val (.int p1), .val (.ref b108), .val (.int (1 : Int32)), .val (.int (1 : Int32)), .val (.int (own_empty (9218868437227405312 : UInt64) (18442240474082181120 : UInt64))), .unset] [])) rfl (hb hby at_46)
    refine own_st (st114) ?_
    show own_Go p.tables e below _ (T114.setTop (mkF m 49 #[.val (.int p0), .val (.int p1), .val (.ref b108), .val (.int (1 : Int32)), .val (.int (1 : Int32)), .val (.int (own_empty (9218868437227405312 : UInt64) (18442240474082181120 : UInt64))), .unset] [(.ref a_Interval_ALL)]))
    obtain ⟨cq115, kq115, q115a, q115b, q115c⟩ := isOf hZ e114 (q6.ext ((q0.ext E108).keep Kq109 (allS ge108 all0)).2)
    obtain ⟨_, _, ⟨T115, L115, k115, n115⟩, -, X115, ⟨Lc115, hQ115, l115, y115, z115⟩, st115⟩ := X114.virtualBack hx (y := (⟨"com/example/cima/cima/model/Interval", "isEmpty", "()Z"⟩ : MethodName)) (z := (⟨"com/example/cima/cima/model/Interval", "isEmpty", "()Z"⟩ : MethodName)) hown (mvT hZ (hw _ (List.mem_of_getElem? (i := 18) rfl))) (mvT hZ (hw _ (List.mem_of_getElem? (i := 19) rfl))) (notFace_of_selects (args := #[]) (mvT hZ (hw _ (List.mem_of_getElem? (i := 21) rfl)))) (mvT hZ (hw _ (List.mem_of_getElem? (i := 21) rfl))) (mvT hZ (hw _ (List.mem_of_getElem? (i := 20) rfl))) (by decide) (backOf (W := 0) (own_rm4 l Z a0 hw [] a_Interval_ALL (18442240474082181120 : UInt64) (9218868437227405312 : UInt64) T109.heap n0 (Nat.le_trans Z0 K109.1) (q7.ext ((q0.ext E108).keep Kq109 (allS ge108 all0)).2) (q8.ext ((q0.ext E108).keep Kq109 (allS ge108 all0)).2)) hZ (hw _ (List.mem_of_getElem? (i := 22) rfl)) (hw _ (List.mem_of_getElem? (i := 2) rfl)) (by decide) (by decide)) q115a q115c (g := (mkF m 49 #[.val (.int p0), .val (.int p1), .val (.ref b108), .val (.int (1 : Int32)), .val (.int (1 : Int32)), .val (.int (own_empty (9218868437227405312 : UInt64) (18442240474082181120 : UInt64))), .unset] [(.ref a_Interval_ALL)])) rfl (by rw [hml]; rfl) (Steps.refl _) (argsL := []) (rest := []) (lenOf own_pd2 rfl) rfl (by show 2 * 0 + _ ≤ _; exact Nat.le_of_eq rfl) (hb hby at_49) (fun _ _ => ⟨rfl, e114, (by decide : 1 + 0 ≤ _), (by decide : 2 + 0 ≤ _)⟩)
    dsimp only [Pt.U, Pt.locs, Pt.cells, Pt.slots] at X115 l115 y115 z115 st115 hQ115
    subst l115 y115 z115
    obtain ⟨rfl, N115q, eq115⟩ := hQ115
    have N115 := Fr.app N113 N115q
    refine own_tr st115 ?_
    show own_Go p.tables e below _ (T115.setTop (mkF m 52 #[.val (.int p0), .val (.int p1), .val (.ref b108), .val (.int (1 : Int32)), .val (.int (1 : Int32)), .val (.int (own_empty (9218868437227405312 : UInt64) (18442240474082181120 : UInt64))), .unset] [(.int (own_empty (18442240474082181120 : UInt64) (9218868437227405312 : UInt64)))]))
    refine own_st (fun t_ k_ => XS.ifNo X115.here hx rfl (hb hby at_52) rfl ((if0 _ _).trans (teq (own_e2 : (own_empty (18442240474082181120 : UInt64) (9218868437227405312 : UInt64)) = (0 : Int32))).2) k_) ?_
    show own_Go p.tables e below _ (T115.setTop (mkF m 55 #[.val (.int p0), .val (.int p1), .val (.ref b108), .val (.int (1 : Int32)), .val (.int (1 : Int32)), .val (.int (own_empty (9218868437227405312 : UInt64) (18442240474082181120 : UInt64))), .unset] []))
    refine own_st (fun t_ k_ => XS.iconst X115.here hx rfl (hb hby at_55) k_) ?_
    show own_Go p.tables e below _ (T115.setTop (mkF m 56 #[.val (.int p0), .val (.int p1), .val (.ref b108), .val (.int (1 : Int32)), .val (.int (1 : Int32)), .val (.int (own_empty (9218868437227405312 : UInt64) (18442240474082181120 : UInt64))), .unset] [(.int (1 : Int32))]))
    refine own_st (fun t_ k_ => XS.goto X115.here hx rfl (pc0 := 56) (pc' := 60) rfl (hb hby at_56) (by decide) (by decide) k_) ?_
    show own_Go p.tables e below _ (T115.setTop (mkF m 60 #[.val (.int p0), .val (.int p1), .val (.ref b108), .val (.int (1 : Int32)), .val (.int (1 : Int32)), .val (.int (own_empty (9218868437227405312 : UInt64) (18442240474082181120 : UInt64))), .unset] [(.int (1 : Int32))]))
    refine own_st (fun t_ k_ => XS.istore X115.here hx rfl (hb hby at_60) rfl (l' := #[.val (.int p0), .val (.int p1), .val (.ref b108), .val (.int (1 : Int32)), .val (.int (1 : Int32)), .val (.int (own_empty (9218868437227405312 : UInt64) (18442240474082181120 : UInt64))), .val (.int (1 : Int32))]) rfl k_) ?_
    show own_Go p.tables e below _ (T115.setTop (mkF m 62 #[.val (.int p0), .val (.int p1), .val (.ref b108), .val (.int (1 : Int32)), .val (.int (1 : Int32)), .val (.int (own_empty (9218868437227405312 : UInt64) (18442240474082181120 : UInt64))), .val (.int (1 : Int32))] []))
    refine own_st (fun t_ k_ => XS.iload X115.here hx rfl (hb hby at_62) rfl k_) ?_
    show own_Go p.tables e below _ (T115.setTop (mkF m 64 #[.val (.int p0), .val (.int p1), .val (.ref b108), .val (.int (1 : Int32)), .val (.int (1 : Int32)), .val (.int (own_empty (9218868437227405312 : UInt64) (18442240474082181120 : UInt64))), .val (.int (1 : Int32))] [(.int (1 : Int32))]))
    refine own_st (fun t_ k_ => XS.ifNo X115.here hx rfl (hb hby at_64) rfl ((if0 _ _).trans (feq (by decide : ¬ ((1 : Int32) = (0 : Int32)))).1) k_) ?_
    show own_Go p.tables e below _ (T115.setTop (mkF m 67 #[.val (.int p0), .val (.int p1), .val (.ref b108), .val (.int (1 : Int32)), .val (.int (1 : Int32)), .val (.int (own_empty (9218868437227405312 : UInt64) (18442240474082181120 : UInt64))), .val (.int (1 : Int32))] []))
    refine own_st (fun t_ k_ => XS.iload X115.here hx rfl (hb hby at_67) rfl k_) ?_
    show own_Go p.tables e below _ (T115.setTop (mkF m 69 #[.val (.int p0), .val (.int p1), .val (.ref b108), .val (.int (1 : Int32)), .val (.int (1 : Int32)), .val (.int (own_empty (9218868437227405312 : UInt64) (18442240474082181120 : UInt64))), .val (.int (1 : Int32))] [(.int (own_empty (9218868437227405312 : UInt64) (18442240474082181120 : UInt64)))]))
    refine own_st (fun t_ k_ => XS.ifNo X115.here hx rfl (hb hby at_69) rfl ((if0 _ _).trans (feq (by rw [own_e1]; decide : ¬ ((own_empty (9218868437227405312 : UInt64) (18442240474082181120 : UInt64)) = (0 : Int32)))).1) k_) ?_
    show own_Go p.tables e below _ (T115.setTop (mkF m 72 #[.val (.int p0), .val (.int p1), .val (.ref b108), .val (.int (1 : Int32)), .val (.int (1 : Int32)), .val (.int (own_empty (9218868437227405312 : UInt64) (18442240474082181120 : UInt64))), .val (.int (1 : Int32))] []))
    refine own_st (fun t_ k_ => XS.iload X115.here hx rfl (hb hby at_72) rfl k_) ?_
    show own_Go p.tables e below _ (T115.setTop (mkF m 74 #[.val (.int p0), .val (.int p1), .val (.ref b108), .val (.int (1 : Int32)), .val (.int (1 : Int32)), .val (.int (own_empty (9218868437227405312 : UInt64) (18442240474082181120 : UInt64))), .val (.int (1 : Int32))] [(.int (1 : Int32))]))
    refine own_st (fun t_ k_ => XS.ifNo X115.here hx rfl (hb hby at_74) rfl ((if0 _ _).trans (feq (by decide : ¬ ((1 : Int32) = (0 : Int32)))).1) k_) ?_
    show own_Go p.tables e below _ (T115.setTop (mkF m 77 #[.val (.int p0), .val (.int p1), .val (.ref b108), .val (.int (1 : Int32)), .val (.int (1 : Int32)), .val (.int (own_empty (9218868437227405312 : UInt64) (18442240474082181120 : UInt64))), .val (.int (1 : Int32))] []))
    refine own_st (fun t_ k_ => XS.iconst X115.here hx rfl (hb hby at_77) k_) ?_
    show own_Go p.tables e below _ (T115.setTop (mkF m 78 #[.val (.int p0), .val (.int p1), .val (.ref b108), .val (.int (1 : Int32)), .val (.int (1 : Int32)), .val (.int (own_empty (9218868437227405312 : UInt64) (18442240474082181120 : UInt64))), .val (.int (1 : Int32))] [(.int (1 : Int32))]))
    refine own_st (fun t_ k_ => XS.goto X115.here hx rfl (pc0 := 78) (pc' := 82) rfl (hb hby at_78) (by decide) (by decide) k_) ?_
    show own_Go p.tables e below _ (T115.setTop (mkF m 82 #[.val (.int p0), .val (.int p1), .val (.ref b108), .val (.int (1 : Int32)), .val (.int (1 : Int32)), .val (.int (own_empty (9218868437227405312 : UInt64) (18442240474082181120 : UInt64))), .val (.int (1 : Int32))] [(.int (1 : Int32))]))
    exact own_ret (w := (.int (1 : Int32))) X115 hx hnl Bd.returns rfl (Or.inl ⟨rfl, by decide, _, rfl⟩) (hb hby at_82) ⟨rfl, N115, (by rw [eq115]; exact K109)⟩ (by decide) (by decide)
  · skip
    refine own_st (fun t_ k_ => XS.icmpYes X109.here hx rfl (pc0 := 14) (pc' := 21) rfl (hb hby at_14) rfl (flt c14_110).2.2.2 (by decide) (by decide) k_) ?_
    show own_Go p.tables e below _ (T109.setTop (mkF m 21 #[.val (.int p0), .val (.int p1), .val (.ref b108), .unset, .unset, .unset, .unset] []))
    refine own_st (fun t_ k_ => XS.iconst X109.here hx rfl (hb hby at_21) k_) ?_
    show own_Go p.tables e below _ (T109.setTop (mkF m 22 #[.val (.int p0), .val (.int p1), .val (.ref b108), .unset, .unset, .unset, .unset] [(.int (0 : Int32))]))
    refine own_st (fun t_ k_ => XS.istoreN X109.here hx rfl (hb hby at_22) rfl (l' := #[.val (.int p0), .val (.int p1), .val (.ref b108), .val (.int (0 : Int32)), .unset, .unset, .unset]) rfl k_) ?_
    show own_Go p.tables e below _ (T109.setTop (mkF m 23 #[.val (.int p0), .val (.int p1), .val (.ref b108), .val (.int (0 : Int32)), .unset, .unset, .unset] []))
    refine own_st (fun t_ k_ => XS.aloadN X109.here hx rfl (hb hby at_23) rfl rfl k_) ?_
    show own_Go p.tables e below _ (T109.setTop (mkF m 24 #[.val (.int p0), .val (.int p1), .val (.ref b108), .val (.int (0 : Int32)), .unset, .unset, .unset] [(.ref b108)]))
    obtain ⟨cq116, kq116, q116a, q116b, q116c⟩ := isOf hZ rfl (A108.keep Kq109)
    obtain ⟨_, _, ⟨T116, L116, k116, n116⟩, -, X116, ⟨Lc116, hQ116, l116, y116, z116⟩, st116⟩ := X109.virtualBack hx (y := (⟨"com/example/cima/cima/model/Interval", "isEmpty", "()Z"⟩ : MethodName)) (z := (⟨"com/example/cima/cima/model/Interval", "isEmpty", "()Z"⟩ : MethodName)) hown (mvT hZ (hw _ (List.mem_of_getElem? (i := 18) rfl))) (mvT hZ (hw _ (List.mem_of_getElem? (i := 19) rfl))) (notFace_of_selects (args := #[]) (mvT hZ (hw _ (List.mem_of_getElem? (i := 21) rfl)))) (mvT hZ (hw _ (List.mem_of_getElem? (i := 21) rfl))) (mvT hZ (hw _ (List.mem_of_getElem? (i := 20) rfl))) (by decide) (backOf (W := 0) (own_rm4 l Z a0 hw [] b108 (FP.i2d p0) (FP.i2d p1) T109.heap n0 (Nat.le_trans Z0 K109.1) P109_0 P109_1) hZ (hw _ (List.mem_of_getElem? (i := 22) rfl)) (hw _ (List.mem_of_getElem? (i := 2) rfl)) (by decide) (by decide)) q116a q116c (g := (mkF m 24 #[.val (.int p0), .val (.int p1), .val (.ref b108), .val (.int (0 : Int32)), .unset, .unset, .unset] [(.ref b108)])) rfl (by rw [hml]; rfl) (Steps.refl _) (argsL := []) (rest := []) (lenOf own_pd2 rfl) rfl (by show 2 * 0 + _ ≤ _; exact Nat.le_of_eq rfl) (hb hby at_24) (fun _ _ => ⟨rfl, rfl, (by decide : 1 + 0 ≤ _), (by decide : 2 + 0 ≤ _)⟩)
    dsimp only [Pt.U, Pt.locs, Pt.cells, Pt.slots] at X116 l116 y116 z116 st116 hQ116
    subst l116 y116 z116
    obtain ⟨rfl, N116q, eq116⟩ := hQ116
    have N116 := Fr.app N109 N116q
    refine own_tr st116 ?_
    show own_Go p.tables e below _ (T116.setTop (mkF m 27 #[.val (.int p0), .val (.int p1), .val (.ref b108), .val (.int (0 : Int32)), .unset, .unset, .unset] [(.int (own_empty (FP.i2d p0) (FP.i2d p1)))]))
    refine own_st (fun t_ k_ => XS.iloadN X116.here hx rfl (hb hby at_27) rfl k_) ?_
    show own_Go p.tables e below _ (T116.setTop (mkF m 28 #[.val (.int p0), .val (.int p1), .val (.ref b108), .val (.int (0 : Int32)), .unset, .unset, .unset] [(.int (0 : Int32)), (.int (own_empty (FP.i2d p0) (FP.i2d p1)))]))
    refine own_st (fun t_ k_ => XS.icmpNo X116.here hx rfl (hb hby at_28) rfl (teq (by rw [own_law]; simp [c14_110] : (own_empty (FP.i2d p0) (FP.i2d p1)) = (0 : Int32))).2 k_) ?_
    show own_Go p.tables e below _ (T116.setTop (mkF m 31 #[.val (.int p0), .val (.int p1), .val (.ref b108), .val (.int (0 : Int32)), .unset, .unset, .unset] []))
    refine own_st (fun t_ k_ => XS.iconst X116.here hx rfl (hb hby at_31) k_) ?_
    show own_Go p.tables e below _ (T116.setTop (mkF m 32 #[.val (.int p0), .val (.int p1), .val (.ref b108), .val (.int (0 : Int32)), .unset, .unset, .unset] [(.int (1 : Int32))]))
    refine own_st (fun t_ k_ => XS.goto X116.here hx rfl (pc0 := 32) (pc' := 36) rfl (hb hby at_32) (by decide) (by decide) k_) ?_
    show own_Go p.tables e below _ (T116.setTop (mkF m 36 #[.val (.int p0), .val (.int p1), .val (.ref b108), .val (.int (0 : Int32)), .unset, .unset, .unset] [(.int (1 : Int32))]))
    refine own_st (fun t_ k_ => XS.istore X116.here hx rfl (hb hby at_36) rfl (l' := #[.val (.int p0), .val (.int p1), .val (.ref b108), .val (.int (0 : Int32)), .val (.int (1 : Int32)), .unset, .unset]) rfl k_) ?_
    show own_Go p.tables e below _ (T116.setTop (mkF m 38 #[.val (.int p0), .val (.int p1), .val (.ref b108), .val (.int (0 : Int32)), .val (.int (1 : Int32)), .unset, .unset] []))
    obtain ⟨T117, X117, e117, st117⟩ := getS2 X116 hx hZ hown (host := "") (Or.inl (hw _ (List.mem_of_getElem? (i := 23) rfl))) Via.refl eq116 (q1.ext ((q0.ext E108).keep Kq109 (allS ge108 all0)).2) (g := (mkF m 38 #[.val (.int p0), .val (.int p1), .val (.ref b108), .val (.int (0 : Int32)), .val (.int (1 : Int32)), .unset, .unset] [])) rfl (hb hby at_38)
    refine own_st (st117) ?_
    show own_Go p.tables e below _ (T117.setTop (mkF m 41 #[.val (.int p0), .val (.int p1), .val (.ref b108), .val (.int (0 : Int32)), .val (.int (1 : Int32)), .unset, .unset] [(.ref a_Interval_EMPTY)]))
    obtain ⟨cq118, kq118, q118a, q118b, q118c⟩ := isOf hZ e117 (q2.ext ((q0.ext E108).keep Kq109 (allS ge108 all0)).2)
    obtain ⟨_, _, ⟨T118, L118, k118, n118⟩, -, X118, ⟨Lc118, hQ118, l118, y118, z118⟩, st118⟩ := X117.virtualBack hx (y := (⟨"com/example/cima/cima/model/Interval", "isEmpty", "()Z"⟩ : MethodName)) (z := (⟨"com/example/cima/cima/model/Interval", "isEmpty", "()Z"⟩ : MethodName)) hown (mvT hZ (hw _ (List.mem_of_getElem? (i := 18) rfl))) (mvT hZ (hw _ (List.mem_of_getElem? (i := 19) rfl))) (notFace_of_selects (args := #[]) (mvT hZ (hw _ (List.mem_of_getElem? (i := 21) rfl)))) (mvT hZ (hw _ (List.mem_of_getElem? (i := 21) rfl))) (mvT hZ (hw _ (List.mem_of_getElem? (i := 20) rfl))) (by decide) (backOf (W := 0) (own_rm4 l Z a0 hw [] a_Interval_EMPTY (9218868437227405312 : UInt64) (18442240474082181120 : UInt64) T109.heap n0 (Nat.le_trans Z0 K109.1) (q3.ext ((q0.ext E108).keep Kq109 (allS ge108 all0)).2) (q4.ext ((q0.ext E108).keep Kq109 (allS ge108 all0)).2)) hZ (hw _ (List.mem_of_getElem? (i := 22) rfl)) (hw _ (List.mem_of_getElem? (i := 2) rfl)) (by decide) (by decide)) q118a q118c (g := (mkF m 41 #[.val (.int p0), .val (.int p1), .val (.ref b108), .val (.int (0 : Int32)), .val (.int (1 : Int32)), .unset, .unset] [(.ref a_Interval_EMPTY)])) rfl (by rw [hml]; rfl) (Steps.refl _) (argsL := []) (rest := []) (lenOf own_pd2 rfl) rfl (by show 2 * 0 + _ ≤ _; exact Nat.le_of_eq rfl) (hb hby at_41) (fun _ _ => ⟨rfl, e117, (by decide : 1 + 0 ≤ _), (by decide : 2 + 0 ≤ _)⟩)
    dsimp only [Pt.U, Pt.locs, Pt.cells, Pt.slots] at X118 l118 y118 z118 st118 hQ118
    subst l118 y118 z118
    obtain ⟨rfl, N118q, eq118⟩ := hQ118
    have N118 := Fr.app N116 N118q
    refine own_tr st118 ?_
    show own_Go p.tables e below _ (T118.setTop (mkF m 44 #[.val (.int p0), .val (.int p1), .val (.ref b108), .val (.int (0 : Int32)), .val (.int (1 : Int32)), .unset, .unset] [(.int (own_empty (9218868437227405312 : UInt64) (18442240474082181120 : UInt64)))]))
    refine own_st (fun t_ k_ => XS.istore X118.here hx rfl (hb hby at_44) rfl (l' := #[.val (.int p0), .val (.int p1), .val (.ref b108), .val (.int (0 : Int32)), .val (.int (1 : Int32)), .val (.int (own_empty (9218868437227405312 : UInt64) (18442240474082181120 : UInt64))), .unset]) rfl k_) ?_
    show own_Go p.tables e below _ (T118.setTop (mkF m 46 #[.val (.int p0), .val (.int p1), .val (.ref b108), .val (.int (0 : Int32)), .val (.int (1 : Int32)), .val (.int (own_empty (9218868437227405312 : UInt64) (18442240474082181120 : UInt64))), .unset] []))
    obtain ⟨T119, X119, e119, st119⟩ := getS2 X118 hx hZ hown (host := "") (Or.inl (hw _ (List.mem_of_getElem? (i := 25) rfl))) Via.refl eq118 (q5.ext ((q0.ext E108).keep Kq109 (allS ge108 all0)).2) (g := (mkF m 46 #[.val (.int p0), .val (.int p1), .val (.ref b108), .val (.int (0 : Int32)), .val (.int (1 : Int32)), .val (.int (own_empty (9218868437227405312 : UInt64) (18442240474082181120 : UInt64))), .unset] [])) rfl (hb hby at_46)
    refine own_st (st119) ?_
    show own_Go p.tables e below _ (T119.setTop (mkF m 49 #[.val (.int p0), .val (.int p1), .val (.ref b108), .val (.int (0 : Int32)), .val (.int (1 : Int32)), .val (.int (own_empty (9218868437227405312 : UInt64) (18442240474082181120 : UInt64))), .unset] [(.ref a_Interval_ALL)]))
    obtain ⟨cq120, kq120, q120a, q120b, q120c⟩ := isOf hZ e119 (q6.ext ((q0.ext E108).keep Kq109 (allS ge108 all0)).2)
    obtain ⟨_, _, ⟨T120, L120, k120, n120⟩, -, X120, ⟨Lc120, hQ120, l120, y120, z120⟩, st120⟩ := X119.virtualBack hx (y := (⟨"com/example/cima/cima/model/Interval", "isEmpty", "()Z"⟩ : MethodName)) (z := (⟨"com/example/cima/cima/model/Interval", "isEmpty", "()Z"⟩ : MethodName)) hown (mvT hZ (hw _ (List.mem_of_getElem? (i := 18) rfl))) (mvT hZ (hw _ (List.mem_of_getElem? (i := 19) rfl))) (notFace_of_selects (args := #[]) (mvT hZ (hw _ (List.mem_of_getElem? (i := 21) rfl)))) (mvT hZ (hw _ (List.mem_of_getElem? (i := 21) rfl))) (mvT hZ (hw _ (List.mem_of_getElem? (i := 20) rfl))) (by decide) (backOf (W := 0) (own_rm4 l Z a0 hw [] a_Interval_ALL (18442240474082181120 : UInt64) (9218868437227405312 : UInt64) T109.heap n0 (Nat.le_trans Z0 K109.1) (q7.ext ((q0.ext E108).keep Kq109 (allS ge108 all0)).2) (q8.ext ((q0.ext E108).keep Kq109 (allS ge108 all0)).2)) hZ (hw _ (List.mem_of_getElem? (i := 22) rfl)) (hw _ (List.mem_of_getElem? (i := 2) rfl)) (by decide) (by decide)) q120a q120c (g := (mkF m 49 #[.val (.int p0), .val (.int p1), .val (.ref b108), .val (.int (0 : Int32)), .val (.int (1 : Int32)), .val (.int (own_empty (9218868437227405312 : UInt64) (18442240474082181120 : UInt64))), .unset] [(.ref a_Interval_ALL)])) rfl (by rw [hml]; rfl) (Steps.refl _) (argsL := []) (rest := []) (lenOf own_pd2 rfl) rfl (by show 2 * 0 + _ ≤ _; exact Nat.le_of_eq rfl) (hb hby at_49) (fun _ _ => ⟨rfl, e119, (by decide : 1 + 0 ≤ _), (by decide : 2 + 0 ≤ _)⟩)
    dsimp only [Pt.U, Pt.locs, Pt.cells, Pt.slots] at X120 l120 y120 z120 st120 hQ120
    subst l120 y120 z120
    obtain ⟨rfl, N120q, eq120⟩ := hQ120
    have N120 := Fr.app N118 N120q
    refine own_tr st120 ?_
    show own_Go p.tables e below _ (T120.setTop (mkF m 52 #[.val (.int p0), .val (.int p1), .val (.ref b108), .val (.int (0 : Int32)), .val (.int (1 : Int32)), .val (.int (own_empty (9218868437227405312 : UInt64) (18442240474082181120 : UInt64))), .unset] [(.int (own_empty (18442240474082181120 : UInt64) (9218868437227405312 : UInt64)))]))
    refine own_st (fun t_ k_ => XS.ifNo X120.here hx rfl (hb hby at_52) rfl ((if0 _ _).trans (teq (own_e2 : (own_empty (18442240474082181120 : UInt64) (9218868437227405312 : UInt64)) = (0 : Int32))).2) k_) ?_
    show own_Go p.tables e below _ (T120.setTop (mkF m 55 #[.val (.int p0), .val (.int p1), .val (.ref b108), .val (.int (0 : Int32)), .val (.int (1 : Int32)), .val (.int (own_empty (9218868437227405312 : UInt64) (18442240474082181120 : UInt64))), .unset] []))
    refine own_st (fun t_ k_ => XS.iconst X120.here hx rfl (hb hby at_55) k_) ?_
    show own_Go p.tables e below _ (T120.setTop (mkF m 56 #[.val (.int p0), .val (.int p1), .val (.ref b108), .val (.int (0 : Int32)), .val (.int (1 : Int32)), .val (.int (own_empty (9218868437227405312 : UInt64) (18442240474082181120 : UInt64))), .unset] [(.int (1 : Int32))]))
    refine own_st (fun t_ k_ => XS.goto X120.here hx rfl (pc0 := 56) (pc' := 60) rfl (hb hby at_56) (by decide) (by decide) k_) ?_
    show own_Go p.tables e below _ (T120.setTop (mkF m 60 #[.val (.int p0), .val (.int p1), .val (.ref b108), .val (.int (0 : Int32)), .val (.int (1 : Int32)), .val (.int (own_empty (9218868437227405312 : UInt64) (18442240474082181120 : UInt64))), .unset] [(.int (1 : Int32))]))
    refine own_st (fun t_ k_ => XS.istore X120.here hx rfl (hb hby at_60) rfl (l' := #[.val (.int p0), .val (.int p1), .val (.ref b108), .val (.int (0 : Int32)), .val (.int (1 : Int32)), .val (.int (own_empty (9218868437227405312 : UInt64) (18442240474082181120 : UInt64))), .val (.int (1 : Int32))]) rfl k_) ?_
    show own_Go p.tables e below _ (T120.setTop (mkF m 62 #[.val (.int p0), .val (.int p1), .val (.ref b108), .val (.int (0 : Int32)), .val (.int (1 : Int32)), .val (.int (own_empty (9218868437227405312 : UInt64) (18442240474082181120 : UInt64))), .val (.int (1 : Int32))] []))
    refine own_st (fun t_ k_ => XS.iload X120.here hx rfl (hb hby at_62) rfl k_) ?_
    show own_Go p.tables e below _ (T120.setTop (mkF m 64 #[.val (.int p0), .val (.int p1), .val (.ref b108), .val (.int (0 : Int32)), .val (.int (1 : Int32)), .val (.int (own_empty (9218868437227405312 : UInt64) (18442240474082181120 : UInt64))), .val (.int (1 : Int32))] [(.int (1 : Int32))]))
    refine own_st (fun t_ k_ => XS.ifNo X120.here hx rfl (hb hby at_64) rfl ((if0 _ _).trans (feq (by decide : ¬ ((1 : Int32) = (0 : Int32)))).1) k_) ?_
    show own_Go p.tables e below _ (T120.setTop (mkF m 67 #[.val (.int p0), .val (.int p1), .val (.ref b108), .val (.int (0 : Int32)), .val (.int (1 : Int32)), .val (.int (own_empty (9218868437227405312 : UInt64) (18442240474082181120 : UInt64))), .val (.int (1 : Int32))] []))
    refine own_st (fun t_ k_ => XS.iload X120.here hx rfl (hb hby at_67) rfl k_) ?_
    show own_Go p.tables e below _ (T120.setTop (mkF m 69 #[.val (.int p0), .val (.int p1), .val (.ref b108), .val (.int (0 : Int32)), .val (.int (1 : Int32)), .val (.int (own_empty (9218868437227405312 : UInt64) (18442240474082181120 : UInt64))), .val (.int (1 : Int32))] [(.int (own_empty (9218868437227405312 : UInt64) (18442240474082181120 : UInt64)))]))
    refine own_st (fun t_ k_ => XS.ifNo X120.here hx rfl (hb hby at_69) rfl ((if0 _ _).trans (feq (by rw [own_e1]; decide : ¬ ((own_empty (9218868437227405312 : UInt64) (18442240474082181120 : UInt64)) = (0 : Int32)))).1) k_) ?_
    show own_Go p.tables e below _ (T120.setTop (mkF m 72 #[.val (.int p0), .val (.int p1), .val (.ref b108), .val (.int (0 : Int32)), .val (.int (1 : Int32)), .val (.int (own_empty (9218868437227405312 : UInt64) (18442240474082181120 : UInt64))), .val (.int (1 : Int32))] []))
    refine own_st (fun t_ k_ => XS.iload X120.here hx rfl (hb hby at_72) rfl k_) ?_
    show own_Go p.tables e below _ (T120.setTop (mkF m 74 #[.val (.int p0), .val (.int p1), .val (.ref b108), .val (.int (0 : Int32)), .val (.int (1 : Int32)), .val (.int (own_empty (9218868437227405312 : UInt64) (18442240474082181120 : UInt64))), .val (.int (1 : Int32))] [(.int (1 : Int32))]))
    refine own_st (fun t_ k_ => XS.ifNo X120.here hx rfl (hb hby at_74) rfl ((if0 _ _).trans (feq (by decide : ¬ ((1 : Int32) = (0 : Int32)))).1) k_) ?_
    show own_Go p.tables e below _ (T120.setTop (mkF m 77 #[.val (.int p0), .val (.int p1), .val (.ref b108), .val (.int (0 : Int32)), .val (.int (1 : Int32)), .val (.int (own_empty (9218868437227405312 : UInt64) (18442240474082181120 : UInt64))), .val (.int (1 : Int32))] []))
    refine own_st (fun t_ k_ => XS.iconst X120.here hx rfl (hb hby at_77) k_) ?_
    show own_Go p.tables e below _ (T120.setTop (mkF m 78 #[.val (.int p0), .val (.int p1), .val (.ref b108), .val (.int (0 : Int32)), .val (.int (1 : Int32)), .val (.int (own_empty (9218868437227405312 : UInt64) (18442240474082181120 : UInt64))), .val (.int (1 : Int32))] [(.int (1 : Int32))]))
    refine own_st (fun t_ k_ => XS.goto X120.here hx rfl (pc0 := 78) (pc' := 82) rfl (hb hby at_78) (by decide) (by decide) k_) ?_
    show own_Go p.tables e below _ (T120.setTop (mkF m 82 #[.val (.int p0), .val (.int p1), .val (.ref b108), .val (.int (0 : Int32)), .val (.int (1 : Int32)), .val (.int (own_empty (9218868437227405312 : UInt64) (18442240474082181120 : UInt64))), .val (.int (1 : Int32))] [(.int (1 : Int32))]))
    exact own_ret (w := (.int (1 : Int32))) X120 hx hnl Bd.returns rfl (Or.inl ⟨rfl, by decide, _, rfl⟩) (hb hby at_82) ⟨rfl, N120, (by rw [eq120]; exact K109)⟩ (by decide) (by decide)

set_option maxRecDepth 65536 in
set_option maxHeartbeats 40000000 in
theorem comes_1 {Post : Tables → Env → Array Value → State → Outcome → State → Prop} (hpost : ∀ tb e args s v u, (limb_1_1.after args s (.returned v) u = true ∧ limb_1_2.after args s (.returned v) u = true ∧ True) → FrameEnd s (.returned v) u (Jvm.fieldLocs frame_1_writes args s ++ Jvm.arrayLocs frame_1_arrays args s ++ Jvm.staticLocs frame_1_statics s) 16 128 → Post tb e args s (.returned v) u) :
    ArmFor flags0 classFile x code maxLocals ret World_1 tables_1 room_1 Calls_1 rest_1 Pre_1 Post := by
  intro l hfl _ _ p e ha hc hk s m args below hf hA hF happ hP
  obtain ⟨hcalls, hrest, hpre⟩ := hP
  obtain ⟨-, -, -, hnamed, -, -, -, hat⟩ := (Spec.applies_iff hf).mp happ
  obtain ⟨hg, hn⟩ := and_e (Cond.before_iff.mp (show (Jvm.Cond.and given_1 narrow_1).before args s = true from hpre))
  obtain ⟨hcount, g0⟩ := and_e hg
  obtain ⟨v0, g1⟩ := and_e g0
  have v1 := g1
  obtain ⟨w0, w1, rfl⟩ : ∃ w0 w1 : Value, args = #[w0, w1] := by
    have hs : args.size = 2 := by simpa [Cond.value, given_1] using hcount
    obtain ⟨L⟩ := args
    match L, hs with
    | [w0, w1], _ => exact ⟨w0, w1, rfl⟩
  have hw := fun d (hd : d ∈ tables_1) => atoms_spec (ws := Jvm.Cond.code x code maxLocals ret :: tables_1) hat d (List.mem_cons_of_mem _ hd)
  have hfit : Fit s := fun {y c} hc i hi => by
    obtain ⟨ha, rfl⟩ := Array.getElem?_eq_some_iff.mp hc
    have q := List.all_eq_true.mp ((Array.all_eq_true_iff_forall_mem.mp hF) _ (Array.getElem_mem ha)) i (List.mem_range.mpr hi)
    simpa [Array.getElem?_eq_getElem hi] using q
  obtain ⟨i0, ei0⟩ := is_v v0
  obtain rfl : w0 = (.int i0) := Option.some.inj ei0
  obtain ⟨i1, ei1⟩ := is_v v1
  obtain rfl : w1 = (.int i1) := Option.some.inj ei1
  obtain ⟨u1a, u1b⟩ := and_e hn
  obtain ⟨a_Interval_EMPTY, ev_a_Interval_EMPTY⟩ := exa_v u1a
  have E_a_Interval_EMPTY := Exa.start ev_a_Interval_EMPTY u1a
  have S_a_Interval_EMPTY := Sta.start ev_a_Interval_EMPTY (Or.inr ⟨(hw _ (List.mem_of_getElem? (i := 2) rfl)), (hw _ (List.mem_of_getElem? (i := 24) rfl))⟩)
  obtain ⟨u2a, u2b⟩ := and_e u1b
  have F_a_Interval_EMPTY_low : Fld s s.heap a_Interval_EMPTY "com/example/cima/cima/model/Interval" "low" "D" (.double (9218868437227405312 : UInt64)) := Fld.start ((fld_at ev_a_Interval_EMPTY).symm.trans (own_eqD u2a))
  obtain ⟨u3a, u3b⟩ := and_e u2b
  have F_a_Interval_EMPTY_high : Fld s s.heap a_Interval_EMPTY "com/example/cima/cima/model/Interval" "high" "D" (.double (18442240474082181120 : UInt64)) := Fld.start ((fld_at ev_a_Interval_EMPTY).symm.trans (own_eqD u3a))
  obtain ⟨u4a, u4b⟩ := and_e u3b
  obtain ⟨a_Interval_ALL, ev_a_Interval_ALL⟩ := exa_v u4a
  have E_a_Interval_ALL := Exa.start ev_a_Interval_ALL u4a
  have S_a_Interval_ALL := Sta.start ev_a_Interval_ALL (Or.inr ⟨(hw _ (List.mem_of_getElem? (i := 2) rfl)), (hw _ (List.mem_of_getElem? (i := 26) rfl))⟩)
  obtain ⟨u5a, u5b⟩ := and_e u4b
  have F_a_Interval_ALL_low : Fld s s.heap a_Interval_ALL "com/example/cima/cima/model/Interval" "low" "D" (.double (18442240474082181120 : UInt64)) := Fld.start ((fld_at ev_a_Interval_ALL).symm.trans (own_eqD u5a))
  have F_a_Interval_ALL_high : Fld s s.heap a_Interval_ALL "com/example/cima/cima/model/Interval" "high" "D" (.double (9218868437227405312 : UInt64)) := Fld.start ((fld_at ev_a_Interval_ALL).symm.trans (own_eqD u5b))
  obtain ⟨n, o, h1, h2, h3, _, L, rfl, ⟨rfl, N, -⟩, hq⟩ := own_rm0 l s _ hw tables_1 i0 i1 a_Interval_EMPTY a_Interval_ALL s.heap s.heap.size (Nat.le_refl _) (Old.start s) S_a_Interval_EMPTY E_a_Interval_EMPTY F_a_Interval_EMPTY_low F_a_Interval_EMPTY_high S_a_Interval_ALL E_a_Interval_ALL F_a_Interval_ALL_low F_a_Interval_ALL_high p e ha hc hk s m _ below hf ((Spec.applies_iff_loose hf).mp happ).1 ⟨rfl, State.Warmed39.refl s, rfl⟩ trivial
  refine ⟨n, _, h1, h2, h3, hpost _ _ _ _ _ _ ⟨Cond.after_iff.mpr rfl, Cond.after_iff.mpr (eq_i res_at (Term.int_eval (1)) rfl), trivial⟩ ⟨hq.1, hq.2.1, (hq.2.2.sift fun y hy => Or.inr (N y hy)).mono (by decide) (by decide)⟩⟩
theorem main_1_1 : Claimed_1_1 := comes_1 fun _ _ _ _ _ _ h hF => ⟨h.1, hF⟩
theorem main_1_2 : Claimed_1_2 := comes_1 fun _ _ _ _ _ _ h hF => ⟨h.2.1, hF⟩

end Jvm.Pilot.@@N@@
namespace Jvm.Pilot.@@N@@
open Jvm Jvm.ClassFile Sem Op Lib Jvm.Free Jvm.Stand Jvm.Pilot.@@N@@.Jvm.D
/-! MADE BY PROGRAM (witnessworld.py) out of the Statement's table words and the real class files: 10 classes; the members and pool entries that the words name. The judged class is class 1, her method 1. -/
namespace start1
open Jvm.ClassFile
def u (s : String) : CpInfo := .utf8 (stringToUtf16 s)
/-- a pool by its gaps: so many unusable entries, then the entry; so many at the end -/
def gap : Nat → List CpInfo → List CpInfo
  | 0, r => r
  | n + 1, r => .unusable :: gap n r
def poolList (es : List (Nat × CpInfo)) (last : Nat) : List CpInfo := es.foldr (fun e r => gap e.1 (e.2 :: r)) (gap last [])
def pool (es : List (Nat × CpInfo)) (last : Nat) : Array CpInfo := ⟨poolList es last⟩
def fileOf (pool : Array CpInfo) (this : Nat) (attrs : Array Attribute := #[]) (ms : Array MethodInfo := #[]) (fl : Nat := 33) (sup : Nat := 0) (ifs : Array Nat := #[]) (fds : Array FieldInfo := #[]) : ClassFile where
  minorVersion := 0
  majorVersion := 65
  constantPool := pool
  accessFlags := fl
  thisClass := this
  superClass := sup
  interfaces := ifs
  fields := fds
  methods := ms
  attributes := attrs
def plain (name : String) (sup : Option ClassId) : Class where
  name := name
  kind := .ordinary
  loader := none
  accessFlags := 33
  super := sup
  interfaces := #[]
  cf := none
  fields := #[]
  methods := #[]
  instanceTypes := #[]
  staticTypes := #[]
  resolved := #[]
  callSites := []
  init := .initialized
  statics := none
  mirror := none

def pool0 : Array CpInfo := pool [(5, u "<init>"), (0, u "()V"), (1, .class_ 10), (1, u "java/lang/Object")] 113

def k0c0 : Code := { maxStack := 0, maxLocals := 1, code := object_method_1_code, exceptionTable := #[], attributes := #[] }
def k0m0 : Method := { name := "<init>", desc := "()V", sig := { parameters := [], returnType := none }, accessFlags := 1, code := some k0c0 }
/-- java/lang/Object -/
def k0 : Class := { plain "java/lang/Object" none with
  accessFlags := 33
  interfaces := #[]
  cf := some (fileOf pool0 8 #[] #[{ accessFlags := 1, nameIndex := 5, descriptorIndex := 6, attributes := #[] }] 33 0 #[] #[])
  fields := #[]
  methods := #[k0m0]
  instanceTypes := #[]
  staticTypes := #[]
  resolved := Array.replicate 124 none
  statics := none }

def pool1 : Array CpInfo := pool [(2, .class_ 4), (1, u "java/lang/Object"), (0, u "<init>"), (0, u "()V"), (0, .class_ 8), (0, u "com/example/cima/cima/model/Interval"), (0, .methodref 7 10), (0, .nameAndType 5 11), (0, u "(DD)V"), (0, .methodref 7 13), (0, .nameAndType 14 15), (0, u "isEmpty"), (0, u "()Z"), (0, .fieldref 7 17), (0, .nameAndType 18 19), (0, u "EMPTY"), (0, u "Lcom/example/cima/cima/model/Interval;"), (0, .fieldref 7 21), (0, .nameAndType 22 19), (0, u "ALL"), (0, .class_ 24), (0, u "com/example/cima/cima/model/IntervalIsEmptyPinLaw"), (2, u "law"), (0, u "(II)Z")] 3

def k1m0 : Method := { name := "<init>", desc := "()V", sig := { parameters := [], returnType := none }, accessFlags := 1, code := none }
def k1c1 : Code := { maxStack := 6, maxLocals := 7, code := code, exceptionTable := #[], attributes := #[] }
def k1m1 : Method := { name := "law", desc := "(II)Z", sig := { parameters := [.int, .int], returnType := some .boolean }, accessFlags := 9, code := some k1c1 }
/-- com/example/cima/cima/model/IntervalIsEmptyPinLaw -/
def k1 : Class := { plain "com/example/cima/cima/model/IntervalIsEmptyPinLaw" (some 0) with
  accessFlags := 49
  interfaces := #[]
  cf := some (fileOf pool1 23 #[] #[{ accessFlags := 1, nameIndex := 5, descriptorIndex := 6, attributes := #[] }, { accessFlags := 9, nameIndex := 27, descriptorIndex := 28, attributes := #[] }] 49 2 #[] #[])
  fields := #[]
  methods := #[k1m0, k1m1]
  instanceTypes := #[]
  staticTypes := #[]
  resolved := Array.replicate 32 none
  statics := none }

def pool2 : Array CpInfo := pool [(1, .methodref 2 3), (0, .class_ 4), (0, .nameAndType 5 6), (0, u "java/lang/Object"), (0, u "<init>"), (0, u "()V"), (0, .class_ 8), (0, u "java/lang/Record")] 13

def k2c0 : Code := { maxStack := 1, maxLocals := 1, code := jdk_30_method_1_code, exceptionTable := #[], attributes := #[] }
def k2m0 : Method := { name := "<init>", desc := "()V", sig := { parameters := [], returnType := none }, accessFlags := 4, code := some k2c0 }
/-- java/lang/Record -/
def k2 : Class := { plain "java/lang/Record" (some 0) with
  accessFlags := 1057
  interfaces := #[]
  cf := some (fileOf pool2 7 #[] #[{ accessFlags := 4, nameIndex := 5, descriptorIndex := 6, attributes := #[] }] 1057 2 #[] #[])
  fields := #[]
  methods := #[k2m0]
  instanceTypes := #[]
  staticTypes := #[]
  resolved := Array.replicate 22 none
  statics := none }

def pool3 : Array CpInfo := pool [(1, .methodref 2 3), (0, .class_ 4), (0, .nameAndType 5 6), (0, u "java/lang/Record"), (0, u "<init>"), (0, u "()V"), (0, .fieldref 8 9), (0, .class_ 10), (0, .nameAndType 11 12), (0, u "com/example/cima/cima/model/Interval"), (0, u "low"), (0, u "D"), (0, .fieldref 8 14), (0, .nameAndType 15 12), (0, u "high"), (6, u "isEmpty"), (0, u "()Z"), (2, u "EMPTY"), (0, u "Lcom/example/cima/cima/model/Interval;"), (10, u "ALL"), (20, u "(DD)V")] 54

def k3c0 : Code := { maxStack := 3, maxLocals := 5, code := prog_60_method_1_code, exceptionTable := #[], attributes := #[] }
def k3m0 : Method := { name := "<init>", desc := "(DD)V", sig := { parameters := [.double, .double], returnType := none }, accessFlags := 1, code := some k3c0 }
def k3c1 : Code := { maxStack := 4, maxLocals := 1, code := prog_60_method_3_code, exceptionTable := #[], attributes := #[] }
def k3m1 : Method := { name := "isEmpty", desc := "()Z", sig := { parameters := [], returnType := some .boolean }, accessFlags := 1, code := some k3c1 }
/-- com/example/cima/cima/model/Interval -/
def k3 : Class := { plain "com/example/cima/cima/model/Interval" (some 2) with
  accessFlags := 49
  interfaces := #[]
  cf := some (fileOf pool3 8 #[] #[{ accessFlags := 1, nameIndex := 5, descriptorIndex := 59, attributes := #[] }, { accessFlags := 1, nameIndex := 22, descriptorIndex := 23, attributes := #[] }] 49 2 #[] #[{ accessFlags := 18, nameIndex := 11, descriptorIndex := 12, attributes := #[] }, { accessFlags := 18, nameIndex := 15, descriptorIndex := 12, attributes := #[] }, { accessFlags := 25, nameIndex := 38, descriptorIndex := 27, attributes := #[] }, { accessFlags := 25, nameIndex := 26, descriptorIndex := 27, attributes := #[] }])
  fields := #[{ name := "low", type := .double, accessFlags := 18, slot := 0, constantValue := 0 }, { name := "high", type := .double, accessFlags := 18, slot := 1, constantValue := 0 }, { name := "ALL", type := (.object "com/example/cima/cima/model/Interval"), accessFlags := 25, slot := 0, constantValue := 0 }, { name := "EMPTY", type := (.object "com/example/cima/cima/model/Interval"), accessFlags := 25, slot := 1, constantValue := 0 }]
  methods := #[k3m0, k3m1]
  instanceTypes := #[.double, .double]
  staticTypes := #[(.object "com/example/cima/cima/model/Interval"), (.object "com/example/cima/cima/model/Interval")]
  resolved := Array.replicate 114 none
  statics := some 0 }

def pool4 : Array CpInfo := pool [(1, u "java/lang/Cloneable"), (0, .class_ 1), (0, u "java/lang/Object"), (0, .class_ 3)] 3

/-- java/lang/Cloneable -/
def k4 : Class := { plain "java/lang/Cloneable" (some 0) with
  accessFlags := 1537
  interfaces := #[]
  cf := some (fileOf pool4 2 #[] #[] 1537 4 #[] #[])
  fields := #[]
  methods := #[]
  instanceTypes := #[]
  staticTypes := #[]
  resolved := Array.replicate 8 none
  statics := none }

def pool5 : Array CpInfo := pool [(1, u "java/io/Serializable"), (0, .class_ 1), (0, u "java/lang/Object"), (0, .class_ 3)] 3

/-- java/io/Serializable -/
def k5 : Class := { plain "java/io/Serializable" (some 0) with
  accessFlags := 1537
  interfaces := #[]
  cf := some (fileOf pool5 2 #[] #[] 1537 4 #[] #[])
  fields := #[]
  methods := #[]
  instanceTypes := #[]
  staticTypes := #[]
  resolved := Array.replicate 8 none
  statics := none }

/-- the primitive byte -/
def k6 : Class := { plain "byte" none with kind := .primitive 'B', accessFlags := 0x411 }
/-- [B -/
def k7 : Class := { plain "[B" (some 0) with kind := .array 6 .byte, interfaces := #[4, 5], accessFlags := 1041 }

/-- the primitive int -/
def k8 : Class := { plain "int" none with kind := .primitive 'I', accessFlags := 0x411 }
/-- [I -/
def k9 : Class := { plain "[I" (some 0) with kind := .array 8 .int, interfaces := #[4, 5], accessFlags := 1041 }

def heap : Heap := #[{ cls := 3, slots := #[.ref 2, .ref 1], vm := .statics 3 },
  { cls := 3, slots := #[.double 9218868437227405312, .double 18442240474082181120], vm := .none },
  { cls := 3, slots := #[.double 18442240474082181120, .double 9218868437227405312], vm := .none }]
def classes : Array Class := #[k0, k1, k2, k3, k4, k5, k6, k7, k8, k9]
def interned : List (Array UInt16 × Addr) := []
def slotsUsed : Nat := 6
def theMethod : MethodId := ⟨1, 1⟩
def args0 : Array Value := #[.int 5, .int 6]
def aboutOver (below : List Frame) : State where
  vm := { classes := classes, interned := interned.toArray }
  heap := heap
  slotsUsed := slotsUsed
  threads := #[{ frames := .invoking theMethod args0 :: below }]
def below0 : List Frame := [.native { method := ⟨0, 0⟩, args := #[] }]
def about1 : State := aboutOver below0
def p0 : Program := .bare "" "" ""
def e0 : Env := launch0.env 0 0 0
theorem w_frames : about1.frames = Frame.invoking theMethod args0 :: below0 := rfl
set_option maxRecDepth 65536 in
theorem w_args : argsFit about1.vm theMethod args0 = true := by decide +kernel
set_option maxRecDepth 65536 in
theorem w_heap : heapFits about1 = true := by decide +kernel
set_option maxRecDepth 65536 in
theorem w_runnable : about1.curStatus? = some .runnable := by decide +kernel
set_option maxRecDepth 65536 in
theorem w_alone : about1.alone = true := by decide +kernel
set_option maxRecDepth 65536 in
theorem w_named : about1.methodNamed? x = some theMethod := by decide +kernel
set_option maxRecDepth 65536 in
theorem w_hears : about1.hears theMethod below0 = true := by decide +kernel
set_option maxRecDepth 65536 in
theorem w_ripe : about1.ripe theMethod args0 below0 = true := by decide +kernel
theorem w_running : about1.status = .running := rfl
set_option maxRecDepth 65536 in
theorem w_room : about1.hasRoom e0.platform room_1 = true :=
  launch0.hasRoom_least _ room_1 (by decide +kernel) (by decide +kernel) (by decide +kernel) (by decide +kernel) (by decide +kernel) (by decide +kernel)
theorem allAtoms_all (ts : List Jvm.Cond) (a : Array Jvm.Value) (st : Jvm.State) : (allAtoms ts).before a st = ts.all (fun c => c.before a st) := by
  induction ts with
  | nil => rfl
  | cons c t ih =>
    show (Jvm.Cond.and c (allAtoms t)).before a st = _
    rw [Jvm.Cond.before_and, ih, List.all_cons]
def words1 : List Jvm.Cond := Jvm.Cond.code x code maxLocals ret :: tables_1
/-- a 'code' word, met by the world's own term for the bytes: nothing is compared byte by byte -/
theorem code_word {y : MethodName} {bytes : ByteArray} {mx : Nat} {rt : Option FieldType} {a : Array Value} {s : State} {m : MethodId} {meth : Method} {c : Code} (h1 : s.methodNamed? y = some m) (h2 : s.vm.method? m = some meth) (h3 : meth.code = some c) (h4 : c.code = bytes)
    (h5 : (c.maxLocals == mx && c.exceptionTable.isEmpty && decide (c.maxStack ≤ mostOperands) && decide (meth.sig.returnType = rt) && !meth.locks && decide (parseMethodDescriptor y.desc = some meth.sig)) = true) : (Jvm.Cond.code y bytes mx rt).before a s = true := by
  simp only [Bool.and_eq_true, beq_iff_eq, Bool.not_eq_true', decide_eq_true_eq] at h5
  obtain ⟨⟨⟨⟨⟨g1, g2⟩, g3⟩, g4⟩, g5⟩, g6⟩ := h5
  simp [Cond.before, Cond.holds, Cond.value, h1, h2, h3, h4, g1, g2, g3, g4, g5, g6]
def isCode : Jvm.Cond → Bool
  | .code _ _ _ _ => true
  | _ => false
theorem all_split {L : List Jvm.Cond} {P : Jvm.Cond → Bool} (h1 : L.all (fun c => isCode c || P c) = true) (h2 : ∀ c ∈ L.filter isCode, P c = true) : L.all P = true := by
  refine List.all_eq_true.mpr fun c hc => ?_
  have h := List.all_eq_true.mp h1 c hc
  rcases Bool.eq_false_or_eq_true (isCode c) with hi | hi
  · exact h2 c (List.mem_filter.mpr ⟨hc, hi⟩)
  · simpa [hi] using h
set_option maxRecDepth 65536 in
theorem w_c0 : (Jvm.Cond.code x code maxLocals ret).before args0 about1 = true := code_word (m := ⟨1, 1⟩) (meth := k1m1) (c := k1c1) (by decide +kernel) rfl rfl rfl (by decide +kernel)
set_option maxRecDepth 65536 in
theorem w_c1 : (Jvm.Cond.code ({ cls := "com/example/cima/cima/model/Interval", name := "<init>", desc := "(DD)V" } : Jvm.MethodName) prog_60_method_1_code (5 : Nat) (Option.none : Option Jvm.ClassFile.FieldType)).before args0 about1 = true := code_word (m := ⟨3, 0⟩) (meth := k3m0) (c := k3c0) (by decide +kernel) rfl rfl rfl (by decide +kernel)
set_option maxRecDepth 65536 in
theorem w_c2 : (Jvm.Cond.code ({ cls := "java/lang/Record", name := "<init>", desc := "()V" } : Jvm.MethodName) jdk_30_method_1_code (1 : Nat) (Option.none : Option Jvm.ClassFile.FieldType)).before args0 about1 = true := code_word (m := ⟨2, 0⟩) (meth := k2m0) (c := k2c0) (by decide +kernel) rfl rfl rfl (by decide +kernel)
set_option maxRecDepth 65536 in
theorem w_c3 : (Jvm.Cond.code ({ cls := "java/lang/Object", name := "<init>", desc := "()V" } : Jvm.MethodName) object_method_1_code (1 : Nat) (Option.none : Option Jvm.ClassFile.FieldType)).before args0 about1 = true := code_word (m := ⟨0, 0⟩) (meth := k0m0) (c := k0c0) (by decide +kernel) rfl rfl rfl (by decide +kernel)
set_option maxRecDepth 65536 in
theorem w_c4 : (Jvm.Cond.code ({ cls := "com/example/cima/cima/model/Interval", name := "isEmpty", desc := "()Z" } : Jvm.MethodName) prog_60_method_3_code (1 : Nat) (Option.some Jvm.ClassFile.FieldType.boolean)).before args0 about1 = true := code_word (m := ⟨3, 1⟩) (meth := k3m1) (c := k3c1) (by decide +kernel) rfl rfl rfl (by decide +kernel)
def codes1 : List Jvm.Cond := [Jvm.Cond.code x code maxLocals ret, Jvm.Cond.code ({ cls := "com/example/cima/cima/model/Interval", name := "<init>", desc := "(DD)V" } : Jvm.MethodName) prog_60_method_1_code (5 : Nat) (Option.none : Option Jvm.ClassFile.FieldType), Jvm.Cond.code ({ cls := "java/lang/Record", name := "<init>", desc := "()V" } : Jvm.MethodName) jdk_30_method_1_code (1 : Nat) (Option.none : Option Jvm.ClassFile.FieldType), Jvm.Cond.code ({ cls := "java/lang/Object", name := "<init>", desc := "()V" } : Jvm.MethodName) object_method_1_code (1 : Nat) (Option.none : Option Jvm.ClassFile.FieldType), Jvm.Cond.code ({ cls := "com/example/cima/cima/model/Interval", name := "isEmpty", desc := "()Z" } : Jvm.MethodName) prog_60_method_3_code (1 : Nat) (Option.some Jvm.ClassFile.FieldType.boolean)]
set_option maxRecDepth 65536 in
theorem codes_eq : words1.filter isCode = codes1 := rfl
theorem w_codes : ∀ c ∈ words1.filter isCode, c.before args0 about1 = true := by
  rw [codes_eq]
  intro c hc
  simp only [codes1, List.mem_cons, List.not_mem_nil, or_false] at hc
  rcases hc with rfl | rfl | rfl | rfl | rfl
  · exact w_c0
  · exact w_c1
  · exact w_c2
  · exact w_c3
  · exact w_c4
set_option maxRecDepth 65536 in
theorem w_t1 : (words1.take 24).all (fun c => isCode c || c.before args0 about1) = true := by decide +kernel
set_option maxRecDepth 65536 in
theorem w_t2 : (words1.drop 24).all (fun c => isCode c || c.before args0 about1) = true := by decide +kernel
theorem w_tables : (allAtoms (Jvm.Cond.code x code maxLocals ret :: tables_1)).before args0 about1 = true := by
  rw [allAtoms_all]
  show words1.all (fun c => c.before args0 about1) = true
  refine all_split ?_ w_codes
  rw [← List.take_append_drop 24 words1, List.all_append, w_t1, w_t2]
  rfl
set_option maxRecDepth 65536 in
theorem w_case : (Jvm.Cond.and given_1 narrow_1).before args0 about1 = true := by decide +kernel
theorem w_applies : (headSpec (Jvm.Cond.code x code maxLocals ret :: tables_1) room_1).applies x e0.platform about1 = true :=
  (Spec.applies_iff w_frames).mpr ⟨w_running, w_runnable, w_alone, w_named, w_hears, w_ripe, w_room, w_tables⟩
theorem atStart : AtStart classFile x code maxLocals ret World_1 tables_1 room_1 Calls_1 rest_1 Pre_1 launch0 p0 e0 about1 theMethod args0 below0 :=
  ⟨lists_1, trivial, launch0.admits_env _ _ _, launch0.least_env, fairChoices_fair.cas, fairChoices_fair.clock, w_frames, w_args, w_heap, w_applies, trivial, trivial, w_case⟩
end start1
theorem witness_1 : WitnessClaimed_1 := ⟨start1.p0, start1.e0, start1.about1, start1.theMethod, start1.args0, start1.below0, start1.atStart⟩
end Jvm.Pilot.@@N@@
