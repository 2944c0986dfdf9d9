import JvmDerived
import JvmDerived.Pilot.@@N@@Statement
import JvmDerived.Pilot.@@N@@Code
set_option linter.unusedVariables false
set_option linter.unusedSimpArgs false
namespace Jvm.Pilot.@@N@@
open Jvm Jvm.ClassFile Sem Op Lib Jvm.Free Jvm.Stand Jvm.LawKit Jvm.RoadKit Bundle Jvm.Pilot.@@N@@.Jvm.D
theorem own_w {Z : State} {a0 : Array Value} (hw : ∀ d ∈ tables_1, d.before a0 Z = true) (i : Nat) {d : Jvm.Cond} (h : tables_1[i]? = some d) : d.before a0 Z = true := hw _ (List.mem_of_getElem? h)
theorem own_hW {a b : Nat} (h : 2 * 0 + a = b) : 2 * 0 + a ≤ b := Nat.le_of_eq h
abbrev own_n0 : MethodName := ⟨"jdk/internal/util/Preconditions", "checkIndex", "(IILjava/util/function/BiFunction;)I"⟩
abbrev own_n1 : MethodName := ⟨"java/lang/String", "checkIndex", "(II)V"⟩
abbrev own_n2 : MethodName := ⟨"java/lang/String", "isLatin1", "()Z"⟩
abbrev own_n3 : MethodName := ⟨"java/lang/StringLatin1", "charAt", "([BI)C"⟩
abbrev own_n4 : MethodName := ⟨"java/lang/String", "charAt", "(I)C"⟩
abbrev own_n5 : MethodName := ⟨"java/lang/String", "coder", "()B"⟩
abbrev own_n6 : MethodName := ⟨"java/lang/String", "length", "()I"⟩
abbrev own_n7 : MethodName := ⟨"java/lang/AbstractStringBuilder", "<init>", "(I)V"⟩
abbrev own_n8 : MethodName := ⟨"java/lang/StringBuilder", "<init>", "()V"⟩
abbrev own_n9 : MethodName := ⟨"java/lang/AbstractStringBuilder", "ensureCapacityInternal", "(I)V"⟩
abbrev own_n10 : MethodName := ⟨"java/lang/AbstractStringBuilder", "inflateIfNeededFor", "(Ljava/lang/String;)V"⟩
abbrev own_n11 : MethodName := ⟨"java/lang/String", "getBytes", "([BIB)V"⟩
abbrev own_n12 : MethodName := ⟨"java/lang/AbstractStringBuilder", "putStringAt", "(ILjava/lang/String;)V"⟩
abbrev own_n13 : MethodName := ⟨"java/lang/AbstractStringBuilder", "append", "(Ljava/lang/String;)Ljava/lang/AbstractStringBuilder;"⟩
abbrev own_n14 : MethodName := ⟨"java/lang/StringBuilder", "append", "(Ljava/lang/String;)Ljava/lang/StringBuilder;"⟩
abbrev own_n15 : MethodName := ⟨"java/util/Arrays", "checkLength", "(II)V"⟩
abbrev own_n16 : MethodName := ⟨"java/lang/Math", "min", "(II)I"⟩
abbrev own_n17 : MethodName := ⟨"java/util/Arrays", "copyOfRangeByte", "([BII)[B"⟩
abbrev own_n18 : MethodName := ⟨"java/util/Arrays", "copyOfRange", "([BII)[B"⟩
abbrev own_n19 : MethodName := ⟨"java/lang/String", "<init>", "([BB)V"⟩
abbrev own_n20 : MethodName := ⟨"java/lang/StringLatin1", "newString", "([BII)Ljava/lang/String;"⟩
abbrev own_n21 : MethodName := ⟨"java/lang/AbstractStringBuilder", "getValue", "()[B"⟩
abbrev own_n22 : MethodName := ⟨"java/lang/AbstractStringBuilder", "length", "()I"⟩
abbrev own_n23 : MethodName := ⟨"java/lang/StringBuilder", "length", "()I"⟩
abbrev own_n24 : MethodName := ⟨"java/lang/AbstractStringBuilder", "isLatin1", "()Z"⟩
abbrev own_n25 : MethodName := ⟨"java/lang/String", "<init>", "(Ljava/lang/AbstractStringBuilder;Ljava/lang/Void;)V"⟩
abbrev own_n26 : MethodName := ⟨"java/lang/String", "<init>", "(Ljava/lang/StringBuilder;)V"⟩
abbrev own_n27 : MethodName := ⟨"java/lang/StringBuilder", "toString", "()Ljava/lang/String;"⟩
abbrev own_n28 : MethodName := ⟨"java/lang/Integer", "toString", "(II)Ljava/lang/String;"⟩
abbrev own_n29 : MethodName := ⟨"com/example/freshness/freshness/bench/MadeStream", "word", "(I)Ljava/lang/String;"⟩
abbrev own_n30 : MethodName := ⟨"com/example/freshness/freshness/bench/MadeStreamWordPinLaw", "digit", "(J)C"⟩
abbrev own_n31 : MethodName := ⟨"com/example/freshness/freshness/bench/MadeStreamWordPinLaw", "put", "([CIIIJJ)V"⟩
abbrev own_n32 : MethodName := ⟨"com/example/freshness/freshness/bench/MadeStreamWordPinLaw", "same", "(Ljava/lang/String;[CII)Z"⟩

section Own
variable {p : Program} {l : Launch} {e : Env} {R : Room} {s : State} {m : MethodId} {args : Array Value} {below : List Frame} {meth : Method} {c : Code} {T : State} {locs : List Loc} {cells slots : Nat} {Z : State} {h h' : Heap}
def own_Go (tb : Tables) (e : Env) (below : List Frame) (P : State → Outcome → Prop) (A : State) : Prop := ∃ t o, Steps tb e below A t ∧ P t o
def own_P (below : List Frame) (s : State) (Q : Option Value → Heap → List Loc → Prop) (kc ks : Nat) (t : State) (o : Outcome) : Prop := t.status = .running ∧ Ended t below o ∧ ∃ v L, o = .returned v ∧ Q v t.heap L ∧ FrameEnd s o t L kc ks
abbrev own_at (p : Program) (e : Env) (below : List Frame) (P : State → Outcome → Prop) (T : State) (m : MethodId) (pc : Nat) (L : Array Slot) (S : List Value) : Prop := own_Go p.tables e below P (T.setTop (mkF m pc L S))
abbrev oU : Slot := .unset
abbrev oS : Slot := .second
abbrev oN : Slot := .val .null
abbrev oI (x : Int32) : Slot := .val (.int x)
abbrev oJ (x : Int64) : Slot := .val (.long x)
abbrev oD (x : UInt64) : Slot := .val (.double x)
abbrev oR (x : Addr) : Slot := .val (.ref x)
theorem own_st {tb : Tables} {P : State → Outcome → Prop} {A B : State} (k : ∀ t, Steps tb e below B t → Steps tb e below A t) (h : own_Go tb e below P B) : own_Go tb e below P A := by
  obtain ⟨t, o, h1, h2⟩ := h
  exact ⟨t, o, k t h1, h2⟩
theorem own_tr {tb : Tables} {P : State → Outcome → Prop} {A B : State} (k : Steps tb e below A B) (h : own_Go tb e below P B) : own_Go tb e below P A := by
  obtain ⟨t, o, h1, h2⟩ := h
  exact ⟨t, o, k.trans h1, h2⟩
theorem own_ret (X : Stand p l e R s m args below meth c T locs cells slots) (hx : p.tables.exec = Jvm.exec) (hnl : meth.locks = false) {pc : Nat} {Ls : Array Slot} {w : Value} {t : FieldType} {i : Instr} {rest : List Value} (hret : meth.sig.returnType = some t) (hn : narrow t w = w)
    (hi : (i = .ireturn ∧ (t = .int ∨ t = .boolean ∨ t = .byte ∨ t = .char ∨ t = .short) ∧ ∃ z, w = .int z) ∨ (i = .lreturn ∧ t = .long ∧ ∃ z, w = .long z) ∨ (i = .dreturn ∧ t = .double ∧ ∃ z, w = .double z) ∨ (i = .freturn ∧ t = .float ∧ ∃ z, w = .float z) ∨ (i = .areturn ∧ t.isReference = true ∧ w.isRef = true))
    (hd : decode c.code pc = .ok (i, 1)) {Q : Option Value → Heap → List Loc → Prop} {kc ks : Nat} (hq : Q (some w) T.heap locs) (hc : cells ≤ kc) (hs : slots ≤ ks) : own_Go p.tables e below (own_P below s Q kc ks) (T.setTop (mkF m pc Ls (w :: rest))) := by
  obtain ⟨fs, hr, hrun, hended, hW, hsame⟩ := X.leave (v := some w) (fun h => by rw [hret] at h; cases h) hnl
  exact ⟨_, _, retOut X hx hret hn hi hd hr, hrun, hended, _, _, rfl, hq, ⟨_, rfl⟩, hW, hsame.mono hc hs⟩
theorem own_ret0 (X : Stand p l e R s m args below meth c T locs cells slots) (hx : p.tables.exec = Jvm.exec) (hnl : meth.locks = false) {pc : Nat} {Ls : Array Slot} (hret : meth.sig.returnType = none)
    (hd : decode c.code pc = .ok (.return_, 1)) {Q : Option Value → Heap → List Loc → Prop} {kc ks : Nat} (hq : Q none T.heap locs) (hc : cells ≤ kc) (hs : slots ≤ ks) : own_Go p.tables e below (own_P below s Q kc ks) (T.setTop (mkF m pc Ls [])) := by
  obtain ⟨fs, hr, hrun, hended, hW, hsame⟩ := X.leave (v := none) (fun _ => rfl) hnl
  exact ⟨_, _, X.returnOut hx hret hd hr, hrun, hended, _, _, rfl, hq, ⟨_, rfl⟩, hW, hsame.mono hc hs⟩
theorem own_lrem {g : JFrame} {target : State} (X : Stand p l e R s m args below meth c T locs cells slots) (hx : p.tables.exec = Jvm.exec) (hg : g.method = m) {x y : Int64} {rest : List Value} (hd : decode c.code g.pc = .ok (.lrem, 1)) (hs : g.stack = .long y :: .long x :: rest) (hy : y ≠ 0)
    (hr : Steps p.tables e below (T.setTop { g with pc := g.pc + 1, stack := .long (x % y) :: rest }) target) : Steps p.tables e below (T.setTop g) target := by
  exact XS.lrem X.here hx hg hd hs hy (by rw [lrem_mod]; exact hr)
end Own

section OwnA
variable {p : Program} {l : Launch} {e : Env} {R : Room} {s : State} {m : MethodId} {args : Array Value} {below : List Frame} {meth : Method} {c : Code} {T : State} {locs : List Loc} {cells slots : Nat} {Z : State} {h h' : Heap} {a b : Addr} {k : ClassId} {ty : FieldType} {n : Nat} {f : Nat → Value} {sl : Nat} {v : Value} {ws : List Addr}
def own_A (Z : State) (h : Heap) (a : Addr) (k : ClassId) (ty : FieldType) (n : Nat) (f : Nat → Value) : Prop := ∃ c : Cell, Arr Z h a c ty ∧ c.cls = k ∧ c.slots.size = n ∧ n < 2 ^ 31 ∧ (∀ i, i < n → c.slots[i]? = some (f i)) ∧ ∀ i, i < n → fits ty (f i) = true
def own_upd {α : Type} (f : Nat → α) (i : Nat) (x : α) : Nat → α := fun j => if j = i then x else f j
theorem own_A.lt (F : own_A Z h a k ty n f) : a < h.size := by obtain ⟨c, A, -⟩ := F; exact A.lt
theorem own_A.ext (F : own_A Z h a k ty n f) (E : Ext h h') : own_A Z h' a k ty n f := by obtain ⟨c, A, r⟩ := F; exact ⟨c, A.ext E, r⟩
theorem own_A.other (F : own_A Z h b k ty n f) (W : Wr h h' a sl v) (q : b ≠ a) : own_A Z h' b k ty n f := by obtain ⟨c, A, r⟩ := F; exact ⟨c, A.other W q, r⟩
theorem own_A.keep (F : own_A Z h a k ty n f) (K : Keep h h' ws) (q : a ∉ ws) : own_A Z h' a k ty n f := by obtain ⟨c, A, r⟩ := F; exact ⟨c, ⟨K.2.1 a c A.1 q, A.2⟩, r⟩
theorem own_A.congr (F : own_A Z h a k ty n f) {g : Nat → Value} (q : ∀ i, i < n → g i = f i) : own_A Z h a k ty n g := by
  obtain ⟨c, A, r1, r2, r3, H, G⟩ := F
  exact ⟨c, A, r1, r2, r3, fun i hi => by rw [q i hi]; exact H i hi, fun i hi => by rw [q i hi]; exact G i hi⟩
theorem own_A.small (F : own_A Z h a k ty n f) : n < 2 ^ 31 := by obtain ⟨c, A, r1, r2, r3, -⟩ := F; exact r3
theorem own_A.fit (F : own_A Z h a k ty n f) {i : Nat} (hi : i < n) : fits ty (f i) = true := by obtain ⟨c, A, r1, r2, r3, H, G⟩ := F; exact G i hi
theorem own_A.new {z : Int32} (A : Arr Z h a (newA k ty z) ty) (hz : z = Int32.ofNat n) (q : ¬ z < 0) {g : Nat → Value} (hg : ∀ i, g i = defaultValue ty := by intro i; rfl) (hn : n < 2 ^ 31 := by decide) : own_A Z h a k ty n g := by
  have e : z.toNatClampNeg = n := by rw [hz]; simp [Int32.toNatClampNeg, Int32.toInt_ofNat_of_lt hn]
  refine ⟨_, A, rfl, by rw [sz_new]; exact e, hn, fun i hi => ?_, fun i hi => ?_⟩
  · rw [hg]; simp [newA, e, hi]
  · rw [hg]; cases ty <;> rfl
theorem own_idx {j : Int32} {i n : Nat} (h1 : j.toInt = (i : Int)) (h2 : i < n) : ¬ (j < 0 ∨ n ≤ j.toNatClampNeg) ∧ j.toNatClampNeg = i := by
  have e : j.toNatClampNeg = i := by simp [Int32.toNatClampNeg, h1]
  refine ⟨fun q => ?_, e⟩
  rcases q with q | q
  · rw [Int32.lt_iff_toInt_lt, h1] at q; simp at q; omega
  · rw [e] at q; omega
theorem own_len (X : Stand p l e R s m args below meth c T locs cells slots) (hx : p.tables.exec = Jvm.exec) (hZ : Z.Warmed39 s.vm) (eT : T.heap = h) (F : own_A Z h a k ty n f) {g : JFrame} (hg : g.method = m) {rest : List Value} (hs : g.stack = .ref a :: rest) (hd : decode c.code g.pc = .ok (.arraylength, 1)) (t : State)
    (k : Steps p.tables e below (T.setTop { g with pc := g.pc + 1, stack := .int (Int32.ofNat n) :: rest }) t) : Steps p.tables e below (T.setTop g) t := by
  obtain ⟨cl, A, r1, r2, r3, H, G⟩ := F
  refine X.arraylength hx (cell := cl) (by rw [eT]; exact A.1) (State.isArrayOf_alike hZ.alike A.2.1) hg hs hd t ?_
  rw [r2]; exact k
theorem own_setA (F : own_A Z h a k ty n f) {i : Nat} (hi : i < n) (W : Wr h h' a i v) (hv : fits ty v = true) : own_A Z h' a k ty n (own_upd f i v) := by
  obtain ⟨cl, A, r1, r2, r3, H, G⟩ := F
  refine ⟨_, A.same W, r1, by rw [sz_set]; exact r2, r3, fun j hj => ?_, fun j hj => ?_⟩
  · by_cases q : j = i
    · subst q; simp [own_upd, Cell.setSlot, r2, hj]
    · simp only [own_upd, if_neg q, Cell.setSlot]
      rw [Array.getElem?_setIfInBounds_ne (Ne.symm q)]; exact H j hj
  · by_cases q : j = i
    · simp only [own_upd, if_pos q]; exact hv
    · simp only [own_upd, if_neg q]; exact G j hj
theorem own_updI (f : Nat → Int32) (i : Nat) (x : Int32) : own_upd (fun j => Value.int (f j)) i (.int x) = fun j => .int (own_upd f i x j) := by funext j; simp only [own_upd]; split <;> rfl
theorem own_updJ (f : Nat → Int64) (i : Nat) (x : Int64) : own_upd (fun j => Value.long (f j)) i (.long x) = fun j => .long (own_upd f i x j) := by funext j; simp only [own_upd]; split <;> rfl
theorem own_updD (f : Nat → UInt64) (i : Nat) (x : UInt64) : own_upd (fun j => Value.double (f j)) i (.double x) = fun j => .double (own_upd f i x j) := by funext j; simp only [own_upd]; split <;> rfl
theorem own_iaload (X : Stand p l e R s m args below meth c T locs cells slots) (hx : p.tables.exec = Jvm.exec) (hZ : Z.Warmed39 s.vm) (eT : T.heap = h) {f : Nat → Int32} (F : own_A Z h a k .int n (fun i => .int (f i))) {j : Int32} {i : Nat} (h1 : j.toInt = (i : Int)) (h2 : i < n) {g : JFrame} (hg : g.method = m) {rest : List Value} (hs : g.stack = .int j :: .ref a :: rest) (hd : decode c.code g.pc = .ok (.iaload, 1)) (t : State)
    (k : Steps p.tables e below (T.setTop { g with pc := g.pc + 1, stack := .int (f i) :: rest }) t) : Steps p.tables e below (T.setTop g) t := by
  obtain ⟨cl, A, r1, r2, r3, H, G⟩ := F
  obtain ⟨q1, q2⟩ := own_idx h1 (r2 ▸ h2)
  exact X.iaload hx (j := j) (v := .int (f i)) (by rw [eT]; exact A.1) (State.isArrayOf_alike hZ.alike A.2.1) A.2.2 q1 (by rw [q2]; exact H i h2) hg hs hd t k
theorem own_laload (X : Stand p l e R s m args below meth c T locs cells slots) (hx : p.tables.exec = Jvm.exec) (hZ : Z.Warmed39 s.vm) (eT : T.heap = h) {f : Nat → Int64} (F : own_A Z h a k .long n (fun i => .long (f i))) {j : Int32} {i : Nat} (h1 : j.toInt = (i : Int)) (h2 : i < n) {g : JFrame} (hg : g.method = m) {rest : List Value} (hs : g.stack = .int j :: .ref a :: rest) (hd : decode c.code g.pc = .ok (.laload, 1)) (t : State)
    (k : Steps p.tables e below (T.setTop { g with pc := g.pc + 1, stack := .long (f i) :: rest }) t) : Steps p.tables e below (T.setTop g) t := by
  obtain ⟨cl, A, r1, r2, r3, H, G⟩ := F
  obtain ⟨q1, q2⟩ := own_idx h1 (r2 ▸ h2)
  exact X.laload hx (j := j) (v := .long (f i)) (by rw [eT]; exact A.1) (State.isArrayOf_alike hZ.alike A.2.1) A.2.2 q1 (by rw [q2]; exact H i h2) hg hs hd t k
theorem own_daload (X : Stand p l e R s m args below meth c T locs cells slots) (hx : p.tables.exec = Jvm.exec) (hZ : Z.Warmed39 s.vm) (eT : T.heap = h) {f : Nat → UInt64} (F : own_A Z h a k .double n (fun i => .double (f i))) {j : Int32} {i : Nat} (h1 : j.toInt = (i : Int)) (h2 : i < n) {g : JFrame} (hg : g.method = m) {rest : List Value} (hs : g.stack = .int j :: .ref a :: rest) (hd : decode c.code g.pc = .ok (.daload, 1)) (t : State)
    (k : Steps p.tables e below (T.setTop { g with pc := g.pc + 1, stack := .double (f i) :: rest }) t) : Steps p.tables e below (T.setTop g) t := by
  obtain ⟨cl, A, r1, r2, r3, H, G⟩ := F
  obtain ⟨q1, q2⟩ := own_idx h1 (r2 ▸ h2)
  exact X.daload hx (j := j) (v := .double (f i)) (by rw [eT]; exact A.1) (State.isArrayOf_alike hZ.alike A.2.1) A.2.2 q1 (by rw [q2]; exact H i h2) hg hs hd t k
theorem own_caload (X : Stand p l e R s m args below meth c T locs cells slots) (hx : p.tables.exec = Jvm.exec) (hZ : Z.Warmed39 s.vm) (eT : T.heap = h) {f : Nat → Int32} (F : own_A Z h a k .char n (fun i => .int (f i))) {j : Int32} {i : Nat} (h1 : j.toInt = (i : Int)) (h2 : i < n) {g : JFrame} (hg : g.method = m) {rest : List Value} (hs : g.stack = .int j :: .ref a :: rest) (hd : decode c.code g.pc = .ok (.caload, 1)) (t : State)
    (k : Steps p.tables e below (T.setTop { g with pc := g.pc + 1, stack := .int (f i) :: rest }) t) : Steps p.tables e below (T.setTop g) t := by
  obtain ⟨cl, A, r1, r2, r3, H, G⟩ := F
  obtain ⟨q1, q2⟩ := own_idx h1 (r2 ▸ h2)
  exact X.caload hx (j := j) (v := .int (f i)) (by rw [eT]; exact A.1) (State.isArrayOf_alike hZ.alike A.2.1) A.2.2 q1 (by rw [q2]; exact H i h2) hg hs hd t k
theorem own_saload (X : Stand p l e R s m args below meth c T locs cells slots) (hx : p.tables.exec = Jvm.exec) (hZ : Z.Warmed39 s.vm) (eT : T.heap = h) {f : Nat → Int32} (F : own_A Z h a k .short n (fun i => .int (f i))) {j : Int32} {i : Nat} (h1 : j.toInt = (i : Int)) (h2 : i < n) {g : JFrame} (hg : g.method = m) {rest : List Value} (hs : g.stack = .int j :: .ref a :: rest) (hd : decode c.code g.pc = .ok (.saload, 1)) (t : State)
    (k : Steps p.tables e below (T.setTop { g with pc := g.pc + 1, stack := .int (f i) :: rest }) t) : Steps p.tables e below (T.setTop g) t := by
  obtain ⟨cl, A, r1, r2, r3, H, G⟩ := F
  obtain ⟨q1, q2⟩ := own_idx h1 (r2 ▸ h2)
  exact X.saload hx (j := j) (v := .int (f i)) (by rw [eT]; exact A.1) (State.isArrayOf_alike hZ.alike A.2.1) A.2.2 q1 (by rw [q2]; exact H i h2) hg hs hd t k
theorem own_baload (X : Stand p l e R s m args below meth c T locs cells slots) (hx : p.tables.exec = Jvm.exec) (hZ : Z.Warmed39 s.vm) (eT : T.heap = h) {f : Nat → Int32} (F : own_A Z h a k .byte n (fun i => .int (f i))) {j : Int32} {i : Nat} (h1 : j.toInt = (i : Int)) (h2 : i < n) {g : JFrame} (hg : g.method = m) {rest : List Value} (hs : g.stack = .int j :: .ref a :: rest) (hd : decode c.code g.pc = .ok (.baload, 1)) (t : State)
    (k : Steps p.tables e below (T.setTop { g with pc := g.pc + 1, stack := .int (f i) :: rest }) t) : Steps p.tables e below (T.setTop g) t := by
  obtain ⟨cl, A, r1, r2, r3, H, G⟩ := F
  obtain ⟨q1, q2⟩ := own_idx h1 (r2 ▸ h2)
  exact X.baloadBytes hx (j := j) (v := .int (f i)) (by rw [eT]; exact A.1) (State.isArrayOf_alike hZ.alike A.2.1) A.2.2 q1 (by rw [q2]; exact H i h2) hg hs hd t k
theorem own_zaload (X : Stand p l e R s m args below meth c T locs cells slots) (hx : p.tables.exec = Jvm.exec) (hZ : Z.Warmed39 s.vm) (eT : T.heap = h) {f : Nat → Int32} (F : own_A Z h a k .boolean n (fun i => .int (f i))) {j : Int32} {i : Nat} (h1 : j.toInt = (i : Int)) (h2 : i < n) {g : JFrame} (hg : g.method = m) {rest : List Value} (hs : g.stack = .int j :: .ref a :: rest) (hd : decode c.code g.pc = .ok (.baload, 1)) (t : State)
    (k : Steps p.tables e below (T.setTop { g with pc := g.pc + 1, stack := .int (f i) :: rest }) t) : Steps p.tables e below (T.setTop g) t := by
  obtain ⟨cl, A, r1, r2, r3, H, G⟩ := F
  obtain ⟨q1, q2⟩ := own_idx h1 (r2 ▸ h2)
  exact X.baloadBooleans hx (j := j) (v := .int (f i)) (by rw [eT]; exact A.1) (State.isArrayOf_alike hZ.alike A.2.1) A.2.2 q1 (by rw [q2]; exact H i h2) hg hs hd t k
theorem own_aaload (X : Stand p l e R s m args below meth c T locs cells slots) (hx : p.tables.exec = Jvm.exec) (hZ : Z.Warmed39 s.vm) (eT : T.heap = h) (F : own_A Z h a k ty n f) {j : Int32} {i : Nat} (h1 : j.toInt = (i : Int)) (h2 : i < n) (hty : ty.isReference = true) {g : JFrame} (hg : g.method = m) {rest : List Value} (hs : g.stack = .int j :: .ref a :: rest) (hd : decode c.code g.pc = .ok (.aaload, 1)) (t : State)
    (k : Steps p.tables e below (T.setTop { g with pc := g.pc + 1, stack := f i :: rest }) t) : Steps p.tables e below (T.setTop g) t := by
  obtain ⟨cl, A, r1, r2, r3, H, G⟩ := F
  obtain ⟨q1, q2⟩ := own_idx h1 (r2 ▸ h2)
  exact X.aaload hx (j := j) (v := f i) (by rw [eT]; exact A.1) (State.isArrayOf_alike hZ.alike A.2.1) hty A.2.2 q1 (by rw [q2]; exact H i h2) hg hs hd t k
theorem own_iastore (X : Stand p l e R s m args below meth c T locs cells slots) (hx : p.tables.exec = Jvm.exec) (hZ : Z.Warmed39 s.vm) (eT : T.heap = h) {f : Nat → Int32} (F : own_A Z h a k .int n (fun i => .int (f i))) {j : Int32} {x : Int32} {i : Nat} (h1 : j.toInt = (i : Int)) (h2 : i < n) {g : JFrame} (hg : g.method = m) {rest : List Value} (hs : g.stack = .int x :: .int j :: .ref a :: rest) (hd : decode c.code g.pc = .ok (.iastore, 1)) :
    ∃ T' h', Stand p l e R s m args below meth c T' (locs ++ [⟨a, i⟩]) cells slots ∧ T'.heap = h' ∧ Wr h h' a i (.int x) ∧ own_A Z h' a k .int n (fun q => .int (own_upd f i x q)) ∧ ∀ target, Steps p.tables e below (T'.setTop { g with pc := g.pc + 1, stack := rest }) target → Steps p.tables e below (T.setTop g) target := by
  have F0 := F
  obtain ⟨cl, A, r1, r2, r3, H, G⟩ := F
  obtain ⟨q1, q2⟩ := own_idx h1 (r2 ▸ h2)
  obtain ⟨T', h', X', e', W', st⟩ := stI X hx hZ eT A q1 hg hs hd
  rw [q2] at X' W'
  exact ⟨T', h', X', e', W', by rw [← own_updI]; exact own_setA F0 h2 W' rfl, st⟩
theorem own_lastore (X : Stand p l e R s m args below meth c T locs cells slots) (hx : p.tables.exec = Jvm.exec) (hZ : Z.Warmed39 s.vm) (eT : T.heap = h) {f : Nat → Int64} (F : own_A Z h a k .long n (fun i => .long (f i))) {j : Int32} {x : Int64} {i : Nat} (h1 : j.toInt = (i : Int)) (h2 : i < n) {g : JFrame} (hg : g.method = m) {rest : List Value} (hs : g.stack = .long x :: .int j :: .ref a :: rest) (hd : decode c.code g.pc = .ok (.lastore, 1)) :
    ∃ T' h', Stand p l e R s m args below meth c T' (locs ++ [⟨a, i⟩]) cells slots ∧ T'.heap = h' ∧ Wr h h' a i (.long x) ∧ own_A Z h' a k .long n (fun q => .long (own_upd f i x q)) ∧ ∀ target, Steps p.tables e below (T'.setTop { g with pc := g.pc + 1, stack := rest }) target → Steps p.tables e below (T.setTop g) target := by
  have F0 := F
  obtain ⟨cl, A, r1, r2, r3, H, G⟩ := F
  obtain ⟨q1, q2⟩ := own_idx h1 (r2 ▸ h2)
  obtain ⟨T', h', X', e', W', st⟩ := stJ X hx hZ eT A q1 hg hs hd
  rw [q2] at X' W'
  exact ⟨T', h', X', e', W', by rw [← own_updJ]; exact own_setA F0 h2 W' rfl, st⟩
theorem own_dastore (X : Stand p l e R s m args below meth c T locs cells slots) (hx : p.tables.exec = Jvm.exec) (hZ : Z.Warmed39 s.vm) (eT : T.heap = h) {f : Nat → UInt64} (F : own_A Z h a k .double n (fun i => .double (f i))) {j : Int32} {x : UInt64} {i : Nat} (h1 : j.toInt = (i : Int)) (h2 : i < n) {g : JFrame} (hg : g.method = m) {rest : List Value} (hs : g.stack = .double x :: .int j :: .ref a :: rest) (hd : decode c.code g.pc = .ok (.dastore, 1)) :
    ∃ T' h', Stand p l e R s m args below meth c T' (locs ++ [⟨a, i⟩]) cells slots ∧ T'.heap = h' ∧ Wr h h' a i (.double x) ∧ own_A Z h' a k .double n (fun q => .double (own_upd f i x q)) ∧ ∀ target, Steps p.tables e below (T'.setTop { g with pc := g.pc + 1, stack := rest }) target → Steps p.tables e below (T.setTop g) target := by
  have F0 := F
  obtain ⟨cl, A, r1, r2, r3, H, G⟩ := F
  obtain ⟨q1, q2⟩ := own_idx h1 (r2 ▸ h2)
  obtain ⟨T', h', X', e', W', st⟩ := stD X hx hZ eT A q1 hg hs hd
  rw [q2] at X' W'
  exact ⟨T', h', X', e', W', by rw [← own_updD]; exact own_setA F0 h2 W' rfl, st⟩
theorem own_castore (X : Stand p l e R s m args below meth c T locs cells slots) (hx : p.tables.exec = Jvm.exec) (hZ : Z.Warmed39 s.vm) (eT : T.heap = h) {f : Nat → Int32} (F : own_A Z h a k .char n (fun i => .int (f i))) {j x v' : Int32} {i : Nat} (h1 : j.toInt = (i : Int)) (h2 : i < n) (hv : nar .char x = v') {g : JFrame} (hg : g.method = m) {rest : List Value} (hs : g.stack = .int x :: .int j :: .ref a :: rest) (hd : decode c.code g.pc = .ok (.castore, 1)) :
    ∃ T' h', Stand p l e R s m args below meth c T' (locs ++ [⟨a, i⟩]) cells slots ∧ T'.heap = h' ∧ Wr h h' a i (.int v') ∧ own_A Z h' a k .char n (fun q => .int (own_upd f i v' q)) ∧ ∀ target, Steps p.tables e below (T'.setTop { g with pc := g.pc + 1, stack := rest }) target → Steps p.tables e below (T.setTop g) target := by
  have F0 := F
  obtain ⟨cl, A, r1, r2, r3, H, G⟩ := F
  obtain ⟨q1, q2⟩ := own_idx h1 (r2 ▸ h2)
  obtain ⟨T', h', X', e', W', st⟩ := stC X hx hZ eT A q1 hg hs hd
  rw [q2] at X' W'
  subst hv
  exact ⟨T', h', X', e', W', by rw [← own_updI]; exact own_setA F0 h2 W' (fits_nar_char _), st⟩
theorem own_bastore (X : Stand p l e R s m args below meth c T locs cells slots) (hx : p.tables.exec = Jvm.exec) (hZ : Z.Warmed39 s.vm) (eT : T.heap = h) {f : Nat → Int32} (F : own_A Z h a k .byte n (fun i => .int (f i))) {j x v' : Int32} {i : Nat} (h1 : j.toInt = (i : Int)) (h2 : i < n) (hv : nar .byte x = v') {g : JFrame} (hg : g.method = m) {rest : List Value} (hs : g.stack = .int x :: .int j :: .ref a :: rest) (hd : decode c.code g.pc = .ok (.bastore, 1)) :
    ∃ T' h', Stand p l e R s m args below meth c T' (locs ++ [⟨a, i⟩]) cells slots ∧ T'.heap = h' ∧ Wr h h' a i (.int v') ∧ own_A Z h' a k .byte n (fun q => .int (own_upd f i v' q)) ∧ ∀ target, Steps p.tables e below (T'.setTop { g with pc := g.pc + 1, stack := rest }) target → Steps p.tables e below (T.setTop g) target := by
  have F0 := F
  obtain ⟨cl, A, r1, r2, r3, H, G⟩ := F
  obtain ⟨q1, q2⟩ := own_idx h1 (r2 ▸ h2)
  obtain ⟨T', h', X', e', W', st⟩ := stB X hx hZ eT A q1 hg hs hd
  rw [q2] at X' W'
  subst hv
  exact ⟨T', h', X', e', W', by rw [← own_updI]; exact own_setA F0 h2 W' (fits_nar_byte _), st⟩
theorem own_zastore (X : Stand p l e R s m args below meth c T locs cells slots) (hx : p.tables.exec = Jvm.exec) (hZ : Z.Warmed39 s.vm) (eT : T.heap = h) {f : Nat → Int32} (F : own_A Z h a k .boolean n (fun i => .int (f i))) {j x v' : Int32} {i : Nat} (h1 : j.toInt = (i : Int)) (h2 : i < n) (hv : nar .boolean x = v') {g : JFrame} (hg : g.method = m) {rest : List Value} (hs : g.stack = .int x :: .int j :: .ref a :: rest) (hd : decode c.code g.pc = .ok (.bastore, 1)) :
    ∃ T' h', Stand p l e R s m args below meth c T' (locs ++ [⟨a, i⟩]) cells slots ∧ T'.heap = h' ∧ Wr h h' a i (.int v') ∧ own_A Z h' a k .boolean n (fun q => .int (own_upd f i v' q)) ∧ ∀ target, Steps p.tables e below (T'.setTop { g with pc := g.pc + 1, stack := rest }) target → Steps p.tables e below (T.setTop g) target := by
  have F0 := F
  obtain ⟨cl, A, r1, r2, r3, H, G⟩ := F
  obtain ⟨q1, q2⟩ := own_idx h1 (r2 ▸ h2)
  obtain ⟨T', h', X', e', W', st⟩ := stZ X hx hZ eT A q1 hg hs hd
  rw [q2] at X' W'
  subst hv
  exact ⟨T', h', X', e', W', by rw [← own_updI]; exact own_setA F0 h2 W' (fits_nar_bool _), st⟩
theorem own_sastore (X : Stand p l e R s m args below meth c T locs cells slots) (hx : p.tables.exec = Jvm.exec) (hZ : Z.Warmed39 s.vm) (eT : T.heap = h) {f : Nat → Int32} (F : own_A Z h a k .short n (fun i => .int (f i))) {j x v' : Int32} {i : Nat} (h1 : j.toInt = (i : Int)) (h2 : i < n) (hv : nar .short x = v') {g : JFrame} (hg : g.method = m) {rest : List Value} (hs : g.stack = .int x :: .int j :: .ref a :: rest) (hd : decode c.code g.pc = .ok (.sastore, 1)) :
    ∃ T' h', Stand p l e R s m args below meth c T' (locs ++ [⟨a, i⟩]) cells slots ∧ T'.heap = h' ∧ Wr h h' a i (.int v') ∧ own_A Z h' a k .short n (fun q => .int (own_upd f i v' q)) ∧ ∀ target, Steps p.tables e below (T'.setTop { g with pc := g.pc + 1, stack := rest }) target → Steps p.tables e below (T.setTop g) target := by
  have F0 := F
  obtain ⟨cl, A, r1, r2, r3, H, G⟩ := F
  obtain ⟨q1, q2⟩ := own_idx h1 (r2 ▸ h2)
  obtain ⟨T', h', X', e', W', st⟩ := stS X hx hZ eT A q1 hg hs hd
  rw [q2] at X' W'
  subst hv
  exact ⟨T', h', X', e', W', by rw [← own_updI]; exact own_setA F0 h2 W' (fits_nar_short _), st⟩
theorem own_aastore (X : Stand p l e R s m args below meth c T locs cells slots) (hx : p.tables.exec = Jvm.exec) (hZ : Z.Warmed39 s.vm) (eT : T.heap = h) (F : own_A Z h a k ty n f) {j : Int32} {i : Nat} (h1 : j.toInt = (i : Int)) (h2 : i < n) (hq : ty.isReference = true ∧ Sto Z h a v ∧ fits ty v = true) {g : JFrame} (hg : g.method = m) {rest : List Value} (hs : g.stack = v :: .int j :: .ref a :: rest) (hd : decode c.code g.pc = .ok (.aastore, 1)) :
    ∃ T' h', Stand p l e R s m args below meth c T' (locs ++ [⟨a, i⟩]) cells slots ∧ T'.heap = h' ∧ Wr h h' a i v ∧ own_A Z h' a k ty n (own_upd f i v) ∧ ∀ target, Steps p.tables e below (T'.setTop { g with pc := g.pc + 1, stack := rest }) target → Steps p.tables e below (T.setTop g) target := by
  have F0 := F
  obtain ⟨cl, A, r1, r2, r3, H, G⟩ := F
  obtain ⟨q1, q2⟩ := own_idx h1 (r2 ▸ h2)
  obtain ⟨T', h', X', e', W', st⟩ := stR X hx hZ eT A q1 hq.1 hq.2.1 hg hs hd
  rw [q2] at X' W'
  exact ⟨T', h', X', e', W', own_setA F0 h2 W' hq.2.2, st⟩
end OwnA
theorem own_neEA {Z : State} {h : Heap} {x b : Addr} {C : String} {k : ClassId} {ty : FieldType} {n n' : Nat} {f : Nat → Value} {a0 : Array Value} (E : Exa Z h x C) (F : own_A Z h b k ty n f) (w : (Cond.instantiable C n').before a0 Z = true) : x ≠ b := fun q => by
  subst q
  obtain ⟨c1, k1, e1, f1, g1, -⟩ := E
  obtain ⟨c2, ⟨e2, hA, -⟩, -⟩ := F
  cases e1.symm.trans e2
  simp only [Cond.before, Cond.holds, Cond.value, f1, Option.bind_some, g1, Option.map_some] at w
  have ho : k1.kind = .ordinary := by
    simp only [beq_iff_eq, Option.some.injEq, Bool.and_eq_true, decide_eq_true_eq] at w; exact w.1.1.1
  obtain ⟨-, kk, hk, comp, hkind⟩ := hA
  rw [g1] at hk; cases hk; rw [ho] at hkind; cases hkind

section OwnN
theorem own_inc {i : Int32} {k : Nat} (h : i.toInt = (k : Int)) (hk : k < 2147483647) : (i + 1).toInt = ((k + 1 : Nat) : Int) := by
  have e1 : (1 : Int32).toInt = 1 := by decide
  rw [Int32.toInt_add, h, e1, bmod32 (by omega) (by omega)]
  omega
theorem own_lt {i : Int32} {k n : Nat} (h : i.toInt = (k : Int)) (hn : n < 2147483648) : i < Int32.ofNat n ↔ k < n := by
  rw [Int32.lt_iff_toInt_lt, h, Int32.toInt_ofNat_of_lt (by omega)]
  omega
end OwnN

section OwnW
variable {args : Array Value} {first s : State} {o : Option Outcome} {idx : List Nat} {t : Term}
theorem own_eqI {k : Int32} (h : (Cond.eq t (.int k)).value args first o s idx = some true) : t.eval args first o idx s = some (.int k) := by
  simp only [Cond.value, Term.eval] at h; cases ht : t.eval args first o idx s with | none => simp [ht] at h | some x => cases x <;> simp [ht] at h ⊢; exact h
theorem own_eqJ {k : Int64} (h : (Cond.eq t (.long k)).value args first o s idx = some true) : t.eval args first o idx s = some (.long k) := by
  simp only [Cond.value, Term.eval] at h; cases ht : t.eval args first o idx s with | none => simp [ht] at h | some x => cases x <;> simp [ht] at h ⊢; exact h
theorem own_eqD {k : Int64} (h : (Cond.eq t (.op1 .bitsD (.long k))).value args first o s idx = some true) : t.eval args first o idx s = some (.double k.toUInt64) := by
  simp only [Cond.value, Term.eval, Unary.apply, Option.bind_eq_bind, Option.bind_some] at h; cases ht : t.eval args first o idx s with | none => simp [ht] at h | some x => cases x <;> simp [ht] at h ⊢; exact h
theorem own_neq0 {G : Int32} (ev : t.eval args first o idx s = some (.int G)) (h : (Cond.not (.eq t (.int 0))).value args first o s idx = some true) : ¬ G = (0 : Int32) := by
  intro q; subst q; simp [Cond.value, ev, Term.eval] at h
end OwnW

section OwnS
def own_bl (cd : Int32) (n : Nat) : Nat := if cd = 0 then n else n + n
def own_u16 (cs : Nat → Int32) : Nat → Int32 := fun i => if i % 2 = 0 then (cs (i / 2) >>> ((0 : Int32) &&& 31)).toInt8.toInt32 else (cs (i / 2) >>> ((8 : Int32) &&& 31)).toInt8.toInt32
def own_by (cd : Int32) (cs : Nat → Int32) : Nat → Int32 := if cd = 0 then (fun i => (cs i).toInt8.toInt32) else own_u16 cs
def own_cb (cs f : Nat → Int32) (j : Nat) : Nat → Int32 := fun i => if i < j then (cs i).toInt8.toInt32 else f i
theorem own_ltp {i p_ : Int32} {k n : Nat} (h : i.toInt = (k : Int)) (hp : p_.toInt = (n : Int)) : i < p_ ↔ k < n := by
  rw [Int32.lt_iff_toInt_lt, h, hp]; omega
theorem own_asN {i : Int32} {k : Nat} (h : i.toInt = (k : Int)) : i = Int32.ofNat k := Int32.toInt_inj.mp (by
  have := rng32 i
  rw [h, Int32.toInt_ofNat_of_lt (by omega)])
theorem own_i8 (x : Int32) : x.toInt8.toInt32.toInt8.toInt32 = x.toInt8.toInt32 := by
  apply Int32.toInt_inj.mp
  have a := c_i2b x
  have b := c_i2b x.toInt8.toInt32
  omega
theorem own_narb (x : Int32) : nar .byte (x.toInt8.toInt32) = x.toInt8.toInt32 := own_i8 x
theorem own_i16 {c : Int32} (h0 : 0 ≤ c.toInt) (h1 : c.toInt ≤ 65535) : c.toUInt32.toUInt16.toUInt32.toInt32 = c := by
  apply Int32.toInt_inj.mp
  have a := c_i2c c
  omega
theorem own_narc {c : Int32} (h0 : 0 ≤ c.toInt) (h1 : c.toInt ≤ 65535) : nar .char c = c := own_i16 h0 h1
theorem own_nwc {c : Int32} (h0 : 0 ≤ c.toInt) (h1 : c.toInt ≤ 65535) : narrow .char (.int c) = .int c := congrArg Value.int (own_i16 h0 h1)
theorem own_char {c : Int32} (h : fits .char (.int c) = true) : 0 ≤ c.toInt ∧ c.toInt ≤ 65535 := by
  have q := rng_char h
  have z : (0 : Int32).toInt = 0 := by decide
  have w : (65535 : Int32).toInt = 65535 := by decide
  simp only [Int32.lt_iff_toInt_lt] at q
  omega
theorem own_charf {c : Int32} (h0 : 0 ≤ c.toInt) (h1 : c.toInt ≤ 65535) : fits .char (.int c) = true := by
  have z : (0 : Int32).toInt = 0 := by decide
  have w : (65535 : Int32).toInt = 65535 := by decide
  simp only [fits, Bool.and_eq_true, decide_eq_true_eq, Int32.le_iff_toInt_le]
  omega
theorem own_shr0 (x : Int32) : (x >>> ((0 : Int32) &&& 31)).toInt = x.toInt := by
  rw [c_ishr x 0 0 (by decide)]; simp
/-- the two bytes of a char, joined -/
theorem own_join {c x y : Int32} (h0 : 0 ≤ c.toInt) (h1 : c.toInt ≤ 65535) (hx : x = (c >>> ((0 : Int32) &&& 31)).toInt8.toInt32) (hy : y = (c >>> ((8 : Int32) &&& 31)).toInt8.toInt32) :
    ((((x &&& (255 : Int32)) <<< ((0 : Int32) &&& 31)) ||| ((y &&& (255 : Int32)) <<< ((8 : Int32) &&& 31))).toUInt32.toUInt16.toUInt32.toInt32) = c := by
  have e0 := own_shr0 c
  have e8 := c_ishr c 8 8 (by decide)
  have b0 := c_i2b (c >>> ((0 : Int32) &&& 31))
  have b8 := c_i2b (c >>> ((8 : Int32) &&& 31))
  rw [← hx] at b0; rw [← hy] at b8
  have m0 := c_mask x 255 8 (by decide) (by decide)
  have m8 := c_mask y 255 8 (by decide) (by decide)
  have s0 := c_ishl (x &&& 255) 0 0 (by decide)
  have s8 := c_ishl (y &&& 255) 8 8 (by decide)
  have p8 : ((2 ^ 8 : Nat) : Int) = 256 := by decide
  have p0 : ((2 ^ 0 : Nat) : Int) = 1 := by decide
  rw [p8] at e8 m0 m8 s8
  rw [p0] at s0
  have r0 := rng32 ((x &&& 255) <<< ((0 : Int32) &&& 31))
  have r8 := rng32 ((y &&& 255) <<< ((8 : Int32) &&& 31))
  have o := c_or' ((x &&& 255) <<< ((0 : Int32) &&& 31)) ((y &&& 255) <<< ((8 : Int32) &&& 31)) 8 (by decide) 256 (by decide)
  have v0 : ((x &&& 255) <<< ((0 : Int32) &&& 31)).toInt = c.toInt % 256 := by omega
  have v8 : ((y &&& 255) <<< ((8 : Int32) &&& 31)).toInt = (c.toInt / 256) * 256 := by omega
  have ro := rng32 (((x &&& 255) <<< ((0 : Int32) &&& 31)) ||| ((y &&& 255) <<< ((8 : Int32) &&& 31)))
  have o' := o (by omega) (by omega) (by omega)
  apply Int32.toInt_inj.mp
  have i := c_i2c (((x &&& 255) <<< ((0 : Int32) &&& 31)) ||| ((y &&& 255) <<< ((8 : Int32) &&& 31)))
  omega
/-- a byte of a Latin-1 string, widened -/
theorem own_lat {c : Int32} (h0 : 0 ≤ c.toInt) (h1 : ¬ (255 : Int32) < c) : ((c.toInt8.toInt32 &&& (255 : Int32)).toUInt32.toUInt16.toUInt32.toInt32) = c := by
  have w : (255 : Int32).toInt = 255 := by decide
  rw [Int32.lt_iff_toInt_lt, w] at h1
  have b := c_i2b c
  have m0 := c_mask c.toInt8.toInt32 255 8 (by decide) (by decide)
  have p8 : ((2 ^ 8 : Nat) : Int) = 256 := by decide
  rw [p8] at m0
  apply Int32.toInt_inj.mp
  have i := c_i2c (c.toInt8.toInt32 &&& 255)
  omega
theorem own_shl1 {q : Int32} {k : Nat} (h : q.toInt = (k : Int)) (hk : k < 100000) : (q <<< ((1 : Int32) &&& 31)).toInt = ((k + k : Nat) : Int) := by
  have s := c_ishl q 1 1 (by decide)
  have p1 : ((2 ^ 1 : Nat) : Int) = 2 := by decide
  have r := rng32 (q <<< ((1 : Int32) &&& 31))
  rw [p1, h] at s
  omega
theorem own_cdl {cd p_ : Int32} {n : Nat} (hcd : cd = 0 ∨ cd = 1) (hp : p_.toInt = (n : Int)) (hn : 1 ≤ n ∧ n < 100000) : ((((p_ - (Int32.ofNat (own_bl cd n))).toUInt32 >>> ((31 : Int32) &&& 31).toUInt32).toInt32).toInt8.toInt32) = cd := by
  have hz : p_ = Int32.ofNat n := own_asN hp
  apply Int32.toInt_inj.mp
  have e := c_iushr (p_ - Int32.ofNat (own_bl cd n)) 31 31 (by decide) (by decide)
  have p31 : ((2 ^ 31 : Nat) : Int) = 2147483648 := by decide
  rw [p31] at e
  have b := c_i2b (((p_ - (Int32.ofNat (own_bl cd n))).toUInt32 >>> ((31 : Int32) &&& 31).toUInt32).toInt32)
  have s := c_isub p_ (Int32.ofNat (own_bl cd n))
  have r := rng32 (p_ - Int32.ofNat (own_bl cd n))
  rcases hcd with rfl | rfl
  · have l : own_bl 0 n = n := by simp [own_bl]
    rw [l] at e b s r ⊢
    rw [Int32.toInt_ofNat_of_lt (by omega), hp] at s
    have z : (0 : Int32).toInt = 0 := by decide
    omega
  · have l : own_bl 1 n = n + n := by simp [own_bl]
    rw [l] at e b s r ⊢
    rw [Int32.toInt_ofNat_of_lt (by omega), hp] at s
    have z : (1 : Int32).toInt = 1 := by decide
    omega
end OwnS

section OwnT
theorem own_bl0 (n : Nat) : own_bl 0 n = n := by simp [own_bl]
theorem own_bl1 (n : Nat) : own_bl 1 n = n + n := by simp [own_bl]
theorem own_by0 (cs : Nat → Int32) (i : Nat) : own_by 0 cs i = (cs i).toInt8.toInt32 := by simp [own_by]
theorem own_by1 (cs : Nat → Int32) (i : Nat) : own_by 1 cs i = own_u16 cs i := by simp [own_by]
theorem own_cb_up (cs f : Nat → Int32) (k j : Nat) : own_cb cs f (k + 1) j = own_upd (own_cb cs f k) k (cs k).toInt8.toInt32 j := by
  simp only [own_cb, own_upd]
  by_cases e : j = k
  · subst e; simp
  · simp only [e, if_false]
    by_cases q : j < k
    · rw [if_pos q, if_pos (by omega)]
    · rw [if_neg q, if_neg (by omega)]
theorem own_narcc (y : Int32) : nar .char (y.toUInt32.toUInt16.toUInt32.toInt32) = y.toUInt32.toUInt16.toUInt32.toInt32 := by
  have a := c_i2c y
  exact own_narc (by omega) (by omega)
theorem own_nw01 {b : Int32} (h : b = 0 ∨ b = 1) : narrow .byte (.int b) = .int b := by rcases h with rfl | rfl <;> rfl
theorem own_f01 {b : Int32} (h : b = 0 ∨ b = 1) : fits .byte (.int b) = true := by rcases h with rfl | rfl <;> rfl
theorem own_c01 {cd : Int32} {P : Prop} (h : (cd = 0 ∧ P) ∨ cd = 1) : cd = 0 ∨ cd = 1 := h.imp (·.1) id
theorem own_ofN {j n : Nat} {p_ : Int32} (hp : p_.toInt = (n : Int)) (hj : j ≤ n) (e : Int32.ofNat j = p_) : j = n := by
  have q := congrArg Int32.toInt e
  have r := rng32 p_
  rw [hp, Int32.toInt_ofNat_of_lt (by omega)] at q
  omega
theorem own_ofNn {j n : Nat} {p_ : Int32} (hp : p_.toInt = (n : Int)) (hj : j ≤ n) (e : ¬ Int32.ofNat j = p_) : j < n := by
  refine Nat.lt_of_le_of_ne hj fun q => e ?_
  rw [q]; exact (own_asN hp).symm
theorem own_toN {n : Nat} (h : n < 100000) : (Int32.ofNat n).toInt = (n : Int) := Int32.toInt_ofNat_of_lt (by omega)
theorem own_nz {p_ : Int32} {n : Nat} (hp : p_.toInt = (n : Int)) (hn : 1 ≤ n) : ¬ p_ = (0 : Int32) := fun q => by
  have z : (0 : Int32).toInt = 0 := by decide
  rw [q, z] at hp; omega
theorem own_nn {p_ : Int32} {n : Nat} (hp : p_.toInt = (n : Int)) : ¬ p_ < (0 : Int32) := by
  have z : (0 : Int32).toInt = 0 := by decide
  rw [Int32.lt_iff_toInt_lt, hp, z]; omega
theorem own_cl {p_ : Int32} {n c : Nat} (hp : p_.toInt = (n : Int)) (hc : n ≤ c) : p_.toNatClampNeg ≤ c := by
  simp [Int32.toNatClampNeg, hp]; omega
end OwnT
section OwnU
def own_l8 (cs : Nat → Int32) : Nat → Int32 := fun i => (cs i).toInt8.toInt32
def own_pb (cs : Nat → Int32) (k : Nat) : Nat → Int32 := fun i => if i < k + k then own_u16 cs i else 0
theorem own_u16e (cs : Nat → Int32) (k : Nat) : own_u16 cs (k + k) = (cs k >>> ((0 : Int32) &&& 31)).toInt8.toInt32 := by
  unfold own_u16
  rw [if_pos (by omega), show (k + k) / 2 = k by omega]
theorem own_u16o (cs : Nat → Int32) (k : Nat) : own_u16 cs (k + k + 1) = (cs k >>> ((8 : Int32) &&& 31)).toInt8.toInt32 := by
  unfold own_u16
  rw [if_neg (by omega), show (k + k + 1) / 2 = k by omega]
theorem own_pb_up (cs : Nat → Int32) (k j : Nat) : own_pb cs (k + 1) j = own_upd (own_upd (own_pb cs k) (k + k) ((cs k >>> ((0 : Int32) &&& 31)).toInt8.toInt32)) (k + k + 1) ((cs k >>> ((8 : Int32) &&& 31)).toInt8.toInt32) j := by
  simp only [own_pb, own_upd]
  by_cases e1 : j = k + k + 1
  · rw [if_pos (by omega), if_pos e1, e1, own_u16o]
  · rw [if_neg e1]
    by_cases e0 : j = k + k
    · rw [if_pos (by omega), if_pos e0, e0, own_u16e]
    · rw [if_neg e0]
      by_cases q : j < k + k
      · rw [if_pos (by omega), if_pos q]
      · rw [if_neg (by omega), if_neg q]
def own_l1 (cd : Int32) : Int32 := if cd = 0 then 1 else 0
theorem own_shr1 {n : Nat} (h : n < 100000) : ((Int32.ofNat (n + n)) >>> ((1 : Int32) &&& 31)).toInt = (n : Int) := by
  have s := c_ishr (Int32.ofNat (n + n)) 1 1 (by decide)
  have p1 : ((2 ^ 1 : Nat) : Int) = 2 := by decide
  rw [p1, Int32.toInt_ofNat_of_lt (by omega)] at s
  omega
theorem own_bound {p_ : Int32} {n : Nat} (hp : p_.toInt = (n : Int)) (h : n < 1073741823) : p_ < (1073741823 : Int32) := by
  have z : (1073741823 : Int32).toInt = 1073741823 := by decide
  rw [Int32.lt_iff_toInt_lt, hp, z]; omega
end OwnU

section OwnB
variable {p : Program} {l : Launch} {e : Env} {R : Room} {s : State} {m : MethodId} {args : Array Value} {below : List Frame} {meth : Method} {c : Code} {T : State} {locs : List Loc} {cells slots : Nat} {Z : State} {h h' : Heap} {a b : Addr} {k : ClassId} {ty : FieldType} {n : Nat} {f : Nat → Value} {a0 : Array Value}
def own_cp {α : Type} (f g : Nat → α) (i j n : Nat) : Nat → α := fun q => if j ≤ q ∧ q < j + n then f (i + (q - j)) else g q
theorem own_cpI (f g : Nat → Int32) (i j n : Nat) : own_cp (fun q => Value.int (f q)) (fun q => .int (g q)) i j n = fun q => .int (own_cp f g i j n q) := by
  funext q; simp only [own_cp]; split <;> rfl
theorem own_cpJ (f g : Nat → Int64) (i j n : Nat) : own_cp (fun q => Value.long (f q)) (fun q => .long (g q)) i j n = fun q => .long (own_cp f g i j n q) := by
  funext q; simp only [own_cp]; split <;> rfl
theorem own_natc {x : Int32} {n : Nat} (h : x.toInt = (n : Int)) : x.toNatClampNeg = n := by simp [Int32.toNatClampNeg, h]
theorem own_negc {x : Int32} {n : Nat} (h : x.toInt = (n : Int)) : ¬ x < 0 := by
  have z : (0 : Int32).toInt = 0 := by decide
  rw [Int32.lt_iff_toInt_lt, h, z]; omega
theorem own_rg {α : Type} {f : Nat → α} {n i : Nat} {d : α} (h : i < n) : ((List.range n).map f).getD i d = f i := by simp [List.getD_eq_getElem?_getD, h]
theorem own_cpL {α : Type} {f g : Nat → α} {d : α} {n i j q x : Nat} (h5 : j + q ≤ n) (hx : x < n) (h4 : ∀ z, z < q → (f (i + z)) = (f (i + z))) :
    own_cp f g i j q x = (((List.range n).map g).take j ++ ((List.range q).map fun z => f (i + z)) ++ ((List.range n).map g).drop (j + q)).getD x d := by
  simp only [own_cp, List.getD_eq_getElem?_getD]
  by_cases c1 : x < j
  · rw [if_neg (by omega), List.append_assoc, List.getElem?_append_left (by simp; omega), List.getElem?_take_of_lt c1]; simp [hx]
  · by_cases c2 : x < j + q
    · rw [if_pos ⟨by omega, c2⟩, List.getElem?_append_left (by simp; omega), List.getElem?_append_right (by simp; omega)]
      simp only [List.length_take, List.length_map, List.length_range]
      rw [show min j n = j by omega]
      simp [show x - j < q by omega]
    · rw [if_neg (by omega), List.getElem?_append_right (by simp; omega)]
      simp only [List.length_append, List.length_take, List.length_map, List.length_range, List.getElem?_drop]
      rw [show min j n = j by omega, show j + q + (x - (j + q)) = x by omega]
      simp [hx]
theorem own_A.arv (F : own_A Z h a k ty n f) (d : Value) : Arv Z h a k ty (Int32.ofNat n) ((List.range n).map f) d := by
  obtain ⟨c, A, r1, r2, r3, H, G⟩ := F
  have t : (Int32.ofNat n).toInt = (n : Int) := Int32.toInt_ofNat_of_lt r3
  refine ⟨c, A, r1, by rw [own_natc t]; exact r2, own_negc t, fun j hj => ?_, fun j hj => ?_⟩
  · rw [own_rg (r2 ▸ hj)]; exact H j (r2 ▸ hj)
  · rw [own_rg (r2 ▸ hj)]; exact G j (r2 ▸ hj)
theorem own_A.ofArv' {z : Int32} {vs : List Value} {d : Value} (F : Arv Z h a k ty z vs d) (hz : z.toNatClampNeg = n) (hn : n < 2 ^ 31) (hf : ∀ i, i < n → f i = vs.getD i d) : own_A Z h a k ty n f := by
  obtain ⟨c, A, r1, r2, r3, H, G⟩ := F
  refine ⟨c, A, r1, by rw [r2, hz], hn, fun i hi => ?_, fun i hi => ?_⟩
  · rw [hf i hi]; exact H i (by rw [r2, hz]; exact hi)
  · rw [hf i hi]; exact G i (by rw [r2, hz]; exact hi)
theorem own_copy (X : Stand p l e R s m args below meth c T locs cells slots) (hx : p.tables.exec = Jvm.exec) (hZ : Z.Warmed39 s.vm) {own : String} {index : Nat} (hown : s.vm.findClass own = some m.cls)
    (w1 : (Cond.methodLink own index Jvm.Stand.acN).before a0 Z = true) (w2 : (Cond.native Jvm.Stand.acN).before a0 Z = true) (w3 : (Cond.static Jvm.Stand.acN).before a0 Z = true) (w4 : (Cond.initialized "java/lang/System").before a0 Z = true) (eT : T.heap = h)
    {kb : ClassId} {nb : Nat} {g : Nat → Value} (A : own_A Z h a k ty n f) (B : own_A Z h b kb ty nb g) (hr : refKind ty = false) {sp dp nn : Int32} {i j q : Nat} (h1 : sp.toInt = (i : Int)) (h2 : dp.toInt = (j : Int)) (h3 : nn.toInt = (q : Int)) (h4 : i + q ≤ n) (h5 : j + q ≤ nb)
    {n0 : Nat} (N : Fr n0 locs) (ge : n0 ≤ b) {g' : JFrame} (hg : g'.method = m) (hsize : g'.locals.size = c.maxLocals) {rest : List Value} (hs : g'.stack = .int nn :: .int dp :: .ref b :: .int sp :: .ref a :: rest) (hd : decode c.code g'.pc = .ok (.invokestatic index, 3))
    (hf : 1 ≤ R.frames) {W : Nat} (hW : 2 * g'.monitorRoom + (rest.map fun v => v.category).sum ≤ W) (hlo : W + (nativeFrameWords "java/lang/System" "arraycopy" 5 + 11) ≤ R.locals) :
    ∃ T' h' L, Stand p l e R s m args below meth c T' L cells slots ∧ T'.heap = h' ∧ Fr n0 L ∧ Keep h h' [b] ∧ own_A Z h' b kb ty nb (own_cp f g i j q) ∧
      ∀ target, Steps p.tables e below (T'.setTop { g' with pc := g'.pc + 3, stack := rest }) target → Steps p.tables e below (T.setTop g') target := by
  have tn : (Int32.ofNat n).toNatClampNeg = n := own_natc (Int32.toInt_ofNat_of_lt A.small)
  have tb : (Int32.ofNat nb).toNatClampNeg = nb := own_natc (Int32.toInt_ofNat_of_lt B.small)
  have e1 := own_natc h1
  have e2 := own_natc h2
  have e3 := own_natc h3
  obtain ⟨T', h', L, X', e', N', K, B', st⟩ := cpA X hx hZ hown w1 w2 w3 w4 eT (A.arv .null) (B.arv .null) (Or.inl ⟨rfl, hr⟩) (own_negc h1) (own_negc h2) (own_negc h3) (by rw [tn, e1, e3]; exact h4) (by rw [tb, e2, e3]; exact h5) rfl (by rw [e2, e3]; simpa using h5) N ge hg hsize hs hd hf hW hlo
  refine ⟨T', h', L, X', e', N', K, own_A.ofArv' B' tb B.small fun x hxn => ?_, st⟩
  rw [e1, e2, e3]
  rw [own_cpL (d := .null) h5 hxn (fun _ _ => rfl)]
  congr 2
  refine congrArg _ (List.map_congr_left fun z hz => ?_)
  rw [own_rg (by have := List.mem_range.mp hz; omega)]
theorem own_same {y z z' : MethodName} {K : String} (wi : (Cond.instanceMethod y).before a0 Z = true) (ws : (Cond.selects K z z').before a0 Z = true) (hc : z'.cls = y.cls) (hy : y.cls ≠ "java/lang/invoke/MethodHandle" ∧ y.cls ≠ "java/lang/invoke/VarHandle") : (Cond.sameMethod y.cls y.cls y.name y.desc).before a0 Z = true := by
  obtain ⟨m1, meth, hn, -⟩ := Cond.instanceMethod_spec wi
  obtain ⟨c, r, m2, -, -, hm2, -, mk, hk, hi⟩ := Cond.selects_spec ws
  have f1 := findClass_of_methodNamed hn
  have f2 := findClass_of_methodNamed hm2
  rw [hc] at f2
  have e := Option.some.inj (f1.symm.trans f2)
  rw [← e] at hk
  have hf := State.methodFound?_of_named hn hy
  simp only [Cond.before, Cond.holds, Cond.value, f1, hf, show Z.methodNamed? ⟨y.cls, y.name, y.desc⟩ = some m1 from hn, hk]
  simp [hi]
theorem own_nf {y z z' : MethodName} {K : String} (wi : (Cond.instanceMethod y).before a0 Z = true) (ws : (Cond.selects K z z').before a0 Z = true) (hc : z'.cls = y.cls) : NotFace Z y := fun r0 h0 => by
  obtain ⟨c, r, m2, -, -, hm2, -, mk, hk, hi⟩ := Cond.selects_spec ws
  have f1 := findClass_of_methodNamed h0
  have f2 := findClass_of_methodNamed hm2
  rw [hc] at f2
  have e := Option.some.inj (f1.symm.trans f2)
  exact ⟨mk, by rw [e]; exact hk, hi⟩
theorem own_decl {y : MethodName} {bytes : ByteArray} {maxL : Nat} {ret : Option FieldType} (wi : (Cond.instanceMethod y).before a0 Z = true) (wc : (Cond.code y bytes maxL ret).before a0 Z = true) : (Cond.declares y).before a0 Z = true := by
  obtain ⟨m1, meth, hn, hm, hs, -⟩ := Cond.instanceMethod_spec wi
  obtain ⟨m2, cM, q1, -, -, -, -, -, -, hsig⟩ := Cond.code_spec hn wc
  cases hm.symm.trans q1
  simp only [Cond.before, Cond.holds, Cond.value, hn, Option.bind_some, hm, Option.map_some]
  simp [hs, hsig]
theorem own_lenw {t : Term} {z : Int32} (hv : (Term.length t).eval a0 Z none [] Z = some (.int z)) (ev : t.eval a0 Z none [] Z = some (.ref a)) : ∃ cell, Z.heap[a]? = some cell ∧ cell.slots.size < 2 ^ 31 ∧ cell.slots.size.toInt32 = z := by
  simp only [Term.eval, ev, Option.bind_eq_bind, Option.bind_some] at hv
  cases ha : Z.arrayAt? a with
  | none => simp [ha] at hv
  | some cell =>
    simp only [ha, Option.bind_some] at hv
    split at hv
    · rename_i q
      cases hv
      exact ⟨cell, (State.arrayAt?_spec ha).1, q, rfl⟩
    · cases hv
theorem own_A.start {t : Term} {z : Int32} {vs : List Value} (hf : Fit Z) (ev : t.eval a0 Z none [] Z = some (.ref a)) (hA : (Cond.arrayOf t ty).value a0 Z none Z [] = some true) (hl : (Term.length t).eval a0 Z none [] Z = some (.int z)) (hz : z.toInt = (n : Int)) (hn : vs.length = n)
    (hv : ∀ i : Nat, ∀ q : i < n, (Term.elem t (.int (Int32.ofNat i))).eval a0 Z none [] Z = some (vs.getD i .null)) : ∃ k, own_A Z Z.heap a k ty n (fun i => vs.getD i .null) := by
  obtain ⟨cl, A⟩ := Arr.start ev hA
  obtain ⟨cell, q1, q2, q3⟩ := own_lenw hl ev
  cases A.1.symm.trans q1
  have e1 : cl.slots.size.toInt32.toInt = cl.slots.size := Int32.toInt_ofNat_of_lt q2
  have hs : cl.slots.size = n := by rw [q3, hz] at e1; omega
  have H : ∀ i, i < n → cl.slots[i]? = some (vs.getD i .null) := fun i hi => by
    obtain ⟨cell, r1, -, r3⟩ := elem_at (hv i hi) ev (show (Term.int (Int32.ofNat i)).eval a0 Z none [] Z = _ from rfl)
    cases A.1.symm.trans r1
    rwa [own_natc (Int32.toInt_ofNat_of_lt (by omega))] at r3
  refine ⟨cl.cls, cl, A, rfl, hs, by omega, H, fun i hi => ?_⟩
  have t1 : (Int32.ofNat i).toInt = (i : Int) := Int32.toInt_ofNat_of_lt (by omega)
  exact elem_fits (j := Int32.ofNat i) hf A (by rw [own_natc t1, hs]; intro q; rcases q with q | q; exact own_negc t1 q; omega) (by rw [own_natc t1]; exact H i hi)
end OwnB

section OwnH
variable {p : Program} {l : Launch} {e : Env} {R : Room} {s : State} {m : MethodId} {args : Array Value} {below : List Frame} {meth : Method} {c : Code} {T : State} {locs : List Loc} {cells slots : Nat} {Z : State} {a0 : Array Value} {EL : List (String × Nat)} {h h' : Heap} {vm0 : Vm}
def own_PW (below : List Frame) (s Z : State) (EL : List (String × Nat)) (Q : Option Value → Heap → List Loc → Prop) (kc ks : Nat) (t : State) (o : Outcome) : Prop :=
  t.status = .running ∧ Ended t below o ∧ ∃ v L, o = .returned v ∧ Q v t.heap L ∧ CHr Z EL s.vm s.heap t.vm t.heap ∧ ReturnedEndW s o t L kc ks
theorem own_retW (X : Stand p l e R (s.setVm vm0) m args below meth c T locs cells slots) (hx : p.tables.exec = Jvm.exec) (hnl : meth.locks = false) (hZ : Z.Warmed39 vm0) (hEL : EW Z a0 EL) {k0 : Nat} (hS : s.Since vm0 k0) (hk : k0 ≤ T.heap.size) (C : CHr Z EL s.vm s.heap vm0 T.heap)
    {pc : Nat} {Ls : Array Slot} {w : Value} {t : FieldType} {i : Instr} {rest : List Value} (hret : meth.sig.returnType = some t) (hn : narrow t w = w)
    (hi : (i = .ireturn ∧ (t = .int ∨ t = .boolean ∨ t = .byte ∨ t = .char ∨ t = .short) ∧ ∃ z, w = .int z) ∨ (i = .lreturn ∧ t = .long ∧ ∃ z, w = .long z) ∨ (i = .dreturn ∧ t = .double ∧ ∃ z, w = .double z) ∨ (i = .freturn ∧ t = .float ∧ ∃ z, w = .float z) ∨ (i = .areturn ∧ t.isReference = true ∧ w.isRef = true))
    (hd : decode c.code pc = .ok (i, 1)) {Q : Option Value → Heap → List Loc → Prop} {kc ks : Nat} (hq : Q (some w) T.heap locs) (hc : cells ≤ kc) (hs : slots ≤ ks) : own_Go p.tables e below (own_PW below s Z EL Q kc ks) (T.setTop (mkF m pc Ls (w :: rest))) := by
  obtain ⟨fs, hr, hrun, hended, hE⟩ := X.leaveW hS hk (v := some w) (fun h => by rw [hret] at h; cases h) hnl
  have C' := C.trans (CHv.at X hZ hEL C.1)
  exact ⟨_, _, retOut X hx hret hn hi hd hr, hrun, hended, _, _, rfl, hq, C', hE.1, hE.2.1, hE.2.2.1, hE.2.2.2.mono hc hs⟩
theorem own_retW0 (X : Stand p l e R (s.setVm vm0) m args below meth c T locs cells slots) (hx : p.tables.exec = Jvm.exec) (hnl : meth.locks = false) (hZ : Z.Warmed39 vm0) (hEL : EW Z a0 EL) {k0 : Nat} (hS : s.Since vm0 k0) (hk : k0 ≤ T.heap.size) (C : CHr Z EL s.vm s.heap vm0 T.heap)
    {pc : Nat} {Ls : Array Slot} (hret : meth.sig.returnType = none)
    (hd : decode c.code pc = .ok (.return_, 1)) {Q : Option Value → Heap → List Loc → Prop} {kc ks : Nat} (hq : Q none T.heap locs) (hc : cells ≤ kc) (hs : slots ≤ ks) : own_Go p.tables e below (own_PW below s Z EL Q kc ks) (T.setTop (mkF m pc Ls [])) := by
  obtain ⟨fs, hr, hrun, hended, hE⟩ := X.leaveW hS hk (v := none) (fun _ => rfl) hnl
  have C' := C.trans (CHv.at X hZ hEL C.1)
  exact ⟨_, _, X.returnOut hx hret hd hr, hrun, hended, _, _, rfl, hq, C', hE.1, hE.2.1, hE.2.2.1, hE.2.2.2.mono hc hs⟩
theorem own_backSH {y : MethodName} {bytes : ByteArray} {maxL : Nat} {ret : Option FieldType} {rm : Room} {len W : Nat} {as' : Array Value} {Q : Option Value → Heap → List Loc → Prop} {xs : List Addr}
    (hM : MetFree l y (head1 [Cond.code y bytes maxL ret] rm) (fun a U => a = as' ∧ Z.Warmed39 U.vm ∧ U.heap = h ∧ CHv Z EL U.vm h ∧ ∀ x ∈ xs, Safe Z EL U.vm h x) (fun _ _ _ _ _ => True) (fun _ U o U' => ∃ v L, o = .returned v ∧ Q v U'.heap L ∧ CHr Z EL U.vm U.heap U'.vm U'.heap ∧ ReturnedEndW U o U' L rm.cells rm.slots))
    (hZ : Z.Warmed39 vm0) (wc : (Cond.code y bytes maxL ret).before a0 Z = true) (wz : (Cond.initialized y.cls).before a0 Z = true) (hf : rm.frames + 1 ≤ R.frames) (hl : W + (maxL + 11) + rm.locals ≤ R.locals) (hEL : EW Z a0 EL) (H : CHv Z EL vm0 h) (hxs : ∀ x ∈ xs, x < h.size ∧ Safe Z EL vm0 h x) :
    BackS l R p e below (s.setVm vm0) args y len W (fun A a => a = as' ∧ A.U.heap = h ∧ A.cells + rm.cells ≤ R.cells ∧ A.slots + rm.slots ≤ R.slots)
      (fun A _ v B => ∃ L, Q v B.U.heap L ∧ B.locs = A.locs ++ L ∧ B.cells = A.cells + rm.cells ∧ B.slots = A.slots + rm.slots ∧ CHr Z EL vm0 h B.U.vm B.U.heap) :=
  BackS.of_freeW (bytes := bytes) (maxL := maxL) (ret := ret) (E := fun _ first o t L k n => k = rm.cells ∧ n = rm.slots ∧ (∃ v, o = .returned v ∧ Q v t.heap L) ∧ CHr Z EL first.vm first.heap t.vm t.heap) hM hf hl
    (fun m meth c A a Y hp => have hU : Z.Warmed39 A.U.vm := wtrans (s := s.setVm vm0) hZ Y.warmed
      ⟨by show (Cond.and _ .tt).before a A.U = true; rw [Cond.before_and, mv hU wc]; rfl, mv hU wc, mv hU wz, hp.2.2.1, hp.2.2.2⟩)
    (fun m meth c A a g mk Y hp => ⟨hp.1, wtrans (s := s.setVm vm0) hZ Y.warmed, hp.2.1, (CHv.at Y hZ hEL H).1, fun x hx => (CHv.at Y hZ hEL H).safe (hxs x hx).1 (hxs x hx).2⟩) (fun _ _ _ _ _ _ _ _ _ => trivial)
    (fun _ _ _ _ ⟨v, L, h1, h2, h3, h4⟩ => ⟨L, _, _, h4, rfl, rfl, ⟨v, h1, h2⟩, h3⟩)
    (fun m meth c A a g mk v t L k n Y hp _ _ ⟨e1, e2, ⟨v', e3, e4⟩, e5⟩ => by
      cases e3; subst e1 e2
      refine ⟨L, e4, rfl, rfl, rfl, (CHv.at Y hZ hEL H).trans ?_⟩
      rw [← hp.2.1]; exact e5)
theorem own_safeN {hb : Heap} {ws : List Addr} {x : Addr} (H : CHv Z EL vm0 hb) (K : Keep hb h ws) (hs : ∀ a ∈ ws, Safe Z EL vm0 hb a) (hx : hb.size ≤ x) : Safe Z EL vm0 h x := fun B => Safe.new hx ((H.keepStep K hs).2 _ B)
theorem own_sl0 {P : Addr → Prop} : ∀ x ∈ ([] : List Addr), P x := fun _ q => by cases q
theorem own_slS {P : Addr → Prop} {a : Addr} {as : List Addr} (h1 : P a) (h2 : ∀ x ∈ as, P x) : ∀ x ∈ a :: as, P x := fun x q => by
  cases q with
  | head => exact h1
  | tail _ q => exact h2 x q
end OwnH
section OwnH2
variable {Z : State} {h : Heap} {a : Addr} {k : ClassId} {ty : FieldType} {n : Nat} {f : Nat → Value} {EL : List (String × Nat)} {vm : Vm}
theorem own_A.ofArv {z : Int32} {vs : List Value} {d : Value} (F : Arv Z h a k ty z vs d) (hz : z.toNatClampNeg = n) (hn : n < 2 ^ 31) (hf : ∀ i, i < n → f i = vs.getD i d) : own_A Z h a k ty n f := by
  obtain ⟨c, A, r1, r2, r3, H, G⟩ := F
  refine ⟨c, A, r1, by rw [r2, hz], hn, fun i hi => ?_, fun i hi => ?_⟩
  · rw [hf i hi]; exact H i (by rw [r2, hz]; exact hi)
  · rw [hf i hi]; exact G i (by rw [r2, hz]; exact hi)
theorem own_safeA (hal : Z.vm.Alike vm) (F : own_A Z h a k ty n f) (ht : ty ≠ .byte) : Safe Z EL vm h a := by obtain ⟨c, A, -⟩ := F; exact Safe.arr hal A ht
end OwnH2

def own_EL : List (String × Nat) := [("com/example/freshness/freshness/bench/MadeStream", 58)]
theorem own_hEL {Z : State} {a0 : Array Value} (hw : ∀ d ∈ tables_1, d.before a0 Z = true) : EW Z a0 own_EL := (EW.cons (text := "w") (own_w hw 26 rfl) (by decide) EW.nil)
theorem own_wS {Z : State} {a0 : Array Value} (hw : ∀ d ∈ tables_1, d.before a0 Z = true) : ∀ a ∈ Bundle.stringAtoms, a.before a0 Z = true := by
  intro a ha
  simp only [Bundle.stringAtoms, List.mem_cons, List.not_mem_nil, or_false] at ha
  rcases ha with rfl | rfl | rfl | rfl | rfl | rfl | rfl
  · exact (own_w hw 20 rfl)
  · exact (own_w hw 27 rfl)
  · exact (own_w hw 21 rfl)
  · exact (own_w hw 28 rfl)
  · exact (own_w hw 29 rfl)
  · exact (own_w hw 30 rfl)
  · exact (own_w hw 31 rfl)
section OwnM
def own_dg (d : Nat) : Int32 := if d < 10 then Int32.ofNat (48 + d) else Int32.ofNat (87 + d)
def own_lb (V k : Nat) : Nat → Int32 := fun q => if 32 - k < q ∧ q ≤ 32 then own_dg (V / 36 ^ (32 - q) % 36) else 0
def own_tb (sg n V : Nat) : Nat → Int32 := fun q => if q < sg then 45 else own_dg (V / 36 ^ (sg + n - 1 - q) % 36)
def own_ws (sg n V : Nat) : Nat → Int32 := fun q => if q = 0 then 119 else own_tb sg n V (q - 1)
def own_sg (r : Int32) : Nat := if r < 0 then 1 else 0
def own_dig (d : Int64) : Int32 := if lcmpW d (10 : Int64) < (0 : Int32) then ((((48 : Int64) + d).toInt32).toUInt32.toUInt16.toUInt32.toInt32) else (((((97 : Int64) + d) - (10 : Int64)).toInt32).toUInt32.toUInt16.toUInt32.toInt32)
theorem own_dgI {d : Nat} (h : d < 36) : (own_dg d).toInt = if d < 10 then 48 + (d : Int) else 87 + (d : Int) := by
  unfold own_dg
  split
  · rw [Int32.toInt_ofNat_of_lt (by omega)]; omega
  · rw [Int32.toInt_ofNat_of_lt (by omega)]; omega
theorem own_dg7 {d : Nat} (h : d < 36) : 0 ≤ (own_dg d).toInt ∧ (own_dg d).toInt ≤ 127 := by
  have q := own_dgI h
  split at q <;> omega
theorem own_i8b {x : Int32} (h0 : 0 ≤ x.toInt) (h1 : x.toInt ≤ 127) : x.toInt8.toInt32 = x := by
  have q := c_i2b x
  exact Int32.toInt_inj.mp (by omega)
theorem own_dg8 {d : Nat} (h : d < 36) : (own_dg d).toInt8.toInt32 = own_dg d := own_i8b (own_dg7 h).1 (own_dg7 h).2
theorem own_lb0 (V : Nat) (q : Nat) : own_lb V 0 q = 0 := by unfold own_lb; rw [if_neg (by omega)]
theorem own_lb_up (V : Nat) {k : Nat} (hk : k ≤ 5) (q : Nat) : own_lb V (k + 1) q = own_upd (own_lb V k) (32 - k) ((own_dg (V / 36 ^ k % 36)).toInt8.toInt32) q := by
  rw [own_dg8 (Nat.mod_lt _ (by decide))]
  simp only [own_lb, own_upd]
  by_cases e : q = 32 - k
  · rw [if_pos (by omega), if_pos e, show 32 - q = k by omega]
  · rw [if_neg e]
    by_cases g : 32 - k < q ∧ q ≤ 32
    · rw [if_pos (by omega), if_pos g]
    · rw [if_neg (by omega), if_neg g]
theorem own_ri {i : Int32} {x : Nat} (h : i.toInt = -(x : Int)) : (-(i % (36 : Int32))).toInt = ((x % 36 : Nat) : Int) := by
  have r := c_irem i 36 36 (by decide)
  have n := c_ineg (i % 36)
  have b := rng32 (-(i % 36))
  by_cases z : i.toInt < 0
  · have := r.2 z; omega
  · have := r.1 (by omega); omega
theorem own_di {i : Int32} {x : Nat} (h : i.toInt = -(x : Int)) : (i / (36 : Int32)).toInt = -((x / 36 : Nat) : Int) := by
  have r := c_idiv i 36 36 (by decide) (by decide)
  by_cases z : i.toInt < 0
  · have := r.2 z; omega
  · have := r.1 (by omega); omega
theorem own_ni {i : Int32} {x : Nat} (h : i.toInt = -(x : Int)) (hx : x < 2147483648) : (-i).toInt = (x : Int) := by
  have n := c_ineg i
  have b := rng32 (-i)
  omega
theorem own_gt36 {i : Int32} {x : Nat} (h : i.toInt = -(x : Int)) : (-(36 : Int32)) < i ↔ x < 36 := by
  have q : (-(36 : Int32)).toInt = -36 := by decide
  rw [Int32.lt_iff_toInt_lt, h, q]; omega
theorem own_dec1 {q : Int32} {n : Nat} (h : q.toInt = ((n + 1 : Nat) : Int)) : (q + (-1 : Int32)).toInt = (n : Int) := by
  have a := c_iadd q (-1)
  have r := rng32 (q + (-1))
  have b := rng32 q
  have z : (-1 : Int32).toInt = -1 := by decide
  omega
theorem own_33 {q : Int32} {n : Nat} (h : q.toInt = (n : Int)) (hn : n ≤ 33) : ((33 : Int32) - q).toInt = ((33 - n : Nat) : Int) := by
  have a := c_isub 33 q
  have r := rng32 ((33 : Int32) - q)
  have z : (33 : Int32).toInt = 33 := by decide
  omega
theorem own_divp (V k : Nat) : V / 36 ^ k / 36 = V / 36 ^ (k + 1) := by rw [Nat.div_div_eq_div_mul, Nat.pow_succ]
theorem own_kup {V k : Nat} (h : ¬ V / 36 ^ k < 36) : 36 ^ (k + 1) ≤ V := by
  rw [Nat.pow_succ, Nat.mul_comm]
  exact (Nat.le_div_iff_mul_le (Nat.pow_pos (by decide))).mp (by omega)
theorem own_klt {V k : Nat} (h : V / 36 ^ k < 36) : V < 36 ^ (k + 1) := by
  rw [Nat.pow_succ, Nat.mul_comm]
  exact (Nat.div_lt_iff_lt_mul (Nat.pow_pos (by decide))).mp h
theorem own_k5 {V k : Nat} (hV : V ≤ 2147483648) (h : 36 ^ k ≤ V) : k ≤ 5 := by
  refine Nat.le_of_lt_succ (Nat.lt_of_not_le fun q => ?_)
  have : 36 ^ 6 ≤ 36 ^ k := Nat.pow_le_pow_right (by decide) q
  omega
/-- the digits of V: n of them -/
theorem own_nn6 {V n j : Nat} (h1 : 1 ≤ n) (h2 : V < 36 ^ n) (h3 : n = 1 ∨ 36 ^ (n - 1) ≤ V) (j1 : 1 ≤ j) (g2 : V < 36 ^ j) (g3 : j = 1 ∨ 36 ^ (j - 1) ≤ V) : n = j := by
  have key : ∀ {a b : Nat}, 1 ≤ a → V < 36 ^ a → (b = 1 ∨ 36 ^ (b - 1) ≤ V) → b ≤ a := fun {a b} ha q r => by
    rcases r with r | r
    · omega
    · refine Nat.le_of_not_lt fun z => ?_
      have : 36 ^ a ≤ 36 ^ (b - 1) := Nat.pow_le_pow_right (by decide) (by omega)
      omega
  exact Nat.le_antisymm (key j1 g2 h3) (key h1 h2 g3)
theorem own_tbn (V n : Nat) (hk : n ≤ 6) (h1 : 1 ≤ n) (q : Nat) (hq : q < n) : own_lb V n (33 - n + q) = own_tb 0 n V q := by
  unfold own_lb own_tb
  rw [if_pos (by omega), if_neg (by omega), show 32 - (33 - n + q) = 0 + n - 1 - q by omega]
theorem own_tbs (V n : Nat) (hk : n ≤ 6) (h1 : 1 ≤ n) (q : Nat) (hq : q < n + 1) : own_upd (own_lb V n) (32 - n) 45 (32 - n + q) = own_tb 1 n V q := by
  unfold own_upd own_lb own_tb
  by_cases z : q = 0
  · rw [if_pos (by omega), if_pos (by omega)]
  · rw [if_neg (by omega), if_pos (by omega), if_neg (by omega), show 32 - (32 - n + q) = 1 + n - 1 - q by omega]
theorem own_tb7 (sg n V q : Nat) : 0 ≤ (own_tb sg n V q).toInt ∧ (own_tb sg n V q).toInt ≤ 127 := by
  unfold own_tb
  split
  · decide
  · exact own_dg7 (Nat.mod_lt _ (by decide))
theorem own_ws7 (sg n V q : Nat) : 0 ≤ (own_ws sg n V q).toInt ∧ (own_ws sg n V q).toInt ≤ 127 := by
  unfold own_ws
  split
  · decide
  · exact own_tb7 _ _ _ _
theorem own_wsb (sg n V q : Nat) (hq : q < 1 + (sg + n)) (g : Nat → Int32) : (own_ws sg n V q).toInt8.toInt32 = own_cp (own_tb sg n V) (own_cp (fun q => ([119] : List Int32).getD q 0) g 0 0 1) 0 1 (sg + n) (0 + q) := by
  rw [own_i8b (own_ws7 _ _ _ _).1 (own_ws7 _ _ _ _).2]
  unfold own_ws own_cp
  by_cases z : q = 0
  · subst z; simp
  · rw [if_neg z, if_pos (by omega)]; congr 1; omega
theorem own_sgY {r : Int32} (h : r < 0) : own_sg r = 1 := if_pos h
theorem own_sgN {r : Int32} (h : ¬ r < 0) : own_sg r = 0 := if_neg h
theorem own_dd {v w : Int64} {V W : Nat} (hv : v.toInt = (V : Int)) (hw : w.toInt = (W : Int)) (hw0 : 0 < W) : own_dig ((v / w) % (36 : Int64)) = own_dg (V / W % 36) := by
  have d1 := (c_ldiv v w W hw (fun q => by rw [q] at hw; have : (-1 : Int64).toInt = -1 := by decide
                                           omega)).1 (by omega)
  have d2 : ((v / w) % (36 : Int64)).toInt = ((V / W % 36 : Nat) : Int) := by
    have e36 : (36 : Int64).toInt = 36 := by decide
    rw [Int64.toInt_mod, e36, d1, hv, (tr _ _).1 (Int.ediv_nonneg (by omega) (by omega))]
    omega
  have hlt : V / W % 36 < 36 := Nat.mod_lt _ (by decide)
  generalize V / W % 36 = d at d2 hlt ⊢
  generalize (v / w) % (36 : Int64) = x at d2 ⊢
  have g := own_dgI hlt
  have e10 : (10 : Int64).toInt = 10 := by decide
  have e48 : (48 : Int64).toInt = 48 := by decide
  have e97 : (97 : Int64).toInt = 97 := by decide
  unfold own_dig
  refine Int32.toInt_inj.mp ?_
  by_cases z : d < 10
  · rw [if_pos ((lw_lt _ _).mpr (by rw [Int64.lt_iff_toInt_lt, e10]; omega))]
    rw [if_pos z] at g
    have a := c_ladd 48 x
    have b := c_l2i (48 + x)
    have c := c_i2c (48 + x).toInt32
    have r := rng64 (48 + x)
    have r2 := rng32 (48 + x).toInt32
    omega
  · rw [if_neg (mt (lw_lt _ _).mp (by rw [Int64.lt_iff_toInt_lt, e10]; omega))]
    rw [if_neg z] at g
    have a := c_ladd 97 x
    have a2 := c_lsub (97 + x) 10
    have b := c_l2i (97 + x - 10)
    have c := c_i2c (97 + x - 10).toInt32
    have r := rng64 (97 + x)
    have r1 := rng64 (97 + x - 10)
    have r2 := rng32 (97 + x - 10).toInt32
    omega
end OwnM

theorem own_d34_0 : decode jdk_41_method_11_code 0 = .ok (.iload_n 0, 1) := by decide +kernel
theorem own_d34_1 : decode jdk_41_method_11_code 1 = .ok (.ifCond .lt 8, 3) := by decide +kernel
theorem own_d34_4 : decode jdk_41_method_11_code 4 = .ok (.iload_n 0, 1) := by decide +kernel
theorem own_d34_5 : decode jdk_41_method_11_code 5 = .ok (.iload_n 1, 1) := by decide +kernel
theorem own_d34_6 : decode jdk_41_method_11_code 6 = .ok (.if_icmp .lt 10, 3) := by decide +kernel
theorem own_d34_16 : decode jdk_41_method_11_code 16 = .ok (.iload_n 0, 1) := by decide +kernel
theorem own_d34_17 : decode jdk_41_method_11_code 17 = .ok (.ireturn, 1) := by decide +kernel
theorem own_pn0 : plainName "jdk/internal/util/Preconditions" = true := by first | (simp [plainName, overriddenIn]; done) | decide +kernel
theorem own_ef34 (m : MethodId) (x0 : Int32) (x1 : Int32) (x2 : Value) (hv2 : x2.isRef = true) : entryFrame m #[(.int x0), (.int x1), x2] 3 = mkF m 0 #[.val (.int x0), .val (.int x1), .val x2] [] := by rcases ref_cases hv2 with rfl | ⟨_, rfl⟩ <;> first | (simp [entryFrame, mkF, argsToLocals, Value.category]; done) | rfl
def own_Q34 (Z : State) (q_ : Int32) (p_ : Int32) (G3 : Value) (qn : Nat) (n1 : Nat) (h0 : Heap) (n0 : Nat) (v : Option Value) (h : Heap) (L : List Loc) : Prop := v = some (.int q_) ∧ Fr n0 L ∧ h = h0
set_option maxRecDepth 65536 in
set_option maxHeartbeats 40000000 in
theorem own_rm34 (l : Launch) (Z : State) (a0 : Array Value) (hw : ∀ d ∈ tables_1, d.before a0 Z = true) (ws : List Jvm.Cond) (q_ : Int32) (p_ : Int32) (G3 : Value) (qn : Nat) (n1 : Nat) (h0 : Heap) (n0 : Nat) (Z0 : n0 ≤ h0.size) (rG3 : (G3.isRef = true)) (hi : (q_.toInt = (qn : Int) ∧ p_.toInt = (n1 : Int) ∧ qn < n1)) :
    MetFree l own_n0 (head1 (Jvm.Cond.code own_n0 jdk_41_method_11_code 3 (some .int) :: ws) ({ frames := 0, cells := 0, slots := 0, locals := 0 } : Room)) (fun a U => a = #[(.int q_), (.int p_), G3] ∧ Z.Warmed39 U.vm ∧ U.heap = h0) (fun _ _ _ _ _ => True) (fun _ U o U' => ∃ v L, o = .returned v ∧ own_Q34 Z q_ p_ G3 qn n1 h0 n0 v U'.heap L ∧ FrameEnd U o U' L ({ frames := 0, cells := 0, slots := 0, locals := 0 } : Room).cells ({ frames := 0, cells := 0, slots := 0, locals := 0 } : Room).slots) := by
  refine MetFree.of_bodySF (plainFor_of_name own_pn0) hisR ?_
  intro p e s m args below meth c s₁ Bd hml0 hP hK
  obtain ⟨rfl, hZ, hh⟩ := hP
  have hx := Bd.exec
  have hby := Bd.bytes
  have hml : c.maxLocals = 3 := hml0
  have hown : s.vm.findClass "jdk/internal/util/Preconditions" = some m.cls := findClass_of_methodNamed Bd.named
  have hnm := (name_of_methodNamed Bd.named Bd.method).1
  have hnl : meth.locks = false := Bd.notSynchronized
  have X0 : Stand p l e ({ frames := 0, cells := 0, slots := 0, locals := 0 } : Room) s m #[(.int q_), (.int p_), G3] below meth c s₁ [] 0 0 := Stand.of_body Bd
  have e0 : s₁.heap = h0 := by rw [← hh, Bd.state]; rfl
  have N0 := Fr.nil n0
  show own_Go p.tables e below (own_P below s (own_Q34 Z q_ p_ G3 qn n1 h0 n0) ({ frames := 0, cells := 0, slots := 0, locals := 0 } : Room).cells ({ frames := 0, cells := 0, slots := 0, locals := 0 } : Room).slots) _
  refine own_st (fun t_ k_ => castTop (own_ef34 m q_ p_ G3 rG3) k_) ?_
  refine own_st (fun t_ k_ => XS.iloadN X0.here hx rfl (hb hby own_d34_0) rfl (XS.ifNo X0.here hx rfl (hb hby own_d34_1) rfl ((if0 _ _).trans (flt (own_nn hi.1)).1) (XS.iloadN X0.here hx rfl (hb hby own_d34_4) rfl (XS.iloadN X0.here hx rfl (hb hby own_d34_5) rfl (XS.icmpYes X0.here hx rfl (pc0 := 6) (pc' := 16) rfl (hb hby own_d34_6) rfl (tlt ((own_ltp hi.1 hi.2.1).mpr hi.2.2)).1 (by decide) (by decide) (XS.iloadN X0.here hx rfl (hb hby own_d34_16) rfl k_)))))) ?_
  show own_at p e below _ s₁ m 17 #[oI q_, oI p_, .val G3] [(.int q_)]
  exact own_ret (w := (.int q_)) X0 hx hnl Bd.returns rfl (Or.inl ⟨rfl, by decide, _, rfl⟩) (hb hby own_d34_17) ⟨rfl, N0, e0⟩ (by decide) (by decide)

theorem own_d33_0 : decode jdk_42_method_155_code 0 = .ok (.iload_n 0, 1) := by decide +kernel
theorem own_d33_1 : decode jdk_42_method_155_code 1 = .ok (.iload_n 1, 1) := by decide +kernel
theorem own_d33_2 : decode jdk_42_method_155_code 2 = .ok (.getstatic 1053, 3) := by decide +kernel
theorem own_d33_5 : decode jdk_42_method_155_code 5 = .ok (.invokestatic 1059, 3) := by decide +kernel
theorem own_d33_8 : decode jdk_42_method_155_code 8 = .ok (.pop, 1) := by decide +kernel
theorem own_d33_9 : decode jdk_42_method_155_code 9 = .ok (.return_, 1) := by decide +kernel
theorem own_pn1 : plainName "java/lang/String" = true := by first | (simp [plainName, overriddenIn]; done) | decide +kernel
theorem own_pd0 : parseMethodDescriptor "(IILjava/util/function/BiFunction;)I" = some ⟨[.int, .int, (.object "java/util/function/BiFunction")], some .int⟩ := by decide +kernel
theorem own_ef33 (m : MethodId) (x0 : Int32) (x1 : Int32) : entryFrame m #[(.int x0), (.int x1)] 2 = mkF m 0 #[.val (.int x0), .val (.int x1)] [] := by first | (simp [entryFrame, mkF, argsToLocals, Value.category]; done) | rfl
def own_Q33 (Z : State) (q_ : Int32) (p_ : Int32) (G3 : Value) (qn : Nat) (n1 : Nat) (h0 : Heap) (n0 : Nat) (v : Option Value) (h : Heap) (L : List Loc) : Prop := v = none ∧ Fr n0 L ∧ h = h0
set_option maxRecDepth 65536 in
set_option maxHeartbeats 40000000 in
theorem own_rm33 (l : Launch) (Z : State) (a0 : Array Value) (hw : ∀ d ∈ tables_1, d.before a0 Z = true) (ws : List Jvm.Cond) (q_ : Int32) (p_ : Int32) (G3 : Value) (qn : Nat) (n1 : Nat) (h0 : Heap) (n0 : Nat) (Z0 : n0 ≤ h0.size) (q0 : Old Z n0 h0) (q1 : Sta Z Z.heap "jdk/internal/util/Preconditions" "SIOOBE_FORMATTER" "Ljava/util/function/BiFunction;" G3) (rG3 : (G3.isRef = true)) (hi : (q_.toInt = (qn : Int) ∧ p_.toInt = (n1 : Int) ∧ qn < n1)) :
    MetFree l own_n1 (head1 (Jvm.Cond.code own_n1 jdk_42_method_155_code 2 none :: ws) ({ frames := 1, cells := 0, slots := 0, locals := 14 } : Room)) (fun a U => a = #[(.int q_), (.int p_)] ∧ Z.Warmed39 U.vm ∧ U.heap = h0) (fun _ _ _ _ _ => True) (fun _ U o U' => ∃ v L, o = .returned v ∧ own_Q33 Z q_ p_ G3 qn n1 h0 n0 v U'.heap L ∧ FrameEnd U o U' L ({ frames := 1, cells := 0, slots := 0, locals := 14 } : Room).cells ({ frames := 1, cells := 0, slots := 0, locals := 14 } : Room).slots) := by
  refine MetFree.of_bodySF (plainFor_of_name own_pn1) hisR ?_
  intro p e s m args below meth c s₁ Bd hml0 hP hK
  obtain ⟨rfl, hZ, hh⟩ := hP
  have hx := Bd.exec
  have hby := Bd.bytes
  have hml : c.maxLocals = 2 := hml0
  have hown : s.vm.findClass "java/lang/String" = some m.cls := findClass_of_methodNamed Bd.named
  have hnm := (name_of_methodNamed Bd.named Bd.method).1
  have hnl : meth.locks = false := Bd.notSynchronized
  have X0 : Stand p l e ({ frames := 1, cells := 0, slots := 0, locals := 14 } : Room) s m #[(.int q_), (.int p_)] below meth c s₁ [] 0 0 := Stand.of_body Bd
  have e0 : s₁.heap = h0 := by rw [← hh, Bd.state]; rfl
  have N0 := Fr.nil n0
  show own_Go p.tables e below (own_P below s (own_Q33 Z q_ p_ G3 qn n1 h0 n0) ({ frames := 1, cells := 0, slots := 0, locals := 14 } : Room).cells ({ frames := 1, cells := 0, slots := 0, locals := 14 } : Room).slots) _
  refine own_st (fun t_ k_ => castTop (own_ef33 m q_ p_) k_) ?_
  refine own_st (fun t_ k_ => XS.iloadN X0.here hx rfl (hb hby own_d33_0) rfl (XS.iloadN X0.here hx rfl (hb hby own_d33_1) rfl k_)) ?_
  show own_at p e below _ s₁ m 2 #[oI q_, oI p_] [(.int p_), (.int q_)]
  obtain ⟨T101, X101, e101, st101⟩ := getS2 X0 hx hZ hown (host := "") (Or.inl (own_w hw 179 rfl)) Via.refl e0 (q1.ext q0.2) (g := (mkF m 2 #[oI q_, oI p_] [(.int p_), (.int q_)])) rfl (hb hby own_d33_2)
  refine own_st (st101) ?_
  show own_at p e below _ T101 m 5 #[oI q_, oI p_] [G3, (.int p_), (.int q_)]
  obtain ⟨_, _, ⟨T102, L102, k102, n102⟩, -, X102, ⟨Lc102, hQ102, l102, y102, z102⟩, st102⟩ := Jvm.LawKit.callS X101 hx (y := own_n0) hown (mvT hZ (own_w hw 181 rfl)) (mvT hZ (own_w hw 182 rfl)) (mvT hZ (own_w hw 180 rfl)) (mvT hZ (own_w hw 183 rfl)) (by decide) (backOf (W := 0) (own_rm34 l Z a0 hw [] q_ p_ G3 qn n1 h0 n0 (Nat.le_trans Z0 (Keep.refl h0 []).1) rG3 hi) hZ (own_w hw 183 rfl) (own_w hw 180 rfl) (by decide) (by decide)) (g := (mkF m 5 #[oI q_, oI p_] [G3, (.int p_), (.int q_)])) rfl (by rw [hml]; rfl) (argsL := [(.int q_), (.int p_), G3]) (rest := []) (lenOf own_pd0 rfl) rfl (own_hW rfl) (hb hby own_d33_5) (fun _ _ => ⟨rfl, e101, (by decide : 0 + 0 ≤ _), (by decide : 0 + 0 ≤ _)⟩)
  dsimp only [Pt.U, Pt.locs, Pt.cells, Pt.slots] at X102 l102 y102 z102 st102 hQ102
  subst y102 z102
  obtain ⟨rfl, N102q, eq102⟩ := hQ102
  have N102 : Fr n0 L102 := by rw [l102]; exact Fr.app N0 N102q
  refine own_st (st102) ?_
  refine own_st (fun t_ k_ => XS.pop X102.here hx rfl (hb hby own_d33_8) rfl rfl k_) ?_
  show own_at p e below _ T102 m 9 #[oI q_, oI p_] []
  exact own_ret0 X102 hx hnl Bd.returns (hb hby own_d33_9) ⟨rfl, N102, eq102⟩ (by decide) (by decide)

theorem own_d31_0 : decode jdk_42_method_154_code 0 = .ok (.getstatic 38, 3) := by decide +kernel
theorem own_d31_3 : decode jdk_42_method_154_code 3 = .ok (.ifCond .eq 14, 3) := by decide +kernel
theorem own_d31_6 : decode jdk_42_method_154_code 6 = .ok (.aload_n 0, 1) := by decide +kernel
theorem own_d31_7 : decode jdk_42_method_154_code 7 = .ok (.getfield 15, 3) := by decide +kernel
theorem own_d31_10 : decode jdk_42_method_154_code 10 = .ok (.ifCond .ne 7, 3) := by decide +kernel
theorem own_d31_13 : decode jdk_42_method_154_code 13 = .ok (.iconst 1, 1) := by decide +kernel
theorem own_d31_14 : decode jdk_42_method_154_code 14 = .ok (.goto 4, 3) := by decide +kernel
theorem own_d31_17 : decode jdk_42_method_154_code 17 = .ok (.iconst 0, 1) := by decide +kernel
theorem own_d31_18 : decode jdk_42_method_154_code 18 = .ok (.ireturn, 1) := by decide +kernel
theorem own_ef31 (m : MethodId) (x0 : Addr) : entryFrame m #[(.ref x0)] 1 = mkF m 0 #[.val (.ref x0)] [] := by first | (simp [entryFrame, mkF, argsToLocals, Value.category]; done) | rfl
def own_Q31 (Z : State) (a1 : Addr) (cd : Int32) (G1 : Int32) (h0 : Heap) (n0 : Nat) (v : Option Value) (h : Heap) (L : List Loc) : Prop := v = some (.int (own_l1 cd)) ∧ Fr n0 L ∧ h = h0
set_option maxRecDepth 65536 in
set_option maxHeartbeats 40000000 in
theorem own_rm31 (l : Launch) (Z : State) (a0 : Array Value) (hw : ∀ d ∈ tables_1, d.before a0 Z = true) (ws : List Jvm.Cond) (a1 : Addr) (cd : Int32) (G1 : Int32) (h0 : Heap) (n0 : Nat) (Z0 : n0 ≤ h0.size) (q0 : Fld Z h0 a1 "java/lang/String" "coder" "B" (.int cd)) (q1 : Old Z n0 h0) (q2 : Sta Z Z.heap "java/lang/String" "COMPACT_STRINGS" "Z" (.int G1)) (hG1 : (¬ G1 = (0 : Int32))) :
    MetFree l own_n2 (head1 (Jvm.Cond.code own_n2 jdk_42_method_154_code 1 (some .boolean) :: ws) ({ frames := 0, cells := 0, slots := 0, locals := 0 } : Room)) (fun a U => a = #[(.ref a1)] ∧ Z.Warmed39 U.vm ∧ U.heap = h0) (fun _ _ _ _ _ => True) (fun _ U o U' => ∃ v L, o = .returned v ∧ own_Q31 Z a1 cd G1 h0 n0 v U'.heap L ∧ FrameEnd U o U' L ({ frames := 0, cells := 0, slots := 0, locals := 0 } : Room).cells ({ frames := 0, cells := 0, slots := 0, locals := 0 } : Room).slots) := by
  refine MetFree.of_bodySF (plainFor_of_name own_pn1) hisR ?_
  intro p e s m args below meth c s₁ Bd hml0 hP hK
  obtain ⟨rfl, hZ, hh⟩ := hP
  have hx := Bd.exec
  have hby := Bd.bytes
  have hml : c.maxLocals = 1 := hml0
  have hown : s.vm.findClass "java/lang/String" = some m.cls := findClass_of_methodNamed Bd.named
  have hnm := (name_of_methodNamed Bd.named Bd.method).1
  have hnl : meth.locks = false := Bd.notSynchronized
  have X0 : Stand p l e ({ frames := 0, cells := 0, slots := 0, locals := 0 } : Room) s m #[(.ref a1)] below meth c s₁ [] 0 0 := Stand.of_body Bd
  have e0 : s₁.heap = h0 := by rw [← hh, Bd.state]; rfl
  have N0 := Fr.nil n0
  show own_Go p.tables e below (own_P below s (own_Q31 Z a1 cd G1 h0 n0) ({ frames := 0, cells := 0, slots := 0, locals := 0 } : Room).cells ({ frames := 0, cells := 0, slots := 0, locals := 0 } : Room).slots) _
  refine own_st (fun t_ k_ => castTop (own_ef31 m a1) k_) ?_
  show own_at p e below _ s₁ m 0 #[oR a1] []
  obtain ⟨T103, X103, e103, st103⟩ := getS2 X0 hx hZ hown (host := "") (Or.inl (own_w hw 53 rfl)) Via.refl e0 (q2.ext q1.2) (g := (mkF m 0 #[oR a1] [])) rfl (hb hby own_d31_0)
  refine own_st (st103) ?_
  refine own_st (fun t_ k_ => XS.ifNo X103.here hx rfl (hb hby own_d31_3) rfl ((if0 _ _).trans (feq hG1).1) (XS.aloadN X103.here hx rfl (hb hby own_d31_6) rfl rfl k_)) ?_
  show own_at p e below _ T103 m 7 #[oR a1] [(.ref a1)]
  obtain ⟨T104, X104, e104, st104⟩ := getF X103 hx hZ hown (host := "") (Or.inl (own_w hw 54 rfl)) Via.refl e103 q0 (g := (mkF m 7 #[oR a1] [(.ref a1)])) rfl rfl (hb hby own_d31_7)
  refine own_st (st104) ?_
  show own_at p e below _ T104 m 10 #[oR a1] [(.int cd)]
  by_cases c10_105 : cd = (0 : Int32)
  · skip
    refine own_st (fun t_ k_ => XS.ifNo X104.here hx rfl (hb hby own_d31_10) rfl ((if0 _ _).trans (teq c10_105).2) (XS.iconst X104.here hx rfl (hb hby own_d31_13) (XS.goto X104.here hx rfl (pc0 := 14) (pc' := 18) rfl (hb hby own_d31_14) (by decide) (by decide) k_))) ?_
    show own_at p e below _ T104 m 18 #[oR a1] [(.int (1 : Int32))]
    exact own_ret (w := (.int (1 : Int32))) X104 hx hnl Bd.returns rfl (Or.inl ⟨rfl, by decide, _, rfl⟩) (hb hby own_d31_18) ⟨(by simp [own_l1, c10_105]), N0, e104⟩ (by decide) (by decide)
  refine own_st (fun t_ k_ => XS.ifYes X104.here hx rfl (pc0 := 10) (pc' := 17) rfl (hb hby own_d31_10) rfl ((if0 _ _).trans (feq c10_105).2) (by decide) (by decide) (XS.iconst X104.here hx rfl (hb hby own_d31_17) k_)) ?_
  show own_at p e below _ T104 m 18 #[oR a1] [(.int (0 : Int32))]
  exact own_ret (w := (.int (0 : Int32))) X104 hx hnl Bd.returns rfl (Or.inl ⟨rfl, by decide, _, rfl⟩) (hb hby own_d31_18) ⟨(by simp [own_l1, c10_105]), N0, e104⟩ (by decide) (by decide)

theorem own_d32_0 : decode jdk_43_method_2_code 0 = .ok (.iload_n 1, 1) := by decide +kernel
theorem own_d32_1 : decode jdk_43_method_2_code 1 = .ok (.aload_n 0, 1) := by decide +kernel
theorem own_d32_2 : decode jdk_43_method_2_code 2 = .ok (.arraylength, 1) := by decide +kernel
theorem own_d32_3 : decode jdk_43_method_2_code 3 = .ok (.invokestatic 9, 3) := by decide +kernel
theorem own_d32_6 : decode jdk_43_method_2_code 6 = .ok (.aload_n 0, 1) := by decide +kernel
theorem own_d32_7 : decode jdk_43_method_2_code 7 = .ok (.iload_n 1, 1) := by decide +kernel
theorem own_d32_8 : decode jdk_43_method_2_code 8 = .ok (.baload, 1) := by decide +kernel
theorem own_d32_9 : decode jdk_43_method_2_code 9 = .ok (.sipush 255, 3) := by decide +kernel
theorem own_d32_12 : decode jdk_43_method_2_code 12 = .ok (.iand, 1) := by decide +kernel
theorem own_d32_13 : decode jdk_43_method_2_code 13 = .ok (.i2c, 1) := by decide +kernel
theorem own_d32_14 : decode jdk_43_method_2_code 14 = .ok (.ireturn, 1) := by decide +kernel
theorem own_pn2 : plainName "java/lang/StringLatin1" = true := by first | (simp [plainName, overriddenIn]; done) | decide +kernel
theorem own_pd1 : parseMethodDescriptor "(II)V" = some ⟨[.int, .int], none⟩ := by decide +kernel
theorem own_ef32 (m : MethodId) (x0 : Addr) (x1 : Int32) : entryFrame m #[(.ref x0), (.int x1)] 2 = mkF m 0 #[.val (.ref x0), .val (.int x1)] [] := by first | (simp [entryFrame, mkF, argsToLocals, Value.category]; done) | rfl
def own_Q32 (Z : State) (a1 : Addr) (q_ : Int32) (k1 : ClassId) (n1 : Nat) (cs : Nat → Int32) (qn : Nat) (G3 : Value) (h0 : Heap) (n0 : Nat) (v : Option Value) (h : Heap) (L : List Loc) : Prop := v = some (.int (cs qn)) ∧ Fr n0 L ∧ h = h0
set_option maxRecDepth 65536 in
set_option maxHeartbeats 40000000 in
theorem own_rm32 (l : Launch) (Z : State) (a0 : Array Value) (hw : ∀ d ∈ tables_1, d.before a0 Z = true) (ws : List Jvm.Cond) (a1 : Addr) (q_ : Int32) (k1 : ClassId) (n1 : Nat) (cs : Nat → Int32) (qn : Nat) (G3 : Value) (h0 : Heap) (n0 : Nat) (Z0 : n0 ≤ h0.size) (q0 : own_A Z h0 a1 k1 .byte n1 (fun i => .int ((own_l8 cs) i))) (q1 : Old Z n0 h0) (q2 : Sta Z Z.heap "jdk/internal/util/Preconditions" "SIOOBE_FORMATTER" "Ljava/util/function/BiFunction;" G3) (rG3 : (G3.isRef = true)) (hq : (q_.toInt = (qn : Int) ∧ qn < n1 ∧ n1 ≤ 4000)) (hch : (0 ≤ (cs qn).toInt ∧ (cs qn).toInt ≤ 65535)) (hlt : (¬ (255 : Int32) < cs qn)) :
    MetFree l own_n3 (head1 (Jvm.Cond.code own_n3 jdk_43_method_2_code 2 (some .char) :: ws) ({ frames := 2, cells := 0, slots := 0, locals := 27 } : Room)) (fun a U => a = #[(.ref a1), (.int q_)] ∧ Z.Warmed39 U.vm ∧ U.heap = h0) (fun _ _ _ _ _ => True) (fun _ U o U' => ∃ v L, o = .returned v ∧ own_Q32 Z a1 q_ k1 n1 cs qn G3 h0 n0 v U'.heap L ∧ FrameEnd U o U' L ({ frames := 2, cells := 0, slots := 0, locals := 27 } : Room).cells ({ frames := 2, cells := 0, slots := 0, locals := 27 } : Room).slots) := by
  refine MetFree.of_bodySF (plainFor_of_name own_pn2) hisR ?_
  intro p e s m args below meth c s₁ Bd hml0 hP hK
  obtain ⟨rfl, hZ, hh⟩ := hP
  have hx := Bd.exec
  have hby := Bd.bytes
  have hml : c.maxLocals = 2 := hml0
  have hown : s.vm.findClass "java/lang/StringLatin1" = some m.cls := findClass_of_methodNamed Bd.named
  have hnm := (name_of_methodNamed Bd.named Bd.method).1
  have hnl : meth.locks = false := Bd.notSynchronized
  have X0 : Stand p l e ({ frames := 2, cells := 0, slots := 0, locals := 27 } : Room) s m #[(.ref a1), (.int q_)] below meth c s₁ [] 0 0 := Stand.of_body Bd
  have e0 : s₁.heap = h0 := by rw [← hh, Bd.state]; rfl
  have N0 := Fr.nil n0
  show own_Go p.tables e below (own_P below s (own_Q32 Z a1 q_ k1 n1 cs qn G3 h0 n0) ({ frames := 2, cells := 0, slots := 0, locals := 27 } : Room).cells ({ frames := 2, cells := 0, slots := 0, locals := 27 } : Room).slots) _
  refine own_st (fun t_ k_ => castTop (own_ef32 m a1 q_) k_) ?_
  refine own_st (fun t_ k_ => XS.iloadN X0.here hx rfl (hb hby own_d32_0) rfl (XS.aloadN X0.here hx rfl (hb hby own_d32_1) rfl rfl k_)) ?_
  show own_at p e below _ s₁ m 2 #[oR a1, oI q_] [(.ref a1), (.int q_)]
  refine own_st (own_len X0 hx hZ e0 q0 (g := (mkF m 2 #[oR a1, oI q_] [(.ref a1), (.int q_)])) rfl rfl (hb hby own_d32_2)) ?_
  show own_at p e below _ s₁ m 3 #[oR a1, oI q_] [(.int (Int32.ofNat n1)), (.int q_)]
  obtain ⟨_, _, ⟨T106, L106, k106, n106⟩, -, X106, ⟨Lc106, hQ106, l106, y106, z106⟩, st106⟩ := Jvm.LawKit.callS X0 hx (y := own_n1) hown (mvT hZ (own_w hw 176 rfl)) (mvT hZ (own_w hw 177 rfl)) (mvT hZ (own_w hw 20 rfl)) (mvT hZ (own_w hw 178 rfl)) (by decide) (backOf (W := 0) (own_rm33 l Z a0 hw [] q_ (Int32.ofNat n1) G3 qn n1 h0 n0 (Nat.le_trans Z0 (Keep.refl h0 []).1) q1 q2 rG3 ⟨hq.1, (own_toN (by omega)), hq.2.1⟩) hZ (own_w hw 178 rfl) (own_w hw 20 rfl) (by decide) (by decide)) (g := (mkF m 3 #[oR a1, oI q_] [(.int (Int32.ofNat n1)), (.int q_)])) rfl (by rw [hml]; rfl) (argsL := [(.int q_), (.int (Int32.ofNat n1))]) (rest := []) (lenOf own_pd1 rfl) rfl (own_hW rfl) (hb hby own_d32_3) (fun _ _ => ⟨rfl, e0, (by decide : 0 + 0 ≤ _), (by decide : 0 + 0 ≤ _)⟩)
  dsimp only [Pt.U, Pt.locs, Pt.cells, Pt.slots] at X106 l106 y106 z106 st106 hQ106
  subst y106 z106
  obtain ⟨rfl, N106q, eq106⟩ := hQ106
  have N106 : Fr n0 L106 := by rw [l106]; exact Fr.app N0 N106q
  refine own_st (st106) ?_
  refine own_st (fun t_ k_ => XS.aloadN X106.here hx rfl (hb hby own_d32_6) rfl rfl (XS.iloadN X106.here hx rfl (hb hby own_d32_7) rfl k_)) ?_
  show own_at p e below _ T106 m 8 #[oR a1, oI q_] [(.int q_), (.ref a1)]
  refine own_st (own_baload X106 hx hZ eq106 q0 (i := qn) hq.1 hq.2.1 (g := (mkF m 8 #[oR a1, oI q_] [(.int q_), (.ref a1)])) rfl rfl (hb hby own_d32_8)) ?_
  refine own_st (fun t_ k_ => XS.sipush X106.here hx rfl (hb hby own_d32_9) (XS.iand X106.here hx rfl (hb hby own_d32_12) rfl (XS.i2c X106.here hx rfl (hb hby own_d32_13) rfl k_))) ?_
  show own_at p e below _ T106 m 14 #[oR a1, oI q_] [(.int ((((own_l8 cs) qn) &&& (255 : Int32)).toUInt32.toUInt16.toUInt32.toInt32))]
  rw [show ((((own_l8 cs) qn) &&& (255 : Int32)).toUInt32.toUInt16.toUInt32.toInt32) = (cs qn) from own_lat hch.1 hlt]
  show own_at p e below _ T106 m 14 #[oR a1, oI q_] [(.int (cs qn))]
  exact own_ret (w := (.int (cs qn))) X106 hx hnl Bd.returns (own_nwc hch.1 hch.2) (Or.inl ⟨rfl, by decide, _, rfl⟩) (hb hby own_d32_14) ⟨rfl, N106, eq106⟩ (by decide) (by decide)

theorem own_d30_0 : decode jdk_42_method_56_code 0 = .ok (.aload_n 0, 1) := by decide +kernel
theorem own_d30_1 : decode jdk_42_method_56_code 1 = .ok (.invokevirtual 492, 3) := by decide +kernel
theorem own_d30_4 : decode jdk_42_method_56_code 4 = .ok (.ifCond .eq 12, 3) := by decide +kernel
theorem own_d30_7 : decode jdk_42_method_56_code 7 = .ok (.aload_n 0, 1) := by decide +kernel
theorem own_d30_8 : decode jdk_42_method_56_code 8 = .ok (.getfield 9, 3) := by decide +kernel
theorem own_d30_11 : decode jdk_42_method_56_code 11 = .ok (.iload_n 1, 1) := by decide +kernel
theorem own_d30_12 : decode jdk_42_method_56_code 12 = .ok (.invokestatic 495, 3) := by decide +kernel
theorem own_d30_15 : decode jdk_42_method_56_code 15 = .ok (.ireturn, 1) := by decide +kernel
theorem own_pd2 : parseMethodDescriptor "()Z" = some ⟨[], some .boolean⟩ := by decide +kernel
theorem own_pd3 : parseMethodDescriptor "([BI)C" = some ⟨[(.array .byte), .int], some .char⟩ := by decide +kernel
theorem own_ef30 (m : MethodId) (x0 : Addr) (x1 : Int32) : entryFrame m #[(.ref x0), (.int x1)] 2 = mkF m 0 #[.val (.ref x0), .val (.int x1)] [] := by first | (simp [entryFrame, mkF, argsToLocals, Value.category]; done) | rfl
def own_Q30 (Z : State) (a1 : Addr) (q_ : Int32) (t : Addr) (kt : ClassId) (cd : Int32) (n1 : Nat) (cs : Nat → Int32) (qn : Nat) (G1 : Int32) (G3 : Value) (h0 : Heap) (n0 : Nat) (v : Option Value) (h : Heap) (L : List Loc) : Prop := v = some (.int (cs qn)) ∧ Fr n0 L ∧ h = h0
set_option maxRecDepth 65536 in
set_option maxHeartbeats 40000000 in
theorem own_rm30 (l : Launch) (Z : State) (a0 : Array Value) (hw : ∀ d ∈ tables_1, d.before a0 Z = true) (ws : List Jvm.Cond) (a1 : Addr) (q_ : Int32) (t : Addr) (kt : ClassId) (cd : Int32) (n1 : Nat) (cs : Nat → Int32) (qn : Nat) (G1 : Int32) (G3 : Value) (h0 : Heap) (n0 : Nat) (Z0 : n0 ≤ h0.size) (q0 : Exa Z h0 a1 "java/lang/String") (q1 : Fld Z h0 a1 "java/lang/String" "value" "[B" (.ref t)) (q2 : Fld Z h0 a1 "java/lang/String" "coder" "B" (.int cd)) (q3 : own_A Z h0 t kt .byte (own_bl cd n1) (fun i => .int ((own_by cd cs) i))) (hcd : ((cd = 0 ∧ ∀ q : Nat, q < n1 → ¬ (255 : Int32) < cs q) ∨ cd = 1)) (hc0 : (cd = 0)) (q6 : Old Z n0 h0) (q7 : Sta Z Z.heap "java/lang/String" "COMPACT_STRINGS" "Z" (.int G1)) (hG1 : (¬ G1 = (0 : Int32))) (q9 : Sta Z Z.heap "jdk/internal/util/Preconditions" "SIOOBE_FORMATTER" "Ljava/util/function/BiFunction;" G3) (rG3 : (G3.isRef = true)) (hq : (q_.toInt = (qn : Int) ∧ qn < n1 ∧ n1 ≤ 4000)) (hch : (0 ≤ (cs qn).toInt ∧ (cs qn).toInt ≤ 65535)) :
    MetFree l own_n4 (head1 (Jvm.Cond.code own_n4 jdk_42_method_56_code 2 (some .char) :: ws) ({ frames := 3, cells := 0, slots := 0, locals := 40 } : Room)) (fun a U => a = #[(.ref a1), (.int q_)] ∧ Z.Warmed39 U.vm ∧ U.heap = h0) (fun _ _ _ _ _ => True) (fun _ U o U' => ∃ v L, o = .returned v ∧ own_Q30 Z a1 q_ t kt cd n1 cs qn G1 G3 h0 n0 v U'.heap L ∧ FrameEnd U o U' L ({ frames := 3, cells := 0, slots := 0, locals := 40 } : Room).cells ({ frames := 3, cells := 0, slots := 0, locals := 40 } : Room).slots) := by
  refine MetFree.of_bodySF (plainFor_of_name own_pn1) hisR ?_
  intro p e s m args below meth c s₁ Bd hml0 hP hK
  obtain ⟨rfl, hZ, hh⟩ := hP
  have hx := Bd.exec
  have hby := Bd.bytes
  have hml : c.maxLocals = 2 := hml0
  have hown : s.vm.findClass "java/lang/String" = some m.cls := findClass_of_methodNamed Bd.named
  have hnm := (name_of_methodNamed Bd.named Bd.method).1
  have hnl : meth.locks = false := Bd.notSynchronized
  have X0 : Stand p l e ({ frames := 3, cells := 0, slots := 0, locals := 40 } : Room) s m #[(.ref a1), (.int q_)] below meth c s₁ [] 0 0 := Stand.of_body Bd
  have e0 : s₁.heap = h0 := by rw [← hh, Bd.state]; rfl
  have N0 := Fr.nil n0
  show own_Go p.tables e below (own_P below s (own_Q30 Z a1 q_ t kt cd n1 cs qn G1 G3 h0 n0) ({ frames := 3, cells := 0, slots := 0, locals := 40 } : Room).cells ({ frames := 3, cells := 0, slots := 0, locals := 40 } : Room).slots) _
  refine own_st (fun t_ k_ => castTop (own_ef30 m a1 q_) k_) ?_
  refine own_st (fun t_ k_ => XS.aloadN X0.here hx rfl (hb hby own_d30_0) rfl rfl k_) ?_
  show own_at p e below _ s₁ m 1 #[oR a1, oI q_] [(.ref a1)]
  obtain ⟨cq107, kq107, q107a, q107b, q107c⟩ := isOf hZ e0 q0
  obtain ⟨_, _, ⟨T107, L107, k107, n107⟩, -, X107, ⟨Lc107, hQ107, l107, y107, z107⟩, st107⟩ := X0.virtualBack hx (y := own_n2) (z := own_n2) hown (mvT hZ (own_w hw 168 rfl)) (mvT hZ (own_w hw 169 rfl)) (notFace_of_selects (args := #[]) (mvT hZ (own_w hw 171 rfl))) (mvT hZ (own_w hw 171 rfl)) (mvT hZ (own_w hw 170 rfl)) (by decide) (backOf (W := 0) (own_rm31 l Z a0 hw [] a1 cd G1 h0 n0 (Nat.le_trans Z0 (Keep.refl h0 []).1) q2 q6 q7 hG1) hZ (own_w hw 172 rfl) (own_w hw 20 rfl) (by decide) (by decide)) q107a q107c (g := (mkF m 1 #[oR a1, oI q_] [(.ref a1)])) rfl (by rw [hml]; rfl) (Steps.refl _) (argsL := []) (rest := []) (lenOf own_pd2 rfl) rfl (own_hW rfl) (hb hby own_d30_1) (fun _ _ => ⟨rfl, e0, (by decide : 0 + 0 ≤ _), (by decide : 0 + 0 ≤ _)⟩)
  dsimp only [Pt.U, Pt.locs, Pt.cells, Pt.slots] at X107 l107 y107 z107 st107 hQ107
  subst y107 z107
  obtain ⟨rfl, N107q, eq107⟩ := hQ107
  have N107 : Fr n0 L107 := by rw [l107]; exact Fr.app N0 N107q
  refine own_tr st107 ?_
  show own_at p e below _ T107 m 4 #[oR a1, oI q_] [(.int (own_l1 cd))]
  have hn4 : ¬ ((own_l1 cd) = (0 : Int32)) := by rw [hc0]; decide
  have ecd : cd = 0 ∧ ∀ q : Nat, q < n1 → ¬ (255 : Int32) < cs q := by rcases hcd with z_ | z_; exact z_; exact absurd (show own_l1 cd = 0 by rw [z_]; decide) hn4
  have Au : own_A Z h0 t kt .byte n1 (fun i => .int ((own_l8 cs) i)) := by have z_ := q3; rw [ecd.1, own_bl0] at z_; exact z_.congr (fun q _ => by rw [own_by0]; rfl)
  refine own_st (fun t_ k_ => XS.ifNo X107.here hx rfl (hb hby own_d30_4) rfl ((if0 _ _).trans (feq hn4).1) (XS.aloadN X107.here hx rfl (hb hby own_d30_7) rfl rfl k_)) ?_
  show own_at p e below _ T107 m 8 #[oR a1, oI q_] [(.ref a1)]
  obtain ⟨T108, X108, e108, st108⟩ := getF X107 hx hZ hown (host := "") (Or.inl (own_w hw 47 rfl)) Via.refl eq107 q1 (g := (mkF m 8 #[oR a1, oI q_] [(.ref a1)])) rfl rfl (hb hby own_d30_8)
  refine own_st (st108) ?_
  refine own_st (fun t_ k_ => XS.iloadN X108.here hx rfl (hb hby own_d30_11) rfl k_) ?_
  show own_at p e below _ T108 m 12 #[oR a1, oI q_] [(.int q_), (.ref t)]
  obtain ⟨_, _, ⟨T109, L109, k109, n109⟩, -, X109, ⟨Lc109, hQ109, l109, y109, z109⟩, st109⟩ := Jvm.LawKit.callS X108 hx (y := own_n3) hown (mvT hZ (own_w hw 173 rfl)) (mvT hZ (own_w hw 174 rfl)) (mvT hZ (own_w hw 90 rfl)) (mvT hZ (own_w hw 175 rfl)) (by decide) (backOf (W := 0) (own_rm32 l Z a0 hw [] t q_ kt n1 cs qn G3 h0 n0 (Nat.le_trans Z0 (Keep.refl h0 []).1) Au q6 q9 rG3 hq hch (ecd.2 _ hq.2.1)) hZ (own_w hw 175 rfl) (own_w hw 90 rfl) (by decide) (by decide)) (g := (mkF m 12 #[oR a1, oI q_] [(.int q_), (.ref t)])) rfl (by rw [hml]; rfl) (argsL := [(.ref t), (.int q_)]) (rest := []) (lenOf own_pd3 rfl) rfl (own_hW rfl) (hb hby own_d30_12) (fun _ _ => ⟨rfl, e108, (by decide : 0 + 0 ≤ _), (by decide : 0 + 0 ≤ _)⟩)
  dsimp only [Pt.U, Pt.locs, Pt.cells, Pt.slots] at X109 l109 y109 z109 st109 hQ109
  subst y109 z109
  obtain ⟨rfl, N109q, eq109⟩ := hQ109
  have N109 : Fr n0 L109 := by rw [l109]; exact Fr.app N107 N109q
  refine own_st (st109) ?_
  show own_at p e below _ T109 m 15 #[oR a1, oI q_] [(.int (cs qn))]
  exact own_ret (w := (.int (cs qn))) X109 hx hnl Bd.returns (own_nwc hch.1 hch.2) (Or.inl ⟨rfl, by decide, _, rfl⟩) (hb hby own_d30_15) ⟨rfl, N109, eq109⟩ (by decide) (by decide)


theorem own_sh0 (x : Int32) : x >>> ((0 : Int32) &&& 31) = x := by rw [show ((0 : Int32) &&& 31) = 0 from rfl]; exact Int32.shiftRight_zero
theorem own_shl0 (x : Int32) : x <<< ((0 : Int32) &&& 31) = x := by rw [show ((0 : Int32) &&& 31) = 0 from rfl]; exact Int32.shiftLeft_zero
def own_sf (f : Nat → Int32) (i : Nat) : Nat → Int32 := fun q => f (i + q)
theorem own_cpf (f g : Nat → Int32) (i n q : Nat) (hq : q < n) : own_sf f i q = own_cp f g i 0 n q := by
  unfold own_sf own_cp
  rw [if_pos (by omega), Nat.sub_zero]
theorem own_ecap {q : Int32} {n : Nat} (h : q.toInt = (n : Int)) (hn : n ≤ 16) : ¬ (0 : Int32) < (q - ((16 : Int32) >>> ((0 : Int32) &&& 31))) := by
  rw [own_sh0]
  have a := c_isub q 16
  have r := rng32 (q - 16)
  have z : (16 : Int32).toInt = 16 := by decide
  have z0 : (0 : Int32).toInt = 0 := by decide
  rw [Int32.lt_iff_toInt_lt, z0]; omega
theorem own_cadd {x y : Int32} {i j : Nat} (hx : x.toInt = (i : Int)) (hy : y.toInt = (j : Int)) (h : i + j ≤ 100000) : (x + y).toInt = ((i + j : Nat) : Int) := by
  have a := c_iadd x y
  have r := rng32 (x + y)
  omega
theorem own_csub {x y : Int32} {i j : Nat} (hx : x.toInt = (i : Int)) (hy : y.toInt = (j : Int)) (h : j ≤ i) (hi : i ≤ 100000) : (x - y).toInt = ((i - j : Nat) : Int) := by
  have a := c_isub x y
  have r := rng32 (x - y)
  omega
theorem own_anti {x y : Int32} (h1 : ¬ x < y) (h2 : ¬ y < x) : x = y := by
  rw [Int32.lt_iff_toInt_lt] at h1 h2
  exact Int32.toInt_inj.mp (by omega)
theorem own_nlt {x y : Int32} {i j : Nat} (hx : x.toInt = (i : Int)) (hy : y.toInt = (j : Int)) (h : j ≤ i) : ¬ x < y := by rw [Int32.lt_iff_toInt_lt]; omega
theorem own_neI {x y : Int32} {i j : Nat} (hx : x.toInt = (i : Int)) (hy : y.toInt = (j : Int)) (h : i ≠ j) : ¬ x = y := fun q => h (by rw [q, hy] at hx; omega)

theorem own_d8_0 : decode jdk_42_method_152_code 0 = .ok (.getstatic 38, 3) := by decide +kernel
theorem own_d8_3 : decode jdk_42_method_152_code 3 = .ok (.ifCond .eq 10, 3) := by decide +kernel
theorem own_d8_6 : decode jdk_42_method_152_code 6 = .ok (.aload_n 0, 1) := by decide +kernel
theorem own_d8_7 : decode jdk_42_method_152_code 7 = .ok (.getfield 15, 3) := by decide +kernel
theorem own_d8_10 : decode jdk_42_method_152_code 10 = .ok (.goto 4, 3) := by decide +kernel
theorem own_d8_14 : decode jdk_42_method_152_code 14 = .ok (.ireturn, 1) := by decide +kernel
theorem own_ef8 (m : MethodId) (x0 : Addr) : entryFrame m #[(.ref x0)] 1 = mkF m 0 #[.val (.ref x0)] [] := by first | (simp [entryFrame, mkF, argsToLocals, Value.category]; done) | rfl
def own_Q8 (Z : State) (a1 : Addr) (G1 : Int32) (h0 : Heap) (n0 : Nat) (v : Option Value) (h : Heap) (L : List Loc) : Prop := v = some (.int (0 : Int32)) ∧ Fr n0 L ∧ h = h0
set_option maxRecDepth 65536 in
set_option maxHeartbeats 40000000 in
theorem own_rm8 (l : Launch) (Z : State) (a0 : Array Value) (hw : ∀ d ∈ tables_1, d.before a0 Z = true) (ws : List Jvm.Cond) (a1 : Addr) (G1 : Int32) (h0 : Heap) (n0 : Nat) (Z0 : n0 ≤ h0.size) (q0 : Exa Z h0 a1 "java/lang/String") (q1 : Fld Z h0 a1 "java/lang/String" "coder" "B" (.int (0 : Int32))) (q2 : Old Z n0 h0) (q3 : Sta Z Z.heap "java/lang/String" "COMPACT_STRINGS" "Z" (.int G1)) (hG1 : (¬ G1 = (0 : Int32))) :
    MetFree l own_n5 (head1 (Jvm.Cond.code own_n5 jdk_42_method_152_code 1 (some .byte) :: ws) ({ frames := 0, cells := 0, slots := 0, locals := 0 } : Room)) (fun a U => a = #[(.ref a1)] ∧ Z.Warmed39 U.vm ∧ U.heap = h0) (fun _ _ _ _ _ => True) (fun _ U o U' => ∃ v L, o = .returned v ∧ own_Q8 Z a1 G1 h0 n0 v U'.heap L ∧ FrameEnd U o U' L ({ frames := 0, cells := 0, slots := 0, locals := 0 } : Room).cells ({ frames := 0, cells := 0, slots := 0, locals := 0 } : Room).slots) := by
  refine MetFree.of_bodySF (plainFor_of_name own_pn1) hisR ?_
  intro p e s m args below meth c s₁ Bd hml0 hP hK
  obtain ⟨rfl, hZ, hh⟩ := hP
  have hx := Bd.exec
  have hby := Bd.bytes
  have hml : c.maxLocals = 1 := hml0
  have hown : s.vm.findClass "java/lang/String" = some m.cls := findClass_of_methodNamed Bd.named
  have hnm := (name_of_methodNamed Bd.named Bd.method).1
  have hnl : meth.locks = false := Bd.notSynchronized
  have X0 : Stand p l e ({ frames := 0, cells := 0, slots := 0, locals := 0 } : Room) s m #[(.ref a1)] below meth c s₁ [] 0 0 := Stand.of_body Bd
  have e0 : s₁.heap = h0 := by rw [← hh, Bd.state]; rfl
  have N0 := Fr.nil n0
  show own_Go p.tables e below (own_P below s (own_Q8 Z a1 G1 h0 n0) ({ frames := 0, cells := 0, slots := 0, locals := 0 } : Room).cells ({ frames := 0, cells := 0, slots := 0, locals := 0 } : Room).slots) _
  refine own_st (fun t_ k_ => castTop (own_ef8 m a1) k_) ?_
  show own_at p e below _ s₁ m 0 #[oR a1] []
  obtain ⟨T110, X110, e110, st110⟩ := getS2 X0 hx hZ hown (host := "") (Or.inl (own_w hw 53 rfl)) Via.refl e0 (q3.ext q2.2) (g := (mkF m 0 #[oR a1] [])) rfl (hb hby own_d8_0)
  refine own_st (st110) ?_
  refine own_st (fun t_ k_ => XS.ifNo X110.here hx rfl (hb hby own_d8_3) rfl ((if0 _ _).trans (feq hG1).1) (XS.aloadN X110.here hx rfl (hb hby own_d8_6) rfl rfl k_)) ?_
  show own_at p e below _ T110 m 7 #[oR a1] [(.ref a1)]
  obtain ⟨T111, X111, e111, st111⟩ := getF X110 hx hZ hown (host := "") (Or.inl (own_w hw 54 rfl)) Via.refl e110 q1 (g := (mkF m 7 #[oR a1] [(.ref a1)])) rfl rfl (hb hby own_d8_7)
  refine own_st (st111) ?_
  refine own_st (fun t_ k_ => XS.goto X111.here hx rfl (pc0 := 10) (pc' := 14) rfl (hb hby own_d8_10) (by decide) (by decide) k_) ?_
  show own_at p e below _ T111 m 14 #[oR a1] [(.int (0 : Int32))]
  exact own_ret (w := (.int (0 : Int32))) X111 hx hnl Bd.returns rfl (Or.inl ⟨rfl, by decide, _, rfl⟩) (hb hby own_d8_14) ⟨rfl, N0, e111⟩ (by decide) (by decide)

theorem own_d7_0 : decode jdk_42_method_54_code 0 = .ok (.aload_n 0, 1) := by decide +kernel
theorem own_d7_1 : decode jdk_42_method_54_code 1 = .ok (.getfield 9, 3) := by decide +kernel
theorem own_d7_4 : decode jdk_42_method_54_code 4 = .ok (.arraylength, 1) := by decide +kernel
theorem own_d7_5 : decode jdk_42_method_54_code 5 = .ok (.aload_n 0, 1) := by decide +kernel
theorem own_d7_6 : decode jdk_42_method_54_code 6 = .ok (.invokevirtual 335, 3) := by decide +kernel
theorem own_d7_9 : decode jdk_42_method_54_code 9 = .ok (.ishr, 1) := by decide +kernel
theorem own_d7_10 : decode jdk_42_method_54_code 10 = .ok (.ireturn, 1) := by decide +kernel
theorem own_pd4 : parseMethodDescriptor "()B" = some ⟨[], some .byte⟩ := by decide +kernel
theorem own_ef7 (m : MethodId) (x0 : Addr) : entryFrame m #[(.ref x0)] 1 = mkF m 0 #[.val (.ref x0)] [] := by first | (simp [entryFrame, mkF, argsToLocals, Value.category]; done) | rfl
def own_Q7 (Z : State) (a1 : Addr) (u1 : Addr) (ku : ClassId) (n1 : Nat) (gb : Nat → Int32) (G1 : Int32) (h0 : Heap) (n0 : Nat) (v : Option Value) (h : Heap) (L : List Loc) : Prop := v = some (.int (Int32.ofNat n1)) ∧ Fr n0 L ∧ h = h0
set_option maxRecDepth 65536 in
set_option maxHeartbeats 40000000 in
theorem own_rm7 (l : Launch) (Z : State) (a0 : Array Value) (hw : ∀ d ∈ tables_1, d.before a0 Z = true) (ws : List Jvm.Cond) (a1 : Addr) (u1 : Addr) (ku : ClassId) (n1 : Nat) (gb : Nat → Int32) (G1 : Int32) (h0 : Heap) (n0 : Nat) (Z0 : n0 ≤ h0.size) (q0 : Exa Z h0 a1 "java/lang/String") (q1 : Fld Z h0 a1 "java/lang/String" "value" "[B" (.ref u1)) (q2 : Fld Z h0 a1 "java/lang/String" "coder" "B" (.int (0 : Int32))) (q3 : own_A Z h0 u1 ku .byte n1 (fun i => .int (gb i))) (q4 : Old Z n0 h0) (q5 : Sta Z Z.heap "java/lang/String" "COMPACT_STRINGS" "Z" (.int G1)) (hG1 : (¬ G1 = (0 : Int32))) :
    MetFree l own_n6 (head1 (Jvm.Cond.code own_n6 jdk_42_method_54_code 1 (some .int) :: ws) ({ frames := 1, cells := 0, slots := 0, locals := 13 } : Room)) (fun a U => a = #[(.ref a1)] ∧ Z.Warmed39 U.vm ∧ U.heap = h0) (fun _ _ _ _ _ => True) (fun _ U o U' => ∃ v L, o = .returned v ∧ own_Q7 Z a1 u1 ku n1 gb G1 h0 n0 v U'.heap L ∧ FrameEnd U o U' L ({ frames := 1, cells := 0, slots := 0, locals := 13 } : Room).cells ({ frames := 1, cells := 0, slots := 0, locals := 13 } : Room).slots) := by
  refine MetFree.of_bodySF (plainFor_of_name own_pn1) hisR ?_
  intro p e s m args below meth c s₁ Bd hml0 hP hK
  obtain ⟨rfl, hZ, hh⟩ := hP
  have hx := Bd.exec
  have hby := Bd.bytes
  have hml : c.maxLocals = 1 := hml0
  have hown : s.vm.findClass "java/lang/String" = some m.cls := findClass_of_methodNamed Bd.named
  have hnm := (name_of_methodNamed Bd.named Bd.method).1
  have hnl : meth.locks = false := Bd.notSynchronized
  have X0 : Stand p l e ({ frames := 1, cells := 0, slots := 0, locals := 13 } : Room) s m #[(.ref a1)] below meth c s₁ [] 0 0 := Stand.of_body Bd
  have e0 : s₁.heap = h0 := by rw [← hh, Bd.state]; rfl
  have N0 := Fr.nil n0
  show own_Go p.tables e below (own_P below s (own_Q7 Z a1 u1 ku n1 gb G1 h0 n0) ({ frames := 1, cells := 0, slots := 0, locals := 13 } : Room).cells ({ frames := 1, cells := 0, slots := 0, locals := 13 } : Room).slots) _
  refine own_st (fun t_ k_ => castTop (own_ef7 m a1) k_) ?_
  refine own_st (fun t_ k_ => XS.aloadN X0.here hx rfl (hb hby own_d7_0) rfl rfl k_) ?_
  show own_at p e below _ s₁ m 1 #[oR a1] [(.ref a1)]
  obtain ⟨T112, X112, e112, st112⟩ := getF X0 hx hZ hown (host := "") (Or.inl (own_w hw 47 rfl)) Via.refl e0 q1 (g := (mkF m 1 #[oR a1] [(.ref a1)])) rfl rfl (hb hby own_d7_1)
  refine own_st (st112) ?_
  show own_at p e below _ T112 m 4 #[oR a1] [(.ref u1)]
  refine own_st (own_len X112 hx hZ e112 q3 (g := (mkF m 4 #[oR a1] [(.ref u1)])) rfl rfl (hb hby own_d7_4)) ?_
  refine own_st (fun t_ k_ => XS.aloadN X112.here hx rfl (hb hby own_d7_5) rfl rfl k_) ?_
  show own_at p e below _ T112 m 6 #[oR a1] [(.ref a1), (.int (Int32.ofNat n1))]
  obtain ⟨cq113, kq113, q113a, q113b, q113c⟩ := isOf hZ e112 q0
  obtain ⟨_, _, ⟨T113, L113, k113, n113⟩, -, X113, ⟨Lc113, hQ113, l113, y113, z113⟩, st113⟩ := X112.virtualBack hx (y := own_n5) (z := own_n5) hown (mvT hZ (own_w hw 48 rfl)) (mvT hZ (own_w hw 49 rfl)) (notFace_of_selects (args := #[]) (mvT hZ (own_w hw 51 rfl))) (mvT hZ (own_w hw 51 rfl)) (mvT hZ (own_w hw 50 rfl)) (by decide) (backOf (W := 1) (own_rm8 l Z a0 hw [] a1 G1 h0 n0 (Nat.le_trans Z0 (Keep.refl h0 []).1) q0 q2 q4 q5 hG1) hZ (own_w hw 52 rfl) (own_w hw 20 rfl) (by decide) (by decide)) q113a q113c (g := (mkF m 6 #[oR a1] [(.ref a1), (.int (Int32.ofNat n1))])) rfl (by rw [hml]; rfl) (Steps.refl _) (argsL := []) (rest := [(.int (Int32.ofNat n1))]) (lenOf own_pd4 rfl) rfl (own_hW rfl) (hb hby own_d7_6) (fun _ _ => ⟨rfl, e112, (by decide : 0 + 0 ≤ _), (by decide : 0 + 0 ≤ _)⟩)
  dsimp only [Pt.U, Pt.locs, Pt.cells, Pt.slots] at X113 l113 y113 z113 st113 hQ113
  subst y113 z113
  obtain ⟨rfl, N113q, eq113⟩ := hQ113
  have N113 : Fr n0 L113 := by rw [l113]; exact Fr.app N0 N113q
  refine own_tr st113 ?_
  refine own_st (fun t_ k_ => XS.ishr X113.here hx rfl (hb hby own_d7_9) rfl k_) ?_
  show own_at p e below _ T113 m 10 #[oR a1] [(.int ((Int32.ofNat n1) >>> ((0 : Int32) &&& 31)))]
  rw [show ((Int32.ofNat n1) >>> ((0 : Int32) &&& 31)) = (Int32.ofNat n1) from (own_sh0 _)]
  show own_at p e below _ T113 m 10 #[oR a1] [(.int (Int32.ofNat n1))]
  exact own_ret (w := (.int (Int32.ofNat n1))) X113 hx hnl Bd.returns rfl (Or.inl ⟨rfl, by decide, _, rfl⟩) (hb hby own_d7_10) ⟨rfl, N113, eq113⟩ (by decide) (by decide)

theorem own_d3_0 : decode jdk_68_method_2_code 0 = .ok (.aload_n 0, 1) := by decide +kernel
theorem own_d3_1 : decode jdk_68_method_2_code 1 = .ok (.invokespecial 3, 3) := by decide +kernel
theorem own_d3_4 : decode jdk_68_method_2_code 4 = .ok (.getstatic 18, 3) := by decide +kernel
theorem own_d3_7 : decode jdk_68_method_2_code 7 = .ok (.ifCond .eq 18, 3) := by decide +kernel
theorem own_d3_10 : decode jdk_68_method_2_code 10 = .ok (.aload_n 0, 1) := by decide +kernel
theorem own_d3_11 : decode jdk_68_method_2_code 11 = .ok (.iload_n 1, 1) := by decide +kernel
theorem own_d3_12 : decode jdk_68_method_2_code 12 = .ok (.newarray .byte, 2) := by decide +kernel
theorem own_d3_14 : decode jdk_68_method_2_code 14 = .ok (.putfield 15, 3) := by decide +kernel
theorem own_d3_17 : decode jdk_68_method_2_code 17 = .ok (.aload_n 0, 1) := by decide +kernel
theorem own_d3_18 : decode jdk_68_method_2_code 18 = .ok (.iconst 0, 1) := by decide +kernel
theorem own_d3_19 : decode jdk_68_method_2_code 19 = .ok (.putfield 22, 3) := by decide +kernel
theorem own_d3_22 : decode jdk_68_method_2_code 22 = .ok (.goto 16, 3) := by decide +kernel
theorem own_d3_38 : decode jdk_68_method_2_code 38 = .ok (.return_, 1) := by decide +kernel
theorem own_pn3 : plainName "java/lang/AbstractStringBuilder" = true := by first | (simp [plainName, overriddenIn]; done) | decide +kernel
theorem own_ef3 (m : MethodId) (x0 : Addr) (x1 : Int32) : entryFrame m #[(.ref x0), (.int x1)] 2 = mkF m 0 #[.val (.ref x0), .val (.int x1)] [] := by first | (simp [entryFrame, mkF, argsToLocals, Value.category]; done) | rfl
def own_Q3 (Z : State) (a1 : Addr) (G1 : Int32) (h0 : Heap) (n0 : Nat) (v : Option Value) (h : Heap) (L : List Loc) : Prop := ∃ (t : Addr) (kt : ClassId), v = none ∧ Fr n0 L ∧ Keep h0 h [a1] ∧ h0.size ≤ t ∧ Fld Z h a1 "java/lang/AbstractStringBuilder" "value" "[B" (.ref t) ∧ Fld Z h a1 "java/lang/AbstractStringBuilder" "coder" "B" (.int (0 : Int32)) ∧ Fld Z h a1 "java/lang/AbstractStringBuilder" "count" "I" (.int (0 : Int32)) ∧ own_A Z h t kt .byte 16 (fun i => .int ((fun _ => (0 : Int32)) i))
set_option maxRecDepth 65536 in
set_option maxHeartbeats 40000000 in
theorem own_rm3 (l : Launch) (Z : State) (a0 : Array Value) (hw : ∀ d ∈ tables_1, d.before a0 Z = true) (ws : List Jvm.Cond) (a1 : Addr) (G1 : Int32) (h0 : Heap) (n0 : Nat) (Z0 : n0 ≤ h0.size) (q0 : Exa Z h0 a1 "java/lang/StringBuilder") (q1 : Fld Z h0 a1 "java/lang/AbstractStringBuilder" "value" "[B" .null) (q2 : Fld Z h0 a1 "java/lang/AbstractStringBuilder" "coder" "B" (.int (0 : Int32))) (q3 : Fld Z h0 a1 "java/lang/AbstractStringBuilder" "count" "I" (.int (0 : Int32))) (q4 : n0 ≤ a1) (q5 : Old Z n0 h0) (q6 : Sta Z Z.heap "java/lang/String" "COMPACT_STRINGS" "Z" (.int G1)) (hG1 : (¬ G1 = (0 : Int32))) :
    MetFree l own_n7 (head1 (Jvm.Cond.code own_n7 jdk_68_method_2_code 2 none :: ws) ({ frames := 1, cells := 1, slots := 16, locals := 12 } : Room)) (fun a U => a = #[(.ref a1), (.int (16 : Int32))] ∧ Z.Warmed39 U.vm ∧ U.heap = h0) (fun _ _ _ _ _ => True) (fun _ U o U' => ∃ v L, o = .returned v ∧ own_Q3 Z a1 G1 h0 n0 v U'.heap L ∧ FrameEnd U o U' L ({ frames := 1, cells := 1, slots := 16, locals := 12 } : Room).cells ({ frames := 1, cells := 1, slots := 16, locals := 12 } : Room).slots) := by
  refine MetFree.of_bodySF (plainFor_of_name own_pn3) hisR ?_
  intro p e s m args below meth c s₁ Bd hml0 hP hK
  obtain ⟨rfl, hZ, hh⟩ := hP
  have hx := Bd.exec
  have hby := Bd.bytes
  have hml : c.maxLocals = 2 := hml0
  have hown : s.vm.findClass "java/lang/AbstractStringBuilder" = some m.cls := findClass_of_methodNamed Bd.named
  have hnm := (name_of_methodNamed Bd.named Bd.method).1
  have hnl : meth.locks = false := Bd.notSynchronized
  have X0 : Stand p l e ({ frames := 1, cells := 1, slots := 16, locals := 12 } : Room) s m #[(.ref a1), (.int (16 : Int32))] below meth c s₁ [] 0 0 := Stand.of_body Bd
  have e0 : s₁.heap = h0 := by rw [← hh, Bd.state]; rfl
  have N0 := Fr.nil n0
  show own_Go p.tables e below (own_P below s (own_Q3 Z a1 G1 h0 n0) ({ frames := 1, cells := 1, slots := 16, locals := 12 } : Room).cells ({ frames := 1, cells := 1, slots := 16, locals := 12 } : Room).slots) _
  refine own_st (fun t_ k_ => castTop (own_ef3 m a1 (16 : Int32)) k_) ?_
  refine own_st (fun t_ k_ => XS.aloadN X0.here hx rfl (hb hby own_d3_0) rfl rfl k_) ?_
  show own_at p e below _ s₁ m 1 #[oR a1, oI (16 : Int32)] [(.ref a1)]
  obtain ⟨T114, X114, e114, st114⟩ := initO X0 hx hZ hown (own_w hw 16 rfl) (own_w hw 17 rfl) (own_w hw 18 rfl) e0 (g := (mkF m 1 #[oR a1, oI (16 : Int32)] [(.ref a1)])) rfl (by rw [hml]; rfl) rfl (hb hby own_d3_1) (by decide) (W := 0) (own_hW rfl) (by decide)
  refine own_st (st114) ?_
  show own_at p e below _ T114 m 4 #[oR a1, oI (16 : Int32)] []
  obtain ⟨T115, X115, e115, st115⟩ := getS2 X114 hx hZ hown (host := "") (Or.inl (own_w hw 19 rfl)) Via.refl e114 (q6.ext q5.2) (g := (mkF m 4 #[oR a1, oI (16 : Int32)] [])) rfl (hb hby own_d3_4)
  refine own_st (st115) ?_
  refine own_st (fun t_ k_ => XS.ifNo X115.here hx rfl (hb hby own_d3_7) rfl ((if0 _ _).trans (feq hG1).1) (XS.aloadN X115.here hx rfl (hb hby own_d3_10) rfl rfl (XS.iloadN X115.here hx rfl (hb hby own_d3_11) rfl k_))) ?_
  show own_at p e below _ T115 m 12 #[oR a1, oI (16 : Int32)] [(.int (16 : Int32)), (.ref a1)]
  obtain ⟨T116, h116, k116, X116, e116, E116, A116, st116⟩ := newP X115 hx hZ (own_w hw 21 rfl) e115 (g := (mkF m 12 #[oR a1, oI (16 : Int32)] [(.int (16 : Int32)), (.ref a1)])) rfl (hb hby own_d3_12) rfl (by decide) (cap := 16) (by decide) (by decide) (by decide) (by decide)
  obtain ⟨b116, g116⟩ : ∃ z, z = h0.size := ⟨_, rfl⟩
  rw [← g116] at A116 st116
  have fr116 : h0.size ≤ b116 := Nat.le_trans (Keep.refl h0 [a1]).1 (Nat.le_of_eq g116.symm)
  have ge116 : n0 ≤ b116 := Nat.le_trans Z0 fr116
  have K116 : Keep h0 h116 [a1] := (Keep.refl h0 [a1]).ext E116
  have Ar116 : own_A Z h116 b116 k116 .byte 16 (fun i => .int ((fun _ => (0 : Int32)) i)) := own_A.new A116 rfl (by decide)
  refine own_st (st116) ?_
  show own_at p e below _ T116 m 14 #[oR a1, oI (16 : Int32)] [(.ref b116), (.ref a1)]
  obtain ⟨T117, h117, X117, e117, W117, st117⟩ := putF X116 hx hZ hown (host := "") (Or.inl (own_w hw 22 rfl)) Via.refl e116 (q1.ext E116) (q0.ext E116) (Or.inl (own_w hw 23 rfl)) (own_w hw 5 rfl) (ty := (.array .byte)) (by decide) rfl rfl (g := (mkF m 14 #[oR a1, oI (16 : Int32)] [(.ref b116), (.ref a1)])) rfl rfl (hb hby own_d3_14)
  have Fw117 : Fld Z h117 a1 "java/lang/AbstractStringBuilder" "value" "[B" (.ref b116) := (q1.ext E116).same W117
  have N117 := Fr.snoc X117 N0 q4
  have K117 : Keep h0 h117 [a1] := K116.wr W117 (Or.inl (List.mem_of_getElem? (i := 0) rfl))
  refine own_st (st117) ?_
  refine own_st (fun t_ k_ => XS.aloadN X117.here hx rfl (hb hby own_d3_17) rfl rfl (XS.iconst X117.here hx rfl (hb hby own_d3_18) k_)) ?_
  show own_at p e below _ T117 m 19 #[oR a1, oI (16 : Int32)] [(.int (0 : Int32)), (.ref a1)]
  have f118 : Fld Z h117 a1 "java/lang/AbstractStringBuilder" "coder" "B" (.int (0 : Int32)) := ((q2.ext E116).other W117 (Or.inr (slot_ne (Or.inl (own_w hw 25 rfl)) (Or.inl (own_w hw 23 rfl)) (by decide) (t := .byte) (t' := (.array .byte)) (by decide) (by decide))))
  obtain ⟨T119, h119, X119, e119, W119, st119⟩ := putFN X117 hx hZ hown (own_w hw 24 rfl) Via.refl e117 f118 ((q0.ext E116).wr W117) (Or.inl (own_w hw 25 rfl)) (own_w hw 5 rfl) (ty := .byte) (v' := (.int (0 : Int32))) (by decide) rfl rfl (g := (mkF m 19 #[oR a1, oI (16 : Int32)] [(.int (0 : Int32)), (.ref a1)])) rfl rfl (hb hby own_d3_19)
  have Fw119 : Fld Z h119 a1 "java/lang/AbstractStringBuilder" "coder" "B" (.int (0 : Int32)) := f118.same W119
  have N119 := Fr.snoc X119 N117 q4
  have K119 : Keep h0 h119 [a1] := K117.wr W119 (Or.inl (List.mem_of_getElem? (i := 0) rfl))
  refine own_st (st119) ?_
  refine own_st (fun t_ k_ => XS.goto X119.here hx rfl (pc0 := 22) (pc' := 38) rfl (hb hby own_d3_22) (by decide) (by decide) k_) ?_
  show own_at p e below _ T119 m 38 #[oR a1, oI (16 : Int32)] []
  have f120 : Fld Z h119 a1 "java/lang/AbstractStringBuilder" "value" "[B" (.ref b116) := (Fw117.other W119 (Or.inr (slot_ne (Or.inl (own_w hw 23 rfl)) (Or.inl (own_w hw 25 rfl)) (by decide) (t := (.array .byte)) (t' := .byte) (by decide) (by decide))))
  have f121 : Fld Z h119 a1 "java/lang/AbstractStringBuilder" "count" "I" (.int (0 : Int32)) := (((q3.ext E116).other W117 (Or.inr (slot_ne (Or.inl (own_w hw 56 rfl)) (Or.inl (own_w hw 23 rfl)) (by decide) (t := .int) (t' := (.array .byte)) (by decide) (by decide)))).other W119 (Or.inr (slot_ne (Or.inl (own_w hw 56 rfl)) (Or.inl (own_w hw 25 rfl)) (by decide) (t := .int) (t' := .byte) (by decide) (by decide))))
  have f122 : own_A Z h119 b116 k116 .byte 16 (fun i => .int ((fun _ => (0 : Int32)) i)) := ((Ar116.other W117 (Ne.symm (Nat.ne_of_lt (Nat.lt_of_lt_of_le q0.lt (Nat.le_of_eq g116.symm))))).other W119 (Ne.symm (Nat.ne_of_lt (Nat.lt_of_lt_of_le q0.lt (Nat.le_of_eq g116.symm)))))
  exact own_ret0 X119 hx hnl Bd.returns (hb hby own_d3_38) ⟨b116, k116, rfl, N119, (by rw [e119]; exact K119), fr116, (by rw [e119]; exact f120), (by rw [e119]; exact Fw119), (by rw [e119]; exact f121), (by rw [e119]; exact f122)⟩ (by decide) (by decide)

theorem own_d2_0 : decode jdk_67_method_1_code 0 = .ok (.aload_n 0, 1) := by decide +kernel
theorem own_d2_1 : decode jdk_67_method_1_code 1 = .ok (.bipush 16, 2) := by decide +kernel
theorem own_d2_3 : decode jdk_67_method_1_code 3 = .ok (.invokespecial 1, 3) := by decide +kernel
theorem own_d2_6 : decode jdk_67_method_1_code 6 = .ok (.return_, 1) := by decide +kernel
theorem own_pn4 : plainName "java/lang/StringBuilder" = true := by first | (simp [plainName, overriddenIn]; done) | decide +kernel
theorem own_pd5 : parseMethodDescriptor "(I)V" = some ⟨[.int], none⟩ := by decide +kernel
theorem own_ef2 (m : MethodId) (x0 : Addr) : entryFrame m #[(.ref x0)] 1 = mkF m 0 #[.val (.ref x0)] [] := by first | (simp [entryFrame, mkF, argsToLocals, Value.category]; done) | rfl
def own_Q2 (Z : State) (a1 : Addr) (G1 : Int32) (h0 : Heap) (n0 : Nat) (v : Option Value) (h : Heap) (L : List Loc) : Prop := ∃ (t : Addr) (kt : ClassId), v = none ∧ Fr n0 L ∧ Keep h0 h [a1] ∧ h0.size ≤ t ∧ Fld Z h a1 "java/lang/AbstractStringBuilder" "value" "[B" (.ref t) ∧ Fld Z h a1 "java/lang/AbstractStringBuilder" "coder" "B" (.int (0 : Int32)) ∧ Fld Z h a1 "java/lang/AbstractStringBuilder" "count" "I" (.int (0 : Int32)) ∧ own_A Z h t kt .byte 16 (fun i => .int ((fun _ => (0 : Int32)) i))
set_option maxRecDepth 65536 in
set_option maxHeartbeats 40000000 in
theorem own_rm2 (l : Launch) (Z : State) (a0 : Array Value) (hw : ∀ d ∈ tables_1, d.before a0 Z = true) (ws : List Jvm.Cond) (a1 : Addr) (G1 : Int32) (h0 : Heap) (n0 : Nat) (Z0 : n0 ≤ h0.size) (q0 : Exa Z h0 a1 "java/lang/StringBuilder") (q1 : Fld Z h0 a1 "java/lang/AbstractStringBuilder" "value" "[B" .null) (q2 : Fld Z h0 a1 "java/lang/AbstractStringBuilder" "coder" "B" (.int (0 : Int32))) (q3 : Fld Z h0 a1 "java/lang/AbstractStringBuilder" "count" "I" (.int (0 : Int32))) (q4 : n0 ≤ a1) (q5 : Old Z n0 h0) (q6 : Sta Z Z.heap "java/lang/String" "COMPACT_STRINGS" "Z" (.int G1)) (hG1 : (¬ G1 = (0 : Int32))) :
    MetFree l own_n8 (head1 (Jvm.Cond.code own_n8 jdk_67_method_1_code 1 none :: ws) ({ frames := 2, cells := 1, slots := 16, locals := 25 } : Room)) (fun a U => a = #[(.ref a1)] ∧ Z.Warmed39 U.vm ∧ U.heap = h0) (fun _ _ _ _ _ => True) (fun _ U o U' => ∃ v L, o = .returned v ∧ own_Q2 Z a1 G1 h0 n0 v U'.heap L ∧ FrameEnd U o U' L ({ frames := 2, cells := 1, slots := 16, locals := 25 } : Room).cells ({ frames := 2, cells := 1, slots := 16, locals := 25 } : Room).slots) := by
  refine MetFree.of_bodySF (plainFor_of_name own_pn4) hisR ?_
  intro p e s m args below meth c s₁ Bd hml0 hP hK
  obtain ⟨rfl, hZ, hh⟩ := hP
  have hx := Bd.exec
  have hby := Bd.bytes
  have hml : c.maxLocals = 1 := hml0
  have hown : s.vm.findClass "java/lang/StringBuilder" = some m.cls := findClass_of_methodNamed Bd.named
  have hnm := (name_of_methodNamed Bd.named Bd.method).1
  have hnl : meth.locks = false := Bd.notSynchronized
  have X0 : Stand p l e ({ frames := 2, cells := 1, slots := 16, locals := 25 } : Room) s m #[(.ref a1)] below meth c s₁ [] 0 0 := Stand.of_body Bd
  have e0 : s₁.heap = h0 := by rw [← hh, Bd.state]; rfl
  have N0 := Fr.nil n0
  show own_Go p.tables e below (own_P below s (own_Q2 Z a1 G1 h0 n0) ({ frames := 2, cells := 1, slots := 16, locals := 25 } : Room).cells ({ frames := 2, cells := 1, slots := 16, locals := 25 } : Room).slots) _
  refine own_st (fun t_ k_ => castTop (own_ef2 m a1) k_) ?_
  refine own_st (fun t_ k_ => XS.aloadN X0.here hx rfl (hb hby own_d2_0) rfl rfl (XS.bipush X0.here hx rfl (hb hby own_d2_1) k_)) ?_
  show own_at p e below _ s₁ m 3 #[oR a1] [(.int (16 : Int32)), (.ref a1)]
  obtain ⟨_, _, ⟨T123, L123, k123, n123⟩, -, X123, ⟨Lc123, hQ123, l123, y123, z123⟩, st123⟩ := X0.specialBack hx (y := own_n7) rfl hown (mvT hZ (own_w hw 10 rfl)) (mvT hZ (own_w hw 11 rfl)) (mvT hZ (own_w hw 15 rfl)) (by decide) (backOf (W := 0) (own_rm3 l Z a0 hw [] a1 G1 h0 n0 (Nat.le_trans Z0 (Keep.refl h0 [a1]).1) q0 q1 q2 q3 q4 q5 q6 hG1) hZ (own_w hw 15 rfl) (own_w hw 14 rfl) (by decide) (by decide)) (g := (mkF m 3 #[oR a1] [(.int (16 : Int32)), (.ref a1)])) rfl (by rw [hml]; rfl) (Steps.refl _) (a := a1) (argsL := [(.int (16 : Int32))]) (rest := []) (lenOf own_pd5 rfl) rfl (own_hW rfl) (hb hby own_d2_3) (fun _ _ => ⟨rfl, e0, (by decide : 0 + 1 ≤ _), (by decide : 0 + 16 ≤ _)⟩)
  dsimp only [Pt.U, Pt.locs, Pt.cells, Pt.slots] at X123 l123 y123 z123 st123 hQ123
  subst y123 z123
  obtain ⟨t_123, kt_123, rfl, N123q, Kq123, P123_0, P123_1, P123_2, P123_3, P123_4⟩ := hQ123
  have N123 : Fr n0 L123 := by rw [l123]; exact Fr.app N0 N123q
  have K123 : Keep h0 T123.heap [a1] := (Keep.refl h0 [a1]).trans Kq123 (allS (P := fun x => x ∈ [a1] ∨ h0.size ≤ x) (Or.inl (List.mem_of_getElem? (i := 0) rfl)) all0)
  have fr123_0 : h0.size ≤ t_123 := Nat.le_trans (Keep.refl h0 [a1]).1 P123_0
  have ge123_0 : n0 ≤ t_123 := Nat.le_trans Z0 fr123_0
  refine own_tr st123 ?_
  show own_at p e below _ T123 m 6 #[oR a1] []
  exact own_ret0 X123 hx hnl Bd.returns (hb hby own_d2_6) ⟨t_123, kt_123, rfl, N123, (K123), fr123_0, (P123_1), (P123_2), (P123_3), (P123_4)⟩ (by decide) (by decide)

theorem own_d9_0 : decode jdk_68_method_9_code 0 = .ok (.aload_n 0, 1) := by decide +kernel
theorem own_d9_1 : decode jdk_68_method_9_code 1 = .ok (.getfield 15, 3) := by decide +kernel
theorem own_d9_4 : decode jdk_68_method_9_code 4 = .ok (.arraylength, 1) := by decide +kernel
theorem own_d9_5 : decode jdk_68_method_9_code 5 = .ok (.aload_n 0, 1) := by decide +kernel
theorem own_d9_6 : decode jdk_68_method_9_code 6 = .ok (.getfield 22, 3) := by decide +kernel
theorem own_d9_9 : decode jdk_68_method_9_code 9 = .ok (.ishr, 1) := by decide +kernel
theorem own_d9_10 : decode jdk_68_method_9_code 10 = .ok (.istore_n 2, 1) := by decide +kernel
theorem own_d9_11 : decode jdk_68_method_9_code 11 = .ok (.iload_n 1, 1) := by decide +kernel
theorem own_d9_12 : decode jdk_68_method_9_code 12 = .ok (.iload_n 2, 1) := by decide +kernel
theorem own_d9_13 : decode jdk_68_method_9_code 13 = .ok (.isub, 1) := by decide +kernel
theorem own_d9_14 : decode jdk_68_method_9_code 14 = .ok (.ifCond .le 24, 3) := by decide +kernel
theorem own_d9_38 : decode jdk_68_method_9_code 38 = .ok (.return_, 1) := by decide +kernel
theorem own_ef9 (m : MethodId) (x0 : Addr) (x1 : Int32) : entryFrame m #[(.ref x0), (.int x1)] 3 = mkF m 0 #[.val (.ref x0), .val (.int x1), .unset] [] := by first | (simp [entryFrame, mkF, argsToLocals, Value.category]; done) | rfl
def own_Q9 (Z : State) (a1 : Addr) (q_ : Int32) (t : Addr) (kt : ClassId) (gt : Nat → Int32) (cn_ : Int32) (qn : Nat) (h0 : Heap) (n0 : Nat) (v : Option Value) (h : Heap) (L : List Loc) : Prop := v = none ∧ Fr n0 L ∧ h = h0
set_option maxRecDepth 65536 in
set_option maxHeartbeats 40000000 in
theorem own_rm9 (l : Launch) (Z : State) (a0 : Array Value) (hw : ∀ d ∈ tables_1, d.before a0 Z = true) (ws : List Jvm.Cond) (a1 : Addr) (q_ : Int32) (t : Addr) (kt : ClassId) (gt : Nat → Int32) (cn_ : Int32) (qn : Nat) (h0 : Heap) (n0 : Nat) (Z0 : n0 ≤ h0.size) (q0 : Exa Z h0 a1 "java/lang/StringBuilder") (q1 : Fld Z h0 a1 "java/lang/AbstractStringBuilder" "value" "[B" (.ref t)) (q2 : Fld Z h0 a1 "java/lang/AbstractStringBuilder" "coder" "B" (.int (0 : Int32))) (q3 : Fld Z h0 a1 "java/lang/AbstractStringBuilder" "count" "I" (.int cn_)) (q4 : own_A Z h0 t kt .byte 16 (fun i => .int (gt i))) (hq : (q_.toInt = (qn : Int) ∧ qn ≤ 16)) :
    MetFree l own_n9 (head1 (Jvm.Cond.code own_n9 jdk_68_method_9_code 3 none :: ws) ({ frames := 0, cells := 0, slots := 0, locals := 0 } : Room)) (fun a U => a = #[(.ref a1), (.int q_)] ∧ Z.Warmed39 U.vm ∧ U.heap = h0) (fun _ _ _ _ _ => True) (fun _ U o U' => ∃ v L, o = .returned v ∧ own_Q9 Z a1 q_ t kt gt cn_ qn h0 n0 v U'.heap L ∧ FrameEnd U o U' L ({ frames := 0, cells := 0, slots := 0, locals := 0 } : Room).cells ({ frames := 0, cells := 0, slots := 0, locals := 0 } : Room).slots) := by
  refine MetFree.of_bodySF (plainFor_of_name own_pn3) hisR ?_
  intro p e s m args below meth c s₁ Bd hml0 hP hK
  obtain ⟨rfl, hZ, hh⟩ := hP
  have hx := Bd.exec
  have hby := Bd.bytes
  have hml : c.maxLocals = 3 := hml0
  have hown : s.vm.findClass "java/lang/AbstractStringBuilder" = some m.cls := findClass_of_methodNamed Bd.named
  have hnm := (name_of_methodNamed Bd.named Bd.method).1
  have hnl : meth.locks = false := Bd.notSynchronized
  have X0 : Stand p l e ({ frames := 0, cells := 0, slots := 0, locals := 0 } : Room) s m #[(.ref a1), (.int q_)] below meth c s₁ [] 0 0 := Stand.of_body Bd
  have e0 : s₁.heap = h0 := by rw [← hh, Bd.state]; rfl
  have N0 := Fr.nil n0
  show own_Go p.tables e below (own_P below s (own_Q9 Z a1 q_ t kt gt cn_ qn h0 n0) ({ frames := 0, cells := 0, slots := 0, locals := 0 } : Room).cells ({ frames := 0, cells := 0, slots := 0, locals := 0 } : Room).slots) _
  refine own_st (fun t_ k_ => castTop (own_ef9 m a1 q_) k_) ?_
  refine own_st (fun t_ k_ => XS.aloadN X0.here hx rfl (hb hby own_d9_0) rfl rfl k_) ?_
  show own_at p e below _ s₁ m 1 #[oR a1, oI q_, oU] [(.ref a1)]
  obtain ⟨T124, X124, e124, st124⟩ := getF X0 hx hZ hown (host := "") (Or.inl (own_w hw 22 rfl)) Via.refl e0 q1 (g := (mkF m 1 #[oR a1, oI q_, oU] [(.ref a1)])) rfl rfl (hb hby own_d9_1)
  refine own_st (st124) ?_
  show own_at p e below _ T124 m 4 #[oR a1, oI q_, oU] [(.ref t)]
  refine own_st (own_len X124 hx hZ e124 q4 (g := (mkF m 4 #[oR a1, oI q_, oU] [(.ref t)])) rfl rfl (hb hby own_d9_4)) ?_
  refine own_st (fun t_ k_ => XS.aloadN X124.here hx rfl (hb hby own_d9_5) rfl rfl k_) ?_
  show own_at p e below _ T124 m 6 #[oR a1, oI q_, oU] [(.ref a1), (.int (16 : Int32))]
  obtain ⟨T125, X125, e125, st125⟩ := getF X124 hx hZ hown (host := "") (Or.inl (own_w hw 24 rfl)) Via.refl e124 q2 (g := (mkF m 6 #[oR a1, oI q_, oU] [(.ref a1), (.int (16 : Int32))])) rfl rfl (hb hby own_d9_6)
  refine own_st (st125) ?_
  refine own_st (fun t_ k_ => XS.ishr X125.here hx rfl (hb hby own_d9_9) rfl (XS.istoreN X125.here hx rfl (hb hby own_d9_10) rfl (l' := #[oR a1, oI q_, oI ((16 : Int32) >>> ((0 : Int32) &&& 31))]) rfl (XS.iloadN X125.here hx rfl (hb hby own_d9_11) rfl (XS.iloadN X125.here hx rfl (hb hby own_d9_12) rfl (XS.isub X125.here hx rfl (hb hby own_d9_13) rfl (XS.ifYes X125.here hx rfl (pc0 := 14) (pc' := 38) rfl (hb hby own_d9_14) rfl ((if0 _ _).trans (flt (own_ecap hq.1 hq.2)).2.2.2) (by decide) (by decide) k_)))))) ?_
  show own_at p e below _ T125 m 38 #[oR a1, oI q_, oI ((16 : Int32) >>> ((0 : Int32) &&& 31))] []
  exact own_ret0 X125 hx hnl Bd.returns (hb hby own_d9_38) ⟨rfl, N0, e125⟩ (by decide) (by decide)

theorem own_d11_0 : decode jdk_68_method_71_code 0 = .ok (.getstatic 18, 3) := by decide +kernel
theorem own_d11_3 : decode jdk_68_method_71_code 3 = .ok (.ifCond .eq 18, 3) := by decide +kernel
theorem own_d11_6 : decode jdk_68_method_71_code 6 = .ok (.aload_n 0, 1) := by decide +kernel
theorem own_d11_7 : decode jdk_68_method_71_code 7 = .ok (.getfield 22, 3) := by decide +kernel
theorem own_d11_10 : decode jdk_68_method_71_code 10 = .ok (.aload_n 1, 1) := by decide +kernel
theorem own_d11_11 : decode jdk_68_method_71_code 11 = .ok (.invokevirtual 40, 3) := by decide +kernel
theorem own_d11_14 : decode jdk_68_method_71_code 14 = .ok (.if_icmp .eq 7, 3) := by decide +kernel
theorem own_d11_21 : decode jdk_68_method_71_code 21 = .ok (.return_, 1) := by decide +kernel
theorem own_ef11 (m : MethodId) (x0 : Addr) (x1 : Addr) : entryFrame m #[(.ref x0), (.ref x1)] 2 = mkF m 0 #[.val (.ref x0), .val (.ref x1)] [] := by first | (simp [entryFrame, mkF, argsToLocals, Value.category]; done) | rfl
def own_Q11 (Z : State) (a1 : Addr) (a2 : Addr) (G1 : Int32) (h0 : Heap) (n0 : Nat) (v : Option Value) (h : Heap) (L : List Loc) : Prop := v = none ∧ Fr n0 L ∧ h = h0
set_option maxRecDepth 65536 in
set_option maxHeartbeats 40000000 in
theorem own_rm11 (l : Launch) (Z : State) (a0 : Array Value) (hw : ∀ d ∈ tables_1, d.before a0 Z = true) (ws : List Jvm.Cond) (a1 : Addr) (a2 : Addr) (G1 : Int32) (h0 : Heap) (n0 : Nat) (Z0 : n0 ≤ h0.size) (q0 : Exa Z h0 a1 "java/lang/StringBuilder") (q1 : Fld Z h0 a1 "java/lang/AbstractStringBuilder" "coder" "B" (.int (0 : Int32))) (q2 : Exa Z h0 a2 "java/lang/String") (q3 : Fld Z h0 a2 "java/lang/String" "coder" "B" (.int (0 : Int32))) (q4 : Old Z n0 h0) (q5 : Sta Z Z.heap "java/lang/String" "COMPACT_STRINGS" "Z" (.int G1)) (hG1 : (¬ G1 = (0 : Int32))) :
    MetFree l own_n10 (head1 (Jvm.Cond.code own_n10 jdk_68_method_71_code 2 none :: ws) ({ frames := 1, cells := 0, slots := 0, locals := 13 } : Room)) (fun a U => a = #[(.ref a1), (.ref a2)] ∧ Z.Warmed39 U.vm ∧ U.heap = h0) (fun _ _ _ _ _ => True) (fun _ U o U' => ∃ v L, o = .returned v ∧ own_Q11 Z a1 a2 G1 h0 n0 v U'.heap L ∧ FrameEnd U o U' L ({ frames := 1, cells := 0, slots := 0, locals := 13 } : Room).cells ({ frames := 1, cells := 0, slots := 0, locals := 13 } : Room).slots) := by
  refine MetFree.of_bodySF (plainFor_of_name own_pn3) hisR ?_
  intro p e s m args below meth c s₁ Bd hml0 hP hK
  obtain ⟨rfl, hZ, hh⟩ := hP
  have hx := Bd.exec
  have hby := Bd.bytes
  have hml : c.maxLocals = 2 := hml0
  have hown : s.vm.findClass "java/lang/AbstractStringBuilder" = some m.cls := findClass_of_methodNamed Bd.named
  have hnm := (name_of_methodNamed Bd.named Bd.method).1
  have hnl : meth.locks = false := Bd.notSynchronized
  have X0 : Stand p l e ({ frames := 1, cells := 0, slots := 0, locals := 13 } : Room) s m #[(.ref a1), (.ref a2)] below meth c s₁ [] 0 0 := Stand.of_body Bd
  have e0 : s₁.heap = h0 := by rw [← hh, Bd.state]; rfl
  have N0 := Fr.nil n0
  show own_Go p.tables e below (own_P below s (own_Q11 Z a1 a2 G1 h0 n0) ({ frames := 1, cells := 0, slots := 0, locals := 13 } : Room).cells ({ frames := 1, cells := 0, slots := 0, locals := 13 } : Room).slots) _
  refine own_st (fun t_ k_ => castTop (own_ef11 m a1 a2) k_) ?_
  show own_at p e below _ s₁ m 0 #[oR a1, oR a2] []
  obtain ⟨T126, X126, e126, st126⟩ := getS2 X0 hx hZ hown (host := "") (Or.inl (own_w hw 19 rfl)) Via.refl e0 (q5.ext q4.2) (g := (mkF m 0 #[oR a1, oR a2] [])) rfl (hb hby own_d11_0)
  refine own_st (st126) ?_
  refine own_st (fun t_ k_ => XS.ifNo X126.here hx rfl (hb hby own_d11_3) rfl ((if0 _ _).trans (feq hG1).1) (XS.aloadN X126.here hx rfl (hb hby own_d11_6) rfl rfl k_)) ?_
  show own_at p e below _ T126 m 7 #[oR a1, oR a2] [(.ref a1)]
  obtain ⟨T127, X127, e127, st127⟩ := getF X126 hx hZ hown (host := "") (Or.inl (own_w hw 24 rfl)) Via.refl e126 q1 (g := (mkF m 7 #[oR a1, oR a2] [(.ref a1)])) rfl rfl (hb hby own_d11_7)
  refine own_st (st127) ?_
  refine own_st (fun t_ k_ => XS.aloadN X127.here hx rfl (hb hby own_d11_10) rfl rfl k_) ?_
  show own_at p e below _ T127 m 11 #[oR a1, oR a2] [(.ref a2), (.int (0 : Int32))]
  obtain ⟨cq128, kq128, q128a, q128b, q128c⟩ := isOf hZ e127 q2
  obtain ⟨_, _, ⟨T128, L128, k128, n128⟩, -, X128, ⟨Lc128, hQ128, l128, y128, z128⟩, st128⟩ := X127.virtualBack hx (y := own_n5) (z := own_n5) hown (mvT hZ (own_w hw 72 rfl)) (mvT hZ (own_w hw 49 rfl)) (notFace_of_selects (args := #[]) (mvT hZ (own_w hw 51 rfl))) (mvT hZ (own_w hw 51 rfl)) (mvT hZ (own_w hw 50 rfl)) (by decide) (backOf (W := 1) (own_rm8 l Z a0 hw [] a2 G1 h0 n0 (Nat.le_trans Z0 (Keep.refl h0 []).1) q2 q3 q4 q5 hG1) hZ (own_w hw 52 rfl) (own_w hw 20 rfl) (by decide) (by decide)) q128a q128c (g := (mkF m 11 #[oR a1, oR a2] [(.ref a2), (.int (0 : Int32))])) rfl (by rw [hml]; rfl) (Steps.refl _) (argsL := []) (rest := [(.int (0 : Int32))]) (lenOf own_pd4 rfl) rfl (own_hW rfl) (hb hby own_d11_11) (fun _ _ => ⟨rfl, e127, (by decide : 0 + 0 ≤ _), (by decide : 0 + 0 ≤ _)⟩)
  dsimp only [Pt.U, Pt.locs, Pt.cells, Pt.slots] at X128 l128 y128 z128 st128 hQ128
  subst y128 z128
  obtain ⟨rfl, N128q, eq128⟩ := hQ128
  have N128 : Fr n0 L128 := by rw [l128]; exact Fr.app N0 N128q
  refine own_tr st128 ?_
  refine own_st (fun t_ k_ => XS.icmpYes X128.here hx rfl (pc0 := 14) (pc' := 21) rfl (hb hby own_d11_14) rfl (teq (by decide : (0 : Int32) = (0 : Int32))).1 (by decide) (by decide) k_) ?_
  show own_at p e below _ T128 m 21 #[oR a1, oR a2] []
  exact own_ret0 X128 hx hnl Bd.returns (hb hby own_d11_21) ⟨rfl, N128, eq128⟩ (by decide) (by decide)

theorem own_d12_0 : decode jdk_42_method_147_code 0 = .ok (.aload_n 0, 1) := by decide +kernel
theorem own_d12_1 : decode jdk_42_method_147_code 1 = .ok (.invokevirtual 335, 3) := by decide +kernel
theorem own_d12_4 : decode jdk_42_method_147_code 4 = .ok (.iload_n 3, 1) := by decide +kernel
theorem own_d12_5 : decode jdk_42_method_147_code 5 = .ok (.if_icmp .ne 23, 3) := by decide +kernel
theorem own_d12_8 : decode jdk_42_method_147_code 8 = .ok (.aload_n 0, 1) := by decide +kernel
theorem own_d12_9 : decode jdk_42_method_147_code 9 = .ok (.getfield 9, 3) := by decide +kernel
theorem own_d12_12 : decode jdk_42_method_147_code 12 = .ok (.iconst 0, 1) := by decide +kernel
theorem own_d12_13 : decode jdk_42_method_147_code 13 = .ok (.aload_n 1, 1) := by decide +kernel
theorem own_d12_14 : decode jdk_42_method_147_code 14 = .ok (.iload_n 2, 1) := by decide +kernel
theorem own_d12_15 : decode jdk_42_method_147_code 15 = .ok (.iload_n 3, 1) := by decide +kernel
theorem own_d12_16 : decode jdk_42_method_147_code 16 = .ok (.ishl, 1) := by decide +kernel
theorem own_d12_17 : decode jdk_42_method_147_code 17 = .ok (.aload_n 0, 1) := by decide +kernel
theorem own_d12_18 : decode jdk_42_method_147_code 18 = .ok (.getfield 9, 3) := by decide +kernel
theorem own_d12_21 : decode jdk_42_method_147_code 21 = .ok (.arraylength, 1) := by decide +kernel
theorem own_d12_22 : decode jdk_42_method_147_code 22 = .ok (.invokestatic 212, 3) := by decide +kernel
theorem own_d12_25 : decode jdk_42_method_147_code 25 = .ok (.goto 18, 3) := by decide +kernel
theorem own_d12_43 : decode jdk_42_method_147_code 43 = .ok (.return_, 1) := by decide +kernel
theorem own_ef12 (m : MethodId) (x0 : Addr) (x1 : Addr) (x2 : Int32) (x3 : Int32) : entryFrame m #[(.ref x0), (.ref x1), (.int x2), (.int x3)] 4 = mkF m 0 #[.val (.ref x0), .val (.ref x1), .val (.int x2), .val (.int x3)] [] := by first | (simp [entryFrame, mkF, argsToLocals, Value.category]; done) | rfl
def own_Q12 (Z : State) (a1 : Addr) (j_ : Int32) (jn : Nat) (t : Addr) (kt : ClassId) (gt : Nat → Int32) (u1 : Addr) (ku : ClassId) (n1 : Nat) (gb : Nat → Int32) (G1 : Int32) (h0 : Heap) (n0 : Nat) (v : Option Value) (h : Heap) (L : List Loc) : Prop := v = none ∧ Fr n0 L ∧ Keep h0 h [t] ∧ own_A Z h t kt .byte 16 (fun i => .int ((own_cp gb gt 0 jn n1) i))
set_option maxRecDepth 65536 in
set_option maxHeartbeats 40000000 in
theorem own_rm12 (l : Launch) (Z : State) (a0 : Array Value) (hw : ∀ d ∈ tables_1, d.before a0 Z = true) (ws : List Jvm.Cond) (a1 : Addr) (j_ : Int32) (jn : Nat) (t : Addr) (kt : ClassId) (gt : Nat → Int32) (u1 : Addr) (ku : ClassId) (n1 : Nat) (gb : Nat → Int32) (G1 : Int32) (h0 : Heap) (n0 : Nat) (Z0 : n0 ≤ h0.size) (q0 : Exa Z h0 a1 "java/lang/String") (q1 : Fld Z h0 a1 "java/lang/String" "value" "[B" (.ref u1)) (q2 : Fld Z h0 a1 "java/lang/String" "coder" "B" (.int (0 : Int32))) (q3 : own_A Z h0 u1 ku .byte n1 (fun i => .int (gb i))) (q4 : Old Z n0 h0) (q5 : Sta Z Z.heap "java/lang/String" "COMPACT_STRINGS" "Z" (.int G1)) (hG1 : (¬ G1 = (0 : Int32))) (q7 : own_A Z h0 t kt .byte 16 (fun i => .int (gt i))) (q8 : n0 ≤ t) (hj : (j_.toInt = (jn : Int) ∧ jn + n1 ≤ 16)) :
    MetFree l own_n11 (head1 (Jvm.Cond.code own_n11 jdk_42_method_147_code 4 none :: ws) ({ frames := 1, cells := 0, slots := 0, locals := 40 } : Room)) (fun a U => a = #[(.ref a1), (.ref t), (.int j_), (.int (0 : Int32))] ∧ Z.Warmed39 U.vm ∧ U.heap = h0) (fun _ _ _ _ _ => True) (fun _ U o U' => ∃ v L, o = .returned v ∧ own_Q12 Z a1 j_ jn t kt gt u1 ku n1 gb G1 h0 n0 v U'.heap L ∧ FrameEnd U o U' L ({ frames := 1, cells := 0, slots := 0, locals := 40 } : Room).cells ({ frames := 1, cells := 0, slots := 0, locals := 40 } : Room).slots) := by
  refine MetFree.of_bodySF (plainFor_of_name own_pn1) hisR ?_
  intro p e s m args below meth c s₁ Bd hml0 hP hK
  obtain ⟨rfl, hZ, hh⟩ := hP
  have hx := Bd.exec
  have hby := Bd.bytes
  have hml : c.maxLocals = 4 := hml0
  have hown : s.vm.findClass "java/lang/String" = some m.cls := findClass_of_methodNamed Bd.named
  have hnm := (name_of_methodNamed Bd.named Bd.method).1
  have hnl : meth.locks = false := Bd.notSynchronized
  have X0 : Stand p l e ({ frames := 1, cells := 0, slots := 0, locals := 40 } : Room) s m #[(.ref a1), (.ref t), (.int j_), (.int (0 : Int32))] below meth c s₁ [] 0 0 := Stand.of_body Bd
  have e0 : s₁.heap = h0 := by rw [← hh, Bd.state]; rfl
  have N0 := Fr.nil n0
  show own_Go p.tables e below (own_P below s (own_Q12 Z a1 j_ jn t kt gt u1 ku n1 gb G1 h0 n0) ({ frames := 1, cells := 0, slots := 0, locals := 40 } : Room).cells ({ frames := 1, cells := 0, slots := 0, locals := 40 } : Room).slots) _
  refine own_st (fun t_ k_ => castTop (own_ef12 m a1 t j_ (0 : Int32)) k_) ?_
  refine own_st (fun t_ k_ => XS.aloadN X0.here hx rfl (hb hby own_d12_0) rfl rfl k_) ?_
  show own_at p e below _ s₁ m 1 #[oR a1, oR t, oI j_, oI (0 : Int32)] [(.ref a1)]
  obtain ⟨cq129, kq129, q129a, q129b, q129c⟩ := isOf hZ e0 q0
  obtain ⟨_, _, ⟨T129, L129, k129, n129⟩, -, X129, ⟨Lc129, hQ129, l129, y129, z129⟩, st129⟩ := X0.virtualBack hx (y := own_n5) (z := own_n5) hown (mvT hZ (own_w hw 48 rfl)) (mvT hZ (own_w hw 49 rfl)) (notFace_of_selects (args := #[]) (mvT hZ (own_w hw 51 rfl))) (mvT hZ (own_w hw 51 rfl)) (mvT hZ (own_w hw 50 rfl)) (by decide) (backOf (W := 0) (own_rm8 l Z a0 hw [] a1 G1 h0 n0 (Nat.le_trans Z0 (Keep.refl h0 [t]).1) q0 q2 q4 q5 hG1) hZ (own_w hw 52 rfl) (own_w hw 20 rfl) (by decide) (by decide)) q129a q129c (g := (mkF m 1 #[oR a1, oR t, oI j_, oI (0 : Int32)] [(.ref a1)])) rfl (by rw [hml]; rfl) (Steps.refl _) (argsL := []) (rest := []) (lenOf own_pd4 rfl) rfl (own_hW rfl) (hb hby own_d12_1) (fun _ _ => ⟨rfl, e0, (by decide : 0 + 0 ≤ _), (by decide : 0 + 0 ≤ _)⟩)
  dsimp only [Pt.U, Pt.locs, Pt.cells, Pt.slots] at X129 l129 y129 z129 st129 hQ129
  subst y129 z129
  obtain ⟨rfl, N129q, eq129⟩ := hQ129
  have N129 : Fr n0 L129 := by rw [l129]; exact Fr.app N0 N129q
  refine own_tr st129 ?_
  refine own_st (fun t_ k_ => XS.iloadN X129.here hx rfl (hb hby own_d12_4) rfl (XS.icmpNo X129.here hx rfl (hb hby own_d12_5) rfl (teq (by decide : (0 : Int32) = (0 : Int32))).2 (XS.aloadN X129.here hx rfl (hb hby own_d12_8) rfl rfl k_))) ?_
  show own_at p e below _ T129 m 9 #[oR a1, oR t, oI j_, oI (0 : Int32)] [(.ref a1)]
  obtain ⟨T130, X130, e130, st130⟩ := getF X129 hx hZ hown (host := "") (Or.inl (own_w hw 47 rfl)) Via.refl eq129 q1 (g := (mkF m 9 #[oR a1, oR t, oI j_, oI (0 : Int32)] [(.ref a1)])) rfl rfl (hb hby own_d12_9)
  refine own_st (st130) ?_
  refine own_st (fun t_ k_ => XS.iconst X130.here hx rfl (hb hby own_d12_12) (XS.aloadN X130.here hx rfl (hb hby own_d12_13) rfl rfl (XS.iloadN X130.here hx rfl (hb hby own_d12_14) rfl (XS.iloadN X130.here hx rfl (hb hby own_d12_15) rfl (XS.ishl X130.here hx rfl (hb hby own_d12_16) rfl k_))))) ?_
  show own_at p e below _ T130 m 17 #[oR a1, oR t, oI j_, oI (0 : Int32)] [(.int (j_ <<< ((0 : Int32) &&& 31))), (.ref t), (.int (0 : Int32)), (.ref u1)]
  rw [show (j_ <<< ((0 : Int32) &&& 31)) = j_ from (own_shl0 _)]
  refine own_st (fun t_ k_ => XS.aloadN X130.here hx rfl (hb hby own_d12_17) rfl rfl k_) ?_
  show own_at p e below _ T130 m 18 #[oR a1, oR t, oI j_, oI (0 : Int32)] [(.ref a1), (.int j_), (.ref t), (.int (0 : Int32)), (.ref u1)]
  obtain ⟨T131, X131, e131, st131⟩ := getF X130 hx hZ hown (host := "") (Or.inl (own_w hw 47 rfl)) Via.refl e130 q1 (g := (mkF m 18 #[oR a1, oR t, oI j_, oI (0 : Int32)] [(.ref a1), (.int j_), (.ref t), (.int (0 : Int32)), (.ref u1)])) rfl rfl (hb hby own_d12_18)
  refine own_st (st131) ?_
  show own_at p e below _ T131 m 21 #[oR a1, oR t, oI j_, oI (0 : Int32)] [(.ref u1), (.int j_), (.ref t), (.int (0 : Int32)), (.ref u1)]
  refine own_st (own_len X131 hx hZ e131 q3 (g := (mkF m 21 #[oR a1, oR t, oI j_, oI (0 : Int32)] [(.ref u1), (.int j_), (.ref t), (.int (0 : Int32)), (.ref u1)])) rfl rfl (hb hby own_d12_21)) ?_
  show own_at p e below _ T131 m 22 #[oR a1, oR t, oI j_, oI (0 : Int32)] [(.int (Int32.ofNat n1)), (.int j_), (.ref t), (.int (0 : Int32)), (.ref u1)]
  obtain ⟨T132, h132, L132, X132, e132, N132, Kc132, Ac132, st132⟩ := own_copy X131 hx hZ hown (own_w hw 78 rfl) (own_w hw 81 rfl) (own_w hw 79 rfl) (own_w hw 80 rfl) e131 q3 q7 rfl (i := 0) (j := jn) (q := n1) (by decide) hj.1 (own_toN (by omega)) (by omega) hj.2 N129 q8 (g' := (mkF m 22 #[oR a1, oR t, oI j_, oI (0 : Int32)] [(.int (Int32.ofNat n1)), (.int j_), (.ref t), (.int (0 : Int32)), (.ref u1)])) rfl (by rw [hml]; rfl) rfl (hb hby own_d12_22) (by decide) (W := 0) (own_hW rfl) (by decide)
  have K132 : Keep h0 h132 [t] := (Keep.refl h0 [t]).trans Kc132 (allS (P := fun x => x ∈ [t] ∨ h0.size ≤ x) (Or.inl (List.mem_of_getElem? (i := 0) rfl)) all0)
  have Ad132 : own_A Z h132 t kt .byte 16 (fun i => .int ((own_cp gb gt 0 jn n1) i)) := (Ac132).congr (fun q_ _ => by simp only [own_cp]; split <;> rfl)
  refine own_st (st132) ?_
  refine own_st (fun t_ k_ => XS.goto X132.here hx rfl (pc0 := 25) (pc' := 43) rfl (hb hby own_d12_25) (by decide) (by decide) k_) ?_
  show own_at p e below _ T132 m 43 #[oR a1, oR t, oI j_, oI (0 : Int32)] []
  exact own_ret0 X132 hx hnl Bd.returns (hb hby own_d12_43) ⟨rfl, N132, (by rw [e132]; exact K132), (by rw [e132]; exact Ad132)⟩ (by decide) (by decide)

theorem own_d10_0 : decode jdk_68_method_73_code 0 = .ok (.aload_n 0, 1) := by decide +kernel
theorem own_d10_1 : decode jdk_68_method_73_code 1 = .ok (.aload_n 2, 1) := by decide +kernel
theorem own_d10_2 : decode jdk_68_method_73_code 2 = .ok (.invokevirtual 397, 3) := by decide +kernel
theorem own_d10_5 : decode jdk_68_method_73_code 5 = .ok (.aload_n 2, 1) := by decide +kernel
theorem own_d10_6 : decode jdk_68_method_73_code 6 = .ok (.aload_n 0, 1) := by decide +kernel
theorem own_d10_7 : decode jdk_68_method_73_code 7 = .ok (.getfield 15, 3) := by decide +kernel
theorem own_d10_10 : decode jdk_68_method_73_code 10 = .ok (.iload_n 1, 1) := by decide +kernel
theorem own_d10_11 : decode jdk_68_method_73_code 11 = .ok (.aload_n 0, 1) := by decide +kernel
theorem own_d10_12 : decode jdk_68_method_73_code 12 = .ok (.getfield 22, 3) := by decide +kernel
theorem own_d10_15 : decode jdk_68_method_73_code 15 = .ok (.invokevirtual 399, 3) := by decide +kernel
theorem own_d10_18 : decode jdk_68_method_73_code 18 = .ok (.return_, 1) := by decide +kernel
theorem own_pd6 : parseMethodDescriptor "(Ljava/lang/String;)V" = some ⟨[(.object "java/lang/String")], none⟩ := by decide +kernel
theorem own_pd7 : parseMethodDescriptor "([BIB)V" = some ⟨[(.array .byte), .int, .byte], none⟩ := by decide +kernel
theorem own_ef10 (m : MethodId) (x0 : Addr) (x1 : Int32) (x2 : Addr) : entryFrame m #[(.ref x0), (.int x1), (.ref x2)] 3 = mkF m 0 #[.val (.ref x0), .val (.int x1), .val (.ref x2)] [] := by first | (simp [entryFrame, mkF, argsToLocals, Value.category]; done) | rfl
def own_Q10 (Z : State) (a1 : Addr) (a2 : Addr) (j_ : Int32) (jn : Nat) (t : Addr) (kt : ClassId) (gt : Nat → Int32) (u1 : Addr) (ku : ClassId) (n1 : Nat) (gb : Nat → Int32) (G1 : Int32) (h0 : Heap) (n0 : Nat) (v : Option Value) (h : Heap) (L : List Loc) : Prop := v = none ∧ Fr n0 L ∧ Keep h0 h [t] ∧ own_A Z h t kt .byte 16 (fun i => .int ((own_cp gb gt 0 jn n1) i))
set_option maxRecDepth 65536 in
set_option maxHeartbeats 40000000 in
theorem own_rm10 (l : Launch) (Z : State) (a0 : Array Value) (hw : ∀ d ∈ tables_1, d.before a0 Z = true) (ws : List Jvm.Cond) (a1 : Addr) (a2 : Addr) (j_ : Int32) (jn : Nat) (t : Addr) (kt : ClassId) (gt : Nat → Int32) (u1 : Addr) (ku : ClassId) (n1 : Nat) (gb : Nat → Int32) (G1 : Int32) (h0 : Heap) (n0 : Nat) (Z0 : n0 ≤ h0.size) (q0 : Exa Z h0 a1 "java/lang/StringBuilder") (q1 : Fld Z h0 a1 "java/lang/AbstractStringBuilder" "value" "[B" (.ref t)) (q2 : Fld Z h0 a1 "java/lang/AbstractStringBuilder" "coder" "B" (.int (0 : Int32))) (q3 : Exa Z h0 a2 "java/lang/String") (q4 : Fld Z h0 a2 "java/lang/String" "value" "[B" (.ref u1)) (q5 : Fld Z h0 a2 "java/lang/String" "coder" "B" (.int (0 : Int32))) (q6 : own_A Z h0 u1 ku .byte n1 (fun i => .int (gb i))) (q7 : Old Z n0 h0) (q8 : Sta Z Z.heap "java/lang/String" "COMPACT_STRINGS" "Z" (.int G1)) (hG1 : (¬ G1 = (0 : Int32))) (q10 : own_A Z h0 t kt .byte 16 (fun i => .int (gt i))) (q11 : n0 ≤ t) (hj : (j_.toInt = (jn : Int) ∧ jn + n1 ≤ 16)) :
    MetFree l own_n12 (head1 (Jvm.Cond.code own_n12 jdk_68_method_73_code 3 none :: ws) ({ frames := 2, cells := 0, slots := 0, locals := 55 } : Room)) (fun a U => a = #[(.ref a1), (.int j_), (.ref a2)] ∧ Z.Warmed39 U.vm ∧ U.heap = h0) (fun _ _ _ _ _ => True) (fun _ U o U' => ∃ v L, o = .returned v ∧ own_Q10 Z a1 a2 j_ jn t kt gt u1 ku n1 gb G1 h0 n0 v U'.heap L ∧ FrameEnd U o U' L ({ frames := 2, cells := 0, slots := 0, locals := 55 } : Room).cells ({ frames := 2, cells := 0, slots := 0, locals := 55 } : Room).slots) := by
  refine MetFree.of_bodySF (plainFor_of_name own_pn3) hisR ?_
  intro p e s m args below meth c s₁ Bd hml0 hP hK
  obtain ⟨rfl, hZ, hh⟩ := hP
  have hx := Bd.exec
  have hby := Bd.bytes
  have hml : c.maxLocals = 3 := hml0
  have hown : s.vm.findClass "java/lang/AbstractStringBuilder" = some m.cls := findClass_of_methodNamed Bd.named
  have hnm := (name_of_methodNamed Bd.named Bd.method).1
  have hnl : meth.locks = false := Bd.notSynchronized
  have X0 : Stand p l e ({ frames := 2, cells := 0, slots := 0, locals := 55 } : Room) s m #[(.ref a1), (.int j_), (.ref a2)] below meth c s₁ [] 0 0 := Stand.of_body Bd
  have e0 : s₁.heap = h0 := by rw [← hh, Bd.state]; rfl
  have N0 := Fr.nil n0
  show own_Go p.tables e below (own_P below s (own_Q10 Z a1 a2 j_ jn t kt gt u1 ku n1 gb G1 h0 n0) ({ frames := 2, cells := 0, slots := 0, locals := 55 } : Room).cells ({ frames := 2, cells := 0, slots := 0, locals := 55 } : Room).slots) _
  refine own_st (fun t_ k_ => castTop (own_ef10 m a1 j_ a2) k_) ?_
  refine own_st (fun t_ k_ => XS.aloadN X0.here hx rfl (hb hby own_d10_0) rfl rfl (XS.aloadN X0.here hx rfl (hb hby own_d10_1) rfl rfl k_)) ?_
  show own_at p e below _ s₁ m 2 #[oR a1, oI j_, oR a2] [(.ref a2), (.ref a1)]
  obtain ⟨cq133, kq133, q133a, q133b, q133c⟩ := isOf hZ e0 q0
  obtain ⟨_, _, ⟨T133, L133, k133, n133⟩, -, X133, ⟨Lc133, hQ133, l133, y133, z133⟩, st133⟩ := X0.virtualBack hx (y := own_n10) (z := own_n10) hown (mvT hZ (own_w hw 67 rfl)) (mvT hZ (own_decl (own_w hw 68 rfl) (own_w hw 71 rfl))) (notFace_of_selects (args := #[]) (mvT hZ (own_w hw 70 rfl))) (mvT hZ (own_w hw 70 rfl)) (mvT hZ (own_w hw 68 rfl)) (by decide) (backOf (W := 0) (own_rm11 l Z a0 hw [] a1 a2 G1 h0 n0 (Nat.le_trans Z0 (Keep.refl h0 [t]).1) q0 q2 q3 q5 q7 q8 hG1) hZ (own_w hw 71 rfl) (own_w hw 14 rfl) (by decide) (by decide)) q133a q133c (g := (mkF m 2 #[oR a1, oI j_, oR a2] [(.ref a2), (.ref a1)])) rfl (by rw [hml]; rfl) (Steps.refl _) (argsL := [(.ref a2)]) (rest := []) (lenOf own_pd6 rfl) rfl (own_hW rfl) (hb hby own_d10_2) (fun _ _ => ⟨rfl, e0, (by decide : 0 + 0 ≤ _), (by decide : 0 + 0 ≤ _)⟩)
  dsimp only [Pt.U, Pt.locs, Pt.cells, Pt.slots] at X133 l133 y133 z133 st133 hQ133
  subst y133 z133
  obtain ⟨rfl, N133q, eq133⟩ := hQ133
  have N133 : Fr n0 L133 := by rw [l133]; exact Fr.app N0 N133q
  refine own_tr st133 ?_
  refine own_st (fun t_ k_ => XS.aloadN X133.here hx rfl (hb hby own_d10_5) rfl rfl (XS.aloadN X133.here hx rfl (hb hby own_d10_6) rfl rfl k_)) ?_
  show own_at p e below _ T133 m 7 #[oR a1, oI j_, oR a2] [(.ref a1), (.ref a2)]
  obtain ⟨T134, X134, e134, st134⟩ := getF X133 hx hZ hown (host := "") (Or.inl (own_w hw 22 rfl)) Via.refl eq133 q1 (g := (mkF m 7 #[oR a1, oI j_, oR a2] [(.ref a1), (.ref a2)])) rfl rfl (hb hby own_d10_7)
  refine own_st (st134) ?_
  refine own_st (fun t_ k_ => XS.iloadN X134.here hx rfl (hb hby own_d10_10) rfl (XS.aloadN X134.here hx rfl (hb hby own_d10_11) rfl rfl k_)) ?_
  show own_at p e below _ T134 m 12 #[oR a1, oI j_, oR a2] [(.ref a1), (.int j_), (.ref t), (.ref a2)]
  obtain ⟨T135, X135, e135, st135⟩ := getF X134 hx hZ hown (host := "") (Or.inl (own_w hw 24 rfl)) Via.refl e134 q2 (g := (mkF m 12 #[oR a1, oI j_, oR a2] [(.ref a1), (.int j_), (.ref t), (.ref a2)])) rfl rfl (hb hby own_d10_12)
  refine own_st (st135) ?_
  show own_at p e below _ T135 m 15 #[oR a1, oI j_, oR a2] [(.int (0 : Int32)), (.int j_), (.ref t), (.ref a2)]
  obtain ⟨cq136, kq136, q136a, q136b, q136c⟩ := isOf hZ e135 q3
  obtain ⟨_, _, ⟨T136, L136, k136, n136⟩, -, X136, ⟨Lc136, hQ136, l136, y136, z136⟩, st136⟩ := X135.virtualBack hx (y := own_n11) (z := own_n11) hown (mvT hZ (own_w hw 73 rfl)) (mvT hZ (own_w hw 74 rfl)) (notFace_of_selects (args := #[]) (mvT hZ (own_w hw 76 rfl))) (mvT hZ (own_w hw 76 rfl)) (mvT hZ (own_w hw 75 rfl)) (by decide) (backOf (W := 0) (own_rm12 l Z a0 hw [] a2 j_ jn t kt gt u1 ku n1 gb G1 h0 n0 (Nat.le_trans Z0 (Keep.refl h0 [t]).1) q3 q4 q5 q6 q7 q8 hG1 q10 q11 hj) hZ (own_w hw 77 rfl) (own_w hw 20 rfl) (by decide) (by decide)) q136a q136c (g := (mkF m 15 #[oR a1, oI j_, oR a2] [(.int (0 : Int32)), (.int j_), (.ref t), (.ref a2)])) rfl (by rw [hml]; rfl) (Steps.refl _) (argsL := [(.ref t), (.int j_), (.int (0 : Int32))]) (rest := []) (lenOf own_pd7 rfl) rfl (own_hW rfl) (hb hby own_d10_15) (fun _ _ => ⟨rfl, e135, (by decide : 0 + 0 ≤ _), (by decide : 0 + 0 ≤ _)⟩)
  dsimp only [Pt.U, Pt.locs, Pt.cells, Pt.slots] at X136 l136 y136 z136 st136 hQ136
  subst y136 z136
  obtain ⟨rfl, N136q, Kq136, P136_0⟩ := hQ136
  have N136 : Fr n0 L136 := by rw [l136]; exact Fr.app N133 N136q
  have K136 : Keep h0 T136.heap [t] := (Keep.refl h0 [t]).trans Kq136 (allS (P := fun x => x ∈ [t] ∨ h0.size ≤ x) (Or.inl (List.mem_of_getElem? (i := 0) rfl)) all0)
  refine own_tr st136 ?_
  show own_at p e below _ T136 m 18 #[oR a1, oI j_, oR a2] []
  exact own_ret0 X136 hx hnl Bd.returns (hb hby own_d10_18) ⟨rfl, N136, (K136), (P136_0)⟩ (by decide) (by decide)

theorem own_d6_0 : decode jdk_68_method_22_code 0 = .ok (.aload_n 1, 1) := by decide +kernel
theorem own_d6_1 : decode jdk_68_method_22_code 1 = .ok (.ifnonnull 8, 3) := by decide +kernel
theorem own_d6_9 : decode jdk_68_method_22_code 9 = .ok (.aload_n 1, 1) := by decide +kernel
theorem own_d6_10 : decode jdk_68_method_22_code 10 = .ok (.invokevirtual 32, 3) := by decide +kernel
theorem own_d6_13 : decode jdk_68_method_22_code 13 = .ok (.istore_n 2, 1) := by decide +kernel
theorem own_d6_14 : decode jdk_68_method_22_code 14 = .ok (.aload_n 0, 1) := by decide +kernel
theorem own_d6_15 : decode jdk_68_method_22_code 15 = .ok (.aload_n 0, 1) := by decide +kernel
theorem own_d6_16 : decode jdk_68_method_22_code 16 = .ok (.getfield 79, 3) := by decide +kernel
theorem own_d6_19 : decode jdk_68_method_22_code 19 = .ok (.iload_n 2, 1) := by decide +kernel
theorem own_d6_20 : decode jdk_68_method_22_code 20 = .ok (.iadd, 1) := by decide +kernel
theorem own_d6_21 : decode jdk_68_method_22_code 21 = .ok (.invokevirtual 100, 3) := by decide +kernel
theorem own_d6_24 : decode jdk_68_method_22_code 24 = .ok (.aload_n 0, 1) := by decide +kernel
theorem own_d6_25 : decode jdk_68_method_22_code 25 = .ok (.aload_n 0, 1) := by decide +kernel
theorem own_d6_26 : decode jdk_68_method_22_code 26 = .ok (.getfield 79, 3) := by decide +kernel
theorem own_d6_29 : decode jdk_68_method_22_code 29 = .ok (.aload_n 1, 1) := by decide +kernel
theorem own_d6_30 : decode jdk_68_method_22_code 30 = .ok (.invokevirtual 208, 3) := by decide +kernel
theorem own_d6_33 : decode jdk_68_method_22_code 33 = .ok (.aload_n 0, 1) := by decide +kernel
theorem own_d6_34 : decode jdk_68_method_22_code 34 = .ok (.dup, 1) := by decide +kernel
theorem own_d6_35 : decode jdk_68_method_22_code 35 = .ok (.getfield 79, 3) := by decide +kernel
theorem own_d6_38 : decode jdk_68_method_22_code 38 = .ok (.iload_n 2, 1) := by decide +kernel
theorem own_d6_39 : decode jdk_68_method_22_code 39 = .ok (.iadd, 1) := by decide +kernel
theorem own_d6_40 : decode jdk_68_method_22_code 40 = .ok (.putfield 79, 3) := by decide +kernel
theorem own_d6_43 : decode jdk_68_method_22_code 43 = .ok (.aload_n 0, 1) := by decide +kernel
theorem own_d6_44 : decode jdk_68_method_22_code 44 = .ok (.areturn, 1) := by decide +kernel
theorem own_pd8 : parseMethodDescriptor "()I" = some ⟨[], some .int⟩ := by decide +kernel
theorem own_pd9 : parseMethodDescriptor "(ILjava/lang/String;)V" = some ⟨[.int, (.object "java/lang/String")], none⟩ := by decide +kernel
theorem own_ef6 (m : MethodId) (x0 : Addr) (x1 : Addr) : entryFrame m #[(.ref x0), (.ref x1)] 3 = mkF m 0 #[.val (.ref x0), .val (.ref x1), .unset] [] := by first | (simp [entryFrame, mkF, argsToLocals, Value.category]; done) | rfl
def own_Q6 (Z : State) (a1 : Addr) (a2 : Addr) (cn_ : Int32) (j1 : Nat) (t : Addr) (kt : ClassId) (gt : Nat → Int32) (u1 : Addr) (ku : ClassId) (n1 : Nat) (gb : Nat → Int32) (G1 : Int32) (h0 : Heap) (n0 : Nat) (v : Option Value) (h : Heap) (L : List Loc) : Prop := v = some (.ref a1) ∧ Fr n0 L ∧ Keep h0 h [a1, t] ∧ Fld Z h a1 "java/lang/AbstractStringBuilder" "value" "[B" (.ref t) ∧ Fld Z h a1 "java/lang/AbstractStringBuilder" "coder" "B" (.int (0 : Int32)) ∧ Fld Z h a1 "java/lang/AbstractStringBuilder" "count" "I" (.int (cn_ + (Int32.ofNat n1))) ∧ own_A Z h t kt .byte 16 (fun i => .int ((own_cp gb gt 0 j1 n1) i))
set_option maxRecDepth 65536 in
set_option maxHeartbeats 40000000 in
theorem own_rm6 (l : Launch) (Z : State) (a0 : Array Value) (hw : ∀ d ∈ tables_1, d.before a0 Z = true) (ws : List Jvm.Cond) (a1 : Addr) (a2 : Addr) (cn_ : Int32) (j1 : Nat) (t : Addr) (kt : ClassId) (gt : Nat → Int32) (u1 : Addr) (ku : ClassId) (n1 : Nat) (gb : Nat → Int32) (G1 : Int32) (h0 : Heap) (n0 : Nat) (Z0 : n0 ≤ h0.size) (q0 : Exa Z h0 a1 "java/lang/StringBuilder") (q1 : Fld Z h0 a1 "java/lang/AbstractStringBuilder" "value" "[B" (.ref t)) (q2 : Fld Z h0 a1 "java/lang/AbstractStringBuilder" "coder" "B" (.int (0 : Int32))) (q3 : Fld Z h0 a1 "java/lang/AbstractStringBuilder" "count" "I" (.int cn_)) (q4 : own_A Z h0 t kt .byte 16 (fun i => .int (gt i))) (q5 : n0 ≤ a1) (q6 : n0 ≤ t) (q7 : Exa Z h0 a2 "java/lang/String") (q8 : Fld Z h0 a2 "java/lang/String" "value" "[B" (.ref u1)) (q9 : Fld Z h0 a2 "java/lang/String" "coder" "B" (.int (0 : Int32))) (q10 : own_A Z h0 u1 ku .byte n1 (fun i => .int (gb i))) (q11 : Old Z n0 h0) (q12 : Sta Z Z.heap "java/lang/String" "COMPACT_STRINGS" "Z" (.int G1)) (hG1 : (¬ G1 = (0 : Int32))) (hcn : (cn_.toInt = (j1 : Int) ∧ j1 + n1 ≤ 16)) (hut : (u1 ≠ t)) :
    MetFree l own_n13 (head1 (Jvm.Cond.code own_n13 jdk_68_method_22_code 3 (some (.object "java/lang/AbstractStringBuilder")) :: ws) ({ frames := 3, cells := 0, slots := 0, locals := 69 } : Room)) (fun a U => a = #[(.ref a1), (.ref a2)] ∧ Z.Warmed39 U.vm ∧ U.heap = h0) (fun _ _ _ _ _ => True) (fun _ U o U' => ∃ v L, o = .returned v ∧ own_Q6 Z a1 a2 cn_ j1 t kt gt u1 ku n1 gb G1 h0 n0 v U'.heap L ∧ FrameEnd U o U' L ({ frames := 3, cells := 0, slots := 0, locals := 69 } : Room).cells ({ frames := 3, cells := 0, slots := 0, locals := 69 } : Room).slots) := by
  refine MetFree.of_bodySF (plainFor_of_name own_pn3) hisR ?_
  intro p e s m args below meth c s₁ Bd hml0 hP hK
  obtain ⟨rfl, hZ, hh⟩ := hP
  have hx := Bd.exec
  have hby := Bd.bytes
  have hml : c.maxLocals = 3 := hml0
  have hown : s.vm.findClass "java/lang/AbstractStringBuilder" = some m.cls := findClass_of_methodNamed Bd.named
  have hnm := (name_of_methodNamed Bd.named Bd.method).1
  have hnl : meth.locks = false := Bd.notSynchronized
  have X0 : Stand p l e ({ frames := 3, cells := 0, slots := 0, locals := 69 } : Room) s m #[(.ref a1), (.ref a2)] below meth c s₁ [] 0 0 := Stand.of_body Bd
  have e0 : s₁.heap = h0 := by rw [← hh, Bd.state]; rfl
  have N0 := Fr.nil n0
  show own_Go p.tables e below (own_P below s (own_Q6 Z a1 a2 cn_ j1 t kt gt u1 ku n1 gb G1 h0 n0) ({ frames := 3, cells := 0, slots := 0, locals := 69 } : Room).cells ({ frames := 3, cells := 0, slots := 0, locals := 69 } : Room).slots) _
  refine own_st (fun t_ k_ => castTop (own_ef6 m a1 a2) k_) ?_
  refine own_st (fun t_ k_ => XS.aloadN X0.here hx rfl (hb hby own_d6_0) rfl rfl (XS.ifnonnullYes X0.here hx rfl (pc0 := 1) (pc' := 9) rfl (hb hby own_d6_1) rfl (by decide) (by decide) (XS.aloadN X0.here hx rfl (hb hby own_d6_9) rfl rfl k_))) ?_
  show own_at p e below _ s₁ m 10 #[oR a1, oR a2, oU] [(.ref a2)]
  obtain ⟨cq137, kq137, q137a, q137b, q137c⟩ := isOf hZ e0 q7
  obtain ⟨_, _, ⟨T137, L137, k137, n137⟩, -, X137, ⟨Lc137, hQ137, l137, y137, z137⟩, st137⟩ := X0.virtualBack hx (y := own_n6) (z := own_n6) hown (mvT hZ (own_w hw 42 rfl)) (mvT hZ (own_w hw 43 rfl)) (notFace_of_selects (args := #[]) (mvT hZ (own_w hw 45 rfl))) (mvT hZ (own_w hw 45 rfl)) (mvT hZ (own_w hw 44 rfl)) (by decide) (backOf (W := 0) (own_rm7 l Z a0 hw [] a2 u1 ku n1 gb G1 h0 n0 (Nat.le_trans Z0 (Keep.refl h0 [a1, t]).1) q7 q8 q9 q10 q11 q12 hG1) hZ (own_w hw 46 rfl) (own_w hw 20 rfl) (by decide) (by decide)) q137a q137c (g := (mkF m 10 #[oR a1, oR a2, oU] [(.ref a2)])) rfl (by rw [hml]; rfl) (Steps.refl _) (argsL := []) (rest := []) (lenOf own_pd8 rfl) rfl (own_hW rfl) (hb hby own_d6_10) (fun _ _ => ⟨rfl, e0, (by decide : 0 + 0 ≤ _), (by decide : 0 + 0 ≤ _)⟩)
  dsimp only [Pt.U, Pt.locs, Pt.cells, Pt.slots] at X137 l137 y137 z137 st137 hQ137
  subst y137 z137
  obtain ⟨rfl, N137q, eq137⟩ := hQ137
  have N137 : Fr n0 L137 := by rw [l137]; exact Fr.app N0 N137q
  refine own_tr st137 ?_
  refine own_st (fun t_ k_ => XS.istoreN X137.here hx rfl (hb hby own_d6_13) rfl (l' := #[oR a1, oR a2, oI (Int32.ofNat n1)]) rfl (XS.aloadN X137.here hx rfl (hb hby own_d6_14) rfl rfl (XS.aloadN X137.here hx rfl (hb hby own_d6_15) rfl rfl k_))) ?_
  show own_at p e below _ T137 m 16 #[oR a1, oR a2, oI (Int32.ofNat n1)] [(.ref a1), (.ref a1)]
  obtain ⟨T138, X138, e138, st138⟩ := getF X137 hx hZ hown (host := "") (Or.inl (own_w hw 55 rfl)) Via.refl eq137 q3 (g := (mkF m 16 #[oR a1, oR a2, oI (Int32.ofNat n1)] [(.ref a1), (.ref a1)])) rfl rfl (hb hby own_d6_16)
  refine own_st (st138) ?_
  refine own_st (fun t_ k_ => XS.iloadN X138.here hx rfl (hb hby own_d6_19) rfl (XS.iadd X138.here hx rfl (hb hby own_d6_20) rfl k_)) ?_
  show own_at p e below _ T138 m 21 #[oR a1, oR a2, oI (Int32.ofNat n1)] [(.int (cn_ + (Int32.ofNat n1))), (.ref a1)]
  obtain ⟨cq139, kq139, q139a, q139b, q139c⟩ := isOf hZ e138 q0
  obtain ⟨_, _, ⟨T139, L139, k139, n139⟩, -, X139, ⟨Lc139, hQ139, l139, y139, z139⟩, st139⟩ := X138.virtualBack hx (y := own_n9) (z := own_n9) hown (mvT hZ (own_w hw 57 rfl)) (mvT hZ (own_decl (own_w hw 58 rfl) (own_w hw 61 rfl))) (notFace_of_selects (args := #[]) (mvT hZ (own_w hw 60 rfl))) (mvT hZ (own_w hw 60 rfl)) (mvT hZ (own_w hw 58 rfl)) (by decide) (backOf (W := 0) (own_rm9 l Z a0 hw [] a1 (cn_ + (Int32.ofNat n1)) t kt gt cn_ (j1 + n1) h0 n0 (Nat.le_trans Z0 (Keep.refl h0 [a1, t]).1) q0 q1 q2 q3 q4 ⟨own_cadd hcn.1 (own_toN (by omega)) (by omega), hcn.2⟩) hZ (own_w hw 61 rfl) (own_w hw 14 rfl) (by decide) (by decide)) q139a q139c (g := (mkF m 21 #[oR a1, oR a2, oI (Int32.ofNat n1)] [(.int (cn_ + (Int32.ofNat n1))), (.ref a1)])) rfl (by rw [hml]; rfl) (Steps.refl _) (argsL := [(.int (cn_ + (Int32.ofNat n1)))]) (rest := []) (lenOf own_pd5 rfl) rfl (own_hW rfl) (hb hby own_d6_21) (fun _ _ => ⟨rfl, e138, (by decide : 0 + 0 ≤ _), (by decide : 0 + 0 ≤ _)⟩)
  dsimp only [Pt.U, Pt.locs, Pt.cells, Pt.slots] at X139 l139 y139 z139 st139 hQ139
  subst y139 z139
  obtain ⟨rfl, N139q, eq139⟩ := hQ139
  have N139 : Fr n0 L139 := by rw [l139]; exact Fr.app N137 N139q
  refine own_tr st139 ?_
  refine own_st (fun t_ k_ => XS.aloadN X139.here hx rfl (hb hby own_d6_24) rfl rfl (XS.aloadN X139.here hx rfl (hb hby own_d6_25) rfl rfl k_)) ?_
  show own_at p e below _ T139 m 26 #[oR a1, oR a2, oI (Int32.ofNat n1)] [(.ref a1), (.ref a1)]
  obtain ⟨T140, X140, e140, st140⟩ := getF X139 hx hZ hown (host := "") (Or.inl (own_w hw 55 rfl)) Via.refl eq139 q3 (g := (mkF m 26 #[oR a1, oR a2, oI (Int32.ofNat n1)] [(.ref a1), (.ref a1)])) rfl rfl (hb hby own_d6_26)
  refine own_st (st140) ?_
  refine own_st (fun t_ k_ => XS.aloadN X140.here hx rfl (hb hby own_d6_29) rfl rfl k_) ?_
  show own_at p e below _ T140 m 30 #[oR a1, oR a2, oI (Int32.ofNat n1)] [(.ref a2), (.int cn_), (.ref a1)]
  obtain ⟨cq141, kq141, q141a, q141b, q141c⟩ := isOf hZ e140 q0
  obtain ⟨_, _, ⟨T141, L141, k141, n141⟩, -, X141, ⟨Lc141, hQ141, l141, y141, z141⟩, st141⟩ := X140.virtualBack hx (y := own_n12) (z := own_n12) hown (mvT hZ (own_w hw 62 rfl)) (mvT hZ (own_decl (own_w hw 63 rfl) (own_w hw 66 rfl))) (notFace_of_selects (args := #[]) (mvT hZ (own_w hw 65 rfl))) (mvT hZ (own_w hw 65 rfl)) (mvT hZ (own_w hw 63 rfl)) (by decide) (backOf (W := 0) (own_rm10 l Z a0 hw [] a1 a2 cn_ j1 t kt gt u1 ku n1 gb G1 h0 n0 (Nat.le_trans Z0 (Keep.refl h0 [a1, t]).1) q0 q1 q2 q7 q8 q9 q10 q11 q12 hG1 q4 q6 hcn) hZ (own_w hw 66 rfl) (own_w hw 14 rfl) (by decide) (by decide)) q141a q141c (g := (mkF m 30 #[oR a1, oR a2, oI (Int32.ofNat n1)] [(.ref a2), (.int cn_), (.ref a1)])) rfl (by rw [hml]; rfl) (Steps.refl _) (argsL := [(.int cn_), (.ref a2)]) (rest := []) (lenOf own_pd9 rfl) rfl (own_hW rfl) (hb hby own_d6_30) (fun _ _ => ⟨rfl, e140, (by decide : 0 + 0 ≤ _), (by decide : 0 + 0 ≤ _)⟩)
  dsimp only [Pt.U, Pt.locs, Pt.cells, Pt.slots] at X141 l141 y141 z141 st141 hQ141
  subst y141 z141
  obtain ⟨rfl, N141q, Kq141, P141_0⟩ := hQ141
  have N141 : Fr n0 L141 := by rw [l141]; exact Fr.app N139 N141q
  have K141 : Keep h0 T141.heap [a1, t] := (Keep.refl h0 [a1, t]).trans Kq141 (allS (P := fun x => x ∈ [a1, t] ∨ h0.size ≤ x) (Or.inl (List.mem_of_getElem? (i := 1) rfl)) all0)
  refine own_tr st141 ?_
  refine own_st (fun t_ k_ => XS.aloadN X141.here hx rfl (hb hby own_d6_33) rfl rfl (XS.dup X141.here hx rfl (hb hby own_d6_34) rfl rfl k_)) ?_
  show own_at p e below _ T141 m 35 #[oR a1, oR a2, oI (Int32.ofNat n1)] [(.ref a1), (.ref a1)]
  obtain ⟨T142, X142, e142, st142⟩ := getF X141 hx hZ hown (host := "") (Or.inl (own_w hw 55 rfl)) Via.refl rfl (q3.keep Kq141 (ninS (own_neEA (q0.keep Kq141) P141_0 (own_w hw 5 rfl)) nin0)) (g := (mkF m 35 #[oR a1, oR a2, oI (Int32.ofNat n1)] [(.ref a1), (.ref a1)])) rfl rfl (hb hby own_d6_35)
  refine own_st (st142) ?_
  refine own_st (fun t_ k_ => XS.iloadN X142.here hx rfl (hb hby own_d6_38) rfl (XS.iadd X142.here hx rfl (hb hby own_d6_39) rfl k_)) ?_
  show own_at p e below _ T142 m 40 #[oR a1, oR a2, oI (Int32.ofNat n1)] [(.int (cn_ + (Int32.ofNat n1))), (.ref a1)]
  obtain ⟨T143, h143, X143, e143, W143, st143⟩ := putF X142 hx hZ hown (host := "") (Or.inl (own_w hw 55 rfl)) Via.refl e142 (q3.keep Kq141 (ninS (own_neEA (q0.keep Kq141) P141_0 (own_w hw 5 rfl)) nin0)) (q0.keep Kq141) (Or.inl (own_w hw 56 rfl)) (own_w hw 5 rfl) (ty := .int) (by decide) rfl rfl (g := (mkF m 40 #[oR a1, oR a2, oI (Int32.ofNat n1)] [(.int (cn_ + (Int32.ofNat n1))), (.ref a1)])) rfl rfl (hb hby own_d6_40)
  have Fw143 : Fld Z h143 a1 "java/lang/AbstractStringBuilder" "count" "I" (.int (cn_ + (Int32.ofNat n1))) := (q3.keep Kq141 (ninS (own_neEA (q0.keep Kq141) P141_0 (own_w hw 5 rfl)) nin0)).same W143
  have N143 := Fr.snoc X143 N141 q5
  have K143 : Keep h0 h143 [a1, t] := K141.wr W143 (Or.inl (List.mem_of_getElem? (i := 0) rfl))
  refine own_st (st143) ?_
  refine own_st (fun t_ k_ => XS.aloadN X143.here hx rfl (hb hby own_d6_43) rfl rfl k_) ?_
  show own_at p e below _ T143 m 44 #[oR a1, oR a2, oI (Int32.ofNat n1)] [(.ref a1)]
  have f144 : Fld Z h143 a1 "java/lang/AbstractStringBuilder" "value" "[B" (.ref t) := ((q1.keep Kq141 (ninS (own_neEA (q0.keep Kq141) P141_0 (own_w hw 5 rfl)) nin0)).other W143 (Or.inr (slot_ne (Or.inl (own_w hw 23 rfl)) (Or.inl (own_w hw 56 rfl)) (by decide) (t := (.array .byte)) (t' := .int) (by decide) (by decide))))
  have f145 : Fld Z h143 a1 "java/lang/AbstractStringBuilder" "coder" "B" (.int (0 : Int32)) := ((q2.keep Kq141 (ninS (own_neEA (q0.keep Kq141) P141_0 (own_w hw 5 rfl)) nin0)).other W143 (Or.inr (slot_ne (Or.inl (own_w hw 25 rfl)) (Or.inl (own_w hw 56 rfl)) (by decide) (t := .byte) (t' := .int) (by decide) (by decide))))
  exact own_ret (w := (.ref a1)) X143 hx hnl Bd.returns rfl (Or.inr (Or.inr (Or.inr (Or.inr ⟨rfl, rfl, rfl⟩)))) (hb hby own_d6_44) ⟨rfl, N143, (by rw [e143]; exact K143), (by rw [e143]; exact f144), (by rw [e143]; exact f145), (by rw [e143]; exact Fw143), (by rw [e143]; exact (P141_0.other W143 (Ne.symm (own_neEA (q0.keep Kq141) P141_0 (own_w hw 5 rfl)))))⟩ (by decide) (by decide)

theorem own_d5_0 : decode jdk_67_method_7_code 0 = .ok (.aload_n 0, 1) := by decide +kernel
theorem own_d5_1 : decode jdk_67_method_7_code 1 = .ok (.aload_n 1, 1) := by decide +kernel
theorem own_d5_2 : decode jdk_67_method_7_code 2 = .ok (.invokespecial 29, 3) := by decide +kernel
theorem own_d5_5 : decode jdk_67_method_7_code 5 = .ok (.pop, 1) := by decide +kernel
theorem own_d5_6 : decode jdk_67_method_7_code 6 = .ok (.aload_n 0, 1) := by decide +kernel
theorem own_d5_7 : decode jdk_67_method_7_code 7 = .ok (.areturn, 1) := by decide +kernel
theorem own_pd10 : parseMethodDescriptor "(Ljava/lang/String;)Ljava/lang/AbstractStringBuilder;" = some ⟨[(.object "java/lang/String")], some (.object "java/lang/AbstractStringBuilder")⟩ := by decide +kernel
theorem own_ef5 (m : MethodId) (x0 : Addr) (x1 : Addr) : entryFrame m #[(.ref x0), (.ref x1)] 2 = mkF m 0 #[.val (.ref x0), .val (.ref x1)] [] := by first | (simp [entryFrame, mkF, argsToLocals, Value.category]; done) | rfl
def own_Q5 (Z : State) (a1 : Addr) (a2 : Addr) (cn_ : Int32) (j1 : Nat) (t : Addr) (kt : ClassId) (gt : Nat → Int32) (u1 : Addr) (ku : ClassId) (n1 : Nat) (gb : Nat → Int32) (G1 : Int32) (h0 : Heap) (n0 : Nat) (v : Option Value) (h : Heap) (L : List Loc) : Prop := v = some (.ref a1) ∧ Fr n0 L ∧ Keep h0 h [a1, t] ∧ Fld Z h a1 "java/lang/AbstractStringBuilder" "value" "[B" (.ref t) ∧ Fld Z h a1 "java/lang/AbstractStringBuilder" "coder" "B" (.int (0 : Int32)) ∧ Fld Z h a1 "java/lang/AbstractStringBuilder" "count" "I" (.int (cn_ + (Int32.ofNat n1))) ∧ own_A Z h t kt .byte 16 (fun i => .int ((own_cp gb gt 0 j1 n1) i))
set_option maxRecDepth 65536 in
set_option maxHeartbeats 40000000 in
theorem own_rm5 (l : Launch) (Z : State) (a0 : Array Value) (hw : ∀ d ∈ tables_1, d.before a0 Z = true) (ws : List Jvm.Cond) (a1 : Addr) (a2 : Addr) (cn_ : Int32) (j1 : Nat) (t : Addr) (kt : ClassId) (gt : Nat → Int32) (u1 : Addr) (ku : ClassId) (n1 : Nat) (gb : Nat → Int32) (G1 : Int32) (h0 : Heap) (n0 : Nat) (Z0 : n0 ≤ h0.size) (q0 : Exa Z h0 a1 "java/lang/StringBuilder") (q1 : Fld Z h0 a1 "java/lang/AbstractStringBuilder" "value" "[B" (.ref t)) (q2 : Fld Z h0 a1 "java/lang/AbstractStringBuilder" "coder" "B" (.int (0 : Int32))) (q3 : Fld Z h0 a1 "java/lang/AbstractStringBuilder" "count" "I" (.int cn_)) (q4 : own_A Z h0 t kt .byte 16 (fun i => .int (gt i))) (q5 : n0 ≤ a1) (q6 : n0 ≤ t) (q7 : Exa Z h0 a2 "java/lang/String") (q8 : Fld Z h0 a2 "java/lang/String" "value" "[B" (.ref u1)) (q9 : Fld Z h0 a2 "java/lang/String" "coder" "B" (.int (0 : Int32))) (q10 : own_A Z h0 u1 ku .byte n1 (fun i => .int (gb i))) (q11 : Old Z n0 h0) (q12 : Sta Z Z.heap "java/lang/String" "COMPACT_STRINGS" "Z" (.int G1)) (hG1 : (¬ G1 = (0 : Int32))) (hcn : (cn_.toInt = (j1 : Int) ∧ j1 + n1 ≤ 16)) (hut : (u1 ≠ t)) :
    MetFree l own_n14 (head1 (Jvm.Cond.code own_n14 jdk_67_method_7_code 2 (some (.object "java/lang/StringBuilder")) :: ws) ({ frames := 4, cells := 0, slots := 0, locals := 83 } : Room)) (fun a U => a = #[(.ref a1), (.ref a2)] ∧ Z.Warmed39 U.vm ∧ U.heap = h0) (fun _ _ _ _ _ => True) (fun _ U o U' => ∃ v L, o = .returned v ∧ own_Q5 Z a1 a2 cn_ j1 t kt gt u1 ku n1 gb G1 h0 n0 v U'.heap L ∧ FrameEnd U o U' L ({ frames := 4, cells := 0, slots := 0, locals := 83 } : Room).cells ({ frames := 4, cells := 0, slots := 0, locals := 83 } : Room).slots) := by
  refine MetFree.of_bodySF (plainFor_of_name own_pn4) hisR ?_
  intro p e s m args below meth c s₁ Bd hml0 hP hK
  obtain ⟨rfl, hZ, hh⟩ := hP
  have hx := Bd.exec
  have hby := Bd.bytes
  have hml : c.maxLocals = 2 := hml0
  have hown : s.vm.findClass "java/lang/StringBuilder" = some m.cls := findClass_of_methodNamed Bd.named
  have hnm := (name_of_methodNamed Bd.named Bd.method).1
  have hnl : meth.locks = false := Bd.notSynchronized
  have X0 : Stand p l e ({ frames := 4, cells := 0, slots := 0, locals := 83 } : Room) s m #[(.ref a1), (.ref a2)] below meth c s₁ [] 0 0 := Stand.of_body Bd
  have e0 : s₁.heap = h0 := by rw [← hh, Bd.state]; rfl
  have N0 := Fr.nil n0
  show own_Go p.tables e below (own_P below s (own_Q5 Z a1 a2 cn_ j1 t kt gt u1 ku n1 gb G1 h0 n0) ({ frames := 4, cells := 0, slots := 0, locals := 83 } : Room).cells ({ frames := 4, cells := 0, slots := 0, locals := 83 } : Room).slots) _
  refine own_st (fun t_ k_ => castTop (own_ef5 m a1 a2) k_) ?_
  refine own_st (fun t_ k_ => XS.aloadN X0.here hx rfl (hb hby own_d5_0) rfl rfl (XS.aloadN X0.here hx rfl (hb hby own_d5_1) rfl rfl k_)) ?_
  show own_at p e below _ s₁ m 2 #[oR a1, oR a2] [(.ref a2), (.ref a1)]
  obtain ⟨_, _, ⟨T146, L146, k146, n146⟩, -, X146, ⟨Lc146, hQ146, l146, y146, z146⟩, st146⟩ := superBack X0 hx hZ (y := own_n13) hown (own_w hw 37 rfl) (own_same (y := own_n13) (own_w hw 38 rfl) (own_w hw 60 rfl) rfl (by decide)) (own_w hw 38 rfl) (own_w hw 39 rfl) (by decide) (backOf (W := 0) (own_rm6 l Z a0 hw [] a1 a2 cn_ j1 t kt gt u1 ku n1 gb G1 h0 n0 (Nat.le_trans Z0 (Keep.refl h0 [a1, t]).1) q0 q1 q2 q3 q4 q5 q6 q7 q8 q9 q10 q11 q12 hG1 hcn hut) hZ (own_w hw 41 rfl) (own_w hw 14 rfl) (by decide) (by decide)) e0 (Ins.self q0) (g := (mkF m 2 #[oR a1, oR a2] [(.ref a2), (.ref a1)])) rfl (by rw [hml]; rfl) (own_w hw 41 rfl) (argsL := [(.ref a2)]) (rest := []) (lenOf own_pd10 rfl) rfl (own_hW rfl) (hb hby own_d5_2) (fun _ _ => ⟨rfl, e0, (by decide : 0 + 0 ≤ _), (by decide : 0 + 0 ≤ _)⟩)
  dsimp only [Pt.U, Pt.locs, Pt.cells, Pt.slots] at X146 l146 y146 z146 st146 hQ146
  subst y146 z146
  obtain ⟨rfl, N146q, Kq146, P146_0, P146_1, P146_2, P146_3⟩ := hQ146
  have N146 : Fr n0 L146 := by rw [l146]; exact Fr.app N0 N146q
  have K146 : Keep h0 T146.heap [a1, t] := (Keep.refl h0 [a1, t]).trans Kq146 (allS (P := fun x => x ∈ [a1, t] ∨ h0.size ≤ x) (Or.inl (List.mem_of_getElem? (i := 0) rfl)) (allS (P := fun x => x ∈ [a1, t] ∨ h0.size ≤ x) (Or.inl (List.mem_of_getElem? (i := 1) rfl)) all0))
  refine own_tr st146 ?_
  refine own_st (fun t_ k_ => XS.pop X146.here hx rfl (hb hby own_d5_5) rfl rfl (XS.aloadN X146.here hx rfl (hb hby own_d5_6) rfl rfl k_)) ?_
  show own_at p e below _ T146 m 7 #[oR a1, oR a2] [(.ref a1)]
  exact own_ret (w := (.ref a1)) X146 hx hnl Bd.returns rfl (Or.inr (Or.inr (Or.inr (Or.inr ⟨rfl, rfl, rfl⟩)))) (hb hby own_d5_7) ⟨rfl, N146, (K146), (P146_0), (P146_1), (P146_2), (P146_3)⟩ (by decide) (by decide)

theorem own_d17_0 : decode jdk_65_method_131_code 0 = .ok (.iload_n 1, 1) := by decide +kernel
theorem own_d17_1 : decode jdk_65_method_131_code 1 = .ok (.iload_n 0, 1) := by decide +kernel
theorem own_d17_2 : decode jdk_65_method_131_code 2 = .ok (.if_icmp .ge 35, 3) := by decide +kernel
theorem own_d17_37 : decode jdk_65_method_131_code 37 = .ok (.return_, 1) := by decide +kernel
theorem own_pn5 : plainName "java/util/Arrays" = true := by first | (simp [plainName, overriddenIn]; done) | decide +kernel
theorem own_ef17 (m : MethodId) (x0 : Int32) (x1 : Int32) : entryFrame m #[(.int x0), (.int x1)] 2 = mkF m 0 #[.val (.int x0), .val (.int x1)] [] := by first | (simp [entryFrame, mkF, argsToLocals, Value.category]; done) | rfl
def own_Q17 (Z : State) (fr_ : Int32) (to_ : Int32) (h0 : Heap) (n0 : Nat) (v : Option Value) (h : Heap) (L : List Loc) : Prop := v = none ∧ Fr n0 L ∧ h = h0
set_option maxRecDepth 65536 in
set_option maxHeartbeats 40000000 in
theorem own_rm17 (l : Launch) (Z : State) (a0 : Array Value) (hw : ∀ d ∈ tables_1, d.before a0 Z = true) (ws : List Jvm.Cond) (fr_ : Int32) (to_ : Int32) (h0 : Heap) (n0 : Nat) (Z0 : n0 ≤ h0.size) (hle : (¬ to_ < fr_)) :
    MetFree l own_n15 (head1 (Jvm.Cond.code own_n15 jdk_65_method_131_code 2 none :: ws) ({ frames := 0, cells := 0, slots := 0, locals := 0 } : Room)) (fun a U => a = #[(.int fr_), (.int to_)] ∧ Z.Warmed39 U.vm ∧ U.heap = h0) (fun _ _ _ _ _ => True) (fun _ U o U' => ∃ v L, o = .returned v ∧ own_Q17 Z fr_ to_ h0 n0 v U'.heap L ∧ FrameEnd U o U' L ({ frames := 0, cells := 0, slots := 0, locals := 0 } : Room).cells ({ frames := 0, cells := 0, slots := 0, locals := 0 } : Room).slots) := by
  refine MetFree.of_bodySF (plainFor_of_name own_pn5) hisR ?_
  intro p e s m args below meth c s₁ Bd hml0 hP hK
  obtain ⟨rfl, hZ, hh⟩ := hP
  have hx := Bd.exec
  have hby := Bd.bytes
  have hml : c.maxLocals = 2 := hml0
  have hown : s.vm.findClass "java/util/Arrays" = some m.cls := findClass_of_methodNamed Bd.named
  have hnm := (name_of_methodNamed Bd.named Bd.method).1
  have hnl : meth.locks = false := Bd.notSynchronized
  have X0 : Stand p l e ({ frames := 0, cells := 0, slots := 0, locals := 0 } : Room) s m #[(.int fr_), (.int to_)] below meth c s₁ [] 0 0 := Stand.of_body Bd
  have e0 : s₁.heap = h0 := by rw [← hh, Bd.state]; rfl
  have N0 := Fr.nil n0
  show own_Go p.tables e below (own_P below s (own_Q17 Z fr_ to_ h0 n0) ({ frames := 0, cells := 0, slots := 0, locals := 0 } : Room).cells ({ frames := 0, cells := 0, slots := 0, locals := 0 } : Room).slots) _
  refine own_st (fun t_ k_ => castTop (own_ef17 m fr_ to_) k_) ?_
  refine own_st (fun t_ k_ => XS.iloadN X0.here hx rfl (hb hby own_d17_0) rfl (XS.iloadN X0.here hx rfl (hb hby own_d17_1) rfl (XS.icmpYes X0.here hx rfl (pc0 := 2) (pc' := 37) rfl (hb hby own_d17_2) rfl (flt hle).2.1 (by decide) (by decide) k_))) ?_
  show own_at p e below _ s₁ m 37 #[oI fr_, oI to_] []
  exact own_ret0 X0 hx hnl Bd.returns (hb hby own_d17_37) ⟨rfl, N0, e0⟩ (by decide) (by decide)

theorem own_d18_0 : decode jdk_29_method_69_code 0 = .ok (.iload_n 0, 1) := by decide +kernel
theorem own_d18_1 : decode jdk_29_method_69_code 1 = .ok (.iload_n 1, 1) := by decide +kernel
theorem own_d18_2 : decode jdk_29_method_69_code 2 = .ok (.if_icmp .gt 7, 3) := by decide +kernel
theorem own_d18_5 : decode jdk_29_method_69_code 5 = .ok (.iload_n 0, 1) := by decide +kernel
theorem own_d18_6 : decode jdk_29_method_69_code 6 = .ok (.goto 4, 3) := by decide +kernel
theorem own_d18_9 : decode jdk_29_method_69_code 9 = .ok (.iload_n 1, 1) := by decide +kernel
theorem own_d18_10 : decode jdk_29_method_69_code 10 = .ok (.ireturn, 1) := by decide +kernel
theorem own_ef18 (m : MethodId) (x0 : Int32) (x1 : Int32) : entryFrame m #[(.int x0), (.int x1)] 2 = mkF m 0 #[.val (.int x0), .val (.int x1)] [] := by first | (simp [entryFrame, mkF, argsToLocals, Value.category]; done) | rfl
def own_Q18 (Z : State) (x_ : Int32) (y_ : Int32) (h0 : Heap) (n0 : Nat) (v : Option Value) (h : Heap) (L : List Loc) : Prop := v = some (.int y_) ∧ Fr n0 L ∧ h = h0
set_option maxRecDepth 65536 in
set_option maxHeartbeats 40000000 in
theorem own_rm18 (l : Launch) (Z : State) (a0 : Array Value) (hw : ∀ d ∈ tables_1, d.before a0 Z = true) (ws : List Jvm.Cond) (x_ : Int32) (y_ : Int32) (h0 : Heap) (n0 : Nat) (Z0 : n0 ≤ h0.size) (hmn : (¬ x_ < y_)) :
    MetFree l own_n16 (head1 (Jvm.Cond.code own_n16 jdk_29_method_69_code 2 (some .int) :: ws) ({ frames := 0, cells := 0, slots := 0, locals := 0 } : Room)) (fun a U => a = #[(.int x_), (.int y_)] ∧ Z.Warmed39 U.vm ∧ U.heap = h0) (fun _ _ _ _ _ => True) (fun _ U o U' => ∃ v L, o = .returned v ∧ own_Q18 Z x_ y_ h0 n0 v U'.heap L ∧ FrameEnd U o U' L ({ frames := 0, cells := 0, slots := 0, locals := 0 } : Room).cells ({ frames := 0, cells := 0, slots := 0, locals := 0 } : Room).slots) := by
  refine MetFree.of_bodySF (Jvm.Free.JP.mathPlain rfl (by decide +kernel)) hisR ?_
  intro p e s m args below meth c s₁ Bd hml0 hP hK
  obtain ⟨rfl, hZ, hh⟩ := hP
  have hx := Bd.exec
  have hby := Bd.bytes
  have hml : c.maxLocals = 2 := hml0
  have hown : s.vm.findClass "java/lang/Math" = some m.cls := findClass_of_methodNamed Bd.named
  have hnm := (name_of_methodNamed Bd.named Bd.method).1
  have hnl : meth.locks = false := Bd.notSynchronized
  have X0 : Stand p l e ({ frames := 0, cells := 0, slots := 0, locals := 0 } : Room) s m #[(.int x_), (.int y_)] below meth c s₁ [] 0 0 := Stand.of_body Bd
  have e0 : s₁.heap = h0 := by rw [← hh, Bd.state]; rfl
  have N0 := Fr.nil n0
  show own_Go p.tables e below (own_P below s (own_Q18 Z x_ y_ h0 n0) ({ frames := 0, cells := 0, slots := 0, locals := 0 } : Room).cells ({ frames := 0, cells := 0, slots := 0, locals := 0 } : Room).slots) _
  refine own_st (fun t_ k_ => castTop (own_ef18 m x_ y_) k_) ?_
  refine own_st (fun t_ k_ => XS.iloadN X0.here hx rfl (hb hby own_d18_0) rfl (XS.iloadN X0.here hx rfl (hb hby own_d18_1) rfl k_)) ?_
  show own_at p e below _ s₁ m 2 #[oI x_, oI y_] [(.int y_), (.int x_)]
  by_cases c2_147 : y_ < x_
  · skip
    refine own_st (fun t_ k_ => XS.icmpYes X0.here hx rfl (pc0 := 2) (pc' := 9) rfl (hb hby own_d18_2) rfl (tlt c2_147).2.2.1 (by decide) (by decide) (XS.iloadN X0.here hx rfl (hb hby own_d18_9) rfl k_)) ?_
    show own_at p e below _ s₁ m 10 #[oI x_, oI y_] [(.int y_)]
    exact own_ret (w := (.int y_)) X0 hx hnl Bd.returns rfl (Or.inl ⟨rfl, by decide, _, rfl⟩) (hb hby own_d18_10) ⟨rfl, N0, e0⟩ (by decide) (by decide)
  refine own_st (fun t_ k_ => XS.icmpNo X0.here hx rfl (hb hby own_d18_2) rfl (flt c2_147).2.2.1 (XS.iloadN X0.here hx rfl (hb hby own_d18_5) rfl (XS.goto X0.here hx rfl (pc0 := 6) (pc' := 10) rfl (hb hby own_d18_6) (by decide) (by decide) k_))) ?_
  show own_at p e below _ s₁ m 10 #[oI x_, oI y_] [(.int x_)]
  exact own_ret (w := (.int x_)) X0 hx hnl Bd.returns rfl (Or.inl ⟨rfl, by decide, _, rfl⟩) (hb hby own_d18_10) ⟨(by rw [own_anti hmn c2_147]), N0, e0⟩ (by decide) (by decide)

theorem own_d16_0 : decode jdk_65_method_133_code 0 = .ok (.iload_n 1, 1) := by decide +kernel
theorem own_d16_1 : decode jdk_65_method_133_code 1 = .ok (.iload_n 2, 1) := by decide +kernel
theorem own_d16_2 : decode jdk_65_method_133_code 2 = .ok (.invokestatic 343, 3) := by decide +kernel
theorem own_d16_5 : decode jdk_65_method_133_code 5 = .ok (.iload_n 2, 1) := by decide +kernel
theorem own_d16_6 : decode jdk_65_method_133_code 6 = .ok (.iload_n 1, 1) := by decide +kernel
theorem own_d16_7 : decode jdk_65_method_133_code 7 = .ok (.isub, 1) := by decide +kernel
theorem own_d16_8 : decode jdk_65_method_133_code 8 = .ok (.istore_n 3, 1) := by decide +kernel
theorem own_d16_9 : decode jdk_65_method_133_code 9 = .ok (.iload_n 3, 1) := by decide +kernel
theorem own_d16_10 : decode jdk_65_method_133_code 10 = .ok (.newarray .byte, 2) := by decide +kernel
theorem own_d16_12 : decode jdk_65_method_133_code 12 = .ok (.astore 4, 2) := by decide +kernel
theorem own_d16_14 : decode jdk_65_method_133_code 14 = .ok (.aload_n 0, 1) := by decide +kernel
theorem own_d16_15 : decode jdk_65_method_133_code 15 = .ok (.iload_n 1, 1) := by decide +kernel
theorem own_d16_16 : decode jdk_65_method_133_code 16 = .ok (.aload 4, 2) := by decide +kernel
theorem own_d16_18 : decode jdk_65_method_133_code 18 = .ok (.iconst 0, 1) := by decide +kernel
theorem own_d16_19 : decode jdk_65_method_133_code 19 = .ok (.aload_n 0, 1) := by decide +kernel
theorem own_d16_20 : decode jdk_65_method_133_code 20 = .ok (.arraylength, 1) := by decide +kernel
theorem own_d16_21 : decode jdk_65_method_133_code 21 = .ok (.iload_n 1, 1) := by decide +kernel
theorem own_d16_22 : decode jdk_65_method_133_code 22 = .ok (.isub, 1) := by decide +kernel
theorem own_d16_23 : decode jdk_65_method_133_code 23 = .ok (.iload_n 3, 1) := by decide +kernel
theorem own_d16_24 : decode jdk_65_method_133_code 24 = .ok (.invokestatic 304, 3) := by decide +kernel
theorem own_d16_27 : decode jdk_65_method_133_code 27 = .ok (.invokestatic 150, 3) := by decide +kernel
theorem own_d16_30 : decode jdk_65_method_133_code 30 = .ok (.aload 4, 2) := by decide +kernel
theorem own_d16_32 : decode jdk_65_method_133_code 32 = .ok (.areturn, 1) := by decide +kernel
theorem own_pd11 : parseMethodDescriptor "(II)I" = some ⟨[.int, .int], some .int⟩ := by decide +kernel
theorem own_ef16 (m : MethodId) (x0 : Addr) (x1 : Int32) (x2 : Int32) : entryFrame m #[(.ref x0), (.int x1), (.int x2)] 5 = mkF m 0 #[.val (.ref x0), .val (.int x1), .val (.int x2), .unset, .unset] [] := by first | (simp [entryFrame, mkF, argsToLocals, Value.category]; done) | rfl
def own_Q16 (Z : State) (a1 : Addr) (fr_ : Int32) (to_ : Int32) (k1 : ClassId) (m1 : Nat) (f1 : Nat → Int32) (s1 : Nat) (e1 : Nat) (h0 : Heap) (n0 : Nat) (v : Option Value) (h : Heap) (L : List Loc) : Prop := ∃ (t : Addr) (kt : ClassId), v = some (.ref t) ∧ Fr n0 L ∧ Keep h0 h [] ∧ h0.size ≤ t ∧ own_A Z h t kt .byte (e1 - s1) (fun i => .int ((own_sf f1 s1) i))
set_option maxRecDepth 65536 in
set_option maxHeartbeats 40000000 in
theorem own_rm16 (l : Launch) (Z : State) (a0 : Array Value) (hw : ∀ d ∈ tables_1, d.before a0 Z = true) (ws : List Jvm.Cond) (a1 : Addr) (fr_ : Int32) (to_ : Int32) (k1 : ClassId) (m1 : Nat) (f1 : Nat → Int32) (s1 : Nat) (e1 : Nat) (h0 : Heap) (n0 : Nat) (Z0 : n0 ≤ h0.size) (q0 : own_A Z h0 a1 k1 .byte m1 (fun i => .int (f1 i))) (hr : (fr_.toInt = (s1 : Int) ∧ to_.toInt = (e1 : Int) ∧ s1 < e1 ∧ e1 ≤ m1 ∧ m1 ≤ 33)) :
    MetFree l own_n17 (head1 (Jvm.Cond.code own_n17 jdk_65_method_133_code 5 (some (.array .byte)) :: ws) ({ frames := 1, cells := 1, slots := 33, locals := 40 } : Room)) (fun a U => a = #[(.ref a1), (.int fr_), (.int to_)] ∧ Z.Warmed39 U.vm ∧ U.heap = h0) (fun _ _ _ _ _ => True) (fun _ U o U' => ∃ v L, o = .returned v ∧ own_Q16 Z a1 fr_ to_ k1 m1 f1 s1 e1 h0 n0 v U'.heap L ∧ FrameEnd U o U' L ({ frames := 1, cells := 1, slots := 33, locals := 40 } : Room).cells ({ frames := 1, cells := 1, slots := 33, locals := 40 } : Room).slots) := by
  refine MetFree.of_bodySF (plainFor_of_name own_pn5) hisR ?_
  intro p e s m args below meth c s₁ Bd hml0 hP hK
  obtain ⟨rfl, hZ, hh⟩ := hP
  have hx := Bd.exec
  have hby := Bd.bytes
  have hml : c.maxLocals = 5 := hml0
  have hown : s.vm.findClass "java/util/Arrays" = some m.cls := findClass_of_methodNamed Bd.named
  have hnm := (name_of_methodNamed Bd.named Bd.method).1
  have hnl : meth.locks = false := Bd.notSynchronized
  have X0 : Stand p l e ({ frames := 1, cells := 1, slots := 33, locals := 40 } : Room) s m #[(.ref a1), (.int fr_), (.int to_)] below meth c s₁ [] 0 0 := Stand.of_body Bd
  have e0 : s₁.heap = h0 := by rw [← hh, Bd.state]; rfl
  have N0 := Fr.nil n0
  show own_Go p.tables e below (own_P below s (own_Q16 Z a1 fr_ to_ k1 m1 f1 s1 e1 h0 n0) ({ frames := 1, cells := 1, slots := 33, locals := 40 } : Room).cells ({ frames := 1, cells := 1, slots := 33, locals := 40 } : Room).slots) _
  refine own_st (fun t_ k_ => castTop (own_ef16 m a1 fr_ to_) k_) ?_
  show own_at p e below _ s₁ m 0 #[oR a1, oI fr_, oI to_, oU, oU] []
  have hd : (to_ - fr_).toInt = ((e1 - s1 : Nat) : Int) := own_csub hr.2.1 hr.1 (by omega) (by omega)
  refine own_st (fun t_ k_ => XS.iloadN X0.here hx rfl (hb hby own_d16_0) rfl (XS.iloadN X0.here hx rfl (hb hby own_d16_1) rfl k_)) ?_
  show own_at p e below _ s₁ m 2 #[oR a1, oI fr_, oI to_, oU, oU] [(.int to_), (.int fr_)]
  obtain ⟨_, _, ⟨T148, L148, k148, n148⟩, -, X148, ⟨Lc148, hQ148, l148, y148, z148⟩, st148⟩ := Jvm.LawKit.callS X0 hx (y := own_n15) hown (mvT hZ (own_w hw 100 rfl)) (mvT hZ (own_w hw 101 rfl)) (mvT hZ (own_w hw 95 rfl)) (mvT hZ (own_w hw 102 rfl)) (by decide) (backOf (W := 0) (own_rm17 l Z a0 hw [] fr_ to_ h0 n0 (Nat.le_trans Z0 (Keep.refl h0 []).1) (own_nlt hr.2.1 hr.1 (by omega))) hZ (own_w hw 102 rfl) (own_w hw 95 rfl) (by decide) (by decide)) (g := (mkF m 2 #[oR a1, oI fr_, oI to_, oU, oU] [(.int to_), (.int fr_)])) rfl (by rw [hml]; rfl) (argsL := [(.int fr_), (.int to_)]) (rest := []) (lenOf own_pd1 rfl) rfl (own_hW rfl) (hb hby own_d16_2) (fun _ _ => ⟨rfl, e0, (by decide : 0 + 0 ≤ _), (by decide : 0 + 0 ≤ _)⟩)
  dsimp only [Pt.U, Pt.locs, Pt.cells, Pt.slots] at X148 l148 y148 z148 st148 hQ148
  subst y148 z148
  obtain ⟨rfl, N148q, eq148⟩ := hQ148
  have N148 : Fr n0 L148 := by rw [l148]; exact Fr.app N0 N148q
  refine own_st (st148) ?_
  refine own_st (fun t_ k_ => XS.iloadN X148.here hx rfl (hb hby own_d16_5) rfl (XS.iloadN X148.here hx rfl (hb hby own_d16_6) rfl (XS.isub X148.here hx rfl (hb hby own_d16_7) rfl (XS.istoreN X148.here hx rfl (hb hby own_d16_8) rfl (l' := #[oR a1, oI fr_, oI to_, oI (to_ - fr_), oU]) rfl (XS.iloadN X148.here hx rfl (hb hby own_d16_9) rfl k_))))) ?_
  show own_at p e below _ T148 m 10 #[oR a1, oI fr_, oI to_, oI (to_ - fr_), oU] [(.int (to_ - fr_))]
  obtain ⟨T149, h149, k149, X149, e149, E149, A149, st149⟩ := newP X148 hx hZ (own_w hw 21 rfl) eq148 (g := (mkF m 10 #[oR a1, oI fr_, oI to_, oI (to_ - fr_), oU] [(.int (to_ - fr_))])) rfl (hb hby own_d16_10) rfl (own_nn hd) (cap := 33) (own_cl hd (by omega)) (by decide) (by decide) (by decide)
  obtain ⟨b149, g149⟩ : ∃ z, z = h0.size := ⟨_, rfl⟩
  rw [← g149] at A149 st149
  have fr149 : h0.size ≤ b149 := Nat.le_trans (Keep.refl h0 []).1 (Nat.le_of_eq g149.symm)
  have ge149 : n0 ≤ b149 := Nat.le_trans Z0 fr149
  have K149 : Keep h0 h149 [] := (Keep.refl h0 []).ext E149
  have Ar149 : own_A Z h149 b149 k149 .byte (e1 - s1) (fun i => .int ((fun _ => (0 : Int32)) i)) := own_A.new A149 (own_asN hd) (own_nn hd) (hn := by omega)
  refine own_st (st149) ?_
  refine own_st (fun t_ k_ => XS.astore X149.here hx rfl (hb hby own_d16_12) rfl rfl (l' := #[oR a1, oI fr_, oI to_, oI (to_ - fr_), oR b149]) rfl (XS.aloadN X149.here hx rfl (hb hby own_d16_14) rfl rfl (XS.iloadN X149.here hx rfl (hb hby own_d16_15) rfl (XS.aload X149.here hx rfl (hb hby own_d16_16) rfl rfl (XS.iconst X149.here hx rfl (hb hby own_d16_18) (XS.aloadN X149.here hx rfl (hb hby own_d16_19) rfl rfl k_)))))) ?_
  show own_at p e below _ T149 m 20 #[oR a1, oI fr_, oI to_, oI (to_ - fr_), oR b149] [(.ref a1), (.int (0 : Int32)), (.ref b149), (.int fr_), (.ref a1)]
  refine own_st (own_len X149 hx hZ e149 (q0.ext E149) (g := (mkF m 20 #[oR a1, oI fr_, oI to_, oI (to_ - fr_), oR b149] [(.ref a1), (.int (0 : Int32)), (.ref b149), (.int fr_), (.ref a1)])) rfl rfl (hb hby own_d16_20)) ?_
  refine own_st (fun t_ k_ => XS.iloadN X149.here hx rfl (hb hby own_d16_21) rfl (XS.isub X149.here hx rfl (hb hby own_d16_22) rfl (XS.iloadN X149.here hx rfl (hb hby own_d16_23) rfl k_))) ?_
  show own_at p e below _ T149 m 24 #[oR a1, oI fr_, oI to_, oI (to_ - fr_), oR b149] [(.int (to_ - fr_)), (.int ((Int32.ofNat m1) - fr_)), (.int (0 : Int32)), (.ref b149), (.int fr_), (.ref a1)]
  obtain ⟨_, _, ⟨T150, L150, k150, n150⟩, -, X150, ⟨Lc150, hQ150, l150, y150, z150⟩, st150⟩ := Jvm.LawKit.callS X149 hx (y := own_n16) hown (mvT hZ (own_w hw 103 rfl)) (mvT hZ (own_w hw 104 rfl)) (mvT hZ (own_w hw 105 rfl)) (mvT hZ (own_w hw 106 rfl)) (by decide) (backOf (W := 4) (own_rm18 l Z a0 hw [] ((Int32.ofNat m1) - fr_) (to_ - fr_) h149 n0 (Nat.le_trans Z0 K149.1) (own_nlt (own_csub (own_toN (by omega)) hr.1 (by omega) (by omega)) hd (by omega))) hZ (own_w hw 106 rfl) (own_w hw 105 rfl) (by decide) (by decide)) (g := (mkF m 24 #[oR a1, oI fr_, oI to_, oI (to_ - fr_), oR b149] [(.int (to_ - fr_)), (.int ((Int32.ofNat m1) - fr_)), (.int (0 : Int32)), (.ref b149), (.int fr_), (.ref a1)])) rfl (by rw [hml]; rfl) (argsL := [(.int ((Int32.ofNat m1) - fr_)), (.int (to_ - fr_))]) (rest := [(.int (0 : Int32)), (.ref b149), (.int fr_), (.ref a1)]) (lenOf own_pd11 rfl) rfl (own_hW rfl) (hb hby own_d16_24) (fun _ _ => ⟨rfl, e149, (by decide : 1 + 0 ≤ _), (by decide : 33 + 0 ≤ _)⟩)
  dsimp only [Pt.U, Pt.locs, Pt.cells, Pt.slots] at X150 l150 y150 z150 st150 hQ150
  subst y150 z150
  obtain ⟨rfl, N150q, eq150⟩ := hQ150
  have N150 : Fr n0 L150 := by rw [l150]; exact Fr.app N148 N150q
  refine own_st (st150) ?_
  show own_at p e below _ T150 m 27 #[oR a1, oI fr_, oI to_, oI (to_ - fr_), oR b149] [(.int (to_ - fr_)), (.int (0 : Int32)), (.ref b149), (.int fr_), (.ref a1)]
  obtain ⟨T151, h151, L151, X151, e151, N151, Kc151, Ac151, st151⟩ := own_copy X150 hx hZ hown (own_w hw 107 rfl) (own_w hw 81 rfl) (own_w hw 79 rfl) (own_w hw 80 rfl) eq150 (q0.ext E149) Ar149 rfl (i := s1) (j := 0) (q := (e1 - s1)) hr.1 (by decide) hd (by omega) (by omega) N150 ge149 (g' := (mkF m 27 #[oR a1, oI fr_, oI to_, oI (to_ - fr_), oR b149] [(.int (to_ - fr_)), (.int (0 : Int32)), (.ref b149), (.int fr_), (.ref a1)])) rfl (by rw [hml]; rfl) rfl (hb hby own_d16_27) (by decide) (W := 0) (own_hW rfl) (by decide)
  have K151 : Keep h0 h151 [] := K149.trans Kc151 (allS (P := fun x => x ∈ [] ∨ h0.size ≤ x) (Or.inr fr149) all0)
  have Ad151 : own_A Z h151 b149 k149 .byte (e1 - s1) (fun i => .int ((own_cp f1 (fun _ => (0 : Int32)) s1 0 (e1 - s1)) i)) := (Ac151).congr (fun q_ _ => by simp only [own_cp]; split <;> rfl)
  refine own_st (st151) ?_
  show own_at p e below _ T151 m 30 #[oR a1, oI fr_, oI to_, oI (to_ - fr_), oR b149] []
  have Af : own_A Z h151 b149 k149 .byte (e1 - s1) (fun i => .int ((own_sf f1 s1) i)) := (Ad151).congr (fun q_ hq_ => by rw [own_cpf _ _ _ _ _ hq_])
  refine own_st (fun t_ k_ => XS.aload X151.here hx rfl (hb hby own_d16_30) rfl rfl k_) ?_
  show own_at p e below _ T151 m 32 #[oR a1, oI fr_, oI to_, oI (to_ - fr_), oR b149] [(.ref b149)]
  exact own_ret (w := (.ref b149)) X151 hx hnl Bd.returns rfl (Or.inr (Or.inr (Or.inr (Or.inr ⟨rfl, rfl, rfl⟩)))) (hb hby own_d16_32) ⟨b149, k149, rfl, N151, (by rw [e151]; exact K151), fr149, (by rw [e151]; exact Af)⟩ (by decide) (by decide)

theorem own_d15_0 : decode jdk_65_method_132_code 0 = .ok (.iload_n 1, 1) := by decide +kernel
theorem own_d15_1 : decode jdk_65_method_132_code 1 = .ok (.ifCond .ne 9, 3) := by decide +kernel
theorem own_d15_4 : decode jdk_65_method_132_code 4 = .ok (.iload_n 2, 1) := by decide +kernel
theorem own_d15_5 : decode jdk_65_method_132_code 5 = .ok (.aload_n 0, 1) := by decide +kernel
theorem own_d15_6 : decode jdk_65_method_132_code 6 = .ok (.arraylength, 1) := by decide +kernel
theorem own_d15_7 : decode jdk_65_method_132_code 7 = .ok (.if_icmp .eq 10, 3) := by decide +kernel
theorem own_d15_10 : decode jdk_65_method_132_code 10 = .ok (.aload_n 0, 1) := by decide +kernel
theorem own_d15_11 : decode jdk_65_method_132_code 11 = .ok (.iload_n 1, 1) := by decide +kernel
theorem own_d15_12 : decode jdk_65_method_132_code 12 = .ok (.iload_n 2, 1) := by decide +kernel
theorem own_d15_13 : decode jdk_65_method_132_code 13 = .ok (.invokestatic 339, 3) := by decide +kernel
theorem own_d15_16 : decode jdk_65_method_132_code 16 = .ok (.areturn, 1) := by decide +kernel
theorem own_pd12 : parseMethodDescriptor "([BII)[B" = some ⟨[(.array .byte), .int, .int], some (.array .byte)⟩ := by decide +kernel
theorem own_ef15 (m : MethodId) (x0 : Addr) (x1 : Int32) (x2 : Int32) : entryFrame m #[(.ref x0), (.int x1), (.int x2)] 3 = mkF m 0 #[.val (.ref x0), .val (.int x1), .val (.int x2)] [] := by first | (simp [entryFrame, mkF, argsToLocals, Value.category]; done) | rfl
def own_Q15 (Z : State) (a1 : Addr) (fr_ : Int32) (to_ : Int32) (k1 : ClassId) (m1 : Nat) (f1 : Nat → Int32) (s1 : Nat) (e1 : Nat) (h0 : Heap) (n0 : Nat) (v : Option Value) (h : Heap) (L : List Loc) : Prop := ∃ (t : Addr) (kt : ClassId), v = some (.ref t) ∧ Fr n0 L ∧ Keep h0 h [] ∧ h0.size ≤ t ∧ own_A Z h t kt .byte (e1 - s1) (fun i => .int ((own_sf f1 s1) i))
set_option maxRecDepth 65536 in
set_option maxHeartbeats 40000000 in
theorem own_rm15 (l : Launch) (Z : State) (a0 : Array Value) (hw : ∀ d ∈ tables_1, d.before a0 Z = true) (ws : List Jvm.Cond) (a1 : Addr) (fr_ : Int32) (to_ : Int32) (k1 : ClassId) (m1 : Nat) (f1 : Nat → Int32) (s1 : Nat) (e1 : Nat) (h0 : Heap) (n0 : Nat) (Z0 : n0 ≤ h0.size) (q0 : own_A Z h0 a1 k1 .byte m1 (fun i => .int (f1 i))) (hr : (fr_.toInt = (s1 : Int) ∧ to_.toInt = (e1 : Int) ∧ s1 < e1 ∧ e1 ≤ m1 ∧ m1 ≤ 33)) (hnn : (¬ (fr_ = (0 : Int32) ∧ to_ = (Int32.ofNat m1)))) :
    MetFree l own_n18 (head1 (Jvm.Cond.code own_n18 jdk_65_method_132_code 3 (some (.array .byte)) :: ws) ({ frames := 2, cells := 1, slots := 33, locals := 56 } : Room)) (fun a U => a = #[(.ref a1), (.int fr_), (.int to_)] ∧ Z.Warmed39 U.vm ∧ U.heap = h0) (fun _ _ _ _ _ => True) (fun _ U o U' => ∃ v L, o = .returned v ∧ own_Q15 Z a1 fr_ to_ k1 m1 f1 s1 e1 h0 n0 v U'.heap L ∧ FrameEnd U o U' L ({ frames := 2, cells := 1, slots := 33, locals := 56 } : Room).cells ({ frames := 2, cells := 1, slots := 33, locals := 56 } : Room).slots) := by
  refine MetFree.of_bodySF (plainFor_of_name own_pn5) hisR ?_
  intro p e s m args below meth c s₁ Bd hml0 hP hK
  obtain ⟨rfl, hZ, hh⟩ := hP
  have hx := Bd.exec
  have hby := Bd.bytes
  have hml : c.maxLocals = 3 := hml0
  have hown : s.vm.findClass "java/util/Arrays" = some m.cls := findClass_of_methodNamed Bd.named
  have hnm := (name_of_methodNamed Bd.named Bd.method).1
  have hnl : meth.locks = false := Bd.notSynchronized
  have X0 : Stand p l e ({ frames := 2, cells := 1, slots := 33, locals := 56 } : Room) s m #[(.ref a1), (.int fr_), (.int to_)] below meth c s₁ [] 0 0 := Stand.of_body Bd
  have e0 : s₁.heap = h0 := by rw [← hh, Bd.state]; rfl
  have N0 := Fr.nil n0
  show own_Go p.tables e below (own_P below s (own_Q15 Z a1 fr_ to_ k1 m1 f1 s1 e1 h0 n0) ({ frames := 2, cells := 1, slots := 33, locals := 56 } : Room).cells ({ frames := 2, cells := 1, slots := 33, locals := 56 } : Room).slots) _
  refine own_st (fun t_ k_ => castTop (own_ef15 m a1 fr_ to_) k_) ?_
  refine own_st (fun t_ k_ => XS.iloadN X0.here hx rfl (hb hby own_d15_0) rfl k_) ?_
  show own_at p e below _ s₁ m 1 #[oR a1, oI fr_, oI to_] [(.int fr_)]
  by_cases c1_152 : fr_ = (0 : Int32)
  · skip
    refine own_st (fun t_ k_ => XS.ifNo X0.here hx rfl (hb hby own_d15_1) rfl ((if0 _ _).trans (teq c1_152).2) (XS.iloadN X0.here hx rfl (hb hby own_d15_4) rfl (XS.aloadN X0.here hx rfl (hb hby own_d15_5) rfl rfl k_))) ?_
    show own_at p e below _ s₁ m 6 #[oR a1, oI fr_, oI to_] [(.ref a1), (.int to_)]
    refine own_st (own_len X0 hx hZ e0 q0 (g := (mkF m 6 #[oR a1, oI fr_, oI to_] [(.ref a1), (.int to_)])) rfl rfl (hb hby own_d15_6)) ?_
    refine own_st (fun t_ k_ => XS.icmpNo X0.here hx rfl (hb hby own_d15_7) rfl (feq (fun z_ => hnn ⟨c1_152, z_⟩)).1 (XS.aloadN X0.here hx rfl (hb hby own_d15_10) rfl rfl (XS.iloadN X0.here hx rfl (hb hby own_d15_11) rfl (XS.iloadN X0.here hx rfl (hb hby own_d15_12) rfl k_)))) ?_
    show own_at p e below _ s₁ m 13 #[oR a1, oI fr_, oI to_] [(.int to_), (.int fr_), (.ref a1)]
    obtain ⟨_, _, ⟨T153, L153, k153, n153⟩, -, X153, ⟨Lc153, hQ153, l153, y153, z153⟩, st153⟩ := Jvm.LawKit.callS X0 hx (y := own_n17) hown (mvT hZ (own_w hw 97 rfl)) (mvT hZ (own_w hw 98 rfl)) (mvT hZ (own_w hw 95 rfl)) (mvT hZ (own_w hw 99 rfl)) (by decide) (backOf (W := 0) (own_rm16 l Z a0 hw [] a1 fr_ to_ k1 m1 f1 s1 e1 h0 n0 (Nat.le_trans Z0 (Keep.refl h0 []).1) q0 hr) hZ (own_w hw 99 rfl) (own_w hw 95 rfl) (by decide) (by decide)) (g := (mkF m 13 #[oR a1, oI fr_, oI to_] [(.int to_), (.int fr_), (.ref a1)])) rfl (by rw [hml]; rfl) (argsL := [(.ref a1), (.int fr_), (.int to_)]) (rest := []) (lenOf own_pd12 rfl) rfl (own_hW rfl) (hb hby own_d15_13) (fun _ _ => ⟨rfl, e0, (by decide : 0 + 1 ≤ _), (by decide : 0 + 33 ≤ _)⟩)
    dsimp only [Pt.U, Pt.locs, Pt.cells, Pt.slots] at X153 l153 y153 z153 st153 hQ153
    subst y153 z153
    obtain ⟨t_153, kt_153, rfl, N153q, Kq153, P153_0, P153_1⟩ := hQ153
    have N153 : Fr n0 L153 := by rw [l153]; exact Fr.app N0 N153q
    have K153 : Keep h0 T153.heap [] := (Keep.refl h0 []).trans Kq153 all0
    have fr153_0 : h0.size ≤ t_153 := Nat.le_trans (Keep.refl h0 []).1 P153_0
    have ge153_0 : n0 ≤ t_153 := Nat.le_trans Z0 fr153_0
    refine own_st (st153) ?_
    show own_at p e below _ T153 m 16 #[oR a1, oI fr_, oI to_] [(.ref t_153)]
    exact own_ret (w := (.ref t_153)) X153 hx hnl Bd.returns rfl (Or.inr (Or.inr (Or.inr (Or.inr ⟨rfl, rfl, rfl⟩)))) (hb hby own_d15_16) ⟨t_153, kt_153, rfl, N153, (K153), fr153_0, (P153_1)⟩ (by decide) (by decide)
  refine own_st (fun t_ k_ => XS.ifYes X0.here hx rfl (pc0 := 1) (pc' := 10) rfl (hb hby own_d15_1) rfl ((if0 _ _).trans (feq c1_152).2) (by decide) (by decide) (XS.aloadN X0.here hx rfl (hb hby own_d15_10) rfl rfl (XS.iloadN X0.here hx rfl (hb hby own_d15_11) rfl (XS.iloadN X0.here hx rfl (hb hby own_d15_12) rfl k_)))) ?_
  show own_at p e below _ s₁ m 13 #[oR a1, oI fr_, oI to_] [(.int to_), (.int fr_), (.ref a1)]
  obtain ⟨_, _, ⟨T154, L154, k154, n154⟩, -, X154, ⟨Lc154, hQ154, l154, y154, z154⟩, st154⟩ := Jvm.LawKit.callS X0 hx (y := own_n17) hown (mvT hZ (own_w hw 97 rfl)) (mvT hZ (own_w hw 98 rfl)) (mvT hZ (own_w hw 95 rfl)) (mvT hZ (own_w hw 99 rfl)) (by decide) (backOf (W := 0) (own_rm16 l Z a0 hw [] a1 fr_ to_ k1 m1 f1 s1 e1 h0 n0 (Nat.le_trans Z0 (Keep.refl h0 []).1) q0 hr) hZ (own_w hw 99 rfl) (own_w hw 95 rfl) (by decide) (by decide)) (g := (mkF m 13 #[oR a1, oI fr_, oI to_] [(.int to_), (.int fr_), (.ref a1)])) rfl (by rw [hml]; rfl) (argsL := [(.ref a1), (.int fr_), (.int to_)]) (rest := []) (lenOf own_pd12 rfl) rfl (own_hW rfl) (hb hby own_d15_13) (fun _ _ => ⟨rfl, e0, (by decide : 0 + 1 ≤ _), (by decide : 0 + 33 ≤ _)⟩)
  dsimp only [Pt.U, Pt.locs, Pt.cells, Pt.slots] at X154 l154 y154 z154 st154 hQ154
  subst y154 z154
  obtain ⟨t_154, kt_154, rfl, N154q, Kq154, P154_0, P154_1⟩ := hQ154
  have N154 : Fr n0 L154 := by rw [l154]; exact Fr.app N0 N154q
  have K154 : Keep h0 T154.heap [] := (Keep.refl h0 []).trans Kq154 all0
  have fr154_0 : h0.size ≤ t_154 := Nat.le_trans (Keep.refl h0 []).1 P154_0
  have ge154_0 : n0 ≤ t_154 := Nat.le_trans Z0 fr154_0
  refine own_st (st154) ?_
  show own_at p e below _ T154 m 16 #[oR a1, oI fr_, oI to_] [(.ref t_154)]
  exact own_ret (w := (.ref t_154)) X154 hx hnl Bd.returns rfl (Or.inr (Or.inr (Or.inr (Or.inr ⟨rfl, rfl, rfl⟩)))) (hb hby own_d15_16) ⟨t_154, kt_154, rfl, N154, (K154), fr154_0, (P154_1)⟩ (by decide) (by decide)

theorem own_d19_0 : decode jdk_42_method_151_code 0 = .ok (.aload_n 0, 1) := by decide +kernel
theorem own_d19_1 : decode jdk_42_method_151_code 1 = .ok (.invokespecial 1, 3) := by decide +kernel
theorem own_d19_4 : decode jdk_42_method_151_code 4 = .ok (.aload_n 0, 1) := by decide +kernel
theorem own_d19_5 : decode jdk_42_method_151_code 5 = .ok (.aload_n 1, 1) := by decide +kernel
theorem own_d19_6 : decode jdk_42_method_151_code 6 = .ok (.putfield 9, 3) := by decide +kernel
theorem own_d19_9 : decode jdk_42_method_151_code 9 = .ok (.aload_n 0, 1) := by decide +kernel
theorem own_d19_10 : decode jdk_42_method_151_code 10 = .ok (.iload_n 2, 1) := by decide +kernel
theorem own_d19_11 : decode jdk_42_method_151_code 11 = .ok (.putfield 15, 3) := by decide +kernel
theorem own_d19_14 : decode jdk_42_method_151_code 14 = .ok (.return_, 1) := by decide +kernel
theorem own_ef19 (m : MethodId) (x0 : Addr) (x1 : Addr) (x2 : Int32) : entryFrame m #[(.ref x0), (.ref x1), (.int x2)] 3 = mkF m 0 #[.val (.ref x0), .val (.ref x1), .val (.int x2)] [] := by first | (simp [entryFrame, mkF, argsToLocals, Value.category]; done) | rfl
def own_Q19 (Z : State) (a1 : Addr) (t : Addr) (h0 : Heap) (n0 : Nat) (v : Option Value) (h : Heap) (L : List Loc) : Prop := v = none ∧ Fr n0 L ∧ Keep h0 h [a1] ∧ Fld Z h a1 "java/lang/String" "value" "[B" (.ref t) ∧ Fld Z h a1 "java/lang/String" "coder" "B" (.int (0 : Int32))
set_option maxRecDepth 65536 in
set_option maxHeartbeats 40000000 in
theorem own_rm19 (l : Launch) (Z : State) (a0 : Array Value) (hw : ∀ d ∈ tables_1, d.before a0 Z = true) (ws : List Jvm.Cond) (a1 : Addr) (t : Addr) (h0 : Heap) (n0 : Nat) (Z0 : n0 ≤ h0.size) (q0 : Exa Z h0 a1 "java/lang/String") (q1 : Fld Z h0 a1 "java/lang/String" "value" "[B" .null) (q2 : Fld Z h0 a1 "java/lang/String" "coder" "B" (.int (0 : Int32))) (q3 : n0 ≤ a1) :
    MetFree l own_n19 (head1 (Jvm.Cond.code own_n19 jdk_42_method_151_code 3 none :: ws) ({ frames := 1, cells := 0, slots := 0, locals := 12 } : Room)) (fun a U => a = #[(.ref a1), (.ref t), (.int (0 : Int32))] ∧ Z.Warmed39 U.vm ∧ U.heap = h0) (fun _ _ _ _ _ => True) (fun _ U o U' => ∃ v L, o = .returned v ∧ own_Q19 Z a1 t h0 n0 v U'.heap L ∧ FrameEnd U o U' L ({ frames := 1, cells := 0, slots := 0, locals := 12 } : Room).cells ({ frames := 1, cells := 0, slots := 0, locals := 12 } : Room).slots) := by
  refine MetFree.of_bodySF (plainFor_of_name own_pn1) hisR ?_
  intro p e s m args below meth c s₁ Bd hml0 hP hK
  obtain ⟨rfl, hZ, hh⟩ := hP
  have hx := Bd.exec
  have hby := Bd.bytes
  have hml : c.maxLocals = 3 := hml0
  have hown : s.vm.findClass "java/lang/String" = some m.cls := findClass_of_methodNamed Bd.named
  have hnm := (name_of_methodNamed Bd.named Bd.method).1
  have hnl : meth.locks = false := Bd.notSynchronized
  have X0 : Stand p l e ({ frames := 1, cells := 0, slots := 0, locals := 12 } : Room) s m #[(.ref a1), (.ref t), (.int (0 : Int32))] below meth c s₁ [] 0 0 := Stand.of_body Bd
  have e0 : s₁.heap = h0 := by rw [← hh, Bd.state]; rfl
  have N0 := Fr.nil n0
  show own_Go p.tables e below (own_P below s (own_Q19 Z a1 t h0 n0) ({ frames := 1, cells := 0, slots := 0, locals := 12 } : Room).cells ({ frames := 1, cells := 0, slots := 0, locals := 12 } : Room).slots) _
  refine own_st (fun t_ k_ => castTop (own_ef19 m a1 t (0 : Int32)) k_) ?_
  refine own_st (fun t_ k_ => XS.aloadN X0.here hx rfl (hb hby own_d19_0) rfl rfl k_) ?_
  show own_at p e below _ s₁ m 1 #[oR a1, oR t, oI (0 : Int32)] [(.ref a1)]
  obtain ⟨T155, X155, e155, st155⟩ := initO X0 hx hZ hown (own_w hw 112 rfl) (own_w hw 17 rfl) (own_w hw 18 rfl) e0 (g := (mkF m 1 #[oR a1, oR t, oI (0 : Int32)] [(.ref a1)])) rfl (by rw [hml]; rfl) rfl (hb hby own_d19_1) (by decide) (W := 0) (own_hW rfl) (by decide)
  refine own_st (st155) ?_
  refine own_st (fun t_ k_ => XS.aloadN X155.here hx rfl (hb hby own_d19_4) rfl rfl (XS.aloadN X155.here hx rfl (hb hby own_d19_5) rfl rfl k_)) ?_
  show own_at p e below _ T155 m 6 #[oR a1, oR t, oI (0 : Int32)] [(.ref t), (.ref a1)]
  obtain ⟨T156, h156, X156, e156, W156, st156⟩ := putF X155 hx hZ hown (host := "") (Or.inl (own_w hw 47 rfl)) Via.refl e155 q1 q0 (Or.inr ⟨(own_w hw 28 rfl), rfl, hnm⟩) (own_w hw 27 rfl) (ty := (.array .byte)) (by decide) rfl rfl (g := (mkF m 6 #[oR a1, oR t, oI (0 : Int32)] [(.ref t), (.ref a1)])) rfl rfl (hb hby own_d19_6)
  have Fw156 : Fld Z h156 a1 "java/lang/String" "value" "[B" (.ref t) := q1.same W156
  have N156 := Fr.snoc X156 N0 q3
  have K156 : Keep h0 h156 [a1] := (Keep.refl h0 [a1]).wr W156 (Or.inl (List.mem_of_getElem? (i := 0) rfl))
  refine own_st (st156) ?_
  refine own_st (fun t_ k_ => XS.aloadN X156.here hx rfl (hb hby own_d19_9) rfl rfl (XS.iloadN X156.here hx rfl (hb hby own_d19_10) rfl k_)) ?_
  show own_at p e below _ T156 m 11 #[oR a1, oR t, oI (0 : Int32)] [(.int (0 : Int32)), (.ref a1)]
  have f157 : Fld Z h156 a1 "java/lang/String" "coder" "B" (.int (0 : Int32)) := (q2.other W156 (Or.inr (slot_ne (Or.inr (own_w hw 29 rfl)) (Or.inr (own_w hw 28 rfl)) (by decide) (t := .byte) (t' := (.array .byte)) (by decide) (by decide))))
  obtain ⟨T158, h158, X158, e158, W158, st158⟩ := putFN X156 hx hZ hown (own_w hw 54 rfl) Via.refl e156 f157 (q0.wr W156) (Or.inr ⟨(own_w hw 29 rfl), rfl, hnm⟩) (own_w hw 27 rfl) (ty := .byte) (v' := (.int (0 : Int32))) (by decide) rfl rfl (g := (mkF m 11 #[oR a1, oR t, oI (0 : Int32)] [(.int (0 : Int32)), (.ref a1)])) rfl rfl (hb hby own_d19_11)
  have Fw158 : Fld Z h158 a1 "java/lang/String" "coder" "B" (.int (0 : Int32)) := f157.same W158
  have N158 := Fr.snoc X158 N156 q3
  have K158 : Keep h0 h158 [a1] := K156.wr W158 (Or.inl (List.mem_of_getElem? (i := 0) rfl))
  refine own_st (st158) ?_
  show own_at p e below _ T158 m 14 #[oR a1, oR t, oI (0 : Int32)] []
  have f159 : Fld Z h158 a1 "java/lang/String" "value" "[B" (.ref t) := (Fw156.other W158 (Or.inr (slot_ne (Or.inr (own_w hw 28 rfl)) (Or.inr (own_w hw 29 rfl)) (by decide) (t := (.array .byte)) (t' := .byte) (by decide) (by decide))))
  exact own_ret0 X158 hx hnl Bd.returns (hb hby own_d19_14) ⟨rfl, N158, (by rw [e158]; exact K158), (by rw [e158]; exact f159), (by rw [e158]; exact Fw158)⟩ (by decide) (by decide)

theorem own_d14_0 : decode jdk_43_method_47_code 0 = .ok (.iload_n 2, 1) := by decide +kernel
theorem own_d14_1 : decode jdk_43_method_47_code 1 = .ok (.ifCond .ne 6, 3) := by decide +kernel
theorem own_d14_7 : decode jdk_43_method_47_code 7 = .ok (.new 1, 3) := by decide +kernel
theorem own_d14_10 : decode jdk_43_method_47_code 10 = .ok (.dup, 1) := by decide +kernel
theorem own_d14_11 : decode jdk_43_method_47_code 11 = .ok (.aload_n 0, 1) := by decide +kernel
theorem own_d14_12 : decode jdk_43_method_47_code 12 = .ok (.iload_n 1, 1) := by decide +kernel
theorem own_d14_13 : decode jdk_43_method_47_code 13 = .ok (.iload_n 1, 1) := by decide +kernel
theorem own_d14_14 : decode jdk_43_method_47_code 14 = .ok (.iload_n 2, 1) := by decide +kernel
theorem own_d14_15 : decode jdk_43_method_47_code 15 = .ok (.iadd, 1) := by decide +kernel
theorem own_d14_16 : decode jdk_43_method_47_code 16 = .ok (.invokestatic 232, 3) := by decide +kernel
theorem own_d14_19 : decode jdk_43_method_47_code 19 = .ok (.iconst 0, 1) := by decide +kernel
theorem own_d14_20 : decode jdk_43_method_47_code 20 = .ok (.invokespecial 112, 3) := by decide +kernel
theorem own_d14_23 : decode jdk_43_method_47_code 23 = .ok (.areturn, 1) := by decide +kernel
theorem own_pd13 : parseMethodDescriptor "([BB)V" = some ⟨[(.array .byte), .byte], none⟩ := by decide +kernel
theorem own_ef14 (m : MethodId) (x0 : Addr) (x1 : Int32) (x2 : Int32) : entryFrame m #[(.ref x0), (.int x1), (.int x2)] 3 = mkF m 0 #[.val (.ref x0), .val (.int x1), .val (.int x2)] [] := by first | (simp [entryFrame, mkF, argsToLocals, Value.category]; done) | rfl
def own_Q14 (Z : State) (a1 : Addr) (st_ : Int32) (ln_ : Int32) (k1 : ClassId) (f1 : Nat → Int32) (s1 : Nat) (n1 : Nat) (h0 : Heap) (n0 : Nat) (v : Option Value) (h : Heap) (L : List Loc) : Prop := ∃ (r : Addr) (t : Addr) (kt : ClassId), v = some (.ref r) ∧ Fr n0 L ∧ Keep h0 h [] ∧ h0.size ≤ r ∧ h0.size ≤ t ∧ Exa Z h r "java/lang/String" ∧ Fld Z h r "java/lang/String" "value" "[B" (.ref t) ∧ Fld Z h r "java/lang/String" "coder" "B" (.int (0 : Int32)) ∧ own_A Z h t kt .byte n1 (fun i => .int ((own_sf f1 s1) i))
set_option maxRecDepth 65536 in
set_option maxHeartbeats 40000000 in
theorem own_rm14 (l : Launch) (Z : State) (a0 : Array Value) (hw : ∀ d ∈ tables_1, d.before a0 Z = true) (ws : List Jvm.Cond) (a1 : Addr) (st_ : Int32) (ln_ : Int32) (k1 : ClassId) (f1 : Nat → Int32) (s1 : Nat) (n1 : Nat) (h0 : Heap) (n0 : Nat) (Z0 : n0 ≤ h0.size) (q0 : own_A Z h0 a1 k1 .byte 33 (fun i => .int (f1 i))) (hs : (st_.toInt = (s1 : Int) ∧ ln_.toInt = (n1 : Int) ∧ 1 ≤ s1 ∧ 1 ≤ n1 ∧ s1 + n1 ≤ 33)) :
    MetFree l own_n20 (head1 (Jvm.Cond.code own_n20 jdk_43_method_47_code 3 (some (.object "java/lang/String")) :: ws) ({ frames := 3, cells := 2, slots := 37, locals := 72 } : Room)) (fun a U => a = #[(.ref a1), (.int st_), (.int ln_)] ∧ Z.Warmed39 U.vm ∧ U.heap = h0) (fun _ _ _ _ _ => True) (fun _ U o U' => ∃ v L, o = .returned v ∧ own_Q14 Z a1 st_ ln_ k1 f1 s1 n1 h0 n0 v U'.heap L ∧ FrameEnd U o U' L ({ frames := 3, cells := 2, slots := 37, locals := 72 } : Room).cells ({ frames := 3, cells := 2, slots := 37, locals := 72 } : Room).slots) := by
  refine MetFree.of_bodySF (plainFor_of_name own_pn2) hisR ?_
  intro p e s m args below meth c s₁ Bd hml0 hP hK
  obtain ⟨rfl, hZ, hh⟩ := hP
  have hx := Bd.exec
  have hby := Bd.bytes
  have hml : c.maxLocals = 3 := hml0
  have hown : s.vm.findClass "java/lang/StringLatin1" = some m.cls := findClass_of_methodNamed Bd.named
  have hnm := (name_of_methodNamed Bd.named Bd.method).1
  have hnl : meth.locks = false := Bd.notSynchronized
  have X0 : Stand p l e ({ frames := 3, cells := 2, slots := 37, locals := 72 } : Room) s m #[(.ref a1), (.int st_), (.int ln_)] below meth c s₁ [] 0 0 := Stand.of_body Bd
  have e0 : s₁.heap = h0 := by rw [← hh, Bd.state]; rfl
  have N0 := Fr.nil n0
  show own_Go p.tables e below (own_P below s (own_Q14 Z a1 st_ ln_ k1 f1 s1 n1 h0 n0) ({ frames := 3, cells := 2, slots := 37, locals := 72 } : Room).cells ({ frames := 3, cells := 2, slots := 37, locals := 72 } : Room).slots) _
  refine own_st (fun t_ k_ => castTop (own_ef14 m a1 st_ ln_) k_) ?_
  refine own_st (fun t_ k_ => XS.iloadN X0.here hx rfl (hb hby own_d14_0) rfl (XS.ifYes X0.here hx rfl (pc0 := 1) (pc' := 7) rfl (hb hby own_d14_1) rfl ((if0 _ _).trans (feq (own_nz hs.2.1 hs.2.2.2.1)).2) (by decide) (by decide) k_)) ?_
  show own_at p e below _ s₁ m 7 #[oR a1, oI st_, oI ln_] []
  obtain ⟨T160, h160, X160, e160, E160, A160, D160, -, st160⟩ := newO X0 hx hZ hown (own_w hw 92 rfl) (own_w hw 27 rfl) (own_w hw 20 rfl) e0 (g := (mkF m 7 #[oR a1, oI st_, oI ln_] [])) rfl (hb hby own_d14_7) (by decide) (by decide)
  obtain ⟨b160, g160⟩ : ∃ z, z = h0.size := ⟨_, rfl⟩
  rw [← g160] at A160 D160 st160
  have fr160 : h0.size ≤ b160 := Nat.le_trans (Keep.refl h0 []).1 (Nat.le_of_eq g160.symm)
  have ge160 : n0 ≤ b160 := Nat.le_trans Z0 fr160
  have K160 : Keep h0 h160 [] := (Keep.refl h0 []).ext E160
  have F160_28 : Fld Z h160 b160 "java/lang/String" "value" "[B" .null := D160 (Or.inr (own_w hw 28 rfl)) (ty := (.array .byte)) (by decide)
  have F160_29 : Fld Z h160 b160 "java/lang/String" "coder" "B" (.int (0 : Int32)) := D160 (Or.inr (own_w hw 29 rfl)) (ty := .byte) (by decide)
  refine own_st (st160) ?_
  refine own_st (fun t_ k_ => XS.dup X160.here hx rfl (hb hby own_d14_10) rfl rfl (XS.aloadN X160.here hx rfl (hb hby own_d14_11) rfl rfl (XS.iloadN X160.here hx rfl (hb hby own_d14_12) rfl (XS.iloadN X160.here hx rfl (hb hby own_d14_13) rfl (XS.iloadN X160.here hx rfl (hb hby own_d14_14) rfl (XS.iadd X160.here hx rfl (hb hby own_d14_15) rfl k_)))))) ?_
  show own_at p e below _ T160 m 16 #[oR a1, oI st_, oI ln_] [(.int (st_ + ln_)), (.int st_), (.ref a1), (.ref b160), (.ref b160)]
  obtain ⟨_, _, ⟨T161, L161, k161, n161⟩, -, X161, ⟨Lc161, hQ161, l161, y161, z161⟩, st161⟩ := Jvm.LawKit.callS X160 hx (y := own_n18) hown (mvT hZ (own_w hw 93 rfl)) (mvT hZ (own_w hw 94 rfl)) (mvT hZ (own_w hw 95 rfl)) (mvT hZ (own_w hw 96 rfl)) (by decide) (backOf (W := 2) (own_rm15 l Z a0 hw [] a1 st_ (st_ + ln_) k1 33 f1 s1 (s1 + n1) h160 n0 (Nat.le_trans Z0 K160.1) (q0.ext E160) ⟨hs.1, own_cadd hs.1 hs.2.1 (by omega), (by omega), hs.2.2.2.2, (by decide)⟩ (fun z_ => own_nz hs.1 hs.2.2.1 z_.1)) hZ (own_w hw 96 rfl) (own_w hw 95 rfl) (by decide) (by decide)) (g := (mkF m 16 #[oR a1, oI st_, oI ln_] [(.int (st_ + ln_)), (.int st_), (.ref a1), (.ref b160), (.ref b160)])) rfl (by rw [hml]; rfl) (argsL := [(.ref a1), (.int st_), (.int (st_ + ln_))]) (rest := [(.ref b160), (.ref b160)]) (lenOf own_pd12 rfl) rfl (own_hW rfl) (hb hby own_d14_16) (fun _ _ => ⟨rfl, e160, (by decide : 1 + 1 ≤ _), (by decide : 4 + 33 ≤ _)⟩)
  dsimp only [Pt.U, Pt.locs, Pt.cells, Pt.slots] at X161 l161 y161 z161 st161 hQ161
  subst y161 z161
  obtain ⟨t_161, kt_161, rfl, N161q, Kq161, P161_0, P161_1⟩ := hQ161
  have N161 : Fr n0 L161 := by rw [l161]; exact Fr.app N0 N161q
  have K161 : Keep h0 T161.heap [] := K160.trans Kq161 all0
  have fr161_0 : h0.size ≤ t_161 := Nat.le_trans K160.1 P161_0
  have ge161_0 : n0 ≤ t_161 := Nat.le_trans Z0 fr161_0
  refine own_st (st161) ?_
  show own_at p e below _ T161 m 19 #[oR a1, oI st_, oI ln_] [(.ref t_161), (.ref b160), (.ref b160)]
  have Aj : own_A Z T161.heap t_161 kt_161 .byte n1 (fun i => .int ((own_sf f1 s1) i)) := by have z_ := P161_1; rw [Nat.add_sub_cancel_left] at z_; exact z_
  refine own_st (fun t_ k_ => XS.iconst X161.here hx rfl (hb hby own_d14_19) k_) ?_
  show own_at p e below _ T161 m 20 #[oR a1, oI st_, oI ln_] [(.int (0 : Int32)), (.ref t_161), (.ref b160), (.ref b160)]
  obtain ⟨_, _, ⟨T162, L162, k162, n162⟩, -, X162, ⟨Lc162, hQ162, l162, y162, z162⟩, st162⟩ := X161.specialBack hx (y := own_n19) rfl hown (mvT hZ (own_w hw 108 rfl)) (mvT hZ (own_w hw 109 rfl)) (mvT hZ (own_w hw 111 rfl)) (by decide) (backOf (W := 1) (own_rm19 l Z a0 hw [] b160 t_161 T161.heap n0 (Nat.le_trans Z0 K161.1) (A160.keep Kq161) (F160_28.keep Kq161 nin0) (F160_29.keep Kq161 nin0) ge160) hZ (own_w hw 111 rfl) (own_w hw 20 rfl) (by decide) (by decide)) (g := (mkF m 20 #[oR a1, oI st_, oI ln_] [(.int (0 : Int32)), (.ref t_161), (.ref b160), (.ref b160)])) rfl (by rw [hml]; rfl) (Steps.refl _) (a := b160) (argsL := [(.ref t_161), (.int (0 : Int32))]) (rest := [(.ref b160)]) (lenOf own_pd13 rfl) rfl (own_hW rfl) (hb hby own_d14_20) (fun _ _ => ⟨rfl, rfl, (by decide : 2 + 0 ≤ _), (by decide : 37 + 0 ≤ _)⟩)
  dsimp only [Pt.U, Pt.locs, Pt.cells, Pt.slots] at X162 l162 y162 z162 st162 hQ162
  subst y162 z162
  obtain ⟨rfl, N162q, Kq162, P162_0, P162_1⟩ := hQ162
  have N162 : Fr n0 L162 := by rw [l162]; exact Fr.app N161 N162q
  have K162 : Keep h0 T162.heap [] := K161.trans Kq162 (allS (P := fun x => x ∈ [] ∨ h0.size ≤ x) (Or.inr fr160) all0)
  refine own_tr st162 ?_
  show own_at p e below _ T162 m 23 #[oR a1, oI st_, oI ln_] [(.ref b160)]
  exact own_ret (w := (.ref b160)) X162 hx hnl Bd.returns rfl (Or.inr (Or.inr (Or.inr (Or.inr ⟨rfl, rfl, rfl⟩)))) (hb hby own_d14_23) ⟨b160, t_161, kt_161, rfl, N162, (K162), fr160, fr161_0, (((A160.keep Kq161).keep Kq162)), (P162_0), (P162_1), ((Aj.keep Kq162 (ninS (Ne.symm (Nat.ne_of_lt (Nat.lt_of_lt_of_le A160.lt P161_0))) nin0)))⟩ (by decide) (by decide)

theorem own_d23_0 : decode jdk_68_method_64_code 0 = .ok (.aload_n 0, 1) := by decide +kernel
theorem own_d23_1 : decode jdk_68_method_64_code 1 = .ok (.getfield 15, 3) := by decide +kernel
theorem own_d23_4 : decode jdk_68_method_64_code 4 = .ok (.areturn, 1) := by decide +kernel
theorem own_ef23 (m : MethodId) (x0 : Addr) : entryFrame m #[(.ref x0)] 1 = mkF m 0 #[.val (.ref x0)] [] := by first | (simp [entryFrame, mkF, argsToLocals, Value.category]; done) | rfl
def own_Q23 (Z : State) (a1 : Addr) (t : Addr) (h0 : Heap) (n0 : Nat) (v : Option Value) (h : Heap) (L : List Loc) : Prop := v = some (.ref t) ∧ Fr n0 L ∧ h = h0
set_option maxRecDepth 65536 in
set_option maxHeartbeats 40000000 in
theorem own_rm23 (l : Launch) (Z : State) (a0 : Array Value) (hw : ∀ d ∈ tables_1, d.before a0 Z = true) (ws : List Jvm.Cond) (a1 : Addr) (t : Addr) (h0 : Heap) (n0 : Nat) (Z0 : n0 ≤ h0.size) (q0 : Exa Z h0 a1 "java/lang/StringBuilder") (q1 : Fld Z h0 a1 "java/lang/AbstractStringBuilder" "value" "[B" (.ref t)) :
    MetFree l own_n21 (head1 (Jvm.Cond.code own_n21 jdk_68_method_64_code 1 (some (.array .byte)) :: ws) ({ frames := 0, cells := 0, slots := 0, locals := 0 } : Room)) (fun a U => a = #[(.ref a1)] ∧ Z.Warmed39 U.vm ∧ U.heap = h0) (fun _ _ _ _ _ => True) (fun _ U o U' => ∃ v L, o = .returned v ∧ own_Q23 Z a1 t h0 n0 v U'.heap L ∧ FrameEnd U o U' L ({ frames := 0, cells := 0, slots := 0, locals := 0 } : Room).cells ({ frames := 0, cells := 0, slots := 0, locals := 0 } : Room).slots) := by
  refine MetFree.of_bodySF (plainFor_of_name own_pn3) hisR ?_
  intro p e s m args below meth c s₁ Bd hml0 hP hK
  obtain ⟨rfl, hZ, hh⟩ := hP
  have hx := Bd.exec
  have hby := Bd.bytes
  have hml : c.maxLocals = 1 := hml0
  have hown : s.vm.findClass "java/lang/AbstractStringBuilder" = some m.cls := findClass_of_methodNamed Bd.named
  have hnm := (name_of_methodNamed Bd.named Bd.method).1
  have hnl : meth.locks = false := Bd.notSynchronized
  have X0 : Stand p l e ({ frames := 0, cells := 0, slots := 0, locals := 0 } : Room) s m #[(.ref a1)] below meth c s₁ [] 0 0 := Stand.of_body Bd
  have e0 : s₁.heap = h0 := by rw [← hh, Bd.state]; rfl
  have N0 := Fr.nil n0
  show own_Go p.tables e below (own_P below s (own_Q23 Z a1 t h0 n0) ({ frames := 0, cells := 0, slots := 0, locals := 0 } : Room).cells ({ frames := 0, cells := 0, slots := 0, locals := 0 } : Room).slots) _
  refine own_st (fun t_ k_ => castTop (own_ef23 m a1) k_) ?_
  refine own_st (fun t_ k_ => XS.aloadN X0.here hx rfl (hb hby own_d23_0) rfl rfl k_) ?_
  show own_at p e below _ s₁ m 1 #[oR a1] [(.ref a1)]
  obtain ⟨T163, X163, e163, st163⟩ := getF X0 hx hZ hown (host := "") (Or.inl (own_w hw 22 rfl)) Via.refl e0 q1 (g := (mkF m 1 #[oR a1] [(.ref a1)])) rfl rfl (hb hby own_d23_1)
  refine own_st (st163) ?_
  show own_at p e below _ T163 m 4 #[oR a1] [(.ref t)]
  exact own_ret (w := (.ref t)) X163 hx hnl Bd.returns rfl (Or.inr (Or.inr (Or.inr (Or.inr ⟨rfl, rfl, rfl⟩)))) (hb hby own_d23_4) ⟨rfl, N0, e163⟩ (by decide) (by decide)

theorem own_d25_0 : decode jdk_68_method_6_code 0 = .ok (.aload_n 0, 1) := by decide +kernel
theorem own_d25_1 : decode jdk_68_method_6_code 1 = .ok (.getfield 79, 3) := by decide +kernel
theorem own_d25_4 : decode jdk_68_method_6_code 4 = .ok (.ireturn, 1) := by decide +kernel
theorem own_ef25 (m : MethodId) (x0 : Addr) : entryFrame m #[(.ref x0)] 1 = mkF m 0 #[.val (.ref x0)] [] := by first | (simp [entryFrame, mkF, argsToLocals, Value.category]; done) | rfl
def own_Q25 (Z : State) (a1 : Addr) (cn_ : Int32) (h0 : Heap) (n0 : Nat) (v : Option Value) (h : Heap) (L : List Loc) : Prop := v = some (.int cn_) ∧ Fr n0 L ∧ h = h0
set_option maxRecDepth 65536 in
set_option maxHeartbeats 40000000 in
theorem own_rm25 (l : Launch) (Z : State) (a0 : Array Value) (hw : ∀ d ∈ tables_1, d.before a0 Z = true) (ws : List Jvm.Cond) (a1 : Addr) (cn_ : Int32) (h0 : Heap) (n0 : Nat) (Z0 : n0 ≤ h0.size) (q0 : Exa Z h0 a1 "java/lang/StringBuilder") (q1 : Fld Z h0 a1 "java/lang/AbstractStringBuilder" "count" "I" (.int cn_)) :
    MetFree l own_n22 (head1 (Jvm.Cond.code own_n22 jdk_68_method_6_code 1 (some .int) :: ws) ({ frames := 0, cells := 0, slots := 0, locals := 0 } : Room)) (fun a U => a = #[(.ref a1)] ∧ Z.Warmed39 U.vm ∧ U.heap = h0) (fun _ _ _ _ _ => True) (fun _ U o U' => ∃ v L, o = .returned v ∧ own_Q25 Z a1 cn_ h0 n0 v U'.heap L ∧ FrameEnd U o U' L ({ frames := 0, cells := 0, slots := 0, locals := 0 } : Room).cells ({ frames := 0, cells := 0, slots := 0, locals := 0 } : Room).slots) := by
  refine MetFree.of_bodySF (plainFor_of_name own_pn3) hisR ?_
  intro p e s m args below meth c s₁ Bd hml0 hP hK
  obtain ⟨rfl, hZ, hh⟩ := hP
  have hx := Bd.exec
  have hby := Bd.bytes
  have hml : c.maxLocals = 1 := hml0
  have hown : s.vm.findClass "java/lang/AbstractStringBuilder" = some m.cls := findClass_of_methodNamed Bd.named
  have hnm := (name_of_methodNamed Bd.named Bd.method).1
  have hnl : meth.locks = false := Bd.notSynchronized
  have X0 : Stand p l e ({ frames := 0, cells := 0, slots := 0, locals := 0 } : Room) s m #[(.ref a1)] below meth c s₁ [] 0 0 := Stand.of_body Bd
  have e0 : s₁.heap = h0 := by rw [← hh, Bd.state]; rfl
  have N0 := Fr.nil n0
  show own_Go p.tables e below (own_P below s (own_Q25 Z a1 cn_ h0 n0) ({ frames := 0, cells := 0, slots := 0, locals := 0 } : Room).cells ({ frames := 0, cells := 0, slots := 0, locals := 0 } : Room).slots) _
  refine own_st (fun t_ k_ => castTop (own_ef25 m a1) k_) ?_
  refine own_st (fun t_ k_ => XS.aloadN X0.here hx rfl (hb hby own_d25_0) rfl rfl k_) ?_
  show own_at p e below _ s₁ m 1 #[oR a1] [(.ref a1)]
  obtain ⟨T164, X164, e164, st164⟩ := getF X0 hx hZ hown (host := "") (Or.inl (own_w hw 55 rfl)) Via.refl e0 q1 (g := (mkF m 1 #[oR a1] [(.ref a1)])) rfl rfl (hb hby own_d25_1)
  refine own_st (st164) ?_
  show own_at p e below _ T164 m 4 #[oR a1] [(.int cn_)]
  exact own_ret (w := (.int cn_)) X164 hx hnl Bd.returns rfl (Or.inl ⟨rfl, by decide, _, rfl⟩) (hb hby own_d25_4) ⟨rfl, N0, e164⟩ (by decide) (by decide)

theorem own_d24_0 : decode jdk_67_method_93_code 0 = .ok (.aload_n 0, 1) := by decide +kernel
theorem own_d24_1 : decode jdk_67_method_93_code 1 = .ok (.invokespecial 343, 3) := by decide +kernel
theorem own_d24_4 : decode jdk_67_method_93_code 4 = .ok (.ireturn, 1) := by decide +kernel
theorem own_ef24 (m : MethodId) (x0 : Addr) : entryFrame m #[(.ref x0)] 1 = mkF m 0 #[.val (.ref x0)] [] := by first | (simp [entryFrame, mkF, argsToLocals, Value.category]; done) | rfl
def own_Q24 (Z : State) (a1 : Addr) (cn_ : Int32) (h0 : Heap) (n0 : Nat) (v : Option Value) (h : Heap) (L : List Loc) : Prop := v = some (.int cn_) ∧ Fr n0 L ∧ h = h0
set_option maxRecDepth 65536 in
set_option maxHeartbeats 40000000 in
theorem own_rm24 (l : Launch) (Z : State) (a0 : Array Value) (hw : ∀ d ∈ tables_1, d.before a0 Z = true) (ws : List Jvm.Cond) (a1 : Addr) (cn_ : Int32) (h0 : Heap) (n0 : Nat) (Z0 : n0 ≤ h0.size) (q0 : Exa Z h0 a1 "java/lang/StringBuilder") (q1 : Fld Z h0 a1 "java/lang/AbstractStringBuilder" "count" "I" (.int cn_)) :
    MetFree l own_n23 (head1 (Jvm.Cond.code own_n23 jdk_67_method_93_code 1 (some .int) :: ws) ({ frames := 1, cells := 0, slots := 0, locals := 12 } : Room)) (fun a U => a = #[(.ref a1)] ∧ Z.Warmed39 U.vm ∧ U.heap = h0) (fun _ _ _ _ _ => True) (fun _ U o U' => ∃ v L, o = .returned v ∧ own_Q24 Z a1 cn_ h0 n0 v U'.heap L ∧ FrameEnd U o U' L ({ frames := 1, cells := 0, slots := 0, locals := 12 } : Room).cells ({ frames := 1, cells := 0, slots := 0, locals := 12 } : Room).slots) := by
  refine MetFree.of_bodySF (plainFor_of_name own_pn4) hisR ?_
  intro p e s m args below meth c s₁ Bd hml0 hP hK
  obtain ⟨rfl, hZ, hh⟩ := hP
  have hx := Bd.exec
  have hby := Bd.bytes
  have hml : c.maxLocals = 1 := hml0
  have hown : s.vm.findClass "java/lang/StringBuilder" = some m.cls := findClass_of_methodNamed Bd.named
  have hnm := (name_of_methodNamed Bd.named Bd.method).1
  have hnl : meth.locks = false := Bd.notSynchronized
  have X0 : Stand p l e ({ frames := 1, cells := 0, slots := 0, locals := 12 } : Room) s m #[(.ref a1)] below meth c s₁ [] 0 0 := Stand.of_body Bd
  have e0 : s₁.heap = h0 := by rw [← hh, Bd.state]; rfl
  have N0 := Fr.nil n0
  show own_Go p.tables e below (own_P below s (own_Q24 Z a1 cn_ h0 n0) ({ frames := 1, cells := 0, slots := 0, locals := 12 } : Room).cells ({ frames := 1, cells := 0, slots := 0, locals := 12 } : Room).slots) _
  refine own_st (fun t_ k_ => castTop (own_ef24 m a1) k_) ?_
  refine own_st (fun t_ k_ => XS.aloadN X0.here hx rfl (hb hby own_d24_0) rfl rfl k_) ?_
  show own_at p e below _ s₁ m 1 #[oR a1] [(.ref a1)]
  obtain ⟨_, _, ⟨T165, L165, k165, n165⟩, -, X165, ⟨Lc165, hQ165, l165, y165, z165⟩, st165⟩ := superBack X0 hx hZ (y := own_n22) hown (own_w hw 136 rfl) (own_same (y := own_n22) (own_w hw 132 rfl) (own_w hw 60 rfl) rfl (by decide)) (own_w hw 132 rfl) (own_w hw 39 rfl) (by decide) (backOf (W := 0) (own_rm25 l Z a0 hw [] a1 cn_ h0 n0 (Nat.le_trans Z0 (Keep.refl h0 []).1) q0 q1) hZ (own_w hw 137 rfl) (own_w hw 14 rfl) (by decide) (by decide)) e0 (Ins.self q0) (g := (mkF m 1 #[oR a1] [(.ref a1)])) rfl (by rw [hml]; rfl) (own_w hw 137 rfl) (argsL := []) (rest := []) (lenOf own_pd8 rfl) rfl (own_hW rfl) (hb hby own_d24_1) (fun _ _ => ⟨rfl, e0, (by decide : 0 + 0 ≤ _), (by decide : 0 + 0 ≤ _)⟩)
  dsimp only [Pt.U, Pt.locs, Pt.cells, Pt.slots] at X165 l165 y165 z165 st165 hQ165
  subst y165 z165
  obtain ⟨rfl, N165q, eq165⟩ := hQ165
  have N165 : Fr n0 L165 := by rw [l165]; exact Fr.app N0 N165q
  refine own_tr st165 ?_
  show own_at p e below _ T165 m 4 #[oR a1] [(.int cn_)]
  exact own_ret (w := (.int cn_)) X165 hx hnl Bd.returns rfl (Or.inl ⟨rfl, by decide, _, rfl⟩) (hb hby own_d24_4) ⟨rfl, N165, eq165⟩ (by decide) (by decide)

theorem own_d26_0 : decode jdk_68_method_68_code 0 = .ok (.getstatic 18, 3) := by decide +kernel
theorem own_d26_3 : decode jdk_68_method_68_code 3 = .ok (.ifCond .eq 14, 3) := by decide +kernel
theorem own_d26_6 : decode jdk_68_method_68_code 6 = .ok (.aload_n 0, 1) := by decide +kernel
theorem own_d26_7 : decode jdk_68_method_68_code 7 = .ok (.getfield 22, 3) := by decide +kernel
theorem own_d26_10 : decode jdk_68_method_68_code 10 = .ok (.ifCond .ne 7, 3) := by decide +kernel
theorem own_d26_13 : decode jdk_68_method_68_code 13 = .ok (.iconst 1, 1) := by decide +kernel
theorem own_d26_14 : decode jdk_68_method_68_code 14 = .ok (.goto 4, 3) := by decide +kernel
theorem own_d26_18 : decode jdk_68_method_68_code 18 = .ok (.ireturn, 1) := by decide +kernel
theorem own_ef26 (m : MethodId) (x0 : Addr) : entryFrame m #[(.ref x0)] 1 = mkF m 0 #[.val (.ref x0)] [] := by first | (simp [entryFrame, mkF, argsToLocals, Value.category]; done) | rfl
def own_Q26 (Z : State) (a1 : Addr) (G1 : Int32) (h0 : Heap) (n0 : Nat) (v : Option Value) (h : Heap) (L : List Loc) : Prop := v = some (.int (1 : Int32)) ∧ Fr n0 L ∧ h = h0
set_option maxRecDepth 65536 in
set_option maxHeartbeats 40000000 in
theorem own_rm26 (l : Launch) (Z : State) (a0 : Array Value) (hw : ∀ d ∈ tables_1, d.before a0 Z = true) (ws : List Jvm.Cond) (a1 : Addr) (G1 : Int32) (h0 : Heap) (n0 : Nat) (Z0 : n0 ≤ h0.size) (q0 : Exa Z h0 a1 "java/lang/StringBuilder") (q1 : Fld Z h0 a1 "java/lang/AbstractStringBuilder" "coder" "B" (.int (0 : Int32))) (q2 : Old Z n0 h0) (q3 : Sta Z Z.heap "java/lang/String" "COMPACT_STRINGS" "Z" (.int G1)) (hG1 : (¬ G1 = (0 : Int32))) :
    MetFree l own_n24 (head1 (Jvm.Cond.code own_n24 jdk_68_method_68_code 1 (some .boolean) :: ws) ({ frames := 0, cells := 0, slots := 0, locals := 0 } : Room)) (fun a U => a = #[(.ref a1)] ∧ Z.Warmed39 U.vm ∧ U.heap = h0) (fun _ _ _ _ _ => True) (fun _ U o U' => ∃ v L, o = .returned v ∧ own_Q26 Z a1 G1 h0 n0 v U'.heap L ∧ FrameEnd U o U' L ({ frames := 0, cells := 0, slots := 0, locals := 0 } : Room).cells ({ frames := 0, cells := 0, slots := 0, locals := 0 } : Room).slots) := by
  refine MetFree.of_bodySF (plainFor_of_name own_pn3) hisR ?_
  intro p e s m args below meth c s₁ Bd hml0 hP hK
  obtain ⟨rfl, hZ, hh⟩ := hP
  have hx := Bd.exec
  have hby := Bd.bytes
  have hml : c.maxLocals = 1 := hml0
  have hown : s.vm.findClass "java/lang/AbstractStringBuilder" = some m.cls := findClass_of_methodNamed Bd.named
  have hnm := (name_of_methodNamed Bd.named Bd.method).1
  have hnl : meth.locks = false := Bd.notSynchronized
  have X0 : Stand p l e ({ frames := 0, cells := 0, slots := 0, locals := 0 } : Room) s m #[(.ref a1)] below meth c s₁ [] 0 0 := Stand.of_body Bd
  have e0 : s₁.heap = h0 := by rw [← hh, Bd.state]; rfl
  have N0 := Fr.nil n0
  show own_Go p.tables e below (own_P below s (own_Q26 Z a1 G1 h0 n0) ({ frames := 0, cells := 0, slots := 0, locals := 0 } : Room).cells ({ frames := 0, cells := 0, slots := 0, locals := 0 } : Room).slots) _
  refine own_st (fun t_ k_ => castTop (own_ef26 m a1) k_) ?_
  show own_at p e below _ s₁ m 0 #[oR a1] []
  obtain ⟨T166, X166, e166, st166⟩ := getS2 X0 hx hZ hown (host := "") (Or.inl (own_w hw 19 rfl)) Via.refl e0 (q3.ext q2.2) (g := (mkF m 0 #[oR a1] [])) rfl (hb hby own_d26_0)
  refine own_st (st166) ?_
  refine own_st (fun t_ k_ => XS.ifNo X166.here hx rfl (hb hby own_d26_3) rfl ((if0 _ _).trans (feq hG1).1) (XS.aloadN X166.here hx rfl (hb hby own_d26_6) rfl rfl k_)) ?_
  show own_at p e below _ T166 m 7 #[oR a1] [(.ref a1)]
  obtain ⟨T167, X167, e167, st167⟩ := getF X166 hx hZ hown (host := "") (Or.inl (own_w hw 24 rfl)) Via.refl e166 q1 (g := (mkF m 7 #[oR a1] [(.ref a1)])) rfl rfl (hb hby own_d26_7)
  refine own_st (st167) ?_
  refine own_st (fun t_ k_ => XS.ifNo X167.here hx rfl (hb hby own_d26_10) rfl ((if0 _ _).trans (teq (by decide : (0 : Int32) = (0 : Int32))).2) (XS.iconst X167.here hx rfl (hb hby own_d26_13) (XS.goto X167.here hx rfl (pc0 := 14) (pc' := 18) rfl (hb hby own_d26_14) (by decide) (by decide) k_))) ?_
  show own_at p e below _ T167 m 18 #[oR a1] [(.int (1 : Int32))]
  exact own_ret (w := (.int (1 : Int32))) X167 hx hnl Bd.returns rfl (Or.inl ⟨rfl, by decide, _, rfl⟩) (hb hby own_d26_18) ⟨rfl, N0, e167⟩ (by decide) (by decide)

theorem own_d22_0 : decode jdk_42_method_150_code 0 = .ok (.aload_n 0, 1) := by decide +kernel
theorem own_d22_1 : decode jdk_42_method_150_code 1 = .ok (.invokespecial 1, 3) := by decide +kernel
theorem own_d22_4 : decode jdk_42_method_150_code 4 = .ok (.aload_n 1, 1) := by decide +kernel
theorem own_d22_5 : decode jdk_42_method_150_code 5 = .ok (.invokevirtual 552, 3) := by decide +kernel
theorem own_d22_8 : decode jdk_42_method_150_code 8 = .ok (.astore_n 3, 1) := by decide +kernel
theorem own_d22_9 : decode jdk_42_method_150_code 9 = .ok (.aload_n 1, 1) := by decide +kernel
theorem own_d22_10 : decode jdk_42_method_150_code 10 = .ok (.invokevirtual 549, 3) := by decide +kernel
theorem own_d22_13 : decode jdk_42_method_150_code 13 = .ok (.istore 4, 2) := by decide +kernel
theorem own_d22_15 : decode jdk_42_method_150_code 15 = .ok (.aload_n 1, 1) := by decide +kernel
theorem own_d22_16 : decode jdk_42_method_150_code 16 = .ok (.invokevirtual 1047, 3) := by decide +kernel
theorem own_d22_19 : decode jdk_42_method_150_code 19 = .ok (.ifCond .eq 22, 3) := by decide +kernel
theorem own_d22_22 : decode jdk_42_method_150_code 22 = .ok (.aload_n 0, 1) := by decide +kernel
theorem own_d22_23 : decode jdk_42_method_150_code 23 = .ok (.iconst 0, 1) := by decide +kernel
theorem own_d22_24 : decode jdk_42_method_150_code 24 = .ok (.putfield 15, 3) := by decide +kernel
theorem own_d22_27 : decode jdk_42_method_150_code 27 = .ok (.aload_n 0, 1) := by decide +kernel
theorem own_d22_28 : decode jdk_42_method_150_code 28 = .ok (.aload_n 3, 1) := by decide +kernel
theorem own_d22_29 : decode jdk_42_method_150_code 29 = .ok (.iconst 0, 1) := by decide +kernel
theorem own_d22_30 : decode jdk_42_method_150_code 30 = .ok (.iload 4, 2) := by decide +kernel
theorem own_d22_32 : decode jdk_42_method_150_code 32 = .ok (.invokestatic 54, 3) := by decide +kernel
theorem own_d22_35 : decode jdk_42_method_150_code 35 = .ok (.putfield 9, 3) := by decide +kernel
theorem own_d22_38 : decode jdk_42_method_150_code 38 = .ok (.goto 59, 3) := by decide +kernel
theorem own_d22_97 : decode jdk_42_method_150_code 97 = .ok (.return_, 1) := by decide +kernel
theorem own_pd14 : parseMethodDescriptor "()[B" = some ⟨[], some (.array .byte)⟩ := by decide +kernel
theorem own_ef22 (m : MethodId) (x0 : Addr) (x1 : Addr) : entryFrame m #[(.ref x0), (.ref x1), .null] 5 = mkF m 0 #[.val (.ref x0), .val (.ref x1), .val .null, .unset, .unset] [] := by first | (simp [entryFrame, mkF, argsToLocals, Value.category]; done) | rfl
def own_Q22 (Z : State) (a1 : Addr) (a2 : Addr) (cn_ : Int32) (j1 : Nat) (t : Addr) (kt : ClassId) (gt : Nat → Int32) (G1 : Int32) (h0 : Heap) (n0 : Nat) (v : Option Value) (h : Heap) (L : List Loc) : Prop := ∃ (t2 : Addr) (k2 : ClassId), v = none ∧ Fr n0 L ∧ Keep h0 h [a1] ∧ h0.size ≤ t2 ∧ Fld Z h a1 "java/lang/String" "value" "[B" (.ref t2) ∧ Fld Z h a1 "java/lang/String" "coder" "B" (.int (0 : Int32)) ∧ own_A Z h t2 k2 .byte j1 (fun i => .int ((own_sf gt 0) i))
set_option maxRecDepth 65536 in
set_option maxHeartbeats 40000000 in
theorem own_rm22 (l : Launch) (Z : State) (a0 : Array Value) (hw : ∀ d ∈ tables_1, d.before a0 Z = true) (ws : List Jvm.Cond) (a1 : Addr) (a2 : Addr) (cn_ : Int32) (j1 : Nat) (t : Addr) (kt : ClassId) (gt : Nat → Int32) (G1 : Int32) (h0 : Heap) (n0 : Nat) (Z0 : n0 ≤ h0.size) (q0 : Exa Z h0 a1 "java/lang/String") (q1 : Fld Z h0 a1 "java/lang/String" "value" "[B" .null) (q2 : Fld Z h0 a1 "java/lang/String" "coder" "B" (.int (0 : Int32))) (q3 : n0 ≤ a1) (q4 : Exa Z h0 a2 "java/lang/StringBuilder") (q5 : Fld Z h0 a2 "java/lang/AbstractStringBuilder" "value" "[B" (.ref t)) (q6 : Fld Z h0 a2 "java/lang/AbstractStringBuilder" "coder" "B" (.int (0 : Int32))) (q7 : Fld Z h0 a2 "java/lang/AbstractStringBuilder" "count" "I" (.int cn_)) (q8 : own_A Z h0 t kt .byte 16 (fun i => .int (gt i))) (q9 : Old Z n0 h0) (q10 : Sta Z Z.heap "java/lang/String" "COMPACT_STRINGS" "Z" (.int G1)) (hG1 : (¬ G1 = (0 : Int32))) (hc2 : (cn_.toInt = (j1 : Int) ∧ 1 ≤ j1 ∧ j1 < 16)) :
    MetFree l own_n25 (head1 (Jvm.Cond.code own_n25 jdk_42_method_150_code 5 none :: ws) ({ frames := 3, cells := 1, slots := 33, locals := 71 } : Room)) (fun a U => a = #[(.ref a1), (.ref a2), .null] ∧ Z.Warmed39 U.vm ∧ U.heap = h0) (fun _ _ _ _ _ => True) (fun _ U o U' => ∃ v L, o = .returned v ∧ own_Q22 Z a1 a2 cn_ j1 t kt gt G1 h0 n0 v U'.heap L ∧ FrameEnd U o U' L ({ frames := 3, cells := 1, slots := 33, locals := 71 } : Room).cells ({ frames := 3, cells := 1, slots := 33, locals := 71 } : Room).slots) := by
  refine MetFree.of_bodySF (plainFor_of_name own_pn1) hisR ?_
  intro p e s m args below meth c s₁ Bd hml0 hP hK
  obtain ⟨rfl, hZ, hh⟩ := hP
  have hx := Bd.exec
  have hby := Bd.bytes
  have hml : c.maxLocals = 5 := hml0
  have hown : s.vm.findClass "java/lang/String" = some m.cls := findClass_of_methodNamed Bd.named
  have hnm := (name_of_methodNamed Bd.named Bd.method).1
  have hnl : meth.locks = false := Bd.notSynchronized
  have X0 : Stand p l e ({ frames := 3, cells := 1, slots := 33, locals := 71 } : Room) s m #[(.ref a1), (.ref a2), .null] below meth c s₁ [] 0 0 := Stand.of_body Bd
  have e0 : s₁.heap = h0 := by rw [← hh, Bd.state]; rfl
  have N0 := Fr.nil n0
  show own_Go p.tables e below (own_P below s (own_Q22 Z a1 a2 cn_ j1 t kt gt G1 h0 n0) ({ frames := 3, cells := 1, slots := 33, locals := 71 } : Room).cells ({ frames := 3, cells := 1, slots := 33, locals := 71 } : Room).slots) _
  refine own_st (fun t_ k_ => castTop (own_ef22 m a1 a2) k_) ?_
  refine own_st (fun t_ k_ => XS.aloadN X0.here hx rfl (hb hby own_d22_0) rfl rfl k_) ?_
  show own_at p e below _ s₁ m 1 #[oR a1, oR a2, oN, oU, oU] [(.ref a1)]
  obtain ⟨T168, X168, e168, st168⟩ := initO X0 hx hZ hown (own_w hw 112 rfl) (own_w hw 17 rfl) (own_w hw 18 rfl) e0 (g := (mkF m 1 #[oR a1, oR a2, oN, oU, oU] [(.ref a1)])) rfl (by rw [hml]; rfl) rfl (hb hby own_d22_1) (by decide) (W := 0) (own_hW rfl) (by decide)
  refine own_st (st168) ?_
  refine own_st (fun t_ k_ => XS.aloadN X168.here hx rfl (hb hby own_d22_4) rfl rfl k_) ?_
  show own_at p e below _ T168 m 5 #[oR a1, oR a2, oN, oU, oU] [(.ref a2)]
  obtain ⟨cq169, kq169, q169a, q169b, q169c⟩ := isOf hZ e168 q4
  obtain ⟨_, _, ⟨T169, L169, k169, n169⟩, -, X169, ⟨Lc169, hQ169, l169, y169, z169⟩, st169⟩ := X168.virtualBack hx (y := own_n21) (z := own_n21) hown (mvT hZ (own_w hw 125 rfl)) (mvT hZ (own_w hw 126 rfl)) (notFace_of_selects (args := #[]) (mvT hZ (own_w hw 128 rfl))) (mvT hZ (own_w hw 128 rfl)) (mvT hZ (own_w hw 127 rfl)) (by decide) (backOf (W := 0) (own_rm23 l Z a0 hw [] a2 t h0 n0 (Nat.le_trans Z0 (Keep.refl h0 [a1]).1) q4 q5) hZ (own_w hw 129 rfl) (own_w hw 14 rfl) (by decide) (by decide)) q169a q169c (g := (mkF m 5 #[oR a1, oR a2, oN, oU, oU] [(.ref a2)])) rfl (by rw [hml]; rfl) (Steps.refl _) (argsL := []) (rest := []) (lenOf own_pd14 rfl) rfl (own_hW rfl) (hb hby own_d22_5) (fun _ _ => ⟨rfl, e168, (by decide : 0 + 0 ≤ _), (by decide : 0 + 0 ≤ _)⟩)
  dsimp only [Pt.U, Pt.locs, Pt.cells, Pt.slots] at X169 l169 y169 z169 st169 hQ169
  subst y169 z169
  obtain ⟨rfl, N169q, eq169⟩ := hQ169
  have N169 : Fr n0 L169 := by rw [l169]; exact Fr.app N0 N169q
  refine own_tr st169 ?_
  refine own_st (fun t_ k_ => XS.astoreN X169.here hx rfl (hb hby own_d22_8) rfl rfl (l' := #[oR a1, oR a2, oN, oR t, oU]) rfl (XS.aloadN X169.here hx rfl (hb hby own_d22_9) rfl rfl k_)) ?_
  show own_at p e below _ T169 m 10 #[oR a1, oR a2, oN, oR t, oU] [(.ref a2)]
  obtain ⟨cq170, kq170, q170a, q170b, q170c⟩ := isOf hZ eq169 q4
  obtain ⟨_, _, ⟨T170, L170, k170, n170⟩, -, X170, ⟨Lc170, hQ170, l170, y170, z170⟩, st170⟩ := X169.virtualBack hx (y := own_n22) (z := own_n23) hown (mvT hZ (own_w hw 130 rfl)) (mvT hZ (own_w hw 131 rfl)) (own_nf (a0 := #[]) (mvT hZ (own_w hw 132 rfl)) (mvT hZ (own_w hw 60 rfl)) rfl) (mvT hZ (own_w hw 133 rfl)) (mvT hZ (own_w hw 134 rfl)) (by decide) (backOf (W := 0) (own_rm24 l Z a0 hw [] a2 cn_ h0 n0 (Nat.le_trans Z0 (Keep.refl h0 [a1]).1) q4 q7) hZ (own_w hw 135 rfl) (own_w hw 6 rfl) (by decide) (by decide)) q170a q170c (g := (mkF m 10 #[oR a1, oR a2, oN, oR t, oU] [(.ref a2)])) rfl (by rw [hml]; rfl) (Steps.refl _) (argsL := []) (rest := []) (lenOf own_pd8 rfl) rfl (own_hW rfl) (hb hby own_d22_10) (fun _ _ => ⟨rfl, eq169, (by decide : 0 + 0 ≤ _), (by decide : 0 + 0 ≤ _)⟩)
  dsimp only [Pt.U, Pt.locs, Pt.cells, Pt.slots] at X170 l170 y170 z170 st170 hQ170
  subst y170 z170
  obtain ⟨rfl, N170q, eq170⟩ := hQ170
  have N170 : Fr n0 L170 := by rw [l170]; exact Fr.app N169 N170q
  refine own_tr st170 ?_
  refine own_st (fun t_ k_ => XS.istore X170.here hx rfl (hb hby own_d22_13) rfl (l' := #[oR a1, oR a2, oN, oR t, oI cn_]) rfl (XS.aloadN X170.here hx rfl (hb hby own_d22_15) rfl rfl k_)) ?_
  show own_at p e below _ T170 m 16 #[oR a1, oR a2, oN, oR t, oI cn_] [(.ref a2)]
  obtain ⟨cq171, kq171, q171a, q171b, q171c⟩ := isOf hZ eq170 q4
  obtain ⟨_, _, ⟨T171, L171, k171, n171⟩, -, X171, ⟨Lc171, hQ171, l171, y171, z171⟩, st171⟩ := X170.virtualBack hx (y := own_n24) (z := own_n24) hown (mvT hZ (own_w hw 138 rfl)) (mvT hZ (own_w hw 139 rfl)) (notFace_of_selects (args := #[]) (mvT hZ (own_w hw 141 rfl))) (mvT hZ (own_w hw 141 rfl)) (mvT hZ (own_w hw 140 rfl)) (by decide) (backOf (W := 0) (own_rm26 l Z a0 hw [] a2 G1 h0 n0 (Nat.le_trans Z0 (Keep.refl h0 [a1]).1) q4 q6 q9 q10 hG1) hZ (own_w hw 142 rfl) (own_w hw 14 rfl) (by decide) (by decide)) q171a q171c (g := (mkF m 16 #[oR a1, oR a2, oN, oR t, oI cn_] [(.ref a2)])) rfl (by rw [hml]; rfl) (Steps.refl _) (argsL := []) (rest := []) (lenOf own_pd2 rfl) rfl (own_hW rfl) (hb hby own_d22_16) (fun _ _ => ⟨rfl, eq170, (by decide : 0 + 0 ≤ _), (by decide : 0 + 0 ≤ _)⟩)
  dsimp only [Pt.U, Pt.locs, Pt.cells, Pt.slots] at X171 l171 y171 z171 st171 hQ171
  subst y171 z171
  obtain ⟨rfl, N171q, eq171⟩ := hQ171
  have N171 : Fr n0 L171 := by rw [l171]; exact Fr.app N170 N171q
  refine own_tr st171 ?_
  refine own_st (fun t_ k_ => XS.ifNo X171.here hx rfl (hb hby own_d22_19) rfl ((if0 _ _).trans (feq (by decide : ¬ ((1 : Int32) = (0 : Int32)))).1) (XS.aloadN X171.here hx rfl (hb hby own_d22_22) rfl rfl (XS.iconst X171.here hx rfl (hb hby own_d22_23) k_))) ?_
  show own_at p e below _ T171 m 24 #[oR a1, oR a2, oN, oR t, oI cn_] [(.int (0 : Int32)), (.ref a1)]
  obtain ⟨T172, h172, X172, e172, W172, st172⟩ := putFN X171 hx hZ hown (own_w hw 54 rfl) Via.refl eq171 q2 q0 (Or.inr ⟨(own_w hw 29 rfl), rfl, hnm⟩) (own_w hw 27 rfl) (ty := .byte) (v' := (.int (0 : Int32))) (by decide) rfl rfl (g := (mkF m 24 #[oR a1, oR a2, oN, oR t, oI cn_] [(.int (0 : Int32)), (.ref a1)])) rfl rfl (hb hby own_d22_24)
  have Fw172 : Fld Z h172 a1 "java/lang/String" "coder" "B" (.int (0 : Int32)) := q2.same W172
  have N172 := Fr.snoc X172 N171 q3
  have K172 : Keep h0 h172 [a1] := (Keep.refl h0 [a1]).wr W172 (Or.inl (List.mem_of_getElem? (i := 0) rfl))
  refine own_st (st172) ?_
  refine own_st (fun t_ k_ => XS.aloadN X172.here hx rfl (hb hby own_d22_27) rfl rfl (XS.aloadN X172.here hx rfl (hb hby own_d22_28) rfl rfl (XS.iconst X172.here hx rfl (hb hby own_d22_29) (XS.iload X172.here hx rfl (hb hby own_d22_30) rfl k_)))) ?_
  show own_at p e below _ T172 m 32 #[oR a1, oR a2, oN, oR t, oI cn_] [(.int cn_), (.int (0 : Int32)), (.ref t), (.ref a1)]
  obtain ⟨_, _, ⟨T173, L173, k173, n173⟩, -, X173, ⟨Lc173, hQ173, l173, y173, z173⟩, st173⟩ := Jvm.LawKit.callS X172 hx (y := own_n18) hown (mvT hZ (own_w hw 143 rfl)) (mvT hZ (own_w hw 94 rfl)) (mvT hZ (own_w hw 95 rfl)) (mvT hZ (own_w hw 96 rfl)) (by decide) (backOf (W := 1) (own_rm15 l Z a0 hw [] t (0 : Int32) cn_ kt 16 gt 0 j1 h172 n0 (Nat.le_trans Z0 K172.1) (q8.other W172 (Ne.symm (own_neEA q0 q8 (own_w hw 27 rfl)))) ⟨(by decide), hc2.1, (by omega), (by omega), (by decide)⟩ (fun z_ => own_neI hc2.1 (by decide : (Int32.ofNat 16).toInt = ((16 : Nat) : Int)) (by omega) z_.2)) hZ (own_w hw 96 rfl) (own_w hw 95 rfl) (by decide) (by decide)) (g := (mkF m 32 #[oR a1, oR a2, oN, oR t, oI cn_] [(.int cn_), (.int (0 : Int32)), (.ref t), (.ref a1)])) rfl (by rw [hml]; rfl) (argsL := [(.ref t), (.int (0 : Int32)), (.int cn_)]) (rest := [(.ref a1)]) (lenOf own_pd12 rfl) rfl (own_hW rfl) (hb hby own_d22_32) (fun _ _ => ⟨rfl, e172, (by decide : 0 + 1 ≤ _), (by decide : 0 + 33 ≤ _)⟩)
  dsimp only [Pt.U, Pt.locs, Pt.cells, Pt.slots] at X173 l173 y173 z173 st173 hQ173
  subst y173 z173
  obtain ⟨t_173, kt_173, rfl, N173q, Kq173, P173_0, P173_1⟩ := hQ173
  have N173 : Fr n0 L173 := by rw [l173]; exact Fr.app N172 N173q
  have K173 : Keep h0 T173.heap [a1] := K172.trans Kq173 all0
  have fr173_0 : h0.size ≤ t_173 := Nat.le_trans K172.1 P173_0
  have ge173_0 : n0 ≤ t_173 := Nat.le_trans Z0 fr173_0
  refine own_st (st173) ?_
  show own_at p e below _ T173 m 35 #[oR a1, oR a2, oN, oR t, oI cn_] [(.ref t_173), (.ref a1)]
  have Aj174 : own_A Z T173.heap t_173 kt_173 .byte j1 (fun i => .int ((own_sf gt 0) i)) := by have z_ := P173_1; rw [Nat.sub_zero] at z_; exact z_
  have f175 : Fld Z T173.heap a1 "java/lang/String" "value" "[B" .null := ((q1.other W172 (Or.inr (slot_ne (Or.inr (own_w hw 28 rfl)) (Or.inr (own_w hw 29 rfl)) (by decide) (t := (.array .byte)) (t' := .byte) (by decide) (by decide)))).keep Kq173 nin0)
  obtain ⟨T176, h176, X176, e176, W176, st176⟩ := putF X173 hx hZ hown (host := "") (Or.inl (own_w hw 47 rfl)) Via.refl rfl f175 ((q0.wr W172).keep Kq173) (Or.inr ⟨(own_w hw 28 rfl), rfl, hnm⟩) (own_w hw 27 rfl) (ty := (.array .byte)) (by decide) rfl rfl (g := (mkF m 35 #[oR a1, oR a2, oN, oR t, oI cn_] [(.ref t_173), (.ref a1)])) rfl rfl (hb hby own_d22_35)
  have Fw176 : Fld Z h176 a1 "java/lang/String" "value" "[B" (.ref t_173) := f175.same W176
  have N176 := Fr.snoc X176 N173 q3
  have K176 : Keep h0 h176 [a1] := K173.wr W176 (Or.inl (List.mem_of_getElem? (i := 0) rfl))
  refine own_st (st176) ?_
  refine own_st (fun t_ k_ => XS.goto X176.here hx rfl (pc0 := 38) (pc' := 97) rfl (hb hby own_d22_38) (by decide) (by decide) k_) ?_
  show own_at p e below _ T176 m 97 #[oR a1, oR a2, oN, oR t, oI cn_] []
  have f177 : Fld Z h176 a1 "java/lang/String" "coder" "B" (.int (0 : Int32)) := ((Fw172.keep Kq173 nin0).other W176 (Or.inr (slot_ne (Or.inr (own_w hw 29 rfl)) (Or.inr (own_w hw 28 rfl)) (by decide) (t := .byte) (t' := (.array .byte)) (by decide) (by decide))))
  exact own_ret0 X176 hx hnl Bd.returns (hb hby own_d22_97) ⟨t_173, kt_173, rfl, N176, (by rw [e176]; exact K176), fr173_0, (by rw [e176]; exact Fw176), (by rw [e176]; exact f177), (by rw [e176]; exact (Aj174.other W176 (Ne.symm (Nat.ne_of_lt (Nat.lt_of_lt_of_le (q0.wr W172).lt P173_0)))))⟩ (by decide) (by decide)

theorem own_d21_0 : decode jdk_42_method_53_code 0 = .ok (.aload_n 0, 1) := by decide +kernel
theorem own_d21_1 : decode jdk_42_method_53_code 1 = .ok (.aload_n 1, 1) := by decide +kernel
theorem own_d21_2 : decode jdk_42_method_53_code 2 = .ok (.aconst_null, 1) := by decide +kernel
theorem own_d21_3 : decode jdk_42_method_53_code 3 = .ok (.invokespecial 489, 3) := by decide +kernel
theorem own_d21_6 : decode jdk_42_method_53_code 6 = .ok (.return_, 1) := by decide +kernel
theorem own_pd15 : parseMethodDescriptor "(Ljava/lang/AbstractStringBuilder;Ljava/lang/Void;)V" = some ⟨[(.object "java/lang/AbstractStringBuilder"), (.object "java/lang/Void")], none⟩ := by decide +kernel
theorem own_ef21 (m : MethodId) (x0 : Addr) (x1 : Addr) : entryFrame m #[(.ref x0), (.ref x1)] 2 = mkF m 0 #[.val (.ref x0), .val (.ref x1)] [] := by first | (simp [entryFrame, mkF, argsToLocals, Value.category]; done) | rfl
def own_Q21 (Z : State) (a1 : Addr) (a2 : Addr) (cn_ : Int32) (j1 : Nat) (t : Addr) (kt : ClassId) (gt : Nat → Int32) (G1 : Int32) (h0 : Heap) (n0 : Nat) (v : Option Value) (h : Heap) (L : List Loc) : Prop := ∃ (t2 : Addr) (k2 : ClassId), v = none ∧ Fr n0 L ∧ Keep h0 h [a1] ∧ h0.size ≤ t2 ∧ Fld Z h a1 "java/lang/String" "value" "[B" (.ref t2) ∧ Fld Z h a1 "java/lang/String" "coder" "B" (.int (0 : Int32)) ∧ own_A Z h t2 k2 .byte j1 (fun i => .int ((own_sf gt 0) i))
set_option maxRecDepth 65536 in
set_option maxHeartbeats 40000000 in
theorem own_rm21 (l : Launch) (Z : State) (a0 : Array Value) (hw : ∀ d ∈ tables_1, d.before a0 Z = true) (ws : List Jvm.Cond) (a1 : Addr) (a2 : Addr) (cn_ : Int32) (j1 : Nat) (t : Addr) (kt : ClassId) (gt : Nat → Int32) (G1 : Int32) (h0 : Heap) (n0 : Nat) (Z0 : n0 ≤ h0.size) (q0 : Exa Z h0 a1 "java/lang/String") (q1 : Fld Z h0 a1 "java/lang/String" "value" "[B" .null) (q2 : Fld Z h0 a1 "java/lang/String" "coder" "B" (.int (0 : Int32))) (q3 : n0 ≤ a1) (q4 : Exa Z h0 a2 "java/lang/StringBuilder") (q5 : Fld Z h0 a2 "java/lang/AbstractStringBuilder" "value" "[B" (.ref t)) (q6 : Fld Z h0 a2 "java/lang/AbstractStringBuilder" "coder" "B" (.int (0 : Int32))) (q7 : Fld Z h0 a2 "java/lang/AbstractStringBuilder" "count" "I" (.int cn_)) (q8 : own_A Z h0 t kt .byte 16 (fun i => .int (gt i))) (q9 : Old Z n0 h0) (q10 : Sta Z Z.heap "java/lang/String" "COMPACT_STRINGS" "Z" (.int G1)) (hG1 : (¬ G1 = (0 : Int32))) (hc2 : (cn_.toInt = (j1 : Int) ∧ 1 ≤ j1 ∧ j1 < 16)) :
    MetFree l own_n26 (head1 (Jvm.Cond.code own_n26 jdk_42_method_53_code 2 none :: ws) ({ frames := 4, cells := 1, slots := 33, locals := 87 } : Room)) (fun a U => a = #[(.ref a1), (.ref a2)] ∧ Z.Warmed39 U.vm ∧ U.heap = h0) (fun _ _ _ _ _ => True) (fun _ U o U' => ∃ v L, o = .returned v ∧ own_Q21 Z a1 a2 cn_ j1 t kt gt G1 h0 n0 v U'.heap L ∧ FrameEnd U o U' L ({ frames := 4, cells := 1, slots := 33, locals := 87 } : Room).cells ({ frames := 4, cells := 1, slots := 33, locals := 87 } : Room).slots) := by
  refine MetFree.of_bodySF (plainFor_of_name own_pn1) hisR ?_
  intro p e s m args below meth c s₁ Bd hml0 hP hK
  obtain ⟨rfl, hZ, hh⟩ := hP
  have hx := Bd.exec
  have hby := Bd.bytes
  have hml : c.maxLocals = 2 := hml0
  have hown : s.vm.findClass "java/lang/String" = some m.cls := findClass_of_methodNamed Bd.named
  have hnm := (name_of_methodNamed Bd.named Bd.method).1
  have hnl : meth.locks = false := Bd.notSynchronized
  have X0 : Stand p l e ({ frames := 4, cells := 1, slots := 33, locals := 87 } : Room) s m #[(.ref a1), (.ref a2)] below meth c s₁ [] 0 0 := Stand.of_body Bd
  have e0 : s₁.heap = h0 := by rw [← hh, Bd.state]; rfl
  have N0 := Fr.nil n0
  show own_Go p.tables e below (own_P below s (own_Q21 Z a1 a2 cn_ j1 t kt gt G1 h0 n0) ({ frames := 4, cells := 1, slots := 33, locals := 87 } : Room).cells ({ frames := 4, cells := 1, slots := 33, locals := 87 } : Room).slots) _
  refine own_st (fun t_ k_ => castTop (own_ef21 m a1 a2) k_) ?_
  refine own_st (fun t_ k_ => XS.aloadN X0.here hx rfl (hb hby own_d21_0) rfl rfl (XS.aloadN X0.here hx rfl (hb hby own_d21_1) rfl rfl (XS.aconstNull X0.here hx rfl (hb hby own_d21_2) k_))) ?_
  show own_at p e below _ s₁ m 3 #[oR a1, oR a2] [.null, (.ref a2), (.ref a1)]
  obtain ⟨_, _, ⟨T178, L178, k178, n178⟩, -, X178, ⟨Lc178, hQ178, l178, y178, z178⟩, st178⟩ := X0.specialBack hx (y := own_n25) rfl hown (mvT hZ (own_w hw 122 rfl)) (mvT hZ (own_w hw 123 rfl)) (mvT hZ (own_w hw 124 rfl)) (by decide) (backOf (W := 0) (own_rm22 l Z a0 hw [] a1 a2 cn_ j1 t kt gt G1 h0 n0 (Nat.le_trans Z0 (Keep.refl h0 [a1]).1) q0 q1 q2 q3 q4 q5 q6 q7 q8 q9 q10 hG1 hc2) hZ (own_w hw 124 rfl) (own_w hw 20 rfl) (by decide) (by decide)) (g := (mkF m 3 #[oR a1, oR a2] [.null, (.ref a2), (.ref a1)])) rfl (by rw [hml]; rfl) (Steps.refl _) (a := a1) (argsL := [(.ref a2), .null]) (rest := []) (lenOf own_pd15 rfl) rfl (own_hW rfl) (hb hby own_d21_3) (fun _ _ => ⟨rfl, e0, (by decide : 0 + 1 ≤ _), (by decide : 0 + 33 ≤ _)⟩)
  dsimp only [Pt.U, Pt.locs, Pt.cells, Pt.slots] at X178 l178 y178 z178 st178 hQ178
  subst y178 z178
  obtain ⟨t2_178, k2_178, rfl, N178q, Kq178, P178_0, P178_1, P178_2, P178_3⟩ := hQ178
  have N178 : Fr n0 L178 := by rw [l178]; exact Fr.app N0 N178q
  have K178 : Keep h0 T178.heap [a1] := (Keep.refl h0 [a1]).trans Kq178 (allS (P := fun x => x ∈ [a1] ∨ h0.size ≤ x) (Or.inl (List.mem_of_getElem? (i := 0) rfl)) all0)
  have fr178_0 : h0.size ≤ t2_178 := Nat.le_trans (Keep.refl h0 [a1]).1 P178_0
  have ge178_0 : n0 ≤ t2_178 := Nat.le_trans Z0 fr178_0
  refine own_tr st178 ?_
  show own_at p e below _ T178 m 6 #[oR a1, oR a2] []
  exact own_ret0 X178 hx hnl Bd.returns (hb hby own_d21_6) ⟨t2_178, k2_178, rfl, N178, (K178), fr178_0, (P178_1), (P178_2), (P178_3)⟩ (by decide) (by decide)

theorem own_d20_0 : decode jdk_67_method_42_code 0 = .ok (.new 18, 3) := by decide +kernel
theorem own_d20_3 : decode jdk_67_method_42_code 3 = .ok (.dup, 1) := by decide +kernel
theorem own_d20_4 : decode jdk_67_method_42_code 4 = .ok (.aload_n 0, 1) := by decide +kernel
theorem own_d20_5 : decode jdk_67_method_42_code 5 = .ok (.invokespecial 137, 3) := by decide +kernel
theorem own_d20_8 : decode jdk_67_method_42_code 8 = .ok (.areturn, 1) := by decide +kernel
theorem own_pd16 : parseMethodDescriptor "(Ljava/lang/StringBuilder;)V" = some ⟨[(.object "java/lang/StringBuilder")], none⟩ := by decide +kernel
theorem own_ef20 (m : MethodId) (x0 : Addr) : entryFrame m #[(.ref x0)] 1 = mkF m 0 #[.val (.ref x0)] [] := by first | (simp [entryFrame, mkF, argsToLocals, Value.category]; done) | rfl
def own_Q20 (Z : State) (a1 : Addr) (cn_ : Int32) (j1 : Nat) (t : Addr) (kt : ClassId) (gt : Nat → Int32) (G1 : Int32) (h0 : Heap) (n0 : Nat) (v : Option Value) (h : Heap) (L : List Loc) : Prop := ∃ (r : Addr) (t2 : Addr) (k2 : ClassId), v = some (.ref r) ∧ Fr n0 L ∧ Keep h0 h [] ∧ h0.size ≤ r ∧ h0.size ≤ t2 ∧ Exa Z h r "java/lang/String" ∧ Fld Z h r "java/lang/String" "value" "[B" (.ref t2) ∧ Fld Z h r "java/lang/String" "coder" "B" (.int (0 : Int32)) ∧ own_A Z h t2 k2 .byte j1 (fun i => .int ((own_sf gt 0) i))
set_option maxRecDepth 65536 in
set_option maxHeartbeats 40000000 in
theorem own_rm20 (l : Launch) (Z : State) (a0 : Array Value) (hw : ∀ d ∈ tables_1, d.before a0 Z = true) (ws : List Jvm.Cond) (a1 : Addr) (cn_ : Int32) (j1 : Nat) (t : Addr) (kt : ClassId) (gt : Nat → Int32) (G1 : Int32) (h0 : Heap) (n0 : Nat) (Z0 : n0 ≤ h0.size) (q0 : Exa Z h0 a1 "java/lang/StringBuilder") (q1 : Fld Z h0 a1 "java/lang/AbstractStringBuilder" "value" "[B" (.ref t)) (q2 : Fld Z h0 a1 "java/lang/AbstractStringBuilder" "coder" "B" (.int (0 : Int32))) (q3 : Fld Z h0 a1 "java/lang/AbstractStringBuilder" "count" "I" (.int cn_)) (q4 : own_A Z h0 t kt .byte 16 (fun i => .int (gt i))) (q5 : Old Z n0 h0) (q6 : Sta Z Z.heap "java/lang/String" "COMPACT_STRINGS" "Z" (.int G1)) (hG1 : (¬ G1 = (0 : Int32))) (hc2 : (cn_.toInt = (j1 : Int) ∧ 1 ≤ j1 ∧ j1 < 16)) :
    MetFree l own_n27 (head1 (Jvm.Cond.code own_n27 jdk_67_method_42_code 1 (some (.object "java/lang/String")) :: ws) ({ frames := 5, cells := 2, slots := 37, locals := 101 } : Room)) (fun a U => a = #[(.ref a1)] ∧ Z.Warmed39 U.vm ∧ U.heap = h0) (fun _ _ _ _ _ => True) (fun _ U o U' => ∃ v L, o = .returned v ∧ own_Q20 Z a1 cn_ j1 t kt gt G1 h0 n0 v U'.heap L ∧ FrameEnd U o U' L ({ frames := 5, cells := 2, slots := 37, locals := 101 } : Room).cells ({ frames := 5, cells := 2, slots := 37, locals := 101 } : Room).slots) := by
  refine MetFree.of_bodySF (plainFor_of_name own_pn4) hisR ?_
  intro p e s m args below meth c s₁ Bd hml0 hP hK
  obtain ⟨rfl, hZ, hh⟩ := hP
  have hx := Bd.exec
  have hby := Bd.bytes
  have hml : c.maxLocals = 1 := hml0
  have hown : s.vm.findClass "java/lang/StringBuilder" = some m.cls := findClass_of_methodNamed Bd.named
  have hnm := (name_of_methodNamed Bd.named Bd.method).1
  have hnl : meth.locks = false := Bd.notSynchronized
  have X0 : Stand p l e ({ frames := 5, cells := 2, slots := 37, locals := 101 } : Room) s m #[(.ref a1)] below meth c s₁ [] 0 0 := Stand.of_body Bd
  have e0 : s₁.heap = h0 := by rw [← hh, Bd.state]; rfl
  have N0 := Fr.nil n0
  show own_Go p.tables e below (own_P below s (own_Q20 Z a1 cn_ j1 t kt gt G1 h0 n0) ({ frames := 5, cells := 2, slots := 37, locals := 101 } : Room).cells ({ frames := 5, cells := 2, slots := 37, locals := 101 } : Room).slots) _
  refine own_st (fun t_ k_ => castTop (own_ef20 m a1) k_) ?_
  show own_at p e below _ s₁ m 0 #[oR a1] []
  obtain ⟨T179, h179, X179, e179, E179, A179, D179, -, st179⟩ := newO X0 hx hZ hown (own_w hw 118 rfl) (own_w hw 27 rfl) (own_w hw 20 rfl) e0 (g := (mkF m 0 #[oR a1] [])) rfl (hb hby own_d20_0) (by decide) (by decide)
  obtain ⟨b179, g179⟩ : ∃ z, z = h0.size := ⟨_, rfl⟩
  rw [← g179] at A179 D179 st179
  have fr179 : h0.size ≤ b179 := Nat.le_trans (Keep.refl h0 []).1 (Nat.le_of_eq g179.symm)
  have ge179 : n0 ≤ b179 := Nat.le_trans Z0 fr179
  have K179 : Keep h0 h179 [] := (Keep.refl h0 []).ext E179
  have F179_28 : Fld Z h179 b179 "java/lang/String" "value" "[B" .null := D179 (Or.inr (own_w hw 28 rfl)) (ty := (.array .byte)) (by decide)
  have F179_29 : Fld Z h179 b179 "java/lang/String" "coder" "B" (.int (0 : Int32)) := D179 (Or.inr (own_w hw 29 rfl)) (ty := .byte) (by decide)
  refine own_st (st179) ?_
  refine own_st (fun t_ k_ => XS.dup X179.here hx rfl (hb hby own_d20_3) rfl rfl (XS.aloadN X179.here hx rfl (hb hby own_d20_4) rfl rfl k_)) ?_
  show own_at p e below _ T179 m 5 #[oR a1] [(.ref a1), (.ref b179), (.ref b179)]
  obtain ⟨_, _, ⟨T180, L180, k180, n180⟩, -, X180, ⟨Lc180, hQ180, l180, y180, z180⟩, st180⟩ := X179.specialBack hx (y := own_n26) rfl hown (mvT hZ (own_w hw 119 rfl)) (mvT hZ (own_w hw 120 rfl)) (mvT hZ (own_w hw 121 rfl)) (by decide) (backOf (W := 1) (own_rm21 l Z a0 hw [] b179 a1 cn_ j1 t kt gt G1 h179 n0 (Nat.le_trans Z0 K179.1) A179 F179_28 F179_29 ge179 (q0.ext E179) (q1.ext E179) (q2.ext E179) (q3.ext E179) (q4.ext E179) (q5.ext E179) q6 hG1 hc2) hZ (own_w hw 121 rfl) (own_w hw 20 rfl) (by decide) (by decide)) (g := (mkF m 5 #[oR a1] [(.ref a1), (.ref b179), (.ref b179)])) rfl (by rw [hml]; rfl) (Steps.refl _) (a := b179) (argsL := [(.ref a1)]) (rest := [(.ref b179)]) (lenOf own_pd16 rfl) rfl (own_hW rfl) (hb hby own_d20_5) (fun _ _ => ⟨rfl, e179, (by decide : 1 + 1 ≤ _), (by decide : 4 + 33 ≤ _)⟩)
  dsimp only [Pt.U, Pt.locs, Pt.cells, Pt.slots] at X180 l180 y180 z180 st180 hQ180
  subst y180 z180
  obtain ⟨t2_180, k2_180, rfl, N180q, Kq180, P180_0, P180_1, P180_2, P180_3⟩ := hQ180
  have N180 : Fr n0 L180 := by rw [l180]; exact Fr.app N0 N180q
  have K180 : Keep h0 T180.heap [] := K179.trans Kq180 (allS (P := fun x => x ∈ [] ∨ h0.size ≤ x) (Or.inr fr179) all0)
  have fr180_0 : h0.size ≤ t2_180 := Nat.le_trans K179.1 P180_0
  have ge180_0 : n0 ≤ t2_180 := Nat.le_trans Z0 fr180_0
  refine own_tr st180 ?_
  show own_at p e below _ T180 m 8 #[oR a1] [(.ref b179)]
  exact own_ret (w := (.ref b179)) X180 hx hnl Bd.returns rfl (Or.inr (Or.inr (Or.inr (Or.inr ⟨rfl, rfl, rfl⟩)))) (hb hby own_d20_8) ⟨b179, t2_180, k2_180, rfl, N180, (K180), fr179, fr180_0, ((A179.keep Kq180)), (P180_1), (P180_2), (P180_3)⟩ (by decide) (by decide)

theorem own_d13_0 : decode jdk_33_method_1_code 0 = .ok (.iload_n 1, 1) := by decide +kernel
theorem own_d13_1 : decode jdk_33_method_1_code 1 = .ok (.iconst 2, 1) := by decide +kernel
theorem own_d13_2 : decode jdk_33_method_1_code 2 = .ok (.if_icmp .lt 9, 3) := by decide +kernel
theorem own_d13_5 : decode jdk_33_method_1_code 5 = .ok (.iload_n 1, 1) := by decide +kernel
theorem own_d13_6 : decode jdk_33_method_1_code 6 = .ok (.bipush 36, 2) := by decide +kernel
theorem own_d13_8 : decode jdk_33_method_1_code 8 = .ok (.if_icmp .le 6, 3) := by decide +kernel
theorem own_d13_14 : decode jdk_33_method_1_code 14 = .ok (.iload_n 1, 1) := by decide +kernel
theorem own_d13_15 : decode jdk_33_method_1_code 15 = .ok (.bipush 10, 2) := by decide +kernel
theorem own_d13_17 : decode jdk_33_method_1_code 17 = .ok (.if_icmp .ne 8, 3) := by decide +kernel
theorem own_d13_25 : decode jdk_33_method_1_code 25 = .ok (.getstatic 13, 3) := by decide +kernel
theorem own_d13_28 : decode jdk_33_method_1_code 28 = .ok (.ifCond .eq 94, 3) := by decide +kernel
theorem own_d13_31 : decode jdk_33_method_1_code 31 = .ok (.bipush 33, 2) := by decide +kernel
theorem own_d13_33 : decode jdk_33_method_1_code 33 = .ok (.newarray .byte, 2) := by decide +kernel
theorem own_d13_35 : decode jdk_33_method_1_code 35 = .ok (.astore_n 2, 1) := by decide +kernel
theorem own_d13_36 : decode jdk_33_method_1_code 36 = .ok (.iload_n 0, 1) := by decide +kernel
theorem own_d13_37 : decode jdk_33_method_1_code 37 = .ok (.ifCond .ge 7, 3) := by decide +kernel
theorem own_d13_40 : decode jdk_33_method_1_code 40 = .ok (.iconst 1, 1) := by decide +kernel
theorem own_d13_41 : decode jdk_33_method_1_code 41 = .ok (.goto 4, 3) := by decide +kernel
theorem own_d13_44 : decode jdk_33_method_1_code 44 = .ok (.iconst 0, 1) := by decide +kernel
theorem own_d13_45 : decode jdk_33_method_1_code 45 = .ok (.istore_n 3, 1) := by decide +kernel
theorem own_d13_46 : decode jdk_33_method_1_code 46 = .ok (.bipush 32, 2) := by decide +kernel
theorem own_d13_48 : decode jdk_33_method_1_code 48 = .ok (.istore 4, 2) := by decide +kernel
theorem own_d13_50 : decode jdk_33_method_1_code 50 = .ok (.iload_n 3, 1) := by decide +kernel
theorem own_d13_51 : decode jdk_33_method_1_code 51 = .ok (.ifCond .ne 6, 3) := by decide +kernel
theorem own_d13_54 : decode jdk_33_method_1_code 54 = .ok (.iload_n 0, 1) := by decide +kernel
theorem own_d13_55 : decode jdk_33_method_1_code 55 = .ok (.ineg, 1) := by decide +kernel
theorem own_d13_56 : decode jdk_33_method_1_code 56 = .ok (.istore_n 0, 1) := by decide +kernel
theorem own_d13_57 : decode jdk_33_method_1_code 57 = .ok (.iload_n 0, 1) := by decide +kernel
theorem own_d13_58 : decode jdk_33_method_1_code 58 = .ok (.iload_n 1, 1) := by decide +kernel
theorem own_d13_59 : decode jdk_33_method_1_code 59 = .ok (.ineg, 1) := by decide +kernel
theorem own_d13_60 : decode jdk_33_method_1_code 60 = .ok (.if_icmp .gt 26, 3) := by decide +kernel
theorem own_d13_63 : decode jdk_33_method_1_code 63 = .ok (.aload_n 2, 1) := by decide +kernel
theorem own_d13_64 : decode jdk_33_method_1_code 64 = .ok (.iload 4, 2) := by decide +kernel
theorem own_d13_66 : decode jdk_33_method_1_code 66 = .ok (.iinc 4 (-1), 3) := by decide +kernel
theorem own_d13_69 : decode jdk_33_method_1_code 69 = .ok (.getstatic 17, 3) := by decide +kernel
theorem own_d13_72 : decode jdk_33_method_1_code 72 = .ok (.iload_n 0, 1) := by decide +kernel
theorem own_d13_73 : decode jdk_33_method_1_code 73 = .ok (.iload_n 1, 1) := by decide +kernel
theorem own_d13_74 : decode jdk_33_method_1_code 74 = .ok (.irem, 1) := by decide +kernel
theorem own_d13_75 : decode jdk_33_method_1_code 75 = .ok (.ineg, 1) := by decide +kernel
theorem own_d13_76 : decode jdk_33_method_1_code 76 = .ok (.caload, 1) := by decide +kernel
theorem own_d13_77 : decode jdk_33_method_1_code 77 = .ok (.i2b, 1) := by decide +kernel
theorem own_d13_78 : decode jdk_33_method_1_code 78 = .ok (.bastore, 1) := by decide +kernel
theorem own_d13_79 : decode jdk_33_method_1_code 79 = .ok (.iload_n 0, 1) := by decide +kernel
theorem own_d13_80 : decode jdk_33_method_1_code 80 = .ok (.iload_n 1, 1) := by decide +kernel
theorem own_d13_81 : decode jdk_33_method_1_code 81 = .ok (.idiv, 1) := by decide +kernel
theorem own_d13_82 : decode jdk_33_method_1_code 82 = .ok (.istore_n 0, 1) := by decide +kernel
theorem own_d13_83 : decode jdk_33_method_1_code 83 = .ok (.goto (-26), 3) := by decide +kernel
theorem own_d13_86 : decode jdk_33_method_1_code 86 = .ok (.aload_n 2, 1) := by decide +kernel
theorem own_d13_87 : decode jdk_33_method_1_code 87 = .ok (.iload 4, 2) := by decide +kernel
theorem own_d13_89 : decode jdk_33_method_1_code 89 = .ok (.getstatic 17, 3) := by decide +kernel
theorem own_d13_92 : decode jdk_33_method_1_code 92 = .ok (.iload_n 0, 1) := by decide +kernel
theorem own_d13_93 : decode jdk_33_method_1_code 93 = .ok (.ineg, 1) := by decide +kernel
theorem own_d13_94 : decode jdk_33_method_1_code 94 = .ok (.caload, 1) := by decide +kernel
theorem own_d13_95 : decode jdk_33_method_1_code 95 = .ok (.i2b, 1) := by decide +kernel
theorem own_d13_96 : decode jdk_33_method_1_code 96 = .ok (.bastore, 1) := by decide +kernel
theorem own_d13_97 : decode jdk_33_method_1_code 97 = .ok (.iload_n 3, 1) := by decide +kernel
theorem own_d13_98 : decode jdk_33_method_1_code 98 = .ok (.ifCond .eq 12, 3) := by decide +kernel
theorem own_d13_101 : decode jdk_33_method_1_code 101 = .ok (.aload_n 2, 1) := by decide +kernel
theorem own_d13_102 : decode jdk_33_method_1_code 102 = .ok (.iinc 4 (-1), 3) := by decide +kernel
theorem own_d13_105 : decode jdk_33_method_1_code 105 = .ok (.iload 4, 2) := by decide +kernel
theorem own_d13_107 : decode jdk_33_method_1_code 107 = .ok (.bipush 45, 2) := by decide +kernel
theorem own_d13_109 : decode jdk_33_method_1_code 109 = .ok (.bastore, 1) := by decide +kernel
theorem own_d13_110 : decode jdk_33_method_1_code 110 = .ok (.aload_n 2, 1) := by decide +kernel
theorem own_d13_111 : decode jdk_33_method_1_code 111 = .ok (.iload 4, 2) := by decide +kernel
theorem own_d13_113 : decode jdk_33_method_1_code 113 = .ok (.bipush 33, 2) := by decide +kernel
theorem own_d13_115 : decode jdk_33_method_1_code 115 = .ok (.iload 4, 2) := by decide +kernel
theorem own_d13_117 : decode jdk_33_method_1_code 117 = .ok (.isub, 1) := by decide +kernel
theorem own_d13_118 : decode jdk_33_method_1_code 118 = .ok (.invokestatic 21, 3) := by decide +kernel
theorem own_d13_121 : decode jdk_33_method_1_code 121 = .ok (.areturn, 1) := by decide +kernel
theorem own_pn6 : plainName "java/lang/Integer" = true := by first | (simp [plainName, overriddenIn]; done) | decide +kernel
theorem own_pd17 : parseMethodDescriptor "([BII)Ljava/lang/String;" = some ⟨[(.array .byte), .int, .int], some (.object "java/lang/String")⟩ := by decide +kernel
theorem own_ef13 (m : MethodId) (x0 : Int32) (x1 : Int32) : entryFrame m #[(.int x0), (.int x1)] 5 = mkF m 0 #[.val (.int x0), .val (.int x1), .unset, .unset, .unset] [] := by first | (simp [entryFrame, mkF, argsToLocals, Value.category]; done) | rfl
def own_Q13 (Z : State) (r_ : Int32) (G1 : Int32) (ad : Addr) (kd : ClassId) (h0 : Heap) (n0 : Nat) (v : Option Value) (h : Heap) (L : List Loc) : Prop := ∃ (r : Addr) (t : Addr) (kt : ClassId) (n : Nat), v = some (.ref r) ∧ Fr n0 L ∧ Keep h0 h [] ∧ h0.size ≤ r ∧ h0.size ≤ t ∧ Exa Z h r "java/lang/String" ∧ Fld Z h r "java/lang/String" "value" "[B" (.ref t) ∧ Fld Z h r "java/lang/String" "coder" "B" (.int (0 : Int32)) ∧ own_A Z h t kt .byte (own_sg r_ + n) (fun i => .int ((own_tb (own_sg r_) n r_.toInt.natAbs) i)) ∧ (1 ≤ n ∧ n ≤ 6 ∧ r_.toInt.natAbs < 36 ^ n ∧ (n = 1 ∨ 36 ^ (n - 1) ≤ r_.toInt.natAbs))
set_option maxRecDepth 65536 in
set_option maxHeartbeats 40000000 in
theorem own_rm13 (l : Launch) (Z : State) (a0 : Array Value) (hw : ∀ d ∈ tables_1, d.before a0 Z = true) (ws : List Jvm.Cond) (r_ : Int32) (G1 : Int32) (ad : Addr) (kd : ClassId) (h0 : Heap) (n0 : Nat) (Z0 : n0 ≤ h0.size) (q0 : Old Z n0 h0) (q1 : Sta Z Z.heap "java/lang/String" "COMPACT_STRINGS" "Z" (.int G1)) (hG1 : (¬ G1 = (0 : Int32))) (q3 : Sta Z Z.heap "java/lang/Integer" "digits" "[C" (.ref ad)) (q4 : own_A Z Z.heap ad kd .char 36 (fun i => .int (own_dg i))) :
    MetFree l own_n28 (head1 (Jvm.Cond.code own_n28 jdk_33_method_1_code 5 (some (.object "java/lang/String")) :: ws) ({ frames := 4, cells := 3, slots := 70, locals := 86 } : Room)) (fun a U => a = #[(.int r_), (.int (36 : Int32))] ∧ Z.Warmed39 U.vm ∧ U.heap = h0) (fun _ _ _ _ _ => True) (fun _ U o U' => ∃ v L, o = .returned v ∧ own_Q13 Z r_ G1 ad kd h0 n0 v U'.heap L ∧ FrameEnd U o U' L ({ frames := 4, cells := 3, slots := 70, locals := 86 } : Room).cells ({ frames := 4, cells := 3, slots := 70, locals := 86 } : Room).slots) := by
  refine MetFree.of_bodySF (plainFor_of_name own_pn6) hisR ?_
  intro p e s m args below meth c s₁ Bd hml0 hP hK
  obtain ⟨rfl, hZ, hh⟩ := hP
  have hx := Bd.exec
  have hby := Bd.bytes
  have hml : c.maxLocals = 5 := hml0
  have hown : s.vm.findClass "java/lang/Integer" = some m.cls := findClass_of_methodNamed Bd.named
  have hnm := (name_of_methodNamed Bd.named Bd.method).1
  have hnl : meth.locks = false := Bd.notSynchronized
  have X0 : Stand p l e ({ frames := 4, cells := 3, slots := 70, locals := 86 } : Room) s m #[(.int r_), (.int (36 : Int32))] below meth c s₁ [] 0 0 := Stand.of_body Bd
  have e0 : s₁.heap = h0 := by rw [← hh, Bd.state]; rfl
  have N0 := Fr.nil n0
  show own_Go p.tables e below (own_P below s (own_Q13 Z r_ G1 ad kd h0 n0) ({ frames := 4, cells := 3, slots := 70, locals := 86 } : Room).cells ({ frames := 4, cells := 3, slots := 70, locals := 86 } : Room).slots) _
  refine own_st (fun t_ k_ => castTop (own_ef13 m r_ (36 : Int32)) k_) ?_
  refine own_st (fun t_ k_ => XS.iloadN X0.here hx rfl (hb hby own_d13_0) rfl (XS.iconst X0.here hx rfl (hb hby own_d13_1) (XS.icmpNo X0.here hx rfl (hb hby own_d13_2) rfl (flt (by decide : ¬ ((36 : Int32) < (2 : Int32)))).1 (XS.iloadN X0.here hx rfl (hb hby own_d13_5) rfl (XS.bipush X0.here hx rfl (hb hby own_d13_6) (XS.icmpYes X0.here hx rfl (pc0 := 8) (pc' := 14) rfl (hb hby own_d13_8) rfl (flt (by decide : ¬ ((36 : Int32) < (36 : Int32)))).2.2.2 (by decide) (by decide) k_)))))) ?_
  show own_at p e below _ s₁ m 14 #[oI r_, oI (36 : Int32), oU, oU, oU] []
  refine own_st (fun t_ k_ => XS.iloadN X0.here hx rfl (hb hby own_d13_14) rfl (XS.bipush X0.here hx rfl (hb hby own_d13_15) (XS.icmpYes X0.here hx rfl (pc0 := 17) (pc' := 25) rfl (hb hby own_d13_17) rfl (feq (by decide : ¬ ((36 : Int32) = (10 : Int32)))).2 (by decide) (by decide) k_))) ?_
  show own_at p e below _ s₁ m 25 #[oI r_, oI (36 : Int32), oU, oU, oU] []
  obtain ⟨T181, X181, e181, st181⟩ := getS2 X0 hx hZ hown (host := "") (Or.inl (own_w hw 86 rfl)) Via.refl e0 (q1.ext q0.2) (g := (mkF m 25 #[oI r_, oI (36 : Int32), oU, oU, oU] [])) rfl (hb hby own_d13_25)
  refine own_st (st181) ?_
  refine own_st (fun t_ k_ => XS.ifNo X181.here hx rfl (hb hby own_d13_28) rfl ((if0 _ _).trans (feq hG1).1) (XS.bipush X181.here hx rfl (hb hby own_d13_31) k_)) ?_
  show own_at p e below _ T181 m 33 #[oI r_, oI (36 : Int32), oU, oU, oU] [(.int (33 : Int32))]
  obtain ⟨T182, h182, k182, X182, e182, E182, A182, st182⟩ := newP X181 hx hZ (own_w hw 21 rfl) e181 (g := (mkF m 33 #[oI r_, oI (36 : Int32), oU, oU, oU] [(.int (33 : Int32))])) rfl (hb hby own_d13_33) rfl (by decide) (cap := 33) (by decide) (by decide) (by decide) (by decide)
  obtain ⟨b182, g182⟩ : ∃ z, z = h0.size := ⟨_, rfl⟩
  rw [← g182] at A182 st182
  have fr182 : h0.size ≤ b182 := Nat.le_trans (Keep.refl h0 []).1 (Nat.le_of_eq g182.symm)
  have ge182 : n0 ≤ b182 := Nat.le_trans Z0 fr182
  have K182 : Keep h0 h182 [] := (Keep.refl h0 []).ext E182
  have Ar182 : own_A Z h182 b182 k182 .byte 33 (fun i => .int ((fun _ => (0 : Int32)) i)) := own_A.new A182 rfl (by decide)
  refine own_st (st182) ?_
  refine own_st (fun t_ k_ => XS.astoreN X182.here hx rfl (hb hby own_d13_35) rfl rfl (l' := #[oI r_, oI (36 : Int32), oR b182, oU, oU]) rfl (XS.iloadN X182.here hx rfl (hb hby own_d13_36) rfl k_)) ?_
  show own_at p e below _ T182 m 37 #[oI r_, oI (36 : Int32), oR b182, oU, oU] [(.int r_)]
  by_cases c37_183 : r_ < (0 : Int32)
  · skip
    refine own_st (fun t_ k_ => XS.ifNo X182.here hx rfl (hb hby own_d13_37) rfl ((if0 _ _).trans (tlt c37_183).2.1) (XS.iconst X182.here hx rfl (hb hby own_d13_40) (XS.goto X182.here hx rfl (pc0 := 41) (pc' := 45) rfl (hb hby own_d13_41) (by decide) (by decide) (XS.istoreN X182.here hx rfl (hb hby own_d13_45) rfl (l' := #[oI r_, oI (36 : Int32), oR b182, oI (1 : Int32), oU]) rfl (XS.bipush X182.here hx rfl (hb hby own_d13_46) (XS.istore X182.here hx rfl (hb hby own_d13_48) rfl (l' := #[oI r_, oI (36 : Int32), oR b182, oI (1 : Int32), oI (32 : Int32)]) rfl k_)))))) ?_
    show own_at p e below _ T182 m 50 #[oI r_, oI (36 : Int32), oR b182, oI (1 : Int32), oI (32 : Int32)] []
    refine own_st (fun t_ k_ => XS.iloadN X182.here hx rfl (hb hby own_d13_50) rfl (XS.ifYes X182.here hx rfl (pc0 := 51) (pc' := 57) rfl (hb hby own_d13_51) rfl ((if0 _ _).trans (feq (by decide : ¬ ((1 : Int32) = (0 : Int32)))).2) (by decide) (by decide) k_)) ?_
    show own_at p e below _ T182 m 57 #[oI r_, oI (36 : Int32), oR b182, oI (1 : Int32), oI (32 : Int32)] []
    have z0 : (0 : Int32).toInt = 0 := by decide
    have hlt := c37_183
    rw [Int32.lt_iff_toInt_lt, z0] at hlt
    have rr := rng32 r_
    obtain ⟨V, hV⟩ : ∃ z, z = r_.toInt.natAbs := ⟨_, rfl⟩
    have hV31 : V ≤ 2147483648 := by omega
    have hi0 : (r_).toInt = -(V : Int) := by omega
    have qb0 : own_A Z h182 b182 k182 .byte 33 (fun i => .int ((own_lb V 0) i)) := Ar182.congr (fun q _ => by rw [own_lb0])
    have loop184 : ∀ (mm : Nat) (k : Nat) (i : Int32) (cq : Int32) (T184 : State) (Lo184 : List Loc) (h184 : Heap), 6 - k = mm → Stand p l e ({ frames := 4, cells := 3, slots := 70, locals := 86 } : Room) s m #[(.int r_), (.int (36 : Int32))] below meth c T184 Lo184 1 33 → T184.heap = h184 → Fr n0 Lo184 → Keep h0 h184 [] → Old Z n0 h184 → own_A Z h184 b182 k182 .byte 33 (fun i => .int ((own_lb V k) i)) → (i.toInt = -((V / 36 ^ k : Nat) : Int)) → (cq.toInt = ((32 - k : Nat) : Int)) → (k ≤ 5) → (k = 0 ∨ 36 ^ k ≤ V) → own_Go p.tables e below (own_P below s (own_Q13 Z r_ G1 ad kd h0 n0) ({ frames := 4, cells := 3, slots := 70, locals := 86 } : Room).cells ({ frames := 4, cells := 3, slots := 70, locals := 86 } : Room).slots) (T184.setTop (mkF m 57 #[oI i, oI (36 : Int32), oR b182, oI (1 : Int32), oI cq] [])) := by
      intro mm
      induction mm using Nat.strongRecOn with
      | _ mm ih184 =>
        intro k i cq T184 Lo184 h184 hm184 X184 e184 N184 K184 fa184_0 fa184_1 hi hcq hk hkV
        refine own_st (fun t_ k_ => XS.iloadN X184.here hx rfl (hb hby own_d13_57) rfl (XS.iloadN X184.here hx rfl (hb hby own_d13_58) rfl (XS.ineg X184.here hx rfl (hb hby own_d13_59) rfl k_))) ?_
        show own_at p e below _ T184 m 60 #[oI i, oI (36 : Int32), oR b182, oI (1 : Int32), oI cq] [(.int (-(36 : Int32))), (.int i)]
        by_cases c60_185 : (-(36 : Int32)) < i
        · skip
          have h36 := (own_gt36 hi).mp c60_185
          refine own_st (fun t_ k_ => XS.icmpYes X184.here hx rfl (pc0 := 60) (pc' := 86) rfl (hb hby own_d13_60) rfl (tlt c60_185).2.2.1 (by decide) (by decide) (XS.aloadN X184.here hx rfl (hb hby own_d13_86) rfl rfl (XS.iload X184.here hx rfl (hb hby own_d13_87) rfl k_))) ?_
          show own_at p e below _ T184 m 89 #[oI i, oI (36 : Int32), oR b182, oI (1 : Int32), oI cq] [(.int cq), (.ref b182)]
          obtain ⟨T186, X186, e186, st186⟩ := getS2 X184 hx hZ hown (host := "") (Or.inl (own_w hw 87 rfl)) Via.refl e184 (q3.ext fa184_0.2) (g := (mkF m 89 #[oI i, oI (36 : Int32), oR b182, oI (1 : Int32), oI cq] [(.int cq), (.ref b182)])) rfl (hb hby own_d13_89)
          refine own_st (st186) ?_
          refine own_st (fun t_ k_ => XS.iloadN X186.here hx rfl (hb hby own_d13_92) rfl (XS.ineg X186.here hx rfl (hb hby own_d13_93) rfl k_)) ?_
          show own_at p e below _ T186 m 94 #[oI i, oI (36 : Int32), oR b182, oI (1 : Int32), oI cq] [(.int (-i)), (.ref ad), (.int cq), (.ref b182)]
          refine own_st (own_caload X186 hx hZ e186 (q4.ext fa184_0.2) (i := (V / 36 ^ k % 36)) (by rw [Nat.mod_eq_of_lt h36]; exact own_ni hi (by omega)) (Nat.mod_lt _ (by decide)) (g := (mkF m 94 #[oI i, oI (36 : Int32), oR b182, oI (1 : Int32), oI cq] [(.int (-i)), (.ref ad), (.int cq), (.ref b182)])) rfl rfl (hb hby own_d13_94)) ?_
          refine own_st (fun t_ k_ => XS.i2b X186.here hx rfl (hb hby own_d13_95) rfl k_) ?_
          show own_at p e below _ T186 m 96 #[oI i, oI (36 : Int32), oR b182, oI (1 : Int32), oI cq] [(.int ((own_dg (V / 36 ^ k % 36)).toInt8.toInt32)), (.int cq), (.ref b182)]
          obtain ⟨T187, h187, X187, e187, W187, Aw187, st187⟩ := own_bastore X186 hx hZ e186 fa184_1 (i := (32 - k)) hcq (by omega) (own_narb _) (v' := ((own_dg (V / 36 ^ k % 36)).toInt8.toInt32)) (g := (mkF m 96 #[oI i, oI (36 : Int32), oR b182, oI (1 : Int32), oI cq] [(.int ((own_dg (V / 36 ^ k % 36)).toInt8.toInt32)), (.int cq), (.ref b182)])) rfl rfl (hb hby own_d13_96)
          have N187 := Fr.snoc X187 N184 ge182
          have K187 : Keep h0 h187 [] := K184.wr W187 (Or.inr fr182)
          refine own_st (st187) ?_
          show own_at p e below _ T187 m 97 #[oI i, oI (36 : Int32), oR b182, oI (1 : Int32), oI cq] []
          have Ac188 : own_A Z h187 b182 k182 .byte 33 (fun i => .int ((own_lb V (k + 1)) i)) := (Aw187).congr (fun q _ => by rw [own_lb_up V hk])
          refine own_st (fun t_ k_ => XS.iloadN X187.here hx rfl (hb hby own_d13_97) rfl (XS.ifNo X187.here hx rfl (hb hby own_d13_98) rfl ((if0 _ _).trans (feq (by decide : ¬ ((1 : Int32) = (0 : Int32)))).1) (XS.aloadN X187.here hx rfl (hb hby own_d13_101) rfl rfl (XS.iinc X187.here hx rfl (hb hby own_d13_102) rfl (l' := #[oI i, oI (36 : Int32), oR b182, oI (1 : Int32), oI (cq + (-1 : Int32))]) rfl (XS.iload X187.here hx rfl (hb hby own_d13_105) rfl (XS.bipush X187.here hx rfl (hb hby own_d13_107) k_)))))) ?_
          show own_at p e below _ T187 m 109 #[oI i, oI (36 : Int32), oR b182, oI (1 : Int32), oI (cq + (-1 : Int32))] [(.int (45 : Int32)), (.int (cq + (-1 : Int32))), (.ref b182)]
          obtain ⟨T189, h189, X189, e189, W189, Aw189, st189⟩ := own_bastore X187 hx hZ e187 Ac188 (i := (31 - k)) (own_dec1 (hcq.trans (by omega))) (by omega) rfl (v' := (45 : Int32)) (g := (mkF m 109 #[oI i, oI (36 : Int32), oR b182, oI (1 : Int32), oI (cq + (-1 : Int32))] [(.int (45 : Int32)), (.int (cq + (-1 : Int32))), (.ref b182)])) rfl rfl (hb hby own_d13_109)
          have N189 := Fr.snoc X189 N187 ge182
          have K189 : Keep h0 h189 [] := K187.wr W189 (Or.inr fr182)
          refine own_st (st189) ?_
          show own_at p e below _ T189 m 110 #[oI i, oI (36 : Int32), oR b182, oI (1 : Int32), oI (cq + (-1 : Int32))] []
          have hV6 := own_klt h36
          have hcp : ((cq + (-1 : Int32))).toInt = ((31 - k : Nat) : Int) := own_dec1 (hcq.trans (by omega))
          refine own_st (fun t_ k_ => XS.aloadN X189.here hx rfl (hb hby own_d13_110) rfl rfl (XS.iload X189.here hx rfl (hb hby own_d13_111) rfl (XS.bipush X189.here hx rfl (hb hby own_d13_113) (XS.iload X189.here hx rfl (hb hby own_d13_115) rfl (XS.isub X189.here hx rfl (hb hby own_d13_117) rfl k_))))) ?_
          show own_at p e below _ T189 m 118 #[oI i, oI (36 : Int32), oR b182, oI (1 : Int32), oI (cq + (-1 : Int32))] [(.int ((33 : Int32) - (cq + (-1 : Int32)))), (.int (cq + (-1 : Int32))), (.ref b182)]
          obtain ⟨_, _, ⟨T190, L190, k190, n190⟩, -, X190, ⟨Lc190, hQ190, l190, y190, z190⟩, st190⟩ := Jvm.LawKit.callS X189 hx (y := own_n20) hown (mvT hZ (own_w hw 88 rfl)) (mvT hZ (own_w hw 89 rfl)) (mvT hZ (own_w hw 90 rfl)) (mvT hZ (own_w hw 91 rfl)) (by decide) (backOf (W := 0) (own_rm14 l Z a0 hw [] b182 (cq + (-1 : Int32)) ((33 : Int32) - (cq + (-1 : Int32))) k182 (own_upd (own_lb V (k + 1)) (31 - k) (45 : Int32)) (31 - k) (k + 2) h189 n0 (Nat.le_trans Z0 K189.1) Aw189 ⟨hcp, (own_33 hcp (by omega)).trans (by omega), (by omega), (by omega), (by omega)⟩) hZ (own_w hw 91 rfl) (own_w hw 90 rfl) (by decide) (by decide)) (g := (mkF m 118 #[oI i, oI (36 : Int32), oR b182, oI (1 : Int32), oI (cq + (-1 : Int32))] [(.int ((33 : Int32) - (cq + (-1 : Int32)))), (.int (cq + (-1 : Int32))), (.ref b182)])) rfl (by rw [hml]; rfl) (argsL := [(.ref b182), (.int (cq + (-1 : Int32))), (.int ((33 : Int32) - (cq + (-1 : Int32))))]) (rest := []) (lenOf own_pd17 rfl) rfl (own_hW rfl) (hb hby own_d13_118) (fun _ _ => ⟨rfl, e189, (by decide : 1 + 2 ≤ _), (by decide : 33 + 37 ≤ _)⟩)
          dsimp only [Pt.U, Pt.locs, Pt.cells, Pt.slots] at X190 l190 y190 z190 st190 hQ190
          subst y190 z190
          obtain ⟨r_190, t_190, kt_190, rfl, N190q, Kq190, P190_0, P190_1, P190_2, P190_3, P190_4, P190_5⟩ := hQ190
          have N190 : Fr n0 L190 := by rw [l190]; exact Fr.app N189 N190q
          have K190 : Keep h0 T190.heap [] := K189.trans Kq190 all0
          have fr190_0 : h0.size ≤ r_190 := Nat.le_trans K189.1 P190_0
          have ge190_0 : n0 ≤ r_190 := Nat.le_trans Z0 fr190_0
          have fr190_1 : h0.size ≤ t_190 := Nat.le_trans K189.1 P190_1
          have ge190_1 : n0 ≤ t_190 := Nat.le_trans Z0 fr190_1
          refine own_st (st190) ?_
          show own_at p e below _ T190 m 121 #[oI i, oI (36 : Int32), oR b182, oI (1 : Int32), oI (cq + (-1 : Int32))] [(.ref r_190)]
          have At : own_A Z T190.heap t_190 kt_190 .byte (own_sg r_ + (k + 1)) (fun i => .int ((own_tb (own_sg r_) (k + 1) r_.toInt.natAbs) i)) := by rw [own_sgY c37_183, ← hV, show 1 + (k + 1) = k + 2 by omega]; exact (P190_5).congr (fun q hq => by rw [← own_tbs V (k + 1) (by omega) (by omega) q (by omega)]; unfold own_sf; rw [show 32 - (k + 1) = 31 - k by omega])
          exact own_ret (w := (.ref r_190)) X190 hx hnl Bd.returns rfl (Or.inr (Or.inr (Or.inr (Or.inr ⟨rfl, rfl, rfl⟩)))) (hb hby own_d13_121) ⟨r_190, t_190, kt_190, (k + 1), rfl, N190, (K190), fr190_0, fr190_1, (P190_2), (P190_3), (P190_4), (At), (by rw [← hV]; exact ⟨by omega, by omega, hV6, (by rcases hkV with z_ | z_; exact Or.inl (by omega); exact Or.inr (by rw [Nat.add_sub_cancel]; exact z_))⟩)⟩ (by decide) (by decide)
        have h36 := mt (own_gt36 hi).mpr c60_185
        have hup := own_kup h36
        refine own_st (fun t_ k_ => XS.icmpNo X184.here hx rfl (hb hby own_d13_60) rfl (flt c60_185).2.2.1 (XS.aloadN X184.here hx rfl (hb hby own_d13_63) rfl rfl (XS.iload X184.here hx rfl (hb hby own_d13_64) rfl (XS.iinc X184.here hx rfl (hb hby own_d13_66) rfl (l' := #[oI i, oI (36 : Int32), oR b182, oI (1 : Int32), oI (cq + (-1 : Int32))]) rfl k_)))) ?_
        show own_at p e below _ T184 m 69 #[oI i, oI (36 : Int32), oR b182, oI (1 : Int32), oI (cq + (-1 : Int32))] [(.int cq), (.ref b182)]
        obtain ⟨T191, X191, e191, st191⟩ := getS2 X184 hx hZ hown (host := "") (Or.inl (own_w hw 87 rfl)) Via.refl e184 (q3.ext fa184_0.2) (g := (mkF m 69 #[oI i, oI (36 : Int32), oR b182, oI (1 : Int32), oI (cq + (-1 : Int32))] [(.int cq), (.ref b182)])) rfl (hb hby own_d13_69)
        refine own_st (st191) ?_
        refine own_st (fun t_ k_ => XS.iloadN X191.here hx rfl (hb hby own_d13_72) rfl (XS.iloadN X191.here hx rfl (hb hby own_d13_73) rfl k_)) ?_
        show own_at p e below _ T191 m 74 #[oI i, oI (36 : Int32), oR b182, oI (1 : Int32), oI (cq + (-1 : Int32))] [(.int (36 : Int32)), (.int i), (.ref ad), (.int cq), (.ref b182)]
        refine own_st (fun t_ k_ => iremM X191 hx rfl (hb hby own_d13_74) rfl (by decide) k_) ?_
        refine own_st (fun t_ k_ => XS.ineg X191.here hx rfl (hb hby own_d13_75) rfl k_) ?_
        show own_at p e below _ T191 m 76 #[oI i, oI (36 : Int32), oR b182, oI (1 : Int32), oI (cq + (-1 : Int32))] [(.int (-(i % (36 : Int32)))), (.ref ad), (.int cq), (.ref b182)]
        refine own_st (own_caload X191 hx hZ e191 (q4.ext fa184_0.2) (i := (V / 36 ^ k % 36)) (own_ri hi) (Nat.mod_lt _ (by decide)) (g := (mkF m 76 #[oI i, oI (36 : Int32), oR b182, oI (1 : Int32), oI (cq + (-1 : Int32))] [(.int (-(i % (36 : Int32)))), (.ref ad), (.int cq), (.ref b182)])) rfl rfl (hb hby own_d13_76)) ?_
        refine own_st (fun t_ k_ => XS.i2b X191.here hx rfl (hb hby own_d13_77) rfl k_) ?_
        show own_at p e below _ T191 m 78 #[oI i, oI (36 : Int32), oR b182, oI (1 : Int32), oI (cq + (-1 : Int32))] [(.int ((own_dg (V / 36 ^ k % 36)).toInt8.toInt32)), (.int cq), (.ref b182)]
        obtain ⟨T192, h192, X192, e192, W192, Aw192, st192⟩ := own_bastore X191 hx hZ e191 fa184_1 (i := (32 - k)) hcq (by omega) (own_narb _) (v' := ((own_dg (V / 36 ^ k % 36)).toInt8.toInt32)) (g := (mkF m 78 #[oI i, oI (36 : Int32), oR b182, oI (1 : Int32), oI (cq + (-1 : Int32))] [(.int ((own_dg (V / 36 ^ k % 36)).toInt8.toInt32)), (.int cq), (.ref b182)])) rfl rfl (hb hby own_d13_78)
        have N192 := Fr.snoc X192 N184 ge182
        have K192 : Keep h0 h192 [] := K184.wr W192 (Or.inr fr182)
        refine own_st (st192) ?_
        show own_at p e below _ T192 m 79 #[oI i, oI (36 : Int32), oR b182, oI (1 : Int32), oI (cq + (-1 : Int32))] []
        have Ac193 : own_A Z h192 b182 k182 .byte 33 (fun i => .int ((own_lb V (k + 1)) i)) := (Aw192).congr (fun q _ => by rw [own_lb_up V hk])
        refine own_st (fun t_ k_ => XS.iloadN X192.here hx rfl (hb hby own_d13_79) rfl (XS.iloadN X192.here hx rfl (hb hby own_d13_80) rfl (XS.idiv X192.here hx rfl (hb hby own_d13_81) rfl (by decide) (XS.istoreN X192.here hx rfl (hb hby own_d13_82) rfl (l' := #[oI (i / (36 : Int32)), oI (36 : Int32), oR b182, oI (1 : Int32), oI (cq + (-1 : Int32))]) rfl (XS.goto X192.here hx rfl (pc0 := 83) (pc' := 57) rfl (hb hby own_d13_83) (by decide) (by decide) k_))))) ?_
        show own_at p e below _ T192 m 57 #[oI (i / (36 : Int32)), oI (36 : Int32), oR b182, oI (1 : Int32), oI (cq + (-1 : Int32))] []
        exact ih184 _ (by have := own_k5 hV31 hup; omega) (k + 1) (i / (36 : Int32)) (cq + (-1 : Int32)) T192 _ h192 rfl X192 e192 N192 K192 ((fa184_0.wr W192 ge182)) (Ac193) (by rw [← own_divp]; exact own_di hi) (own_dec1 (hcq.trans (by omega))) (own_k5 hV31 hup) (Or.inr hup)
    exact loop184 _ 0 r_ (32 : Int32) T182 _ h182 rfl X182 e182 N0 K182 ((q0.ext E182)) (qb0) (by rw [Nat.pow_zero, Nat.div_one]; exact hi0) (by decide) (by decide) (Or.inl rfl)
  refine own_st (fun t_ k_ => XS.ifYes X182.here hx rfl (pc0 := 37) (pc' := 44) rfl (hb hby own_d13_37) rfl ((if0 _ _).trans (flt c37_183).2.1) (by decide) (by decide) (XS.iconst X182.here hx rfl (hb hby own_d13_44) (XS.istoreN X182.here hx rfl (hb hby own_d13_45) rfl (l' := #[oI r_, oI (36 : Int32), oR b182, oI (0 : Int32), oU]) rfl (XS.bipush X182.here hx rfl (hb hby own_d13_46) (XS.istore X182.here hx rfl (hb hby own_d13_48) rfl (l' := #[oI r_, oI (36 : Int32), oR b182, oI (0 : Int32), oI (32 : Int32)]) rfl (XS.iloadN X182.here hx rfl (hb hby own_d13_50) rfl k_)))))) ?_
  show own_at p e below _ T182 m 51 #[oI r_, oI (36 : Int32), oR b182, oI (0 : Int32), oI (32 : Int32)] [(.int (0 : Int32))]
  refine own_st (fun t_ k_ => XS.ifNo X182.here hx rfl (hb hby own_d13_51) rfl ((if0 _ _).trans (teq (by decide : (0 : Int32) = (0 : Int32))).2) (XS.iloadN X182.here hx rfl (hb hby own_d13_54) rfl (XS.ineg X182.here hx rfl (hb hby own_d13_55) rfl (XS.istoreN X182.here hx rfl (hb hby own_d13_56) rfl (l' := #[oI (-r_), oI (36 : Int32), oR b182, oI (0 : Int32), oI (32 : Int32)]) rfl k_)))) ?_
  show own_at p e below _ T182 m 57 #[oI (-r_), oI (36 : Int32), oR b182, oI (0 : Int32), oI (32 : Int32)] []
  have z0 : (0 : Int32).toInt = 0 := by decide
  have hlt := c37_183
  rw [Int32.lt_iff_toInt_lt, z0] at hlt
  have rr := rng32 r_
  obtain ⟨V, hV⟩ : ∃ z, z = r_.toInt.natAbs := ⟨_, rfl⟩
  have hV31 : V ≤ 2147483648 := by omega
  have hi0 : ((-r_)).toInt = -(V : Int) := by have nn_ := c_ineg r_; have r2_ := rng32 (-r_); omega
  have qb0 : own_A Z h182 b182 k182 .byte 33 (fun i => .int ((own_lb V 0) i)) := Ar182.congr (fun q _ => by rw [own_lb0])
  have loop194 : ∀ (mm : Nat) (k : Nat) (i : Int32) (cq : Int32) (T194 : State) (Lo194 : List Loc) (h194 : Heap), 6 - k = mm → Stand p l e ({ frames := 4, cells := 3, slots := 70, locals := 86 } : Room) s m #[(.int r_), (.int (36 : Int32))] below meth c T194 Lo194 1 33 → T194.heap = h194 → Fr n0 Lo194 → Keep h0 h194 [] → Old Z n0 h194 → own_A Z h194 b182 k182 .byte 33 (fun i => .int ((own_lb V k) i)) → (i.toInt = -((V / 36 ^ k : Nat) : Int)) → (cq.toInt = ((32 - k : Nat) : Int)) → (k ≤ 5) → (k = 0 ∨ 36 ^ k ≤ V) → own_Go p.tables e below (own_P below s (own_Q13 Z r_ G1 ad kd h0 n0) ({ frames := 4, cells := 3, slots := 70, locals := 86 } : Room).cells ({ frames := 4, cells := 3, slots := 70, locals := 86 } : Room).slots) (T194.setTop (mkF m 57 #[oI i, oI (36 : Int32), oR b182, oI (0 : Int32), oI cq] [])) := by
    intro mm
    induction mm using Nat.strongRecOn with
    | _ mm ih194 =>
      intro k i cq T194 Lo194 h194 hm194 X194 e194 N194 K194 fa194_0 fa194_1 hi hcq hk hkV
      refine own_st (fun t_ k_ => XS.iloadN X194.here hx rfl (hb hby own_d13_57) rfl (XS.iloadN X194.here hx rfl (hb hby own_d13_58) rfl (XS.ineg X194.here hx rfl (hb hby own_d13_59) rfl k_))) ?_
      show own_at p e below _ T194 m 60 #[oI i, oI (36 : Int32), oR b182, oI (0 : Int32), oI cq] [(.int (-(36 : Int32))), (.int i)]
      by_cases c60_195 : (-(36 : Int32)) < i
      · skip
        have h36 := (own_gt36 hi).mp c60_195
        refine own_st (fun t_ k_ => XS.icmpYes X194.here hx rfl (pc0 := 60) (pc' := 86) rfl (hb hby own_d13_60) rfl (tlt c60_195).2.2.1 (by decide) (by decide) (XS.aloadN X194.here hx rfl (hb hby own_d13_86) rfl rfl (XS.iload X194.here hx rfl (hb hby own_d13_87) rfl k_))) ?_
        show own_at p e below _ T194 m 89 #[oI i, oI (36 : Int32), oR b182, oI (0 : Int32), oI cq] [(.int cq), (.ref b182)]
        obtain ⟨T196, X196, e196, st196⟩ := getS2 X194 hx hZ hown (host := "") (Or.inl (own_w hw 87 rfl)) Via.refl e194 (q3.ext fa194_0.2) (g := (mkF m 89 #[oI i, oI (36 : Int32), oR b182, oI (0 : Int32), oI cq] [(.int cq), (.ref b182)])) rfl (hb hby own_d13_89)
        refine own_st (st196) ?_
        refine own_st (fun t_ k_ => XS.iloadN X196.here hx rfl (hb hby own_d13_92) rfl (XS.ineg X196.here hx rfl (hb hby own_d13_93) rfl k_)) ?_
        show own_at p e below _ T196 m 94 #[oI i, oI (36 : Int32), oR b182, oI (0 : Int32), oI cq] [(.int (-i)), (.ref ad), (.int cq), (.ref b182)]
        refine own_st (own_caload X196 hx hZ e196 (q4.ext fa194_0.2) (i := (V / 36 ^ k % 36)) (by rw [Nat.mod_eq_of_lt h36]; exact own_ni hi (by omega)) (Nat.mod_lt _ (by decide)) (g := (mkF m 94 #[oI i, oI (36 : Int32), oR b182, oI (0 : Int32), oI cq] [(.int (-i)), (.ref ad), (.int cq), (.ref b182)])) rfl rfl (hb hby own_d13_94)) ?_
        refine own_st (fun t_ k_ => XS.i2b X196.here hx rfl (hb hby own_d13_95) rfl k_) ?_
        show own_at p e below _ T196 m 96 #[oI i, oI (36 : Int32), oR b182, oI (0 : Int32), oI cq] [(.int ((own_dg (V / 36 ^ k % 36)).toInt8.toInt32)), (.int cq), (.ref b182)]
        obtain ⟨T197, h197, X197, e197, W197, Aw197, st197⟩ := own_bastore X196 hx hZ e196 fa194_1 (i := (32 - k)) hcq (by omega) (own_narb _) (v' := ((own_dg (V / 36 ^ k % 36)).toInt8.toInt32)) (g := (mkF m 96 #[oI i, oI (36 : Int32), oR b182, oI (0 : Int32), oI cq] [(.int ((own_dg (V / 36 ^ k % 36)).toInt8.toInt32)), (.int cq), (.ref b182)])) rfl rfl (hb hby own_d13_96)
        have N197 := Fr.snoc X197 N194 ge182
        have K197 : Keep h0 h197 [] := K194.wr W197 (Or.inr fr182)
        refine own_st (st197) ?_
        show own_at p e below _ T197 m 97 #[oI i, oI (36 : Int32), oR b182, oI (0 : Int32), oI cq] []
        have Ac198 : own_A Z h197 b182 k182 .byte 33 (fun i => .int ((own_lb V (k + 1)) i)) := (Aw197).congr (fun q _ => by rw [own_lb_up V hk])
        refine own_st (fun t_ k_ => XS.iloadN X197.here hx rfl (hb hby own_d13_97) rfl (XS.ifYes X197.here hx rfl (pc0 := 98) (pc' := 110) rfl (hb hby own_d13_98) rfl ((if0 _ _).trans (teq (by decide : (0 : Int32) = (0 : Int32))).1) (by decide) (by decide) k_)) ?_
        show own_at p e below _ T197 m 110 #[oI i, oI (36 : Int32), oR b182, oI (0 : Int32), oI cq] []
        have hV6 := own_klt h36
        have hcp : (cq).toInt = ((32 - k : Nat) : Int) := hcq
        refine own_st (fun t_ k_ => XS.aloadN X197.here hx rfl (hb hby own_d13_110) rfl rfl (XS.iload X197.here hx rfl (hb hby own_d13_111) rfl (XS.bipush X197.here hx rfl (hb hby own_d13_113) (XS.iload X197.here hx rfl (hb hby own_d13_115) rfl (XS.isub X197.here hx rfl (hb hby own_d13_117) rfl k_))))) ?_
        show own_at p e below _ T197 m 118 #[oI i, oI (36 : Int32), oR b182, oI (0 : Int32), oI cq] [(.int ((33 : Int32) - cq)), (.int cq), (.ref b182)]
        obtain ⟨_, _, ⟨T199, L199, k199, n199⟩, -, X199, ⟨Lc199, hQ199, l199, y199, z199⟩, st199⟩ := Jvm.LawKit.callS X197 hx (y := own_n20) hown (mvT hZ (own_w hw 88 rfl)) (mvT hZ (own_w hw 89 rfl)) (mvT hZ (own_w hw 90 rfl)) (mvT hZ (own_w hw 91 rfl)) (by decide) (backOf (W := 0) (own_rm14 l Z a0 hw [] b182 cq ((33 : Int32) - cq) k182 (own_lb V (k + 1)) (32 - k) (k + 1) h197 n0 (Nat.le_trans Z0 K197.1) Ac198 ⟨hcp, (own_33 hcp (by omega)).trans (by omega), (by omega), (by omega), (by omega)⟩) hZ (own_w hw 91 rfl) (own_w hw 90 rfl) (by decide) (by decide)) (g := (mkF m 118 #[oI i, oI (36 : Int32), oR b182, oI (0 : Int32), oI cq] [(.int ((33 : Int32) - cq)), (.int cq), (.ref b182)])) rfl (by rw [hml]; rfl) (argsL := [(.ref b182), (.int cq), (.int ((33 : Int32) - cq))]) (rest := []) (lenOf own_pd17 rfl) rfl (own_hW rfl) (hb hby own_d13_118) (fun _ _ => ⟨rfl, e197, (by decide : 1 + 2 ≤ _), (by decide : 33 + 37 ≤ _)⟩)
        dsimp only [Pt.U, Pt.locs, Pt.cells, Pt.slots] at X199 l199 y199 z199 st199 hQ199
        subst y199 z199
        obtain ⟨r_199, t_199, kt_199, rfl, N199q, Kq199, P199_0, P199_1, P199_2, P199_3, P199_4, P199_5⟩ := hQ199
        have N199 : Fr n0 L199 := by rw [l199]; exact Fr.app N197 N199q
        have K199 : Keep h0 T199.heap [] := K197.trans Kq199 all0
        have fr199_0 : h0.size ≤ r_199 := Nat.le_trans K197.1 P199_0
        have ge199_0 : n0 ≤ r_199 := Nat.le_trans Z0 fr199_0
        have fr199_1 : h0.size ≤ t_199 := Nat.le_trans K197.1 P199_1
        have ge199_1 : n0 ≤ t_199 := Nat.le_trans Z0 fr199_1
        refine own_st (st199) ?_
        show own_at p e below _ T199 m 121 #[oI i, oI (36 : Int32), oR b182, oI (0 : Int32), oI cq] [(.ref r_199)]
        have At : own_A Z T199.heap t_199 kt_199 .byte (own_sg r_ + (k + 1)) (fun i => .int ((own_tb (own_sg r_) (k + 1) r_.toInt.natAbs) i)) := by rw [own_sgN c37_183, ← hV, Nat.zero_add]; exact (P199_5).congr (fun q hq => by rw [← own_tbn V (k + 1) (by omega) (by omega) q (by omega)]; unfold own_sf; rw [show 33 - (k + 1) = 32 - k by omega])
        exact own_ret (w := (.ref r_199)) X199 hx hnl Bd.returns rfl (Or.inr (Or.inr (Or.inr (Or.inr ⟨rfl, rfl, rfl⟩)))) (hb hby own_d13_121) ⟨r_199, t_199, kt_199, (k + 1), rfl, N199, (K199), fr199_0, fr199_1, (P199_2), (P199_3), (P199_4), (At), (by rw [← hV]; exact ⟨by omega, by omega, hV6, (by rcases hkV with z_ | z_; exact Or.inl (by omega); exact Or.inr (by rw [Nat.add_sub_cancel]; exact z_))⟩)⟩ (by decide) (by decide)
      have h36 := mt (own_gt36 hi).mpr c60_195
      have hup := own_kup h36
      refine own_st (fun t_ k_ => XS.icmpNo X194.here hx rfl (hb hby own_d13_60) rfl (flt c60_195).2.2.1 (XS.aloadN X194.here hx rfl (hb hby own_d13_63) rfl rfl (XS.iload X194.here hx rfl (hb hby own_d13_64) rfl (XS.iinc X194.here hx rfl (hb hby own_d13_66) rfl (l' := #[oI i, oI (36 : Int32), oR b182, oI (0 : Int32), oI (cq + (-1 : Int32))]) rfl k_)))) ?_
      show own_at p e below _ T194 m 69 #[oI i, oI (36 : Int32), oR b182, oI (0 : Int32), oI (cq + (-1 : Int32))] [(.int cq), (.ref b182)]
      obtain ⟨T200, X200, e200, st200⟩ := getS2 X194 hx hZ hown (host := "") (Or.inl (own_w hw 87 rfl)) Via.refl e194 (q3.ext fa194_0.2) (g := (mkF m 69 #[oI i, oI (36 : Int32), oR b182, oI (0 : Int32), oI (cq + (-1 : Int32))] [(.int cq), (.ref b182)])) rfl (hb hby own_d13_69)
      refine own_st (st200) ?_
      refine own_st (fun t_ k_ => XS.iloadN X200.here hx rfl (hb hby own_d13_72) rfl (XS.iloadN X200.here hx rfl (hb hby own_d13_73) rfl k_)) ?_
      show own_at p e below _ T200 m 74 #[oI i, oI (36 : Int32), oR b182, oI (0 : Int32), oI (cq + (-1 : Int32))] [(.int (36 : Int32)), (.int i), (.ref ad), (.int cq), (.ref b182)]
      refine own_st (fun t_ k_ => iremM X200 hx rfl (hb hby own_d13_74) rfl (by decide) k_) ?_
      refine own_st (fun t_ k_ => XS.ineg X200.here hx rfl (hb hby own_d13_75) rfl k_) ?_
      show own_at p e below _ T200 m 76 #[oI i, oI (36 : Int32), oR b182, oI (0 : Int32), oI (cq + (-1 : Int32))] [(.int (-(i % (36 : Int32)))), (.ref ad), (.int cq), (.ref b182)]
      refine own_st (own_caload X200 hx hZ e200 (q4.ext fa194_0.2) (i := (V / 36 ^ k % 36)) (own_ri hi) (Nat.mod_lt _ (by decide)) (g := (mkF m 76 #[oI i, oI (36 : Int32), oR b182, oI (0 : Int32), oI (cq + (-1 : Int32))] [(.int (-(i % (36 : Int32)))), (.ref ad), (.int cq), (.ref b182)])) rfl rfl (hb hby own_d13_76)) ?_
      refine own_st (fun t_ k_ => XS.i2b X200.here hx rfl (hb hby own_d13_77) rfl k_) ?_
      show own_at p e below _ T200 m 78 #[oI i, oI (36 : Int32), oR b182, oI (0 : Int32), oI (cq + (-1 : Int32))] [(.int ((own_dg (V / 36 ^ k % 36)).toInt8.toInt32)), (.int cq), (.ref b182)]
      obtain ⟨T201, h201, X201, e201, W201, Aw201, st201⟩ := own_bastore X200 hx hZ e200 fa194_1 (i := (32 - k)) hcq (by omega) (own_narb _) (v' := ((own_dg (V / 36 ^ k % 36)).toInt8.toInt32)) (g := (mkF m 78 #[oI i, oI (36 : Int32), oR b182, oI (0 : Int32), oI (cq + (-1 : Int32))] [(.int ((own_dg (V / 36 ^ k % 36)).toInt8.toInt32)), (.int cq), (.ref b182)])) rfl rfl (hb hby own_d13_78)
      have N201 := Fr.snoc X201 N194 ge182
      have K201 : Keep h0 h201 [] := K194.wr W201 (Or.inr fr182)
      refine own_st (st201) ?_
      show own_at p e below _ T201 m 79 #[oI i, oI (36 : Int32), oR b182, oI (0 : Int32), oI (cq + (-1 : Int32))] []
      have Ac202 : own_A Z h201 b182 k182 .byte 33 (fun i => .int ((own_lb V (k + 1)) i)) := (Aw201).congr (fun q _ => by rw [own_lb_up V hk])
      refine own_st (fun t_ k_ => XS.iloadN X201.here hx rfl (hb hby own_d13_79) rfl (XS.iloadN X201.here hx rfl (hb hby own_d13_80) rfl (XS.idiv X201.here hx rfl (hb hby own_d13_81) rfl (by decide) (XS.istoreN X201.here hx rfl (hb hby own_d13_82) rfl (l' := #[oI (i / (36 : Int32)), oI (36 : Int32), oR b182, oI (0 : Int32), oI (cq + (-1 : Int32))]) rfl (XS.goto X201.here hx rfl (pc0 := 83) (pc' := 57) rfl (hb hby own_d13_83) (by decide) (by decide) k_))))) ?_
      show own_at p e below _ T201 m 57 #[oI (i / (36 : Int32)), oI (36 : Int32), oR b182, oI (0 : Int32), oI (cq + (-1 : Int32))] []
      exact ih194 _ (by have := own_k5 hV31 hup; omega) (k + 1) (i / (36 : Int32)) (cq + (-1 : Int32)) T201 _ h201 rfl X201 e201 N201 K201 ((fa194_0.wr W201 ge182)) (Ac202) (by rw [← own_divp]; exact own_di hi) (own_dec1 (hcq.trans (by omega))) (own_k5 hV31 hup) (Or.inr hup)
  exact loop194 _ 0 (-r_) (32 : Int32) T182 _ h182 rfl X182 e182 N0 K182 ((q0.ext E182)) (qb0) (by rw [Nat.pow_zero, Nat.div_one]; exact hi0) (by decide) (by decide) (Or.inl rfl)

theorem own_d1_0 : decode prog_1_method_3_code 0 = .ok (.new 9, 3) := by decide +kernel
theorem own_d1_3 : decode prog_1_method_3_code 3 = .ok (.dup, 1) := by decide +kernel
theorem own_d1_4 : decode prog_1_method_3_code 4 = .ok (.invokespecial 11, 3) := by decide +kernel
theorem own_d1_7 : decode prog_1_method_3_code 7 = .ok (.ldc 58, 2) := by decide +kernel
theorem own_d1_9 : decode prog_1_method_3_code 9 = .ok (.invokevirtual 14, 3) := by decide +kernel
theorem own_d1_12 : decode prog_1_method_3_code 12 = .ok (.iload_n 0, 1) := by decide +kernel
theorem own_d1_13 : decode prog_1_method_3_code 13 = .ok (.bipush 36, 2) := by decide +kernel
theorem own_d1_15 : decode prog_1_method_3_code 15 = .ok (.invokestatic 60, 3) := by decide +kernel
theorem own_d1_18 : decode prog_1_method_3_code 18 = .ok (.invokevirtual 14, 3) := by decide +kernel
theorem own_d1_21 : decode prog_1_method_3_code 21 = .ok (.invokevirtual 21, 3) := by decide +kernel
theorem own_d1_24 : decode prog_1_method_3_code 24 = .ok (.areturn, 1) := by decide +kernel
theorem own_pn7 : plainName "com/example/freshness/freshness/bench/MadeStream" = true := by first | (simp [plainName, overriddenIn]; done) | decide +kernel
theorem own_pd18 : parseMethodDescriptor "()V" = some ⟨[], none⟩ := by decide +kernel
theorem own_pd19 : parseMethodDescriptor "(Ljava/lang/String;)Ljava/lang/StringBuilder;" = some ⟨[(.object "java/lang/String")], some (.object "java/lang/StringBuilder")⟩ := by decide +kernel
theorem own_pd20 : parseMethodDescriptor "(II)Ljava/lang/String;" = some ⟨[.int, .int], some (.object "java/lang/String")⟩ := by decide +kernel
theorem own_pd21 : parseMethodDescriptor "()Ljava/lang/String;" = some ⟨[], some (.object "java/lang/String")⟩ := by decide +kernel
theorem own_ef1 (m : MethodId) (x0 : Int32) : entryFrame m #[(.int x0)] 1 = mkF m 0 #[.val (.int x0)] [] := by first | (simp [entryFrame, mkF, argsToLocals, Value.category]; done) | rfl
def own_Q1 (Z : State) (r_ : Int32) (G1 : Int32) (ad : Addr) (kd : ClassId) (h0 : Heap) (n0 : Nat) (v : Option Value) (h : Heap) (L : List Loc) : Prop := ∃ (r : Addr) (t : Addr) (kt : ClassId) (n : Nat), v = some (.ref r) ∧ Fr n0 L ∧ Keep h0 h [] ∧ h0.size ≤ r ∧ Exa Z h r "java/lang/String" ∧ Fld Z h r "java/lang/String" "value" "[B" (.ref t) ∧ Fld Z h r "java/lang/String" "coder" "B" (.int (0 : Int32)) ∧ own_A Z h t kt .byte (own_bl (0 : Int32) (1 + (own_sg r_ + n))) (fun i => .int ((own_by (0 : Int32) (own_ws (own_sg r_) n r_.toInt.natAbs)) i)) ∧ (1 ≤ n ∧ n ≤ 6 ∧ r_.toInt.natAbs < 36 ^ n ∧ (n = 1 ∨ 36 ^ (n - 1) ≤ r_.toInt.natAbs))
set_option maxRecDepth 65536 in
set_option maxHeartbeats 40000000 in
theorem own_rm1 (l : Launch) (Z : State) (a0 : Array Value) (hw : ∀ d ∈ tables_1, d.before a0 Z = true) (ws : List Jvm.Cond) (r_ : Int32) (G1 : Int32) (ad : Addr) (kd : ClassId) (h0 : Heap) (n0 : Nat) (Z0 : n0 ≤ h0.size) (q0 : Old Z n0 h0) (q1 : Sta Z Z.heap "java/lang/String" "COMPACT_STRINGS" "Z" (.int G1)) (hG1 : (¬ G1 = (0 : Int32))) (q3 : Sta Z Z.heap "java/lang/Integer" "digits" "[C" (.ref ad)) (q4 : own_A Z Z.heap ad kd .char 36 (fun i => .int (own_dg i))) :
    MetFree l own_n29 (head1 (Jvm.Cond.code own_n29 prog_1_method_3_code 1 (some (.object "java/lang/String")) :: ws) ({ frames := 6, cells := 9, slots := 135, locals := 113 } : Room)) (fun a U => a = #[(.int r_)] ∧ Z.Warmed39 U.vm ∧ U.heap = h0 ∧ CHv Z own_EL U.vm h0 ∧ ∀ x ∈ ([] : List Addr), Safe Z own_EL U.vm h0 x) (fun _ _ _ _ _ => True) (fun _ U o U' => ∃ v L, o = .returned v ∧ own_Q1 Z r_ G1 ad kd h0 n0 v U'.heap L ∧ CHr Z own_EL U.vm U.heap U'.vm U'.heap ∧ ReturnedEndW U o U' L ({ frames := 6, cells := 9, slots := 135, locals := 113 } : Room).cells ({ frames := 6, cells := 9, slots := 135, locals := 113 } : Room).slots) := by
  refine MetFree.of_bodySF (plainFor_of_name own_pn7) hisR ?_
  intro p e s m args below meth c s₁ Bd hml0 hP hK
  obtain ⟨rfl, hZ, hh, hC0, hSf⟩ := hP
  have hx := Bd.exec
  have hby := Bd.bytes
  have hml : c.maxLocals = 1 := hml0
  have hown : s.vm.findClass "com/example/freshness/freshness/bench/MadeStream" = some m.cls := findClass_of_methodNamed Bd.named
  have hnm := (name_of_methodNamed Bd.named Bd.method).1
  have hnl : meth.locks = false := Bd.notSynchronized
  have X0 : Stand p l e ({ frames := 6, cells := 9, slots := 135, locals := 113 } : Room) s m #[(.int r_)] below meth c s₁ [] 0 0 := Stand.of_body Bd
  have e0 : s₁.heap = h0 := by rw [← hh, Bd.state]; rfl
  have N0 := Fr.nil n0
  have X0 := (show Stand p l e _ (s.setVm s.vm) m _ below meth c s₁ [] 0 0 from X0)
  have hZ : Z.Warmed39 (s.setVm s.vm).vm := hZ
  have hown : (s.setVm s.vm).vm.findClass "com/example/freshness/freshness/bench/MadeStream" = some m.cls := hown
  have C0 : CHr Z own_EL s.vm s.heap s.vm h0 := by rw [hh]; exact CHr.refl hC0
  have S0 : s.Since s.vm h0.size := (State.WarmedH.refl s).since _
  have k0 := Nat.le_refl h0.size
  show own_Go p.tables e below (own_PW below s Z own_EL (own_Q1 Z r_ G1 ad kd h0 n0) ({ frames := 6, cells := 9, slots := 135, locals := 113 } : Room).cells ({ frames := 6, cells := 9, slots := 135, locals := 113 } : Room).slots) _
  refine own_st (fun t_ k_ => castTop (own_ef1 m r_) k_) ?_
  show own_at p e below _ s₁ m 0 #[oI r_] []
  obtain ⟨T203, h203, X203, e203, E203, A203, D203, -, st203⟩ := newO X0 hx hZ hown (own_w hw 4 rfl) (own_w hw 5 rfl) (own_w hw 6 rfl) e0 (g := (mkF m 0 #[oI r_] [])) rfl (hb hby own_d1_0) (by decide) (by decide)
  obtain ⟨b203, g203⟩ : ∃ z, z = h0.size := ⟨_, rfl⟩
  rw [← g203] at A203 D203 st203
  have fr203 : h0.size ≤ b203 := Nat.le_trans (Keep.refl h0 []).1 (Nat.le_of_eq g203.symm)
  have ge203 : n0 ≤ b203 := Nat.le_trans Z0 fr203
  have K203 : Keep h0 h203 [] := (Keep.refl h0 []).ext E203
  have c203 : CHr Z own_EL _ h0 _ h203 := CHr.ext E203 C0.1
  have C203 := C0.trans c203
  have kk203 := Nat.le_trans k0 c203.2.1
  have Sf203_b203 : Safe Z own_EL _ h203 b203 := Safe.ext E203 C0.1 (Safe.new (Nat.le_of_eq g203.symm))
  have F203_23 : Fld Z h203 b203 "java/lang/AbstractStringBuilder" "value" "[B" .null := D203 (Or.inl (own_w hw 23 rfl)) (ty := (.array .byte)) (by decide)
  have F203_25 : Fld Z h203 b203 "java/lang/AbstractStringBuilder" "coder" "B" (.int (0 : Int32)) := D203 (Or.inl (own_w hw 25 rfl)) (ty := .byte) (by decide)
  have F203_56 : Fld Z h203 b203 "java/lang/AbstractStringBuilder" "count" "I" (.int (0 : Int32)) := D203 (Or.inl (own_w hw 56 rfl)) (ty := .int) (by decide)
  refine own_st (st203) ?_
  refine own_st (fun t_ k_ => XS.dup X203.here hx rfl (hb hby own_d1_3) rfl rfl k_) ?_
  show own_at p e below _ T203 m 4 #[oI r_] [(.ref b203), (.ref b203)]
  obtain ⟨_, _, ⟨T204, L204, k204, n204⟩, -, X204, ⟨Lc204, hQ204, l204, y204, z204⟩, st204⟩ := X203.specialBack hx (y := own_n8) rfl hown (mvT hZ (own_w hw 7 rfl)) (mvT hZ (own_w hw 8 rfl)) (mvT hZ (own_w hw 9 rfl)) (by decide) (backOf (W := 1) (own_rm2 l Z a0 hw [] b203 G1 h203 n0 (Nat.le_trans Z0 K203.1) A203 F203_23 F203_25 F203_56 ge203 (q0.ext E203) q1 hG1) hZ (own_w hw 9 rfl) (own_w hw 6 rfl) (by decide) (by decide)) (g := (mkF m 4 #[oI r_] [(.ref b203), (.ref b203)])) rfl (by rw [hml]; rfl) (Steps.refl _) (a := b203) (argsL := []) (rest := [(.ref b203)]) (lenOf own_pd18 rfl) rfl (own_hW rfl) (hb hby own_d1_4) (fun _ _ => ⟨rfl, e203, (by decide : 1 + 1 ≤ _), (by decide : 4 + 16 ≤ _)⟩)
  dsimp only [Pt.U, Pt.locs, Pt.cells, Pt.slots] at X204 l204 y204 z204 st204 hQ204
  subst y204 z204
  obtain ⟨t_204, kt_204, rfl, N204q, Kq204, P204_0, P204_1, P204_2, P204_3, P204_4⟩ := hQ204
  have N204 : Fr n0 L204 := by rw [l204]; exact Fr.app N0 N204q
  have K204 : Keep h0 T204.heap [] := K203.trans Kq204 (allS (P := fun x => x ∈ [] ∨ h0.size ≤ x) (Or.inr fr203) all0)
  have c204 : CHr Z own_EL _ h203 _ T204.heap := CHr.keep Kq204 (own_slS (Safe.exa hZ.alike A203 (by decide) (by decide)) own_sl0) C203.1
  have C204 := C203.trans c204
  have kk204 := Nat.le_trans kk203 c204.2.1
  have fr204_0 : h0.size ≤ t_204 := Nat.le_trans K203.1 P204_0
  have ge204_0 : n0 ≤ t_204 := Nat.le_trans Z0 fr204_0
  have Sf204_t_204 : Safe Z own_EL _ T204.heap t_204 := Safe.keep Kq204 (own_slS (Safe.exa hZ.alike A203 (by decide) (by decide)) own_sl0) C203.1 (Safe.new P204_0)
  refine own_tr st204 ?_
  show own_at p e below _ T204 m 7 #[oI r_] [(.ref b203)]
  obtain ⟨a205, T205, h205, kn205, b205, kb205, X205, e205, E205, S205, kk205, hZ, hown, xa205, fc205, fv205, A205, la205, lb205, c205, -, ne205, st205⟩ := ldcCH X204 hx hZ hown (own_w hw 26 rfl) (own_wS hw) rfl S0 kk204 (own_hEL hw) (List.mem_of_getElem? (i := 0) rfl) C204.1 (vs := [(.int (119 : Int32))]) (z := 1) (by decide +kernel) (by decide) (by decide) (g := (mkF m 7 #[oI r_] [(.ref b203)])) rfl (hb hby own_d1_7) (n := 4) (by decide) (by decide) (by decide) (by decide)
  have K205 : Keep h0 h205 [] := K204.ext E205
  have C205 := C204.trans c205
  have Ab205 : own_A Z h205 b205 kb205 .byte 1 (fun i => .int ((fun q => ([119] : List Int32).getD q 0) i)) := own_A.ofArv A205 (by decide) (by decide) (by decide)
  have ne205_b203 := ne205 _ (Safe.exa hZ.alike ((A203.keep Kq204).ext E205) (by decide) (by decide))
  have ne205_t_204 := ne205 _ (c205.safe P204_4.lt Sf204_t_204)
  refine own_st (st205) ?_
  show own_at p e below _ T205 m 9 #[oI r_] [(.ref a205), (.ref b203)]
  obtain ⟨cq206, kq206, q206a, q206b, q206c⟩ := isOf hZ e205 ((A203.keep Kq204).ext E205)
  obtain ⟨_, _, ⟨T206, L206, k206, n206⟩, -, X206, ⟨Lc206, hQ206, l206, y206, z206⟩, st206⟩ := X205.virtualBack hx (y := own_n14) (z := own_n14) hown (mvT hZ (own_w hw 32 rfl)) (mvT hZ (own_w hw 33 rfl)) (notFace_of_selects (args := #[]) (mvT hZ (own_w hw 35 rfl))) (mvT hZ (own_w hw 35 rfl)) (mvT hZ (own_w hw 34 rfl)) (by decide) (backOf (W := 0) (own_rm5 l Z a0 hw [] b203 a205 (0 : Int32) 0 t_204 kt_204 (fun _ => (0 : Int32)) b205 kb205 1 (fun q => ([119] : List Int32).getD q 0) G1 h205 n0 (Nat.le_trans Z0 K205.1) ((A203.keep Kq204).ext E205) (P204_1.ext E205) (P204_2.ext E205) (P204_3.ext E205) (P204_4.ext E205) ge203 ge204_0 xa205 fv205 fc205 Ab205 (((q0.ext E203).keep Kq204 (allS ge203 all0)).ext E205) q1 hG1 (by decide) (Ne.symm ne205_t_204.2)) hZ (own_w hw 36 rfl) (own_w hw 6 rfl) (by decide) (by decide)) q206a q206c (g := (mkF m 9 #[oI r_] [(.ref a205), (.ref b203)])) rfl (by rw [hml]; rfl) (Steps.refl _) (argsL := [(.ref a205)]) (rest := []) (lenOf own_pd19 rfl) rfl (own_hW rfl) (hb hby own_d1_9) (fun _ _ => ⟨rfl, e205, (by decide : 4 + 0 ≤ _), (by decide : 28 + 0 ≤ _)⟩)
  dsimp only [Pt.U, Pt.locs, Pt.cells, Pt.slots] at X206 l206 y206 z206 st206 hQ206
  subst y206 z206
  obtain ⟨rfl, N206q, Kq206, P206_0, P206_1, P206_2, P206_3⟩ := hQ206
  have N206 : Fr n0 L206 := by rw [l206]; exact Fr.app N204 N206q
  have K206 : Keep h0 T206.heap [] := K205.trans Kq206 (allS (P := fun x => x ∈ [] ∨ h0.size ≤ x) (Or.inr fr203) (allS (P := fun x => x ∈ [] ∨ h0.size ≤ x) (Or.inr fr204_0) all0))
  have c206 : CHr Z own_EL _ h205 _ T206.heap := CHr.keep Kq206 (own_slS (Safe.exa hZ.alike ((A203.keep Kq204).ext E205) (by decide) (by decide)) (own_slS (c205.safe P204_4.lt Sf204_t_204) own_sl0)) C205.1
  have C206 := C205.trans c206
  have kk206 := Nat.le_trans kk205 c206.2.1
  refine own_tr st206 ?_
  refine own_st (fun t_ k_ => XS.iloadN X206.here hx rfl (hb hby own_d1_12) rfl (XS.bipush X206.here hx rfl (hb hby own_d1_13) k_)) ?_
  show own_at p e below _ T206 m 15 #[oI r_] [(.int (36 : Int32)), (.int r_), (.ref b203)]
  obtain ⟨_, _, ⟨T207, L207, k207, n207⟩, -, X207, ⟨Lc207, hQ207, l207, y207, z207⟩, st207⟩ := Jvm.LawKit.callS X206 hx (y := own_n28) hown (mvT hZ (own_w hw 82 rfl)) (mvT hZ (own_w hw 83 rfl)) (mvT hZ (own_w hw 84 rfl)) (mvT hZ (own_w hw 85 rfl)) (by decide) (backOf (W := 1) (own_rm13 l Z a0 hw [] r_ G1 ad kd T206.heap n0 (Nat.le_trans Z0 K206.1) ((((q0.ext E203).keep Kq204 (allS ge203 all0)).ext E205).keep Kq206 (allS ge203 (allS ge204_0 all0))) q1 hG1 q3 q4) hZ (own_w hw 85 rfl) (own_w hw 84 rfl) (by decide) (by decide)) (g := (mkF m 15 #[oI r_] [(.int (36 : Int32)), (.int r_), (.ref b203)])) rfl (by rw [hml]; rfl) (argsL := [(.int r_), (.int (36 : Int32))]) (rest := [(.ref b203)]) (lenOf own_pd20 rfl) rfl (own_hW rfl) (hb hby own_d1_15) (fun _ _ => ⟨rfl, rfl, (by decide : 4 + 3 ≤ _), (by decide : 28 + 70 ≤ _)⟩)
  dsimp only [Pt.U, Pt.locs, Pt.cells, Pt.slots] at X207 l207 y207 z207 st207 hQ207
  subst y207 z207
  obtain ⟨r_207, t_207, kt_207, n_207, rfl, N207q, Kq207, P207_0, P207_1, P207_2, P207_3, P207_4, P207_5, P207_6⟩ := hQ207
  have N207 : Fr n0 L207 := by rw [l207]; exact Fr.app N206 N207q
  have K207 : Keep h0 T207.heap [] := K206.trans Kq207 all0
  have c207 : CHr Z own_EL _ T206.heap _ T207.heap := CHr.keep Kq207 own_sl0 C206.1
  have C207 := C206.trans c207
  have kk207 := Nat.le_trans kk206 c207.2.1
  have fr207_0 : h0.size ≤ r_207 := Nat.le_trans K206.1 P207_0
  have ge207_0 : n0 ≤ r_207 := Nat.le_trans Z0 fr207_0
  have Sf207_r_207 : Safe Z own_EL _ T207.heap r_207 := Safe.keep Kq207 own_sl0 C206.1 (Safe.new P207_0)
  have fr207_1 : h0.size ≤ t_207 := Nat.le_trans K206.1 P207_1
  have ge207_1 : n0 ≤ t_207 := Nat.le_trans Z0 fr207_1
  have Sf207_t_207 : Safe Z own_EL _ T207.heap t_207 := Safe.keep Kq207 own_sl0 C206.1 (Safe.new P207_1)
  refine own_st (st207) ?_
  show own_at p e below _ T207 m 18 #[oI r_] [(.ref r_207), (.ref b203)]
  have hdn := P207_6
  have hsg : own_sg r_ ≤ 1 := by unfold own_sg; split <;> decide
  obtain ⟨cq208, kq208, q208a, q208b, q208c⟩ := isOf hZ rfl ((((A203.keep Kq204).ext E205).keep Kq206).keep Kq207)
  obtain ⟨_, _, ⟨T208, L208, k208, n208⟩, -, X208, ⟨Lc208, hQ208, l208, y208, z208⟩, st208⟩ := X207.virtualBack hx (y := own_n14) (z := own_n14) hown (mvT hZ (own_w hw 32 rfl)) (mvT hZ (own_w hw 33 rfl)) (notFace_of_selects (args := #[]) (mvT hZ (own_w hw 35 rfl))) (mvT hZ (own_w hw 35 rfl)) (mvT hZ (own_w hw 34 rfl)) (by decide) (backOf (W := 0) (own_rm5 l Z a0 hw [] b203 r_207 ((0 : Int32) + (Int32.ofNat 1)) 1 t_204 kt_204 (own_cp (fun q => ([119] : List Int32).getD q 0) (fun _ => (0 : Int32)) 0 0 1) t_207 kt_207 (own_sg r_ + n_207) (own_tb (own_sg r_) n_207 r_.toInt.natAbs) G1 T207.heap n0 (Nat.le_trans Z0 K207.1) ((((A203.keep Kq204).ext E205).keep Kq206).keep Kq207) (P206_0.keep Kq207 nin0) (P206_1.keep Kq207 nin0) (P206_2.keep Kq207 nin0) (P206_3.keep Kq207 nin0) ge203 ge204_0 P207_2 P207_3 P207_4 P207_5 (((((q0.ext E203).keep Kq204 (allS ge203 all0)).ext E205).keep Kq206 (allS ge203 (allS ge204_0 all0))).keep Kq207 all0) q1 hG1 ⟨(by decide), (by omega)⟩ (Ne.symm (Nat.ne_of_lt (Nat.lt_of_lt_of_le P206_3.lt P207_1)))) hZ (own_w hw 36 rfl) (own_w hw 6 rfl) (by decide) (by decide)) q208a q208c (g := (mkF m 18 #[oI r_] [(.ref r_207), (.ref b203)])) rfl (by rw [hml]; rfl) (Steps.refl _) (argsL := [(.ref r_207)]) (rest := []) (lenOf own_pd19 rfl) rfl (own_hW rfl) (hb hby own_d1_18) (fun _ _ => ⟨rfl, rfl, (by decide : 7 + 0 ≤ _), (by decide : 98 + 0 ≤ _)⟩)
  dsimp only [Pt.U, Pt.locs, Pt.cells, Pt.slots] at X208 l208 y208 z208 st208 hQ208
  subst y208 z208
  obtain ⟨rfl, N208q, Kq208, P208_0, P208_1, P208_2, P208_3⟩ := hQ208
  have N208 : Fr n0 L208 := by rw [l208]; exact Fr.app N207 N208q
  have K208 : Keep h0 T208.heap [] := K207.trans Kq208 (allS (P := fun x => x ∈ [] ∨ h0.size ≤ x) (Or.inr fr203) (allS (P := fun x => x ∈ [] ∨ h0.size ≤ x) (Or.inr fr204_0) all0))
  have c208 : CHr Z own_EL _ T207.heap _ T208.heap := CHr.keep Kq208 (own_slS (Safe.exa hZ.alike ((((A203.keep Kq204).ext E205).keep Kq206).keep Kq207) (by decide) (by decide)) (own_slS (c207.safe P206_3.lt (c206.safe (P204_4.ext E205).lt (c205.safe P204_4.lt Sf204_t_204))) own_sl0)) C207.1
  have C208 := C207.trans c208
  have kk208 := Nat.le_trans kk207 c208.2.1
  refine own_tr st208 ?_
  show own_at p e below _ T208 m 21 #[oI r_] [(.ref b203)]
  have f209 : Old Z n0 T208.heap := ((((((q0.ext E203).keep Kq204 (allS ge203 all0)).ext E205).keep Kq206 (allS ge203 (allS ge204_0 all0))).keep Kq207 all0).keep Kq208 (allS ge203 (allS ge204_0 all0)))
  obtain ⟨cq210, kq210, q210a, q210b, q210c⟩ := isOf hZ rfl (((((A203.keep Kq204).ext E205).keep Kq206).keep Kq207).keep Kq208)
  obtain ⟨_, _, ⟨T210, L210, k210, n210⟩, -, X210, ⟨Lc210, hQ210, l210, y210, z210⟩, st210⟩ := X208.virtualBack hx (y := own_n27) (z := own_n27) hown (mvT hZ (own_w hw 113 rfl)) (mvT hZ (own_w hw 114 rfl)) (notFace_of_selects (args := #[]) (mvT hZ (own_w hw 116 rfl))) (mvT hZ (own_w hw 116 rfl)) (mvT hZ (own_w hw 115 rfl)) (by decide) (backOf (W := 0) (own_rm20 l Z a0 hw [] b203 (((0 : Int32) + (Int32.ofNat 1)) + (Int32.ofNat (own_sg r_ + n_207))) (1 + (own_sg r_ + n_207)) t_204 kt_204 (own_cp (own_tb (own_sg r_) n_207 r_.toInt.natAbs) (own_cp (fun q => ([119] : List Int32).getD q 0) (fun _ => (0 : Int32)) 0 0 1) 0 1 (own_sg r_ + n_207)) G1 T208.heap n0 (Nat.le_trans Z0 K208.1) (((((A203.keep Kq204).ext E205).keep Kq206).keep Kq207).keep Kq208) P208_0 P208_1 P208_2 P208_3 f209 q1 hG1 ⟨own_cadd (by decide : ((0 : Int32) + (Int32.ofNat 1)).toInt = ((1 : Nat) : Int)) (own_toN (by omega)) (by omega), (by omega), (by omega)⟩) hZ (own_w hw 117 rfl) (own_w hw 6 rfl) (by decide) (by decide)) q210a q210c (g := (mkF m 21 #[oI r_] [(.ref b203)])) rfl (by rw [hml]; rfl) (Steps.refl _) (argsL := []) (rest := []) (lenOf own_pd21 rfl) rfl (own_hW rfl) (hb hby own_d1_21) (fun _ _ => ⟨rfl, rfl, (by decide : 7 + 2 ≤ _), (by decide : 98 + 37 ≤ _)⟩)
  dsimp only [Pt.U, Pt.locs, Pt.cells, Pt.slots] at X210 l210 y210 z210 st210 hQ210
  subst y210 z210
  obtain ⟨r_210, t2_210, k2_210, rfl, N210q, Kq210, P210_0, P210_1, P210_2, P210_3, P210_4, P210_5⟩ := hQ210
  have N210 : Fr n0 L210 := by rw [l210]; exact Fr.app N208 N210q
  have K210 : Keep h0 T210.heap [] := K208.trans Kq210 all0
  have c210 : CHr Z own_EL _ T208.heap _ T210.heap := CHr.keep Kq210 own_sl0 C208.1
  have C210 := C208.trans c210
  have kk210 := Nat.le_trans kk208 c210.2.1
  have fr210_0 : h0.size ≤ r_210 := Nat.le_trans K208.1 P210_0
  have ge210_0 : n0 ≤ r_210 := Nat.le_trans Z0 fr210_0
  have Sf210_r_210 : Safe Z own_EL _ T210.heap r_210 := Safe.keep Kq210 own_sl0 C208.1 (Safe.new P210_0)
  have fr210_1 : h0.size ≤ t2_210 := Nat.le_trans K208.1 P210_1
  have ge210_1 : n0 ≤ t2_210 := Nat.le_trans Z0 fr210_1
  have Sf210_t2_210 : Safe Z own_EL _ T210.heap t2_210 := Safe.keep Kq210 own_sl0 C208.1 (Safe.new P210_1)
  refine own_tr st210 ?_
  show own_at p e below _ T210 m 24 #[oI r_] [(.ref r_210)]
  have At : own_A Z T210.heap t2_210 k2_210 .byte (own_bl (0 : Int32) (1 + (own_sg r_ + n_207))) (fun i => .int ((own_by (0 : Int32) (own_ws (own_sg r_) n_207 r_.toInt.natAbs)) i)) := by rw [own_bl0]; exact (P210_5).congr (fun q hq => by rw [own_by0, own_wsb _ _ _ _ hq]; rfl)
  exact own_retW (w := (.ref r_210)) X210 hx hnl hZ (own_hEL hw) S205 (kk210) (C210) Bd.returns rfl (Or.inr (Or.inr (Or.inr (Or.inr ⟨rfl, rfl, rfl⟩)))) (hb hby own_d1_24) ⟨r_210, t2_210, k2_210, n_207, rfl, N210, (K210), fr210_0, (P210_2), (P210_3), (P210_4), (At), hdn⟩ (by decide) (by decide)


theorem own_nwcc (y : Int32) : narrow .char (.int (y.toUInt32.toUInt16.toUInt32.toInt32)) = .int (y.toUInt32.toUInt16.toUInt32.toInt32) := by
  have a := c_i2c y
  exact own_nwc (by omega) (by omega)

theorem own_d28_0 : decode method_4_code 0 = .ok (.lload_n 0, 1) := by decide +kernel
theorem own_d28_1 : decode method_4_code 1 = .ok (.ldc2_w 43, 3) := by decide +kernel
theorem own_d28_4 : decode method_4_code 4 = .ok (.lcmp, 1) := by decide +kernel
theorem own_d28_5 : decode method_4_code 5 = .ok (.ifCond .ge 13, 3) := by decide +kernel
theorem own_d28_8 : decode method_4_code 8 = .ok (.ldc2_w 45, 3) := by decide +kernel
theorem own_d28_11 : decode method_4_code 11 = .ok (.lload_n 0, 1) := by decide +kernel
theorem own_d28_12 : decode method_4_code 12 = .ok (.ladd, 1) := by decide +kernel
theorem own_d28_13 : decode method_4_code 13 = .ok (.l2i, 1) := by decide +kernel
theorem own_d28_14 : decode method_4_code 14 = .ok (.i2c, 1) := by decide +kernel
theorem own_d28_15 : decode method_4_code 15 = .ok (.goto 14, 3) := by decide +kernel
theorem own_d28_18 : decode method_4_code 18 = .ok (.ldc2_w 47, 3) := by decide +kernel
theorem own_d28_21 : decode method_4_code 21 = .ok (.lload_n 0, 1) := by decide +kernel
theorem own_d28_22 : decode method_4_code 22 = .ok (.ladd, 1) := by decide +kernel
theorem own_d28_23 : decode method_4_code 23 = .ok (.ldc2_w 43, 3) := by decide +kernel
theorem own_d28_26 : decode method_4_code 26 = .ok (.lsub, 1) := by decide +kernel
theorem own_d28_27 : decode method_4_code 27 = .ok (.l2i, 1) := by decide +kernel
theorem own_d28_28 : decode method_4_code 28 = .ok (.i2c, 1) := by decide +kernel
theorem own_d28_29 : decode method_4_code 29 = .ok (.ireturn, 1) := by decide +kernel
theorem own_pn8 : plainName "com/example/freshness/freshness/bench/MadeStreamWordPinLaw" = true := by first | (simp [plainName, overriddenIn]; done) | decide +kernel
theorem own_ef28 (m : MethodId) (x0 : Int64) : entryFrame m #[(.long x0)] 2 = mkF m 0 #[.val (.long x0), .second] [] := by first | (simp [entryFrame, mkF, argsToLocals, Value.category]; done) | rfl
def own_Q28 (Z : State) (d_ : Int64) (h0 : Heap) (n0 : Nat) (v : Option Value) (h : Heap) (L : List Loc) : Prop := v = some (.int (own_dig d_)) ∧ Fr n0 L ∧ h = h0
set_option maxRecDepth 65536 in
set_option maxHeartbeats 40000000 in
theorem own_rm28 (l : Launch) (Z : State) (a0 : Array Value) (hw : ∀ d ∈ tables_1, d.before a0 Z = true) (ws : List Jvm.Cond) (d_ : Int64) (h0 : Heap) (n0 : Nat) (Z0 : n0 ≤ h0.size)  :
    MetFree l own_n30 (head1 (Jvm.Cond.code own_n30 method_4_code 2 (some .char) :: ws) ({ frames := 0, cells := 0, slots := 0, locals := 0 } : Room)) (fun a U => a = #[(.long d_)] ∧ Z.Warmed39 U.vm ∧ U.heap = h0) (fun _ _ _ _ _ => True) (fun _ U o U' => ∃ v L, o = .returned v ∧ own_Q28 Z d_ h0 n0 v U'.heap L ∧ FrameEnd U o U' L ({ frames := 0, cells := 0, slots := 0, locals := 0 } : Room).cells ({ frames := 0, cells := 0, slots := 0, locals := 0 } : Room).slots) := by
  refine MetFree.of_bodySF (plainFor_of_name own_pn8) hisR ?_
  intro p e s m args below meth c s₁ Bd hml0 hP hK
  obtain ⟨rfl, hZ, hh⟩ := hP
  have hx := Bd.exec
  have hby := Bd.bytes
  have hml : c.maxLocals = 2 := hml0
  have hown : s.vm.findClass "com/example/freshness/freshness/bench/MadeStreamWordPinLaw" = some m.cls := findClass_of_methodNamed Bd.named
  have hnm := (name_of_methodNamed Bd.named Bd.method).1
  have hnl : meth.locks = false := Bd.notSynchronized
  have X0 : Stand p l e ({ frames := 0, cells := 0, slots := 0, locals := 0 } : Room) s m #[(.long d_)] below meth c s₁ [] 0 0 := Stand.of_body Bd
  have e0 : s₁.heap = h0 := by rw [← hh, Bd.state]; rfl
  have N0 := Fr.nil n0
  show own_Go p.tables e below (own_P below s (own_Q28 Z d_ h0 n0) ({ frames := 0, cells := 0, slots := 0, locals := 0 } : Room).cells ({ frames := 0, cells := 0, slots := 0, locals := 0 } : Room).slots) _
  refine own_st (fun t_ k_ => castTop (own_ef28 m d_) k_) ?_
  refine own_st (fun t_ k_ => XS.lloadN X0.here hx rfl (hb hby own_d28_0) rfl k_) ?_
  show own_at p e below _ s₁ m 1 #[oJ d_, oS] [(.long d_)]
  refine own_st (X0.ldc2Long hx hown (mvT hZ (own_w hw 153 rfl)) (g := (mkF m 1 #[oJ d_, oS] [(.long d_)])) rfl (hb hby own_d28_1)) ?_
  refine own_st (fun t_ k_ => XS.lcmp X0.here hx rfl (hb hby own_d28_4) rfl k_) ?_
  show own_at p e below _ s₁ m 5 #[oJ d_, oS] [(.int (lcmpW d_ (10 : Int64)))]
  by_cases c5_211 : (lcmpW d_ (10 : Int64)) < (0 : Int32)
  · skip
    refine own_st (fun t_ k_ => XS.ifNo X0.here hx rfl (hb hby own_d28_5) rfl ((if0 _ _).trans (tlt c5_211).2.1) k_) ?_
    show own_at p e below _ s₁ m 8 #[oJ d_, oS] []
    refine own_st (X0.ldc2Long hx hown (mvT hZ (own_w hw 154 rfl)) (g := (mkF m 8 #[oJ d_, oS] [])) rfl (hb hby own_d28_8)) ?_
    refine own_st (fun t_ k_ => XS.lloadN X0.here hx rfl (hb hby own_d28_11) rfl (XS.ladd X0.here hx rfl (hb hby own_d28_12) rfl (XS.l2i X0.here hx rfl (hb hby own_d28_13) rfl (XS.i2c X0.here hx rfl (hb hby own_d28_14) rfl (XS.goto X0.here hx rfl (pc0 := 15) (pc' := 29) rfl (hb hby own_d28_15) (by decide) (by decide) k_))))) ?_
    show own_at p e below _ s₁ m 29 #[oJ d_, oS] [(.int ((((48 : Int64) + d_).toInt32).toUInt32.toUInt16.toUInt32.toInt32))]
    exact own_ret (w := (.int ((((48 : Int64) + d_).toInt32).toUInt32.toUInt16.toUInt32.toInt32))) X0 hx hnl Bd.returns (own_nwcc _) (Or.inl ⟨rfl, by decide, _, rfl⟩) (hb hby own_d28_29) ⟨(by unfold own_dig; rw [if_pos c5_211]), N0, e0⟩ (by decide) (by decide)
  refine own_st (fun t_ k_ => XS.ifYes X0.here hx rfl (pc0 := 5) (pc' := 18) rfl (hb hby own_d28_5) rfl ((if0 _ _).trans (flt c5_211).2.1) (by decide) (by decide) k_) ?_
  show own_at p e below _ s₁ m 18 #[oJ d_, oS] []
  refine own_st (X0.ldc2Long hx hown (mvT hZ (own_w hw 184 rfl)) (g := (mkF m 18 #[oJ d_, oS] [])) rfl (hb hby own_d28_18)) ?_
  refine own_st (fun t_ k_ => XS.lloadN X0.here hx rfl (hb hby own_d28_21) rfl (XS.ladd X0.here hx rfl (hb hby own_d28_22) rfl k_)) ?_
  show own_at p e below _ s₁ m 23 #[oJ d_, oS] [(.long ((97 : Int64) + d_))]
  refine own_st (X0.ldc2Long hx hown (mvT hZ (own_w hw 153 rfl)) (g := (mkF m 23 #[oJ d_, oS] [(.long ((97 : Int64) + d_))])) rfl (hb hby own_d28_23)) ?_
  refine own_st (fun t_ k_ => XS.lsub X0.here hx rfl (hb hby own_d28_26) rfl (XS.l2i X0.here hx rfl (hb hby own_d28_27) rfl (XS.i2c X0.here hx rfl (hb hby own_d28_28) rfl k_))) ?_
  show own_at p e below _ s₁ m 29 #[oJ d_, oS] [(.int (((((97 : Int64) + d_) - (10 : Int64)).toInt32).toUInt32.toUInt16.toUInt32.toInt32))]
  exact own_ret (w := (.int (((((97 : Int64) + d_) - (10 : Int64)).toInt32).toUInt32.toUInt16.toUInt32.toInt32))) X0 hx hnl Bd.returns (own_nwcc _) (Or.inl ⟨rfl, by decide, _, rfl⟩) (hb hby own_d28_29) ⟨(by unfold own_dig; rw [if_neg c5_211]), N0, e0⟩ (by decide) (by decide)


theorem own_digc (d : Int64) : nar .char (own_dig d) = own_dig d := by
  unfold own_dig
  split <;> exact own_narcc _

theorem own_d27_0 : decode method_3_code 0 = .ok (.iload_n 3, 1) := by decide +kernel
theorem own_d27_1 : decode method_3_code 1 = .ok (.iload_n 2, 1) := by decide +kernel
theorem own_d27_2 : decode method_3_code 2 = .ok (.if_icmp .ge 28, 3) := by decide +kernel
theorem own_d27_5 : decode method_3_code 5 = .ok (.lload 4, 2) := by decide +kernel
theorem own_d27_7 : decode method_3_code 7 = .ok (.lload 6, 2) := by decide +kernel
theorem own_d27_9 : decode method_3_code 9 = .ok (.ldiv, 1) := by decide +kernel
theorem own_d27_10 : decode method_3_code 10 = .ok (.ldc2_w 13, 3) := by decide +kernel
theorem own_d27_13 : decode method_3_code 13 = .ok (.lrem, 1) := by decide +kernel
theorem own_d27_14 : decode method_3_code 14 = .ok (.lstore 8, 2) := by decide +kernel
theorem own_d27_16 : decode method_3_code 16 = .ok (.aload_n 0, 1) := by decide +kernel
theorem own_d27_17 : decode method_3_code 17 = .ok (.iload_n 1, 1) := by decide +kernel
theorem own_d27_18 : decode method_3_code 18 = .ok (.iload_n 2, 1) := by decide +kernel
theorem own_d27_19 : decode method_3_code 19 = .ok (.iadd, 1) := by decide +kernel
theorem own_d27_20 : decode method_3_code 20 = .ok (.iconst 1, 1) := by decide +kernel
theorem own_d27_21 : decode method_3_code 21 = .ok (.isub, 1) := by decide +kernel
theorem own_d27_22 : decode method_3_code 22 = .ok (.iload_n 3, 1) := by decide +kernel
theorem own_d27_23 : decode method_3_code 23 = .ok (.isub, 1) := by decide +kernel
theorem own_d27_24 : decode method_3_code 24 = .ok (.lload 8, 2) := by decide +kernel
theorem own_d27_26 : decode method_3_code 26 = .ok (.invokestatic 39, 3) := by decide +kernel
theorem own_d27_29 : decode method_3_code 29 = .ok (.castore, 1) := by decide +kernel
theorem own_d27_30 : decode method_3_code 30 = .ok (.return_, 1) := by decide +kernel
theorem own_pd22 : parseMethodDescriptor "(J)C" = some ⟨[.long], some .char⟩ := by decide +kernel
theorem own_ef27y (m : MethodId) (x0 : Addr) (x1 : Int32) (x2 : Int32) (x3 : Int32) (x4 : Int64) (x5 : Int64) : entryFrame m #[(.ref x0), (.int x1), (.int x2), (.int x3), (.long x4), (.long x5)] 10 = mkF m 0 #[.val (.ref x0), .val (.int x1), .val (.int x2), .val (.int x3), .val (.long x4), .second, .val (.long x5), .second, .unset, .unset] [] := by first | (simp [entryFrame, mkF, argsToLocals, Value.category]; done) | rfl
def own_Q27y (Z : State) (b1 : Addr) (p_ : Int32) (n_ : Int32) (kx_ : Int32) (v_ : Int64) (w_ : Int64) (k1 : ClassId) (g_ : Nat → Int32) (ix : Nat) (h0 : Heap) (n0 : Nat) (v : Option Value) (h : Heap) (L : List Loc) : Prop := v = none ∧ Fr n0 L ∧ Keep h0 h [b1] ∧ own_A Z h b1 k1 .char 8 (fun i => .int ((own_upd g_ ix (own_dig ((v_ / w_) % (36 : Int64)))) i))
set_option maxRecDepth 65536 in
set_option maxHeartbeats 40000000 in
theorem own_rm27y (l : Launch) (Z : State) (a0 : Array Value) (hw : ∀ d ∈ tables_1, d.before a0 Z = true) (ws : List Jvm.Cond) (b1 : Addr) (p_ : Int32) (n_ : Int32) (kx_ : Int32) (v_ : Int64) (w_ : Int64) (k1 : ClassId) (g_ : Nat → Int32) (ix : Nat) (h0 : Heap) (n0 : Nat) (Z0 : n0 ≤ h0.size) (q0 : own_A Z h0 b1 k1 .char 8 (fun i => .int (g_ i))) (q1 : n0 ≤ b1) (hkn : (kx_ < n_)) (hix : (((p_ + n_ - 1) - kx_).toInt = (ix : Int) ∧ ix < 8)) (hwz : (w_ ≠ 0)) :
    MetFree l own_n31 (head1 (Jvm.Cond.code own_n31 method_3_code 10 none :: ws) ({ frames := 1, cells := 0, slots := 0, locals := 15 } : Room)) (fun a U => a = #[(.ref b1), (.int p_), (.int n_), (.int kx_), (.long v_), (.long w_)] ∧ Z.Warmed39 U.vm ∧ U.heap = h0) (fun _ _ _ _ _ => True) (fun _ U o U' => ∃ v L, o = .returned v ∧ own_Q27y Z b1 p_ n_ kx_ v_ w_ k1 g_ ix h0 n0 v U'.heap L ∧ FrameEnd U o U' L ({ frames := 1, cells := 0, slots := 0, locals := 15 } : Room).cells ({ frames := 1, cells := 0, slots := 0, locals := 15 } : Room).slots) := by
  refine MetFree.of_bodySF (plainFor_of_name own_pn8) hisR ?_
  intro p e s m args below meth c s₁ Bd hml0 hP hK
  obtain ⟨rfl, hZ, hh⟩ := hP
  have hx := Bd.exec
  have hby := Bd.bytes
  have hml : c.maxLocals = 10 := hml0
  have hown : s.vm.findClass "com/example/freshness/freshness/bench/MadeStreamWordPinLaw" = some m.cls := findClass_of_methodNamed Bd.named
  have hnm := (name_of_methodNamed Bd.named Bd.method).1
  have hnl : meth.locks = false := Bd.notSynchronized
  have X0 : Stand p l e ({ frames := 1, cells := 0, slots := 0, locals := 15 } : Room) s m #[(.ref b1), (.int p_), (.int n_), (.int kx_), (.long v_), (.long w_)] below meth c s₁ [] 0 0 := Stand.of_body Bd
  have e0 : s₁.heap = h0 := by rw [← hh, Bd.state]; rfl
  have N0 := Fr.nil n0
  show own_Go p.tables e below (own_P below s (own_Q27y Z b1 p_ n_ kx_ v_ w_ k1 g_ ix h0 n0) ({ frames := 1, cells := 0, slots := 0, locals := 15 } : Room).cells ({ frames := 1, cells := 0, slots := 0, locals := 15 } : Room).slots) _
  refine own_st (fun t_ k_ => castTop (own_ef27y m b1 p_ n_ kx_ v_ w_) k_) ?_
  refine own_st (fun t_ k_ => XS.iloadN X0.here hx rfl (hb hby own_d27_0) rfl (XS.iloadN X0.here hx rfl (hb hby own_d27_1) rfl (XS.icmpNo X0.here hx rfl (hb hby own_d27_2) rfl (tlt hkn).2.1 (XS.lload X0.here hx rfl (hb hby own_d27_5) rfl (XS.lload X0.here hx rfl (hb hby own_d27_7) rfl (XS.ldiv X0.here hx rfl (hb hby own_d27_9) rfl hwz k_)))))) ?_
  show own_at p e below _ s₁ m 10 #[oR b1, oI p_, oI n_, oI kx_, oJ v_, oS, oJ w_, oS, oU, oU] [(.long (v_ / w_))]
  refine own_st (X0.ldc2Long hx hown (mvT hZ (own_w hw 144 rfl)) (g := (mkF m 10 #[oR b1, oI p_, oI n_, oI kx_, oJ v_, oS, oJ w_, oS, oU, oU] [(.long (v_ / w_))])) rfl (hb hby own_d27_10)) ?_
  show own_at p e below _ s₁ m 13 #[oR b1, oI p_, oI n_, oI kx_, oJ v_, oS, oJ w_, oS, oU, oU] [(.long (36 : Int64)), (.long (v_ / w_))]
  refine own_st (fun t_ k_ => own_lrem X0 hx rfl (hb hby own_d27_13) rfl (by decide) k_) ?_
  refine own_st (fun t_ k_ => XS.lstore X0.here hx rfl (hb hby own_d27_14) rfl (l' := #[oR b1, oI p_, oI n_, oI kx_, oJ v_, oS, oJ w_, oS, oJ ((v_ / w_) % (36 : Int64)), oS]) rfl (XS.aloadN X0.here hx rfl (hb hby own_d27_16) rfl rfl (XS.iloadN X0.here hx rfl (hb hby own_d27_17) rfl (XS.iloadN X0.here hx rfl (hb hby own_d27_18) rfl (XS.iadd X0.here hx rfl (hb hby own_d27_19) rfl (XS.iconst X0.here hx rfl (hb hby own_d27_20) k_)))))) ?_
  show own_at p e below _ s₁ m 21 #[oR b1, oI p_, oI n_, oI kx_, oJ v_, oS, oJ w_, oS, oJ ((v_ / w_) % (36 : Int64)), oS] [(.int (1 : Int32)), (.int (p_ + n_)), (.ref b1)]
  refine own_st (fun t_ k_ => XS.isub X0.here hx rfl (hb hby own_d27_21) rfl (XS.iloadN X0.here hx rfl (hb hby own_d27_22) rfl (XS.isub X0.here hx rfl (hb hby own_d27_23) rfl (XS.lload X0.here hx rfl (hb hby own_d27_24) rfl k_)))) ?_
  show own_at p e below _ s₁ m 26 #[oR b1, oI p_, oI n_, oI kx_, oJ v_, oS, oJ w_, oS, oJ ((v_ / w_) % (36 : Int64)), oS] [(.long ((v_ / w_) % (36 : Int64))), (.int (((p_ + n_) - (1 : Int32)) - kx_)), (.ref b1)]
  obtain ⟨_, _, ⟨T212, L212, k212, n212⟩, -, X212, ⟨Lc212, hQ212, l212, y212, z212⟩, st212⟩ := Jvm.LawKit.callS X0 hx (y := own_n30) hown (mvT hZ (own_w hw 150 rfl)) (mvT hZ (own_w hw 151 rfl)) (mvT hZ (own_w hw 148 rfl)) (mvT hZ (own_w hw 152 rfl)) (by decide) (backOf (W := 2) (own_rm28 l Z a0 hw [] ((v_ / w_) % (36 : Int64)) h0 n0 (Nat.le_trans Z0 (Keep.refl h0 [b1]).1)) hZ (own_w hw 152 rfl) (own_w hw 148 rfl) (by decide) (by decide)) (g := (mkF m 26 #[oR b1, oI p_, oI n_, oI kx_, oJ v_, oS, oJ w_, oS, oJ ((v_ / w_) % (36 : Int64)), oS] [(.long ((v_ / w_) % (36 : Int64))), (.int (((p_ + n_) - (1 : Int32)) - kx_)), (.ref b1)])) rfl (by rw [hml]; rfl) (argsL := [(.long ((v_ / w_) % (36 : Int64)))]) (rest := [(.int (((p_ + n_) - (1 : Int32)) - kx_)), (.ref b1)]) (lenOf own_pd22 rfl) rfl (own_hW rfl) (hb hby own_d27_26) (fun _ _ => ⟨rfl, e0, (by decide : 0 + 0 ≤ _), (by decide : 0 + 0 ≤ _)⟩)
  dsimp only [Pt.U, Pt.locs, Pt.cells, Pt.slots] at X212 l212 y212 z212 st212 hQ212
  subst y212 z212
  obtain ⟨rfl, N212q, eq212⟩ := hQ212
  have N212 : Fr n0 L212 := by rw [l212]; exact Fr.app N0 N212q
  refine own_st (st212) ?_
  show own_at p e below _ T212 m 29 #[oR b1, oI p_, oI n_, oI kx_, oJ v_, oS, oJ w_, oS, oJ ((v_ / w_) % (36 : Int64)), oS] [(.int (own_dig ((v_ / w_) % (36 : Int64)))), (.int (((p_ + n_) - (1 : Int32)) - kx_)), (.ref b1)]
  obtain ⟨T213, h213, X213, e213, W213, Aw213, st213⟩ := own_castore X212 hx hZ eq212 q0 (i := ix) hix.1 hix.2 (own_digc _) (v' := (own_dig ((v_ / w_) % (36 : Int64)))) (g := (mkF m 29 #[oR b1, oI p_, oI n_, oI kx_, oJ v_, oS, oJ w_, oS, oJ ((v_ / w_) % (36 : Int64)), oS] [(.int (own_dig ((v_ / w_) % (36 : Int64)))), (.int (((p_ + n_) - (1 : Int32)) - kx_)), (.ref b1)])) rfl rfl (hb hby own_d27_29)
  have N213 := Fr.snoc X213 N212 q1
  have K213 : Keep h0 h213 [b1] := (Keep.refl h0 [b1]).wr W213 (Or.inl (List.mem_of_getElem? (i := 0) rfl))
  refine own_st (st213) ?_
  show own_at p e below _ T213 m 30 #[oR b1, oI p_, oI n_, oI kx_, oJ v_, oS, oJ w_, oS, oJ ((v_ / w_) % (36 : Int64)), oS] []
  exact own_ret0 X213 hx hnl Bd.returns (hb hby own_d27_30) ⟨rfl, N213, (by rw [e213]; exact K213), (by rw [e213]; exact Aw213)⟩ (by decide) (by decide)

theorem own_ef27n (m : MethodId) (x0 : Addr) (x1 : Int32) (x2 : Int32) (x3 : Int32) (x4 : Int64) (x5 : Int64) : entryFrame m #[(.ref x0), (.int x1), (.int x2), (.int x3), (.long x4), (.long x5)] 10 = mkF m 0 #[.val (.ref x0), .val (.int x1), .val (.int x2), .val (.int x3), .val (.long x4), .second, .val (.long x5), .second, .unset, .unset] [] := by first | (simp [entryFrame, mkF, argsToLocals, Value.category]; done) | rfl
def own_Q27n (Z : State) (b1 : Addr) (p_ : Int32) (n_ : Int32) (kx_ : Int32) (v_ : Int64) (w_ : Int64) (h0 : Heap) (n0 : Nat) (v : Option Value) (h : Heap) (L : List Loc) : Prop := v = none ∧ Fr n0 L ∧ h = h0
set_option maxRecDepth 65536 in
set_option maxHeartbeats 40000000 in
theorem own_rm27n (l : Launch) (Z : State) (a0 : Array Value) (hw : ∀ d ∈ tables_1, d.before a0 Z = true) (ws : List Jvm.Cond) (b1 : Addr) (p_ : Int32) (n_ : Int32) (kx_ : Int32) (v_ : Int64) (w_ : Int64) (h0 : Heap) (n0 : Nat) (Z0 : n0 ≤ h0.size) (hkn : (¬ kx_ < n_)) :
    MetFree l own_n31 (head1 (Jvm.Cond.code own_n31 method_3_code 10 none :: ws) ({ frames := 0, cells := 0, slots := 0, locals := 0 } : Room)) (fun a U => a = #[(.ref b1), (.int p_), (.int n_), (.int kx_), (.long v_), (.long w_)] ∧ Z.Warmed39 U.vm ∧ U.heap = h0) (fun _ _ _ _ _ => True) (fun _ U o U' => ∃ v L, o = .returned v ∧ own_Q27n Z b1 p_ n_ kx_ v_ w_ h0 n0 v U'.heap L ∧ FrameEnd U o U' L ({ frames := 0, cells := 0, slots := 0, locals := 0 } : Room).cells ({ frames := 0, cells := 0, slots := 0, locals := 0 } : Room).slots) := by
  refine MetFree.of_bodySF (plainFor_of_name own_pn8) hisR ?_
  intro p e s m args below meth c s₁ Bd hml0 hP hK
  obtain ⟨rfl, hZ, hh⟩ := hP
  have hx := Bd.exec
  have hby := Bd.bytes
  have hml : c.maxLocals = 10 := hml0
  have hown : s.vm.findClass "com/example/freshness/freshness/bench/MadeStreamWordPinLaw" = some m.cls := findClass_of_methodNamed Bd.named
  have hnm := (name_of_methodNamed Bd.named Bd.method).1
  have hnl : meth.locks = false := Bd.notSynchronized
  have X0 : Stand p l e ({ frames := 0, cells := 0, slots := 0, locals := 0 } : Room) s m #[(.ref b1), (.int p_), (.int n_), (.int kx_), (.long v_), (.long w_)] below meth c s₁ [] 0 0 := Stand.of_body Bd
  have e0 : s₁.heap = h0 := by rw [← hh, Bd.state]; rfl
  have N0 := Fr.nil n0
  show own_Go p.tables e below (own_P below s (own_Q27n Z b1 p_ n_ kx_ v_ w_ h0 n0) ({ frames := 0, cells := 0, slots := 0, locals := 0 } : Room).cells ({ frames := 0, cells := 0, slots := 0, locals := 0 } : Room).slots) _
  refine own_st (fun t_ k_ => castTop (own_ef27n m b1 p_ n_ kx_ v_ w_) k_) ?_
  refine own_st (fun t_ k_ => XS.iloadN X0.here hx rfl (hb hby own_d27_0) rfl (XS.iloadN X0.here hx rfl (hb hby own_d27_1) rfl (XS.icmpYes X0.here hx rfl (pc0 := 2) (pc' := 30) rfl (hb hby own_d27_2) rfl (flt hkn).2.1 (by decide) (by decide) k_))) ?_
  show own_at p e below _ s₁ m 30 #[oR b1, oI p_, oI n_, oI kx_, oJ v_, oS, oJ w_, oS, oU, oU] []
  exact own_ret0 X0 hx hnl Bd.returns (hb hby own_d27_30) ⟨rfl, N0, e0⟩ (by decide) (by decide)

theorem own_d29_0 : decode method_5_code 0 = .ok (.iload_n 3, 1) := by decide +kernel
theorem own_d29_1 : decode method_5_code 1 = .ok (.iload_n 2, 1) := by decide +kernel
theorem own_d29_2 : decode method_5_code 2 = .ok (.if_icmp .ge 14, 3) := by decide +kernel
theorem own_d29_16 : decode method_5_code 16 = .ok (.iconst 1, 1) := by decide +kernel
theorem own_d29_17 : decode method_5_code 17 = .ok (.goto 4, 3) := by decide +kernel
theorem own_d29_21 : decode method_5_code 21 = .ok (.ireturn, 1) := by decide +kernel
theorem own_ef29n (m : MethodId) (x0 : Addr) (x1 : Addr) (x2 : Int32) (x3 : Int32) : entryFrame m #[(.ref x0), (.ref x1), (.int x2), (.int x3)] 4 = mkF m 0 #[.val (.ref x0), .val (.ref x1), .val (.int x2), .val (.int x3)] [] := by first | (simp [entryFrame, mkF, argsToLocals, Value.category]; done) | rfl
def own_Q29n (Z : State) (a1 : Addr) (b1 : Addr) (ln_ : Int32) (i_ : Int32) (h0 : Heap) (n0 : Nat) (v : Option Value) (h : Heap) (L : List Loc) : Prop := v = some (.int (1 : Int32)) ∧ Fr n0 L ∧ h = h0
set_option maxRecDepth 65536 in
set_option maxHeartbeats 40000000 in
theorem own_rm29n (l : Launch) (Z : State) (a0 : Array Value) (hw : ∀ d ∈ tables_1, d.before a0 Z = true) (ws : List Jvm.Cond) (a1 : Addr) (b1 : Addr) (ln_ : Int32) (i_ : Int32) (h0 : Heap) (n0 : Nat) (Z0 : n0 ≤ h0.size) (hge : (¬ i_ < ln_)) :
    MetFree l own_n32 (head1 (Jvm.Cond.code own_n32 method_5_code 4 (some .boolean) :: ws) ({ frames := 0, cells := 0, slots := 0, locals := 0 } : Room)) (fun a U => a = #[(.ref a1), (.ref b1), (.int ln_), (.int i_)] ∧ Z.Warmed39 U.vm ∧ U.heap = h0) (fun _ _ _ _ _ => True) (fun _ U o U' => ∃ v L, o = .returned v ∧ own_Q29n Z a1 b1 ln_ i_ h0 n0 v U'.heap L ∧ FrameEnd U o U' L ({ frames := 0, cells := 0, slots := 0, locals := 0 } : Room).cells ({ frames := 0, cells := 0, slots := 0, locals := 0 } : Room).slots) := by
  refine MetFree.of_bodySF (plainFor_of_name own_pn8) hisR ?_
  intro p e s m args below meth c s₁ Bd hml0 hP hK
  obtain ⟨rfl, hZ, hh⟩ := hP
  have hx := Bd.exec
  have hby := Bd.bytes
  have hml : c.maxLocals = 4 := hml0
  have hown : s.vm.findClass "com/example/freshness/freshness/bench/MadeStreamWordPinLaw" = some m.cls := findClass_of_methodNamed Bd.named
  have hnm := (name_of_methodNamed Bd.named Bd.method).1
  have hnl : meth.locks = false := Bd.notSynchronized
  have X0 : Stand p l e ({ frames := 0, cells := 0, slots := 0, locals := 0 } : Room) s m #[(.ref a1), (.ref b1), (.int ln_), (.int i_)] below meth c s₁ [] 0 0 := Stand.of_body Bd
  have e0 : s₁.heap = h0 := by rw [← hh, Bd.state]; rfl
  have N0 := Fr.nil n0
  show own_Go p.tables e below (own_P below s (own_Q29n Z a1 b1 ln_ i_ h0 n0) ({ frames := 0, cells := 0, slots := 0, locals := 0 } : Room).cells ({ frames := 0, cells := 0, slots := 0, locals := 0 } : Room).slots) _
  refine own_st (fun t_ k_ => castTop (own_ef29n m a1 b1 ln_ i_) k_) ?_
  refine own_st (fun t_ k_ => XS.iloadN X0.here hx rfl (hb hby own_d29_0) rfl (XS.iloadN X0.here hx rfl (hb hby own_d29_1) rfl (XS.icmpYes X0.here hx rfl (pc0 := 2) (pc' := 16) rfl (hb hby own_d29_2) rfl (flt hge).2.1 (by decide) (by decide) (XS.iconst X0.here hx rfl (hb hby own_d29_16) (XS.goto X0.here hx rfl (pc0 := 17) (pc' := 21) rfl (hb hby own_d29_17) (by decide) (by decide) k_))))) ?_
  show own_at p e below _ s₁ m 21 #[oR a1, oR b1, oI ln_, oI i_] [(.int (1 : Int32))]
  exact own_ret (w := (.int (1 : Int32))) X0 hx hnl Bd.returns rfl (Or.inl ⟨rfl, by decide, _, rfl⟩) (hb hby own_d29_21) ⟨rfl, N0, e0⟩ (by decide) (by decide)

theorem own_d29_5 : decode method_5_code 5 = .ok (.aload_n 0, 1) := by decide +kernel
theorem own_d29_6 : decode method_5_code 6 = .ok (.iload_n 3, 1) := by decide +kernel
theorem own_d29_7 : decode method_5_code 7 = .ok (.invokevirtual 49, 3) := by decide +kernel
theorem own_d29_10 : decode method_5_code 10 = .ok (.aload_n 1, 1) := by decide +kernel
theorem own_d29_11 : decode method_5_code 11 = .ok (.iload_n 3, 1) := by decide +kernel
theorem own_d29_12 : decode method_5_code 12 = .ok (.caload, 1) := by decide +kernel
theorem own_d29_13 : decode method_5_code 13 = .ok (.if_icmp .ne 7, 3) := by decide +kernel
theorem own_pd23 : parseMethodDescriptor "(I)C" = some ⟨[.int], some .char⟩ := by decide +kernel
theorem own_ef29y (m : MethodId) (x0 : Addr) (x1 : Addr) (x2 : Int32) (x3 : Int32) : entryFrame m #[(.ref x0), (.ref x1), (.int x2), (.int x3)] 4 = mkF m 0 #[.val (.ref x0), .val (.ref x1), .val (.int x2), .val (.int x3)] [] := by first | (simp [entryFrame, mkF, argsToLocals, Value.category]; done) | rfl
def own_Q29y (Z : State) (a1 : Addr) (b1 : Addr) (ln_ : Int32) (i_ : Int32) (t : Addr) (kt : ClassId) (n1 : Nat) (cs : Nat → Int32) (k1 : ClassId) (g_ : Nat → Int32) (qn : Nat) (G1 : Int32) (G3 : Value) (h0 : Heap) (n0 : Nat) (v : Option Value) (h : Heap) (L : List Loc) : Prop := v = some (.int (1 : Int32)) ∧ Fr n0 L ∧ h = h0
set_option maxRecDepth 65536 in
set_option maxHeartbeats 40000000 in
theorem own_rm29y (l : Launch) (Z : State) (a0 : Array Value) (hw : ∀ d ∈ tables_1, d.before a0 Z = true) (ws : List Jvm.Cond) (a1 : Addr) (b1 : Addr) (ln_ : Int32) (i_ : Int32) (t : Addr) (kt : ClassId) (n1 : Nat) (cs : Nat → Int32) (k1 : ClassId) (g_ : Nat → Int32) (qn : Nat) (G1 : Int32) (G3 : Value) (h0 : Heap) (n0 : Nat) (Z0 : n0 ≤ h0.size) (q0 : Exa Z h0 a1 "java/lang/String") (q1 : Fld Z h0 a1 "java/lang/String" "value" "[B" (.ref t)) (q2 : Fld Z h0 a1 "java/lang/String" "coder" "B" (.int (0 : Int32))) (q3 : own_A Z h0 t kt .byte (own_bl (0 : Int32) n1) (fun i => .int ((own_by (0 : Int32) cs) i))) (hcd : (((0 : Int32) = 0 ∧ ∀ q : Nat, q < n1 → ¬ (255 : Int32) < cs q) ∨ (0 : Int32) = 1)) (hc0 : ((0 : Int32) = 0)) (q6 : Old Z n0 h0) (q7 : Sta Z Z.heap "java/lang/String" "COMPACT_STRINGS" "Z" (.int G1)) (hG1 : (¬ G1 = (0 : Int32))) (q9 : Sta Z Z.heap "jdk/internal/util/Preconditions" "SIOOBE_FORMATTER" "Ljava/util/function/BiFunction;" G3) (rG3 : (G3.isRef = true)) (q11 : own_A Z h0 b1 k1 .char 8 (fun i => .int (g_ i))) (hil : (i_ < ln_)) (hq : (i_.toInt = (qn : Int) ∧ qn < n1 ∧ n1 ≤ 4000)) (hq8 : (qn < 8)) (hch : (0 ≤ (cs qn).toInt ∧ (cs qn).toInt ≤ 65535)) (heq : ((cs qn) = (g_ qn))) :
    MetFree l own_n32 (head1 (Jvm.Cond.code own_n32 method_5_code 4 (some .boolean) :: ws) ({ frames := 4, cells := 0, slots := 0, locals := 53 } : Room)) (fun a U => a = #[(.ref a1), (.ref b1), (.int ln_), (.int i_)] ∧ Z.Warmed39 U.vm ∧ U.heap = h0) (fun _ _ _ _ _ => True) (fun _ U o U' => ∃ v L, o = .returned v ∧ own_Q29y Z a1 b1 ln_ i_ t kt n1 cs k1 g_ qn G1 G3 h0 n0 v U'.heap L ∧ FrameEnd U o U' L ({ frames := 4, cells := 0, slots := 0, locals := 53 } : Room).cells ({ frames := 4, cells := 0, slots := 0, locals := 53 } : Room).slots) := by
  refine MetFree.of_bodySF (plainFor_of_name own_pn8) hisR ?_
  intro p e s m args below meth c s₁ Bd hml0 hP hK
  obtain ⟨rfl, hZ, hh⟩ := hP
  have hx := Bd.exec
  have hby := Bd.bytes
  have hml : c.maxLocals = 4 := hml0
  have hown : s.vm.findClass "com/example/freshness/freshness/bench/MadeStreamWordPinLaw" = some m.cls := findClass_of_methodNamed Bd.named
  have hnm := (name_of_methodNamed Bd.named Bd.method).1
  have hnl : meth.locks = false := Bd.notSynchronized
  have X0 : Stand p l e ({ frames := 4, cells := 0, slots := 0, locals := 53 } : Room) s m #[(.ref a1), (.ref b1), (.int ln_), (.int i_)] below meth c s₁ [] 0 0 := Stand.of_body Bd
  have e0 : s₁.heap = h0 := by rw [← hh, Bd.state]; rfl
  have N0 := Fr.nil n0
  show own_Go p.tables e below (own_P below s (own_Q29y Z a1 b1 ln_ i_ t kt n1 cs k1 g_ qn G1 G3 h0 n0) ({ frames := 4, cells := 0, slots := 0, locals := 53 } : Room).cells ({ frames := 4, cells := 0, slots := 0, locals := 53 } : Room).slots) _
  refine own_st (fun t_ k_ => castTop (own_ef29y m a1 b1 ln_ i_) k_) ?_
  refine own_st (fun t_ k_ => XS.iloadN X0.here hx rfl (hb hby own_d29_0) rfl (XS.iloadN X0.here hx rfl (hb hby own_d29_1) rfl (XS.icmpNo X0.here hx rfl (hb hby own_d29_2) rfl (tlt hil).2.1 (XS.aloadN X0.here hx rfl (hb hby own_d29_5) rfl rfl (XS.iloadN X0.here hx rfl (hb hby own_d29_6) rfl k_))))) ?_
  show own_at p e below _ s₁ m 7 #[oR a1, oR b1, oI ln_, oI i_] [(.int i_), (.ref a1)]
  obtain ⟨cq214, kq214, q214a, q214b, q214c⟩ := isOf hZ e0 q0
  obtain ⟨_, _, ⟨T214, L214, k214, n214⟩, -, X214, ⟨Lc214, hQ214, l214, y214, z214⟩, st214⟩ := X0.virtualBack hx (y := own_n4) (z := own_n4) hown (mvT hZ (own_w hw 163 rfl)) (mvT hZ (own_w hw 164 rfl)) (notFace_of_selects (args := #[]) (mvT hZ (own_w hw 166 rfl))) (mvT hZ (own_w hw 166 rfl)) (mvT hZ (own_w hw 165 rfl)) (by decide) (backOf (W := 0) (own_rm30 l Z a0 hw [] a1 i_ t kt (0 : Int32) n1 cs qn G1 G3 h0 n0 (Nat.le_trans Z0 (Keep.refl h0 []).1) q0 q1 q2 q3 hcd hc0 q6 q7 hG1 q9 rG3 hq hch) hZ (own_w hw 167 rfl) (own_w hw 20 rfl) (by decide) (by decide)) q214a q214c (g := (mkF m 7 #[oR a1, oR b1, oI ln_, oI i_] [(.int i_), (.ref a1)])) rfl (by rw [hml]; rfl) (Steps.refl _) (argsL := [(.int i_)]) (rest := []) (lenOf own_pd23 rfl) rfl (own_hW rfl) (hb hby own_d29_7) (fun _ _ => ⟨rfl, e0, (by decide : 0 + 0 ≤ _), (by decide : 0 + 0 ≤ _)⟩)
  dsimp only [Pt.U, Pt.locs, Pt.cells, Pt.slots] at X214 l214 y214 z214 st214 hQ214
  subst y214 z214
  obtain ⟨rfl, N214q, eq214⟩ := hQ214
  have N214 : Fr n0 L214 := by rw [l214]; exact Fr.app N0 N214q
  refine own_tr st214 ?_
  refine own_st (fun t_ k_ => XS.aloadN X214.here hx rfl (hb hby own_d29_10) rfl rfl (XS.iloadN X214.here hx rfl (hb hby own_d29_11) rfl k_)) ?_
  show own_at p e below _ T214 m 12 #[oR a1, oR b1, oI ln_, oI i_] [(.int i_), (.ref b1), (.int (cs qn))]
  refine own_st (own_caload X214 hx hZ eq214 q11 (i := qn) hq.1 hq8 (g := (mkF m 12 #[oR a1, oR b1, oI ln_, oI i_] [(.int i_), (.ref b1), (.int (cs qn))])) rfl rfl (hb hby own_d29_12)) ?_
  refine own_st (fun t_ k_ => XS.icmpNo X214.here hx rfl (hb hby own_d29_13) rfl (teq heq).2 (XS.iconst X214.here hx rfl (hb hby own_d29_16) (XS.goto X214.here hx rfl (pc0 := 17) (pc' := 21) rfl (hb hby own_d29_17) (by decide) (by decide) k_))) ?_
  show own_at p e below _ T214 m 21 #[oR a1, oR b1, oI ln_, oI i_] [(.int (1 : Int32))]
  exact own_ret (w := (.int (1 : Int32))) X214 hx hnl Bd.returns rfl (Or.inl ⟨rfl, by decide, _, rfl⟩) (hb hby own_d29_21) ⟨rfl, N214, eq214⟩ (by decide) (by decide)


theorem own_lat7 {x : Int32} (hf : 0 ≤ x.toInt ∧ x.toInt ≤ 127) : ¬ (255 : Int32) < x := by
  have w : (255 : Int32).toInt = 255 := by decide
  rw [Int32.lt_iff_toInt_lt, w]; omega

theorem own_pd24 : parseMethodDescriptor "(I)Ljava/lang/String;" = some ⟨[.int], some (.object "java/lang/String")⟩ := by decide +kernel
theorem own_pd25 : parseMethodDescriptor "([CIIIJJ)V" = some ⟨[(.array .char), .int, .int, .int, .long, .long], none⟩ := by decide +kernel
theorem own_pd26 : parseMethodDescriptor "(Ljava/lang/String;[CII)Z" = some ⟨[(.object "java/lang/String"), (.array .char), .int, .int], some .boolean⟩ := by decide +kernel
theorem own_ef0 (m : MethodId) (x0 : Int32) : entryFrame m #[(.int x0)] maxLocals = mkF m 0 #[.val (.int x0), .unset, .unset, .unset, .unset, .unset, .unset, .unset, .unset] [] := by first | (simp [entryFrame, mkF, argsToLocals, Value.category, maxLocals]; done) | rfl
def own_Q0 (Z : State) (p0 : Int32) (G1 : Int32) (G3 : Value) (ad : Addr) (kd : ClassId) (h0 : Heap) (n0 : Nat) (v : Option Value) (h : Heap) (L : List Loc) : Prop := v = some (.int (1 : Int32)) ∧ Fr n0 L ∧ Keep h0 h []
set_option maxRecDepth 65536 in
set_option maxHeartbeats 40000000 in
theorem own_rm0 (l : Launch) (Z : State) (a0 : Array Value) (hw : ∀ d ∈ tables_1, d.before a0 Z = true) (ws : List Jvm.Cond) (p0 : Int32) (G1 : Int32) (G3 : Value) (ad : Addr) (kd : ClassId) (h0 : Heap) (n0 : Nat) (Z0 : n0 ≤ h0.size) (q0 : Old Z n0 h0) (q1 : Sta Z Z.heap "java/lang/String" "COMPACT_STRINGS" "Z" (.int G1)) (hG1 : (¬ G1 = (0 : Int32))) (q3 : Sta Z Z.heap "jdk/internal/util/Preconditions" "SIOOBE_FORMATTER" "Ljava/util/function/BiFunction;" G3) (rG3 : (G3.isRef = true)) (q5 : Sta Z Z.heap "java/lang/Integer" "digits" "[C" (.ref ad)) (q6 : own_A Z Z.heap ad kd .char 36 (fun i => .int (own_dg i))) :
    MetFree l x (head1 (Jvm.Cond.code x code maxLocals ret :: ws) room_1) (fun a U => a = #[(.int p0)] ∧ Z.Warmed39 U.vm ∧ U.heap = h0 ∧ CHv Z own_EL U.vm h0 ∧ ∀ x ∈ ([] : List Addr), Safe Z own_EL U.vm h0 x) (fun _ _ _ _ _ => True) (fun _ U o U' => ∃ v L, o = .returned v ∧ own_Q0 Z p0 G1 G3 ad kd h0 n0 v U'.heap L ∧ CHr Z own_EL U.vm U.heap U'.vm U'.heap ∧ ReturnedEndW U o U' L room_1.cells room_1.slots) := by
  refine MetFree.of_bodySF (plainFor_of_name own_pn8) hisR ?_
  intro p e s m args below meth c s₁ Bd hml0 hP hK
  obtain ⟨rfl, hZ, hh, hC0, hSf⟩ := hP
  have hx := Bd.exec
  have hby := Bd.bytes
  have hml : c.maxLocals = 9 := hml0
  have hown : s.vm.findClass "com/example/freshness/freshness/bench/MadeStreamWordPinLaw" = some m.cls := findClass_of_methodNamed Bd.named
  have hnm := (name_of_methodNamed Bd.named Bd.method).1
  have hnl : meth.locks = false := Bd.notSynchronized
  have X0 : Stand p l e room_1 s m #[(.int p0)] below meth c s₁ [] 0 0 := Stand.of_body Bd
  have e0 : s₁.heap = h0 := by rw [← hh, Bd.state]; rfl
  have N0 := Fr.nil n0
  have X0 := (show Stand p l e _ (s.setVm s.vm) m _ below meth c s₁ [] 0 0 from X0)
  have hZ : Z.Warmed39 (s.setVm s.vm).vm := hZ
  have hown : (s.setVm s.vm).vm.findClass "com/example/freshness/freshness/bench/MadeStreamWordPinLaw" = some m.cls := hown
  have C0 : CHr Z own_EL s.vm s.heap s.vm h0 := by rw [hh]; exact CHr.refl hC0
  have S0 : s.Since s.vm h0.size := (State.WarmedH.refl s).since _
  have k0 := Nat.le_refl h0.size
  show own_Go p.tables e below (own_PW below s Z own_EL (own_Q0 Z p0 G1 G3 ad kd h0 n0) room_1.cells room_1.slots) _
  refine own_st (fun t_ k_ => castTop (own_ef0 m p0) k_) ?_
  refine own_st (fun t_ k_ => XS.iloadN X0.here hx rfl (hb hby at_0) rfl k_) ?_
  show own_at p e below _ s₁ m 1 #[oI p0, oU, oU, oU, oU, oU, oU, oU, oU] [(.int p0)]
  obtain ⟨_, _, ⟨T215, L215, k215, n215⟩, -, X215, Sq215, gq215, ⟨Lc215, hQ215, l215, y215, z215, c215⟩, st215⟩ := callSS X0 hx (y := own_n29) hown (mvT hZ (own_w hw 0 rfl)) (mvT hZ (own_w hw 1 rfl)) (mvT hZ (own_w hw 2 rfl)) (mvT hZ (own_w hw 3 rfl)) (by decide) (own_backSH (W := 0) (own_rm1 l Z a0 hw [] p0 G1 ad kd h0 n0 (Nat.le_trans Z0 (Keep.refl h0 []).1) q0 q1 hG1 q5 q6) hZ (own_w hw 3 rfl) (own_w hw 2 rfl) (by decide) (by decide) (own_hEL hw) C0.1 own_sl0) (g := (mkF m 1 #[oI p0, oU, oU, oU, oU, oU, oU, oU, oU] [(.int p0)])) rfl (by rw [hml]; rfl) (argsL := [(.int p0)]) (rest := []) (lenOf own_pd24 rfl) rfl (own_hW rfl) (hb hby at_1) (fun _ _ => ⟨rfl, e0, (by decide : 0 + 9 ≤ _), (by decide : 0 + 135 ≤ _)⟩)
  dsimp only [Pt.U, Pt.locs, Pt.cells, Pt.slots] at X215 l215 y215 z215 st215 hQ215 Sq215 gq215 c215
  subst y215 z215
  obtain ⟨r_215, t_215, kt_215, n_215, rfl, N215q, Kq215, P215_0, P215_1, P215_2, P215_3, P215_4, P215_5⟩ := hQ215
  have N215 : Fr n0 L215 := by rw [l215]; exact Fr.app N0 N215q
  have S215 := foldS S0 (by rw [e0]; exact k0) Sq215 gq215
  have X215 := (show Stand p l e _ (s.setVm T215.vm) m _ below meth c T215 L215 _ _ from X215)
  have hZ : Z.Warmed39 (s.setVm T215.vm).vm := State.Warmed39.trans (t := s.setVm s.vm) hZ Sq215.1
  have hown : (s.setVm T215.vm).vm.findClass "com/example/freshness/freshness/bench/MadeStreamWordPinLaw" = some m.cls := by rw [show (s.setVm T215.vm).vm = T215.vm from rfl, Sq215.1.alike.findClass]; exact hown
  have kk215 := Nat.le_refl T215.heap.size
  have K215 : Keep h0 T215.heap [] := (Keep.refl h0 []).trans Kq215 all0
  have C215 := C0.trans c215
  have fr215_0 : h0.size ≤ r_215 := Nat.le_trans (Keep.refl h0 []).1 P215_0
  have ge215_0 : n0 ≤ r_215 := Nat.le_trans Z0 fr215_0
  refine own_tr st215 ?_
  show own_at p e below _ T215 m 4 #[oI p0, oU, oU, oU, oU, oU, oU, oU, oU] [(.ref r_215)]
  have hdn := P215_5
  refine own_st (fun t_ k_ => XS.astoreN X215.here hx rfl (hb hby at_4) rfl rfl (l' := #[oI p0, oR r_215, oU, oU, oU, oU, oU, oU, oU]) rfl (XS.iloadN X215.here hx rfl (hb hby at_5) rfl (XS.i2l X215.here hx rfl (hb hby at_6) rfl (XS.lstoreN X215.here hx rfl (hb hby at_7) rfl (l' := #[oI p0, oR r_215, oJ (p0.toInt64), oS, oU, oU, oU, oU, oU]) rfl (XS.lloadN X215.here hx rfl (hb hby at_8) rfl (XS.lconst X215.here hx rfl (hb hby at_9) k_)))))) ?_
  show own_at p e below _ T215 m 10 #[oI p0, oR r_215, oJ (p0.toInt64), oS, oU, oU, oU, oU, oU] [(.long (0 : Int64)), (.long (p0.toInt64))]
  refine own_st (fun t_ k_ => XS.lcmp X215.here hx rfl (hb hby at_10) rfl k_) ?_
  show own_at p e below _ T215 m 11 #[oI p0, oR r_215, oJ (p0.toInt64), oS, oU, oU, oU, oU, oU] [(.int (lcmpW (p0.toInt64) (0 : Int64)))]
  by_cases c11_216 : (lcmpW (p0.toInt64) (0 : Int64)) < (0 : Int32)
  · skip
    have z0 : (0 : Int64).toInt = 0 := by decide
    have y0 : (0 : Int32).toInt = 0 := by decide
    have rr := rng32 p0
    have el := c_i2l p0
    have hs11 := (lw_lt _ _).mp c11_216
    rw [Int64.lt_iff_toInt_lt, el, z0] at hs11
    have hsg : own_sg p0 = 1 := own_sgY (by rw [Int32.lt_iff_toInt_lt, y0]; exact hs11)
    refine own_st (fun t_ k_ => XS.ifNo X215.here hx rfl (hb hby at_11) rfl ((if0 _ _).trans (tlt c11_216).2.1) (XS.iconst X215.here hx rfl (hb hby at_14) (XS.goto X215.here hx rfl (pc0 := 15) (pc' := 19) rfl (hb hby at_15) (by decide) (by decide) (XS.istore X215.here hx rfl (hb hby at_19) rfl (l' := #[oI p0, oR r_215, oJ (p0.toInt64), oS, oI (1 : Int32), oU, oU, oU, oU]) rfl (XS.iload X215.here hx rfl (hb hby at_21) rfl (XS.ifNo X215.here hx rfl (hb hby at_23) rfl ((if0 _ _).trans (feq (by decide : ¬ ((1 : Int32) = (0 : Int32)))).1) k_)))))) ?_
    show own_at p e below _ T215 m 26 #[oI p0, oR r_215, oJ (p0.toInt64), oS, oI (1 : Int32), oU, oU, oU, oU] []
    refine own_st (fun t_ k_ => XS.lloadN X215.here hx rfl (hb hby at_26) rfl (XS.lneg X215.here hx rfl (hb hby at_27) rfl (XS.lstoreN X215.here hx rfl (hb hby at_28) rfl (l' := #[oI p0, oR r_215, oJ (-(p0.toInt64)), oS, oI (1 : Int32), oU, oU, oU, oU]) rfl k_))) ?_
    show own_at p e below _ T215 m 29 #[oI p0, oR r_215, oJ (-(p0.toInt64)), oS, oI (1 : Int32), oU, oU, oU, oU] []
    obtain ⟨V, hV⟩ : ∃ z, z = p0.toInt.natAbs := ⟨_, rfl⟩
    obtain ⟨vv, hvv⟩ : ∃ z, z = (-(p0.toInt64)) := ⟨_, rfl⟩
    have hv : vv.toInt = (V : Int) := by rw [hvv]; have nn_ := c_lneg p0.toInt64; have r2_ := rng64 (-p0.toInt64); omega
    rw [← hvv]
    show own_at p e below _ T215 m 29 #[oI p0, oR r_215, oJ vv, oS, oI (1 : Int32), oU, oU, oU, oU] []
    rw [← hV] at hdn
    refine own_st (fun t_ k_ => XS.lloadN X215.here hx rfl (hb hby at_29) rfl k_) ?_
    show own_at p e below _ T215 m 30 #[oI p0, oR r_215, oJ vv, oS, oI (1 : Int32), oU, oU, oU, oU] [(.long vv)]
    refine own_st (X215.ldc2Long hx hown (mvT hZ (own_w hw 144 rfl)) (g := (mkF m 30 #[oI p0, oR r_215, oJ vv, oS, oI (1 : Int32), oU, oU, oU, oU] [(.long vv)])) rfl (hb hby at_30)) ?_
    refine own_st (fun t_ k_ => XS.lcmp X215.here hx rfl (hb hby at_33) rfl k_) ?_
    show own_at p e below _ T215 m 34 #[oI p0, oR r_215, oJ vv, oS, oI (1 : Int32), oU, oU, oU, oU] [(.int (lcmpW vv (36 : Int64)))]
    by_cases c34_217 : (lcmpW vv (36 : Int64)) < (0 : Int32)
    · skip
      have z1 : (36 : Int64).toInt = 36 := by decide
      have hb1 := (lw_lt _ _).mp c34_217
      rw [Int64.lt_iff_toInt_lt, hv, z1] at hb1
      refine own_st (fun t_ k_ => XS.ifNo X215.here hx rfl (hb hby at_34) rfl ((if0 _ _).trans (tlt c34_217).2.1) (XS.iconst X215.here hx rfl (hb hby at_37) (XS.goto X215.here hx rfl (pc0 := 38) (pc' := 91) rfl (hb hby at_38) (by decide) (by decide) (XS.istore X215.here hx rfl (hb hby at_91) rfl (l' := #[oI p0, oR r_215, oJ vv, oS, oI (1 : Int32), oI (1 : Int32), oU, oU, oU]) rfl k_)))) ?_
      show own_at p e below _ T215 m 93 #[oI p0, oR r_215, oJ vv, oS, oI (1 : Int32), oI (1 : Int32), oU, oU, oU] []
      have en : n_215 = 1 := own_nn6 hdn.1 hdn.2.2.1 hdn.2.2.2 (by decide) (by have q_ : 36 ^ 1 = 36 := (by decide); omega) (by first | exact Or.inl rfl | exact Or.inr (by have q_ : 36 ^ (1 - 1) = 1 := (by decide); omega))
      have As : own_A Z T215.heap t_215 kt_215 .byte (own_bl (0 : Int32) 3) (fun i => .int ((own_by (0 : Int32) (own_ws 1 1 V)) i)) := by have z_ := P215_4; rw [en, hsg, ← hV] at z_; exact z_
      have hcd : ((0 : Int32) = 0 ∧ ∀ q : Nat, q < 3 → ¬ (255 : Int32) < (own_ws 1 1 V) q) ∨ (0 : Int32) = 1 := Or.inl ⟨rfl, fun q _ => own_lat7 (own_ws7 _ _ _ q)⟩
      refine own_st (fun t_ k_ => XS.bipush X215.here hx rfl (hb hby at_93) k_) ?_
      show own_at p e below _ T215 m 95 #[oI p0, oR r_215, oJ vv, oS, oI (1 : Int32), oI (1 : Int32), oU, oU, oU] [(.int (8 : Int32))]
      obtain ⟨T218, h218, k218, X218, e218, E218, A218, st218⟩ := newP X215 hx hZ (own_w hw 145 rfl) rfl (g := (mkF m 95 #[oI p0, oR r_215, oJ vv, oS, oI (1 : Int32), oI (1 : Int32), oU, oU, oU] [(.int (8 : Int32))])) rfl (hb hby at_95) rfl (by decide) (cap := 8) (by decide) (by decide) (by decide) (by decide)
      obtain ⟨b218, g218⟩ : ∃ z, z = T215.heap.size := ⟨_, rfl⟩
      rw [← g218] at A218 st218
      have fr218 : h0.size ≤ b218 := Nat.le_trans K215.1 (Nat.le_of_eq g218.symm)
      have ge218 : n0 ≤ b218 := Nat.le_trans Z0 fr218
      have K218 : Keep h0 h218 [] := K215.ext E218
      have c218 : CHr Z own_EL _ T215.heap _ h218 := CHr.ext E218 C215.1
      have C218 := C215.trans c218
      have kk218 := Nat.le_trans kk215 c218.2.1
      have Sf218_b218 : Safe Z own_EL _ h218 b218 := Safe.ext E218 C215.1 (Safe.new (Nat.le_of_eq g218.symm))
      have Ar218 : own_A Z h218 b218 k218 .char 8 (fun i => .int ((fun _ => (0 : Int32)) i)) := own_A.new A218 rfl (by decide)
      refine own_st (st218) ?_
      refine own_st (fun t_ k_ => XS.astore X218.here hx rfl (hb hby at_97) rfl rfl (l' := #[oI p0, oR r_215, oJ vv, oS, oI (1 : Int32), oI (1 : Int32), oR b218, oU, oU]) rfl (XS.aload X218.here hx rfl (hb hby at_99) rfl rfl (XS.iconst X218.here hx rfl (hb hby at_101) (XS.bipush X218.here hx rfl (hb hby at_102) k_)))) ?_
      show own_at p e below _ T218 m 104 #[oI p0, oR r_215, oJ vv, oS, oI (1 : Int32), oI (1 : Int32), oR b218, oU, oU] [(.int (119 : Int32)), (.int (0 : Int32)), (.ref b218)]
      obtain ⟨T219, h219, X219, e219, W219, Aw219, st219⟩ := own_castore X218 hx hZ e218 Ar218 (i := 0) (by decide) (by decide) rfl (v' := (119 : Int32)) (g := (mkF m 104 #[oI p0, oR r_215, oJ vv, oS, oI (1 : Int32), oI (1 : Int32), oR b218, oU, oU] [(.int (119 : Int32)), (.int (0 : Int32)), (.ref b218)])) rfl rfl (hb hby at_104)
      have N219 := Fr.snoc X219 N215 ge218
      have K219 : Keep h0 h219 [] := K218.wr W219 (Or.inr fr218)
      have c219 : CHr Z own_EL _ h218 _ h219 := CHr.wr W219 (own_safeA hZ.alike Ar218 (by decide)) C218.1
      have C219 := C218.trans c219
      have kk219 := Nat.le_trans kk218 c219.2.1
      refine own_st (st219) ?_
      refine own_st (fun t_ k_ => XS.iconst X219.here hx rfl (hb hby at_105) (XS.istore X219.here hx rfl (hb hby at_106) rfl (l' := #[oI p0, oR r_215, oJ vv, oS, oI (1 : Int32), oI (1 : Int32), oR b218, oI (1 : Int32), oU]) rfl (XS.iload X219.here hx rfl (hb hby at_108) rfl (XS.ifNo X219.here hx rfl (hb hby at_110) rfl ((if0 _ _).trans (feq (by decide : ¬ ((1 : Int32) = (0 : Int32)))).1) (XS.aload X219.here hx rfl (hb hby at_113) rfl rfl (XS.iconst X219.here hx rfl (hb hby at_115) k_)))))) ?_
      show own_at p e below _ T219 m 116 #[oI p0, oR r_215, oJ vv, oS, oI (1 : Int32), oI (1 : Int32), oR b218, oI (1 : Int32), oU] [(.int (1 : Int32)), (.ref b218)]
      refine own_st (fun t_ k_ => XS.bipush X219.here hx rfl (hb hby at_116) k_) ?_
      show own_at p e below _ T219 m 118 #[oI p0, oR r_215, oJ vv, oS, oI (1 : Int32), oI (1 : Int32), oR b218, oI (1 : Int32), oU] [(.int (45 : Int32)), (.int (1 : Int32)), (.ref b218)]
      obtain ⟨T220, h220, X220, e220, W220, Aw220, st220⟩ := own_castore X219 hx hZ e219 Aw219 (i := 1) (by decide) (by decide) rfl (v' := (45 : Int32)) (g := (mkF m 118 #[oI p0, oR r_215, oJ vv, oS, oI (1 : Int32), oI (1 : Int32), oR b218, oI (1 : Int32), oU] [(.int (45 : Int32)), (.int (1 : Int32)), (.ref b218)])) rfl rfl (hb hby at_118)
      have N220 := Fr.snoc X220 N219 ge218
      have K220 : Keep h0 h220 [] := K219.wr W220 (Or.inr fr218)
      have c220 : CHr Z own_EL _ h219 _ h220 := CHr.wr W220 (own_safeA hZ.alike Aw219 (by decide)) C219.1
      have C220 := C219.trans c220
      have kk220 := Nat.le_trans kk219 c220.2.1
      refine own_st (st220) ?_
      refine own_st (fun t_ k_ => XS.iconst X220.here hx rfl (hb hby at_119) (XS.istore X220.here hx rfl (hb hby at_120) rfl (l' := #[oI p0, oR r_215, oJ vv, oS, oI (1 : Int32), oI (1 : Int32), oR b218, oI (2 : Int32), oU]) rfl (XS.aload X220.here hx rfl (hb hby at_122) rfl rfl (XS.iload X220.here hx rfl (hb hby at_124) rfl (XS.iload X220.here hx rfl (hb hby at_126) rfl (XS.iconst X220.here hx rfl (hb hby at_128) k_)))))) ?_
      show own_at p e below _ T220 m 129 #[oI p0, oR r_215, oJ vv, oS, oI (1 : Int32), oI (1 : Int32), oR b218, oI (2 : Int32), oU] [(.int (0 : Int32)), (.int (1 : Int32)), (.int (2 : Int32)), (.ref b218)]
      refine own_st (fun t_ k_ => XS.lloadN X220.here hx rfl (hb hby at_129) rfl (XS.lconst X220.here hx rfl (hb hby at_130) k_)) ?_
      show own_at p e below _ T220 m 131 #[oI p0, oR r_215, oJ vv, oS, oI (1 : Int32), oI (1 : Int32), oR b218, oI (2 : Int32), oU] [(.long (1 : Int64)), (.long vv), (.int (0 : Int32)), (.int (1 : Int32)), (.int (2 : Int32)), (.ref b218)]
      obtain ⟨_, _, ⟨T221, L221, k221, n221⟩, -, X221, ⟨Lc221, hQ221, l221, y221, z221⟩, st221⟩ := Jvm.LawKit.callS X220 hx (y := own_n31) hown (mvT hZ (own_w hw 146 rfl)) (mvT hZ (own_w hw 147 rfl)) (mvT hZ (own_w hw 148 rfl)) (mvT hZ (own_w hw 149 rfl)) (by decide) (backOf (W := 0) (own_rm27y l Z a0 hw [] b218 (2 : Int32) (1 : Int32) (0 : Int32) vv (1 : Int64) k218 (own_upd (own_upd (fun _ => (0 : Int32)) 0 (119 : Int32)) 1 (45 : Int32)) 2 h220 n0 (Nat.le_trans Z0 K220.1) Aw220 ge218 (by decide) (by decide) (by decide)) hZ (own_w hw 149 rfl) (own_w hw 148 rfl) (by decide) (by decide)) (g := (mkF m 131 #[oI p0, oR r_215, oJ vv, oS, oI (1 : Int32), oI (1 : Int32), oR b218, oI (2 : Int32), oU] [(.long (1 : Int64)), (.long vv), (.int (0 : Int32)), (.int (1 : Int32)), (.int (2 : Int32)), (.ref b218)])) rfl (by rw [hml]; rfl) (argsL := [(.ref b218), (.int (2 : Int32)), (.int (1 : Int32)), (.int (0 : Int32)), (.long vv), (.long (1 : Int64))]) (rest := []) (lenOf own_pd25 rfl) rfl (own_hW rfl) (hb hby at_131) (fun _ _ => ⟨rfl, e220, (by decide : 10 + 0 ≤ _), (by decide : 143 + 0 ≤ _)⟩)
      dsimp only [Pt.U, Pt.locs, Pt.cells, Pt.slots] at X221 l221 y221 z221 st221 hQ221
      subst y221 z221
      obtain ⟨rfl, N221q, Kq221, P221_0⟩ := hQ221
      have N221 : Fr n0 L221 := by rw [l221]; exact Fr.app N220 N221q
      have K221 : Keep h0 T221.heap [] := K220.trans Kq221 (allS (P := fun x => x ∈ [] ∨ h0.size ≤ x) (Or.inr fr218) all0)
      have c221 : CHr Z own_EL _ h220 _ T221.heap := CHr.keep Kq221 (own_slS (own_safeA hZ.alike Aw220 (by decide)) own_sl0) C220.1
      have C221 := C220.trans c221
      have kk221 := Nat.le_trans kk220 c221.2.1
      refine own_st (st221) ?_
      refine own_st (fun t_ k_ => XS.aload X221.here hx rfl (hb hby at_134) rfl rfl (XS.iload X221.here hx rfl (hb hby at_136) rfl (XS.iload X221.here hx rfl (hb hby at_138) rfl (XS.iconst X221.here hx rfl (hb hby at_140) (XS.lloadN X221.here hx rfl (hb hby at_141) rfl k_))))) ?_
      show own_at p e below _ T221 m 142 #[oI p0, oR r_215, oJ vv, oS, oI (1 : Int32), oI (1 : Int32), oR b218, oI (2 : Int32), oU] [(.long vv), (.int (1 : Int32)), (.int (1 : Int32)), (.int (2 : Int32)), (.ref b218)]
      refine own_st (X221.ldc2Long hx hown (mvT hZ (own_w hw 144 rfl)) (g := (mkF m 142 #[oI p0, oR r_215, oJ vv, oS, oI (1 : Int32), oI (1 : Int32), oR b218, oI (2 : Int32), oU] [(.long vv), (.int (1 : Int32)), (.int (1 : Int32)), (.int (2 : Int32)), (.ref b218)])) rfl (hb hby at_142)) ?_
      show own_at p e below _ T221 m 145 #[oI p0, oR r_215, oJ vv, oS, oI (1 : Int32), oI (1 : Int32), oR b218, oI (2 : Int32), oU] [(.long (36 : Int64)), (.long vv), (.int (1 : Int32)), (.int (1 : Int32)), (.int (2 : Int32)), (.ref b218)]
      obtain ⟨_, _, ⟨T222, L222, k222, n222⟩, -, X222, ⟨Lc222, hQ222, l222, y222, z222⟩, st222⟩ := Jvm.LawKit.callS X221 hx (y := own_n31) hown (mvT hZ (own_w hw 146 rfl)) (mvT hZ (own_w hw 147 rfl)) (mvT hZ (own_w hw 148 rfl)) (mvT hZ (own_w hw 149 rfl)) (by decide) (backOf (W := 0) (own_rm27n l Z a0 hw [] b218 (2 : Int32) (1 : Int32) (1 : Int32) vv (36 : Int64) T221.heap n0 (Nat.le_trans Z0 K221.1) (by decide)) hZ (own_w hw 149 rfl) (own_w hw 148 rfl) (by decide) (by decide)) (g := (mkF m 145 #[oI p0, oR r_215, oJ vv, oS, oI (1 : Int32), oI (1 : Int32), oR b218, oI (2 : Int32), oU] [(.long (36 : Int64)), (.long vv), (.int (1 : Int32)), (.int (1 : Int32)), (.int (2 : Int32)), (.ref b218)])) rfl (by rw [hml]; rfl) (argsL := [(.ref b218), (.int (2 : Int32)), (.int (1 : Int32)), (.int (1 : Int32)), (.long vv), (.long (36 : Int64))]) (rest := []) (lenOf own_pd25 rfl) rfl (own_hW rfl) (hb hby at_145) (fun _ _ => ⟨rfl, rfl, (by decide : 10 + 0 ≤ _), (by decide : 143 + 0 ≤ _)⟩)
      dsimp only [Pt.U, Pt.locs, Pt.cells, Pt.slots] at X222 l222 y222 z222 st222 hQ222
      subst y222 z222
      obtain ⟨rfl, N222q, eq222⟩ := hQ222
      have N222 : Fr n0 L222 := by rw [l222]; exact Fr.app N221 N222q
      refine own_st (st222) ?_
      refine own_st (fun t_ k_ => XS.aload X222.here hx rfl (hb hby at_148) rfl rfl (XS.iload X222.here hx rfl (hb hby at_150) rfl (XS.iload X222.here hx rfl (hb hby at_152) rfl (XS.iconst X222.here hx rfl (hb hby at_154) (XS.lloadN X222.here hx rfl (hb hby at_155) rfl k_))))) ?_
      show own_at p e below _ T222 m 156 #[oI p0, oR r_215, oJ vv, oS, oI (1 : Int32), oI (1 : Int32), oR b218, oI (2 : Int32), oU] [(.long vv), (.int (2 : Int32)), (.int (1 : Int32)), (.int (2 : Int32)), (.ref b218)]
      refine own_st (X222.ldc2Long hx hown (mvT hZ (own_w hw 155 rfl)) (g := (mkF m 156 #[oI p0, oR r_215, oJ vv, oS, oI (1 : Int32), oI (1 : Int32), oR b218, oI (2 : Int32), oU] [(.long vv), (.int (2 : Int32)), (.int (1 : Int32)), (.int (2 : Int32)), (.ref b218)])) rfl (hb hby at_156)) ?_
      show own_at p e below _ T222 m 159 #[oI p0, oR r_215, oJ vv, oS, oI (1 : Int32), oI (1 : Int32), oR b218, oI (2 : Int32), oU] [(.long (1296 : Int64)), (.long vv), (.int (2 : Int32)), (.int (1 : Int32)), (.int (2 : Int32)), (.ref b218)]
      obtain ⟨_, _, ⟨T223, L223, k223, n223⟩, -, X223, ⟨Lc223, hQ223, l223, y223, z223⟩, st223⟩ := Jvm.LawKit.callS X222 hx (y := own_n31) hown (mvT hZ (own_w hw 146 rfl)) (mvT hZ (own_w hw 147 rfl)) (mvT hZ (own_w hw 148 rfl)) (mvT hZ (own_w hw 149 rfl)) (by decide) (backOf (W := 0) (own_rm27n l Z a0 hw [] b218 (2 : Int32) (1 : Int32) (2 : Int32) vv (1296 : Int64) T221.heap n0 (Nat.le_trans Z0 K221.1) (by decide)) hZ (own_w hw 149 rfl) (own_w hw 148 rfl) (by decide) (by decide)) (g := (mkF m 159 #[oI p0, oR r_215, oJ vv, oS, oI (1 : Int32), oI (1 : Int32), oR b218, oI (2 : Int32), oU] [(.long (1296 : Int64)), (.long vv), (.int (2 : Int32)), (.int (1 : Int32)), (.int (2 : Int32)), (.ref b218)])) rfl (by rw [hml]; rfl) (argsL := [(.ref b218), (.int (2 : Int32)), (.int (1 : Int32)), (.int (2 : Int32)), (.long vv), (.long (1296 : Int64))]) (rest := []) (lenOf own_pd25 rfl) rfl (own_hW rfl) (hb hby at_159) (fun _ _ => ⟨rfl, eq222, (by decide : 10 + 0 ≤ _), (by decide : 143 + 0 ≤ _)⟩)
      dsimp only [Pt.U, Pt.locs, Pt.cells, Pt.slots] at X223 l223 y223 z223 st223 hQ223
      subst y223 z223
      obtain ⟨rfl, N223q, eq223⟩ := hQ223
      have N223 : Fr n0 L223 := by rw [l223]; exact Fr.app N222 N223q
      refine own_st (st223) ?_
      refine own_st (fun t_ k_ => XS.aload X223.here hx rfl (hb hby at_162) rfl rfl (XS.iload X223.here hx rfl (hb hby at_164) rfl (XS.iload X223.here hx rfl (hb hby at_166) rfl (XS.iconst X223.here hx rfl (hb hby at_168) (XS.lloadN X223.here hx rfl (hb hby at_169) rfl k_))))) ?_
      show own_at p e below _ T223 m 170 #[oI p0, oR r_215, oJ vv, oS, oI (1 : Int32), oI (1 : Int32), oR b218, oI (2 : Int32), oU] [(.long vv), (.int (3 : Int32)), (.int (1 : Int32)), (.int (2 : Int32)), (.ref b218)]
      refine own_st (X223.ldc2Long hx hown (mvT hZ (own_w hw 156 rfl)) (g := (mkF m 170 #[oI p0, oR r_215, oJ vv, oS, oI (1 : Int32), oI (1 : Int32), oR b218, oI (2 : Int32), oU] [(.long vv), (.int (3 : Int32)), (.int (1 : Int32)), (.int (2 : Int32)), (.ref b218)])) rfl (hb hby at_170)) ?_
      show own_at p e below _ T223 m 173 #[oI p0, oR r_215, oJ vv, oS, oI (1 : Int32), oI (1 : Int32), oR b218, oI (2 : Int32), oU] [(.long (46656 : Int64)), (.long vv), (.int (3 : Int32)), (.int (1 : Int32)), (.int (2 : Int32)), (.ref b218)]
      obtain ⟨_, _, ⟨T224, L224, k224, n224⟩, -, X224, ⟨Lc224, hQ224, l224, y224, z224⟩, st224⟩ := Jvm.LawKit.callS X223 hx (y := own_n31) hown (mvT hZ (own_w hw 146 rfl)) (mvT hZ (own_w hw 147 rfl)) (mvT hZ (own_w hw 148 rfl)) (mvT hZ (own_w hw 149 rfl)) (by decide) (backOf (W := 0) (own_rm27n l Z a0 hw [] b218 (2 : Int32) (1 : Int32) (3 : Int32) vv (46656 : Int64) T221.heap n0 (Nat.le_trans Z0 K221.1) (by decide)) hZ (own_w hw 149 rfl) (own_w hw 148 rfl) (by decide) (by decide)) (g := (mkF m 173 #[oI p0, oR r_215, oJ vv, oS, oI (1 : Int32), oI (1 : Int32), oR b218, oI (2 : Int32), oU] [(.long (46656 : Int64)), (.long vv), (.int (3 : Int32)), (.int (1 : Int32)), (.int (2 : Int32)), (.ref b218)])) rfl (by rw [hml]; rfl) (argsL := [(.ref b218), (.int (2 : Int32)), (.int (1 : Int32)), (.int (3 : Int32)), (.long vv), (.long (46656 : Int64))]) (rest := []) (lenOf own_pd25 rfl) rfl (own_hW rfl) (hb hby at_173) (fun _ _ => ⟨rfl, eq223, (by decide : 10 + 0 ≤ _), (by decide : 143 + 0 ≤ _)⟩)
      dsimp only [Pt.U, Pt.locs, Pt.cells, Pt.slots] at X224 l224 y224 z224 st224 hQ224
      subst y224 z224
      obtain ⟨rfl, N224q, eq224⟩ := hQ224
      have N224 : Fr n0 L224 := by rw [l224]; exact Fr.app N223 N224q
      refine own_st (st224) ?_
      refine own_st (fun t_ k_ => XS.aload X224.here hx rfl (hb hby at_176) rfl rfl (XS.iload X224.here hx rfl (hb hby at_178) rfl (XS.iload X224.here hx rfl (hb hby at_180) rfl (XS.iconst X224.here hx rfl (hb hby at_182) (XS.lloadN X224.here hx rfl (hb hby at_183) rfl k_))))) ?_
      show own_at p e below _ T224 m 184 #[oI p0, oR r_215, oJ vv, oS, oI (1 : Int32), oI (1 : Int32), oR b218, oI (2 : Int32), oU] [(.long vv), (.int (4 : Int32)), (.int (1 : Int32)), (.int (2 : Int32)), (.ref b218)]
      refine own_st (X224.ldc2Long hx hown (mvT hZ (own_w hw 157 rfl)) (g := (mkF m 184 #[oI p0, oR r_215, oJ vv, oS, oI (1 : Int32), oI (1 : Int32), oR b218, oI (2 : Int32), oU] [(.long vv), (.int (4 : Int32)), (.int (1 : Int32)), (.int (2 : Int32)), (.ref b218)])) rfl (hb hby at_184)) ?_
      show own_at p e below _ T224 m 187 #[oI p0, oR r_215, oJ vv, oS, oI (1 : Int32), oI (1 : Int32), oR b218, oI (2 : Int32), oU] [(.long (1679616 : Int64)), (.long vv), (.int (4 : Int32)), (.int (1 : Int32)), (.int (2 : Int32)), (.ref b218)]
      obtain ⟨_, _, ⟨T225, L225, k225, n225⟩, -, X225, ⟨Lc225, hQ225, l225, y225, z225⟩, st225⟩ := Jvm.LawKit.callS X224 hx (y := own_n31) hown (mvT hZ (own_w hw 146 rfl)) (mvT hZ (own_w hw 147 rfl)) (mvT hZ (own_w hw 148 rfl)) (mvT hZ (own_w hw 149 rfl)) (by decide) (backOf (W := 0) (own_rm27n l Z a0 hw [] b218 (2 : Int32) (1 : Int32) (4 : Int32) vv (1679616 : Int64) T221.heap n0 (Nat.le_trans Z0 K221.1) (by decide)) hZ (own_w hw 149 rfl) (own_w hw 148 rfl) (by decide) (by decide)) (g := (mkF m 187 #[oI p0, oR r_215, oJ vv, oS, oI (1 : Int32), oI (1 : Int32), oR b218, oI (2 : Int32), oU] [(.long (1679616 : Int64)), (.long vv), (.int (4 : Int32)), (.int (1 : Int32)), (.int (2 : Int32)), (.ref b218)])) rfl (by rw [hml]; rfl) (argsL := [(.ref b218), (.int (2 : Int32)), (.int (1 : Int32)), (.int (4 : Int32)), (.long vv), (.long (1679616 : Int64))]) (rest := []) (lenOf own_pd25 rfl) rfl (own_hW rfl) (hb hby at_187) (fun _ _ => ⟨rfl, eq224, (by decide : 10 + 0 ≤ _), (by decide : 143 + 0 ≤ _)⟩)
      dsimp only [Pt.U, Pt.locs, Pt.cells, Pt.slots] at X225 l225 y225 z225 st225 hQ225
      subst y225 z225
      obtain ⟨rfl, N225q, eq225⟩ := hQ225
      have N225 : Fr n0 L225 := by rw [l225]; exact Fr.app N224 N225q
      refine own_st (st225) ?_
      refine own_st (fun t_ k_ => XS.aload X225.here hx rfl (hb hby at_190) rfl rfl (XS.iload X225.here hx rfl (hb hby at_192) rfl (XS.iload X225.here hx rfl (hb hby at_194) rfl (XS.iconst X225.here hx rfl (hb hby at_196) (XS.lloadN X225.here hx rfl (hb hby at_197) rfl k_))))) ?_
      show own_at p e below _ T225 m 198 #[oI p0, oR r_215, oJ vv, oS, oI (1 : Int32), oI (1 : Int32), oR b218, oI (2 : Int32), oU] [(.long vv), (.int (5 : Int32)), (.int (1 : Int32)), (.int (2 : Int32)), (.ref b218)]
      refine own_st (X225.ldc2Long hx hown (mvT hZ (own_w hw 158 rfl)) (g := (mkF m 198 #[oI p0, oR r_215, oJ vv, oS, oI (1 : Int32), oI (1 : Int32), oR b218, oI (2 : Int32), oU] [(.long vv), (.int (5 : Int32)), (.int (1 : Int32)), (.int (2 : Int32)), (.ref b218)])) rfl (hb hby at_198)) ?_
      show own_at p e below _ T225 m 201 #[oI p0, oR r_215, oJ vv, oS, oI (1 : Int32), oI (1 : Int32), oR b218, oI (2 : Int32), oU] [(.long (60466176 : Int64)), (.long vv), (.int (5 : Int32)), (.int (1 : Int32)), (.int (2 : Int32)), (.ref b218)]
      obtain ⟨_, _, ⟨T226, L226, k226, n226⟩, -, X226, ⟨Lc226, hQ226, l226, y226, z226⟩, st226⟩ := Jvm.LawKit.callS X225 hx (y := own_n31) hown (mvT hZ (own_w hw 146 rfl)) (mvT hZ (own_w hw 147 rfl)) (mvT hZ (own_w hw 148 rfl)) (mvT hZ (own_w hw 149 rfl)) (by decide) (backOf (W := 0) (own_rm27n l Z a0 hw [] b218 (2 : Int32) (1 : Int32) (5 : Int32) vv (60466176 : Int64) T221.heap n0 (Nat.le_trans Z0 K221.1) (by decide)) hZ (own_w hw 149 rfl) (own_w hw 148 rfl) (by decide) (by decide)) (g := (mkF m 201 #[oI p0, oR r_215, oJ vv, oS, oI (1 : Int32), oI (1 : Int32), oR b218, oI (2 : Int32), oU] [(.long (60466176 : Int64)), (.long vv), (.int (5 : Int32)), (.int (1 : Int32)), (.int (2 : Int32)), (.ref b218)])) rfl (by rw [hml]; rfl) (argsL := [(.ref b218), (.int (2 : Int32)), (.int (1 : Int32)), (.int (5 : Int32)), (.long vv), (.long (60466176 : Int64))]) (rest := []) (lenOf own_pd25 rfl) rfl (own_hW rfl) (hb hby at_201) (fun _ _ => ⟨rfl, eq225, (by decide : 10 + 0 ≤ _), (by decide : 143 + 0 ≤ _)⟩)
      dsimp only [Pt.U, Pt.locs, Pt.cells, Pt.slots] at X226 l226 y226 z226 st226 hQ226
      subst y226 z226
      obtain ⟨rfl, N226q, eq226⟩ := hQ226
      have N226 : Fr n0 L226 := by rw [l226]; exact Fr.app N225 N226q
      refine own_st (st226) ?_
      refine own_st (fun t_ k_ => XS.iload X226.here hx rfl (hb hby at_204) rfl (XS.iload X226.here hx rfl (hb hby at_206) rfl (XS.iadd X226.here hx rfl (hb hby at_208) rfl k_))) ?_
      show own_at p e below _ T226 m 209 #[oI p0, oR r_215, oJ vv, oS, oI (1 : Int32), oI (1 : Int32), oR b218, oI (2 : Int32), oU] [(.int ((2 : Int32) + (1 : Int32)))]
      rw [show ((2 : Int32) + (1 : Int32)) = (3 : Int32) from (by decide)]
      refine own_st (fun t_ k_ => XS.istore X226.here hx rfl (hb hby at_209) rfl (l' := #[oI p0, oR r_215, oJ vv, oS, oI (1 : Int32), oI (1 : Int32), oR b218, oI (2 : Int32), oI (3 : Int32)]) rfl (XS.aloadN X226.here hx rfl (hb hby at_211) rfl rfl k_)) ?_
      show own_at p e below _ T226 m 212 #[oI p0, oR r_215, oJ vv, oS, oI (1 : Int32), oI (1 : Int32), oR b218, oI (2 : Int32), oI (3 : Int32)] [(.ref r_215)]
      have f227 : Fld Z T221.heap r_215 "java/lang/String" "value" "[B" (.ref t_215) := ((((P215_2.ext E218).other W219 (Or.inl (Nat.ne_of_lt (Nat.lt_of_lt_of_le P215_1.lt (Nat.le_of_eq g218.symm))))).other W220 (Or.inl (Nat.ne_of_lt (Nat.lt_of_lt_of_le P215_1.lt (Nat.le_of_eq g218.symm))))).keep Kq221 (ninS (Nat.ne_of_lt (Nat.lt_of_lt_of_le P215_1.lt (Nat.le_of_eq g218.symm))) nin0))
      have f228 : Fld Z T221.heap r_215 "java/lang/String" "coder" "B" (.int (0 : Int32)) := ((((P215_3.ext E218).other W219 (Or.inl (Nat.ne_of_lt (Nat.lt_of_lt_of_le P215_1.lt (Nat.le_of_eq g218.symm))))).other W220 (Or.inl (Nat.ne_of_lt (Nat.lt_of_lt_of_le P215_1.lt (Nat.le_of_eq g218.symm))))).keep Kq221 (ninS (Nat.ne_of_lt (Nat.lt_of_lt_of_le P215_1.lt (Nat.le_of_eq g218.symm))) nin0))
      have f229 : own_A Z T221.heap t_215 kt_215 .byte (own_bl (0 : Int32) 3) (fun i => .int ((own_by (0 : Int32) (own_ws 1 1 V)) i)) := ((((As.ext E218).other W219 (Nat.ne_of_lt (Nat.lt_of_lt_of_le As.lt (Nat.le_of_eq g218.symm)))).other W220 (Nat.ne_of_lt (Nat.lt_of_lt_of_le As.lt (Nat.le_of_eq g218.symm)))).keep Kq221 (ninS (Nat.ne_of_lt (Nat.lt_of_lt_of_le As.lt (Nat.le_of_eq g218.symm))) nin0))
      obtain ⟨cq230, kq230, q230a, q230b, q230c⟩ := isOf hZ eq226 ((((P215_1.ext E218).wr W219).wr W220).keep Kq221)
      obtain ⟨_, _, ⟨T230, L230, k230, n230⟩, -, X230, ⟨Lc230, hQ230, l230, y230, z230⟩, st230⟩ := X226.virtualBack hx (y := own_n6) (z := own_n6) hown (mvT hZ (own_w hw 159 rfl)) (mvT hZ (own_w hw 43 rfl)) (notFace_of_selects (args := #[]) (mvT hZ (own_w hw 45 rfl))) (mvT hZ (own_w hw 45 rfl)) (mvT hZ (own_w hw 44 rfl)) (by decide) (backOf (W := 0) (own_rm7 l Z a0 hw [] r_215 t_215 kt_215 (own_bl (0 : Int32) 3) (own_by (0 : Int32) (own_ws 1 1 V)) G1 T221.heap n0 (Nat.le_trans Z0 K221.1) ((((P215_1.ext E218).wr W219).wr W220).keep Kq221) f227 f228 f229 (((((q0.keep Kq215 all0).ext E218).wr W219 ge218).wr W220 ge218).keep Kq221 (allS ge218 all0)) q1 hG1) hZ (own_w hw 46 rfl) (own_w hw 20 rfl) (by decide) (by decide)) q230a q230c (g := (mkF m 212 #[oI p0, oR r_215, oJ vv, oS, oI (1 : Int32), oI (1 : Int32), oR b218, oI (2 : Int32), oI (3 : Int32)] [(.ref r_215)])) rfl (by rw [hml]; rfl) (Steps.refl _) (argsL := []) (rest := []) (lenOf own_pd8 rfl) rfl (own_hW rfl) (hb hby at_212) (fun _ _ => ⟨rfl, eq226, (by decide : 10 + 0 ≤ _), (by decide : 143 + 0 ≤ _)⟩)
      dsimp only [Pt.U, Pt.locs, Pt.cells, Pt.slots] at X230 l230 y230 z230 st230 hQ230
      subst y230 z230
      obtain ⟨rfl, N230q, eq230⟩ := hQ230
      have N230 : Fr n0 L230 := by rw [l230]; exact Fr.app N226 N230q
      refine own_tr st230 ?_
      refine own_st (fun t_ k_ => XS.iload X230.here hx rfl (hb hby at_215) rfl (XS.icmpYes X230.here hx rfl (pc0 := 217) (pc' := 222) rfl (hb hby at_217) rfl (teq (by decide : (Int32.ofNat (own_bl (0 : Int32) 3)) = (3 : Int32))).1 (by decide) (by decide) k_)) ?_
      show own_at p e below _ T230 m 222 #[oI p0, oR r_215, oJ vv, oS, oI (1 : Int32), oI (1 : Int32), oR b218, oI (2 : Int32), oI (3 : Int32)] []
      obtain ⟨gg, hgg⟩ : ∃ f_ : Nat → Int32, f_ = (own_upd (own_upd (own_upd (fun _ => (0 : Int32)) 0 (119 : Int32)) 1 (45 : Int32)) 2 (own_dig ((vv / (1 : Int64)) % (36 : Int64)))) := ⟨_, rfl⟩
      have Agg : own_A Z T221.heap b218 k218 .char 8 (fun i => .int (gg i)) := by rw [hgg]; exact P221_0
      have eg0 : own_ws 1 1 V 0 = gg 0 := by rw [hgg]; exact rfl.symm
      have eg1 : own_ws 1 1 V 1 = gg 1 := by rw [hgg]; exact rfl.symm
      have eg2 : own_ws 1 1 V 2 = gg 2 := by rw [hgg]; exact (show own_dig ((vv / (1 : Int64)) % (36 : Int64)) = own_ws 1 1 V 2 from (own_dd hv (by decide : (1 : Int64).toInt = ((1 : Nat) : Int)) (by decide)).trans (by unfold own_ws own_tb; rw [if_neg (by decide), if_neg (by decide)])).symm
      refine own_st (fun t_ k_ => XS.aloadN X230.here hx rfl (hb hby at_222) rfl rfl (XS.aload X230.here hx rfl (hb hby at_223) rfl rfl (XS.iload X230.here hx rfl (hb hby at_225) rfl (XS.iconst X230.here hx rfl (hb hby at_227) k_)))) ?_
      show own_at p e below _ T230 m 228 #[oI p0, oR r_215, oJ vv, oS, oI (1 : Int32), oI (1 : Int32), oR b218, oI (2 : Int32), oI (3 : Int32)] [(.int (0 : Int32)), (.int (3 : Int32)), (.ref b218), (.ref r_215)]
      obtain ⟨_, _, ⟨T231, L231, k231, n231⟩, -, X231, ⟨Lc231, hQ231, l231, y231, z231⟩, st231⟩ := Jvm.LawKit.callS X230 hx (y := own_n32) hown (mvT hZ (own_w hw 160 rfl)) (mvT hZ (own_w hw 161 rfl)) (mvT hZ (own_w hw 148 rfl)) (mvT hZ (own_w hw 162 rfl)) (by decide) (backOf (W := 0) (own_rm29y l Z a0 hw [] r_215 b218 (3 : Int32) (0 : Int32) t_215 kt_215 3 (own_ws 1 1 V) k218 gg 0 G1 G3 T221.heap n0 (Nat.le_trans Z0 K221.1) ((((P215_1.ext E218).wr W219).wr W220).keep Kq221) f227 f228 f229 hcd rfl (((((q0.keep Kq215 all0).ext E218).wr W219 ge218).wr W220 ge218).keep Kq221 (allS ge218 all0)) q1 hG1 q3 rG3 Agg (by decide) (by decide) (by decide) ⟨(own_ws7 _ _ _ _).1, Int.le_trans (own_ws7 _ _ _ _).2 (by decide)⟩ eg0) hZ (own_w hw 162 rfl) (own_w hw 148 rfl) (by decide) (by decide)) (g := (mkF m 228 #[oI p0, oR r_215, oJ vv, oS, oI (1 : Int32), oI (1 : Int32), oR b218, oI (2 : Int32), oI (3 : Int32)] [(.int (0 : Int32)), (.int (3 : Int32)), (.ref b218), (.ref r_215)])) rfl (by rw [hml]; rfl) (argsL := [(.ref r_215), (.ref b218), (.int (3 : Int32)), (.int (0 : Int32))]) (rest := []) (lenOf own_pd26 rfl) rfl (own_hW rfl) (hb hby at_228) (fun _ _ => ⟨rfl, eq230, (by decide : 10 + 0 ≤ _), (by decide : 143 + 0 ≤ _)⟩)
      dsimp only [Pt.U, Pt.locs, Pt.cells, Pt.slots] at X231 l231 y231 z231 st231 hQ231
      subst y231 z231
      obtain ⟨rfl, N231q, eq231⟩ := hQ231
      have N231 : Fr n0 L231 := by rw [l231]; exact Fr.app N230 N231q
      refine own_st (st231) ?_
      refine own_st (fun t_ k_ => XS.ifNo X231.here hx rfl (hb hby at_231) rfl ((if0 _ _).trans (feq (by decide : ¬ ((1 : Int32) = (0 : Int32)))).1) (XS.aloadN X231.here hx rfl (hb hby at_234) rfl rfl (XS.aload X231.here hx rfl (hb hby at_235) rfl rfl (XS.iload X231.here hx rfl (hb hby at_237) rfl (XS.iconst X231.here hx rfl (hb hby at_239) k_))))) ?_
      show own_at p e below _ T231 m 240 #[oI p0, oR r_215, oJ vv, oS, oI (1 : Int32), oI (1 : Int32), oR b218, oI (2 : Int32), oI (3 : Int32)] [(.int (1 : Int32)), (.int (3 : Int32)), (.ref b218), (.ref r_215)]
      obtain ⟨_, _, ⟨T232, L232, k232, n232⟩, -, X232, ⟨Lc232, hQ232, l232, y232, z232⟩, st232⟩ := Jvm.LawKit.callS X231 hx (y := own_n32) hown (mvT hZ (own_w hw 160 rfl)) (mvT hZ (own_w hw 161 rfl)) (mvT hZ (own_w hw 148 rfl)) (mvT hZ (own_w hw 162 rfl)) (by decide) (backOf (W := 0) (own_rm29y l Z a0 hw [] r_215 b218 (3 : Int32) (1 : Int32) t_215 kt_215 3 (own_ws 1 1 V) k218 gg 1 G1 G3 T221.heap n0 (Nat.le_trans Z0 K221.1) ((((P215_1.ext E218).wr W219).wr W220).keep Kq221) f227 f228 f229 hcd rfl (((((q0.keep Kq215 all0).ext E218).wr W219 ge218).wr W220 ge218).keep Kq221 (allS ge218 all0)) q1 hG1 q3 rG3 Agg (by decide) (by decide) (by decide) ⟨(own_ws7 _ _ _ _).1, Int.le_trans (own_ws7 _ _ _ _).2 (by decide)⟩ eg1) hZ (own_w hw 162 rfl) (own_w hw 148 rfl) (by decide) (by decide)) (g := (mkF m 240 #[oI p0, oR r_215, oJ vv, oS, oI (1 : Int32), oI (1 : Int32), oR b218, oI (2 : Int32), oI (3 : Int32)] [(.int (1 : Int32)), (.int (3 : Int32)), (.ref b218), (.ref r_215)])) rfl (by rw [hml]; rfl) (argsL := [(.ref r_215), (.ref b218), (.int (3 : Int32)), (.int (1 : Int32))]) (rest := []) (lenOf own_pd26 rfl) rfl (own_hW rfl) (hb hby at_240) (fun _ _ => ⟨rfl, eq231, (by decide : 10 + 0 ≤ _), (by decide : 143 + 0 ≤ _)⟩)
      dsimp only [Pt.U, Pt.locs, Pt.cells, Pt.slots] at X232 l232 y232 z232 st232 hQ232
      subst y232 z232
      obtain ⟨rfl, N232q, eq232⟩ := hQ232
      have N232 : Fr n0 L232 := by rw [l232]; exact Fr.app N231 N232q
      refine own_st (st232) ?_
      refine own_st (fun t_ k_ => XS.ifNo X232.here hx rfl (hb hby at_243) rfl ((if0 _ _).trans (feq (by decide : ¬ ((1 : Int32) = (0 : Int32)))).1) (XS.aloadN X232.here hx rfl (hb hby at_246) rfl rfl (XS.aload X232.here hx rfl (hb hby at_247) rfl rfl (XS.iload X232.here hx rfl (hb hby at_249) rfl (XS.iconst X232.here hx rfl (hb hby at_251) k_))))) ?_
      show own_at p e below _ T232 m 252 #[oI p0, oR r_215, oJ vv, oS, oI (1 : Int32), oI (1 : Int32), oR b218, oI (2 : Int32), oI (3 : Int32)] [(.int (2 : Int32)), (.int (3 : Int32)), (.ref b218), (.ref r_215)]
      obtain ⟨_, _, ⟨T233, L233, k233, n233⟩, -, X233, ⟨Lc233, hQ233, l233, y233, z233⟩, st233⟩ := Jvm.LawKit.callS X232 hx (y := own_n32) hown (mvT hZ (own_w hw 160 rfl)) (mvT hZ (own_w hw 161 rfl)) (mvT hZ (own_w hw 148 rfl)) (mvT hZ (own_w hw 162 rfl)) (by decide) (backOf (W := 0) (own_rm29y l Z a0 hw [] r_215 b218 (3 : Int32) (2 : Int32) t_215 kt_215 3 (own_ws 1 1 V) k218 gg 2 G1 G3 T221.heap n0 (Nat.le_trans Z0 K221.1) ((((P215_1.ext E218).wr W219).wr W220).keep Kq221) f227 f228 f229 hcd rfl (((((q0.keep Kq215 all0).ext E218).wr W219 ge218).wr W220 ge218).keep Kq221 (allS ge218 all0)) q1 hG1 q3 rG3 Agg (by decide) (by decide) (by decide) ⟨(own_ws7 _ _ _ _).1, Int.le_trans (own_ws7 _ _ _ _).2 (by decide)⟩ eg2) hZ (own_w hw 162 rfl) (own_w hw 148 rfl) (by decide) (by decide)) (g := (mkF m 252 #[oI p0, oR r_215, oJ vv, oS, oI (1 : Int32), oI (1 : Int32), oR b218, oI (2 : Int32), oI (3 : Int32)] [(.int (2 : Int32)), (.int (3 : Int32)), (.ref b218), (.ref r_215)])) rfl (by rw [hml]; rfl) (argsL := [(.ref r_215), (.ref b218), (.int (3 : Int32)), (.int (2 : Int32))]) (rest := []) (lenOf own_pd26 rfl) rfl (own_hW rfl) (hb hby at_252) (fun _ _ => ⟨rfl, eq232, (by decide : 10 + 0 ≤ _), (by decide : 143 + 0 ≤ _)⟩)
      dsimp only [Pt.U, Pt.locs, Pt.cells, Pt.slots] at X233 l233 y233 z233 st233 hQ233
      subst y233 z233
      obtain ⟨rfl, N233q, eq233⟩ := hQ233
      have N233 : Fr n0 L233 := by rw [l233]; exact Fr.app N232 N233q
      refine own_st (st233) ?_
      refine own_st (fun t_ k_ => XS.ifNo X233.here hx rfl (hb hby at_255) rfl ((if0 _ _).trans (feq (by decide : ¬ ((1 : Int32) = (0 : Int32)))).1) (XS.aloadN X233.here hx rfl (hb hby at_258) rfl rfl (XS.aload X233.here hx rfl (hb hby at_259) rfl rfl (XS.iload X233.here hx rfl (hb hby at_261) rfl (XS.iconst X233.here hx rfl (hb hby at_263) k_))))) ?_
      show own_at p e below _ T233 m 264 #[oI p0, oR r_215, oJ vv, oS, oI (1 : Int32), oI (1 : Int32), oR b218, oI (2 : Int32), oI (3 : Int32)] [(.int (3 : Int32)), (.int (3 : Int32)), (.ref b218), (.ref r_215)]
      obtain ⟨_, _, ⟨T234, L234, k234, n234⟩, -, X234, ⟨Lc234, hQ234, l234, y234, z234⟩, st234⟩ := Jvm.LawKit.callS X233 hx (y := own_n32) hown (mvT hZ (own_w hw 160 rfl)) (mvT hZ (own_w hw 161 rfl)) (mvT hZ (own_w hw 148 rfl)) (mvT hZ (own_w hw 162 rfl)) (by decide) (backOf (W := 0) (own_rm29n l Z a0 hw [] r_215 b218 (3 : Int32) (3 : Int32) T221.heap n0 (Nat.le_trans Z0 K221.1) (by decide)) hZ (own_w hw 162 rfl) (own_w hw 148 rfl) (by decide) (by decide)) (g := (mkF m 264 #[oI p0, oR r_215, oJ vv, oS, oI (1 : Int32), oI (1 : Int32), oR b218, oI (2 : Int32), oI (3 : Int32)] [(.int (3 : Int32)), (.int (3 : Int32)), (.ref b218), (.ref r_215)])) rfl (by rw [hml]; rfl) (argsL := [(.ref r_215), (.ref b218), (.int (3 : Int32)), (.int (3 : Int32))]) (rest := []) (lenOf own_pd26 rfl) rfl (own_hW rfl) (hb hby at_264) (fun _ _ => ⟨rfl, eq233, (by decide : 10 + 0 ≤ _), (by decide : 143 + 0 ≤ _)⟩)
      dsimp only [Pt.U, Pt.locs, Pt.cells, Pt.slots] at X234 l234 y234 z234 st234 hQ234
      subst y234 z234
      obtain ⟨rfl, N234q, eq234⟩ := hQ234
      have N234 : Fr n0 L234 := by rw [l234]; exact Fr.app N233 N234q
      refine own_st (st234) ?_
      refine own_st (fun t_ k_ => XS.ifNo X234.here hx rfl (hb hby at_267) rfl ((if0 _ _).trans (feq (by decide : ¬ ((1 : Int32) = (0 : Int32)))).1) (XS.aloadN X234.here hx rfl (hb hby at_270) rfl rfl (XS.aload X234.here hx rfl (hb hby at_271) rfl rfl (XS.iload X234.here hx rfl (hb hby at_273) rfl (XS.iconst X234.here hx rfl (hb hby at_275) k_))))) ?_
      show own_at p e below _ T234 m 276 #[oI p0, oR r_215, oJ vv, oS, oI (1 : Int32), oI (1 : Int32), oR b218, oI (2 : Int32), oI (3 : Int32)] [(.int (4 : Int32)), (.int (3 : Int32)), (.ref b218), (.ref r_215)]
      obtain ⟨_, _, ⟨T235, L235, k235, n235⟩, -, X235, ⟨Lc235, hQ235, l235, y235, z235⟩, st235⟩ := Jvm.LawKit.callS X234 hx (y := own_n32) hown (mvT hZ (own_w hw 160 rfl)) (mvT hZ (own_w hw 161 rfl)) (mvT hZ (own_w hw 148 rfl)) (mvT hZ (own_w hw 162 rfl)) (by decide) (backOf (W := 0) (own_rm29n l Z a0 hw [] r_215 b218 (3 : Int32) (4 : Int32) T221.heap n0 (Nat.le_trans Z0 K221.1) (by decide)) hZ (own_w hw 162 rfl) (own_w hw 148 rfl) (by decide) (by decide)) (g := (mkF m 276 #[oI p0, oR r_215, oJ vv, oS, oI (1 : Int32), oI (1 : Int32), oR b218, oI (2 : Int32), oI (3 : Int32)] [(.int (4 : Int32)), (.int (3 : Int32)), (.ref b218), (.ref r_215)])) rfl (by rw [hml]; rfl) (argsL := [(.ref r_215), (.ref b218), (.int (3 : Int32)), (.int (4 : Int32))]) (rest := []) (lenOf own_pd26 rfl) rfl (own_hW rfl) (hb hby at_276) (fun _ _ => ⟨rfl, eq234, (by decide : 10 + 0 ≤ _), (by decide : 143 + 0 ≤ _)⟩)
      dsimp only [Pt.U, Pt.locs, Pt.cells, Pt.slots] at X235 l235 y235 z235 st235 hQ235
      subst y235 z235
      obtain ⟨rfl, N235q, eq235⟩ := hQ235
      have N235 : Fr n0 L235 := by rw [l235]; exact Fr.app N234 N235q
      refine own_st (st235) ?_
      refine own_st (fun t_ k_ => XS.ifNo X235.here hx rfl (hb hby at_279) rfl ((if0 _ _).trans (feq (by decide : ¬ ((1 : Int32) = (0 : Int32)))).1) (XS.aloadN X235.here hx rfl (hb hby at_282) rfl rfl (XS.aload X235.here hx rfl (hb hby at_283) rfl rfl (XS.iload X235.here hx rfl (hb hby at_285) rfl (XS.iconst X235.here hx rfl (hb hby at_287) k_))))) ?_
      show own_at p e below _ T235 m 288 #[oI p0, oR r_215, oJ vv, oS, oI (1 : Int32), oI (1 : Int32), oR b218, oI (2 : Int32), oI (3 : Int32)] [(.int (5 : Int32)), (.int (3 : Int32)), (.ref b218), (.ref r_215)]
      obtain ⟨_, _, ⟨T236, L236, k236, n236⟩, -, X236, ⟨Lc236, hQ236, l236, y236, z236⟩, st236⟩ := Jvm.LawKit.callS X235 hx (y := own_n32) hown (mvT hZ (own_w hw 160 rfl)) (mvT hZ (own_w hw 161 rfl)) (mvT hZ (own_w hw 148 rfl)) (mvT hZ (own_w hw 162 rfl)) (by decide) (backOf (W := 0) (own_rm29n l Z a0 hw [] r_215 b218 (3 : Int32) (5 : Int32) T221.heap n0 (Nat.le_trans Z0 K221.1) (by decide)) hZ (own_w hw 162 rfl) (own_w hw 148 rfl) (by decide) (by decide)) (g := (mkF m 288 #[oI p0, oR r_215, oJ vv, oS, oI (1 : Int32), oI (1 : Int32), oR b218, oI (2 : Int32), oI (3 : Int32)] [(.int (5 : Int32)), (.int (3 : Int32)), (.ref b218), (.ref r_215)])) rfl (by rw [hml]; rfl) (argsL := [(.ref r_215), (.ref b218), (.int (3 : Int32)), (.int (5 : Int32))]) (rest := []) (lenOf own_pd26 rfl) rfl (own_hW rfl) (hb hby at_288) (fun _ _ => ⟨rfl, eq235, (by decide : 10 + 0 ≤ _), (by decide : 143 + 0 ≤ _)⟩)
      dsimp only [Pt.U, Pt.locs, Pt.cells, Pt.slots] at X236 l236 y236 z236 st236 hQ236
      subst y236 z236
      obtain ⟨rfl, N236q, eq236⟩ := hQ236
      have N236 : Fr n0 L236 := by rw [l236]; exact Fr.app N235 N236q
      refine own_st (st236) ?_
      refine own_st (fun t_ k_ => XS.ifNo X236.here hx rfl (hb hby at_291) rfl ((if0 _ _).trans (feq (by decide : ¬ ((1 : Int32) = (0 : Int32)))).1) (XS.aloadN X236.here hx rfl (hb hby at_294) rfl rfl (XS.aload X236.here hx rfl (hb hby at_295) rfl rfl (XS.iload X236.here hx rfl (hb hby at_297) rfl (XS.bipush X236.here hx rfl (hb hby at_299) k_))))) ?_
      show own_at p e below _ T236 m 301 #[oI p0, oR r_215, oJ vv, oS, oI (1 : Int32), oI (1 : Int32), oR b218, oI (2 : Int32), oI (3 : Int32)] [(.int (6 : Int32)), (.int (3 : Int32)), (.ref b218), (.ref r_215)]
      obtain ⟨_, _, ⟨T237, L237, k237, n237⟩, -, X237, ⟨Lc237, hQ237, l237, y237, z237⟩, st237⟩ := Jvm.LawKit.callS X236 hx (y := own_n32) hown (mvT hZ (own_w hw 160 rfl)) (mvT hZ (own_w hw 161 rfl)) (mvT hZ (own_w hw 148 rfl)) (mvT hZ (own_w hw 162 rfl)) (by decide) (backOf (W := 0) (own_rm29n l Z a0 hw [] r_215 b218 (3 : Int32) (6 : Int32) T221.heap n0 (Nat.le_trans Z0 K221.1) (by decide)) hZ (own_w hw 162 rfl) (own_w hw 148 rfl) (by decide) (by decide)) (g := (mkF m 301 #[oI p0, oR r_215, oJ vv, oS, oI (1 : Int32), oI (1 : Int32), oR b218, oI (2 : Int32), oI (3 : Int32)] [(.int (6 : Int32)), (.int (3 : Int32)), (.ref b218), (.ref r_215)])) rfl (by rw [hml]; rfl) (argsL := [(.ref r_215), (.ref b218), (.int (3 : Int32)), (.int (6 : Int32))]) (rest := []) (lenOf own_pd26 rfl) rfl (own_hW rfl) (hb hby at_301) (fun _ _ => ⟨rfl, eq236, (by decide : 10 + 0 ≤ _), (by decide : 143 + 0 ≤ _)⟩)
      dsimp only [Pt.U, Pt.locs, Pt.cells, Pt.slots] at X237 l237 y237 z237 st237 hQ237
      subst y237 z237
      obtain ⟨rfl, N237q, eq237⟩ := hQ237
      have N237 : Fr n0 L237 := by rw [l237]; exact Fr.app N236 N237q
      refine own_st (st237) ?_
      refine own_st (fun t_ k_ => XS.ifNo X237.here hx rfl (hb hby at_304) rfl ((if0 _ _).trans (feq (by decide : ¬ ((1 : Int32) = (0 : Int32)))).1) (XS.aloadN X237.here hx rfl (hb hby at_307) rfl rfl (XS.aload X237.here hx rfl (hb hby at_308) rfl rfl (XS.iload X237.here hx rfl (hb hby at_310) rfl (XS.bipush X237.here hx rfl (hb hby at_312) k_))))) ?_
      show own_at p e below _ T237 m 314 #[oI p0, oR r_215, oJ vv, oS, oI (1 : Int32), oI (1 : Int32), oR b218, oI (2 : Int32), oI (3 : Int32)] [(.int (7 : Int32)), (.int (3 : Int32)), (.ref b218), (.ref r_215)]
      obtain ⟨_, _, ⟨T238, L238, k238, n238⟩, -, X238, ⟨Lc238, hQ238, l238, y238, z238⟩, st238⟩ := Jvm.LawKit.callS X237 hx (y := own_n32) hown (mvT hZ (own_w hw 160 rfl)) (mvT hZ (own_w hw 161 rfl)) (mvT hZ (own_w hw 148 rfl)) (mvT hZ (own_w hw 162 rfl)) (by decide) (backOf (W := 0) (own_rm29n l Z a0 hw [] r_215 b218 (3 : Int32) (7 : Int32) T221.heap n0 (Nat.le_trans Z0 K221.1) (by decide)) hZ (own_w hw 162 rfl) (own_w hw 148 rfl) (by decide) (by decide)) (g := (mkF m 314 #[oI p0, oR r_215, oJ vv, oS, oI (1 : Int32), oI (1 : Int32), oR b218, oI (2 : Int32), oI (3 : Int32)] [(.int (7 : Int32)), (.int (3 : Int32)), (.ref b218), (.ref r_215)])) rfl (by rw [hml]; rfl) (argsL := [(.ref r_215), (.ref b218), (.int (3 : Int32)), (.int (7 : Int32))]) (rest := []) (lenOf own_pd26 rfl) rfl (own_hW rfl) (hb hby at_314) (fun _ _ => ⟨rfl, eq237, (by decide : 10 + 0 ≤ _), (by decide : 143 + 0 ≤ _)⟩)
      dsimp only [Pt.U, Pt.locs, Pt.cells, Pt.slots] at X238 l238 y238 z238 st238 hQ238
      subst y238 z238
      obtain ⟨rfl, N238q, eq238⟩ := hQ238
      have N238 : Fr n0 L238 := by rw [l238]; exact Fr.app N237 N238q
      refine own_st (st238) ?_
      refine own_st (fun t_ k_ => XS.ifNo X238.here hx rfl (hb hby at_317) rfl ((if0 _ _).trans (feq (by decide : ¬ ((1 : Int32) = (0 : Int32)))).1) (XS.iconst X238.here hx rfl (hb hby at_320) (XS.goto X238.here hx rfl (pc0 := 321) (pc' := 325) rfl (hb hby at_321) (by decide) (by decide) k_))) ?_
      show own_at p e below _ T238 m 325 #[oI p0, oR r_215, oJ vv, oS, oI (1 : Int32), oI (1 : Int32), oR b218, oI (2 : Int32), oI (3 : Int32)] [(.int (1 : Int32))]
      exact own_retW (w := (.int (1 : Int32))) X238 hx hnl hZ (own_hEL hw) S215 (by rw [eq238]; exact kk221) (by rw [eq238]; exact C221) Bd.returns rfl (Or.inl ⟨rfl, by decide, _, rfl⟩) (hb hby at_325) ⟨rfl, N238, (by rw [eq238]; exact K221)⟩ (by decide) (by decide)
    have z1 : (36 : Int64).toInt = 36 := by decide
    have hb1 := mt (lw_lt _ _).mpr c34_217
    rw [Int64.lt_iff_toInt_lt, hv, z1] at hb1
    refine own_st (fun t_ k_ => XS.ifYes X215.here hx rfl (pc0 := 34) (pc' := 41) rfl (hb hby at_34) rfl ((if0 _ _).trans (flt c34_217).2.1) (by decide) (by decide) (XS.lloadN X215.here hx rfl (hb hby at_41) rfl k_)) ?_
    show own_at p e below _ T215 m 42 #[oI p0, oR r_215, oJ vv, oS, oI (1 : Int32), oU, oU, oU, oU] [(.long vv)]
    refine own_st (X215.ldc2Long hx hown (mvT hZ (own_w hw 155 rfl)) (g := (mkF m 42 #[oI p0, oR r_215, oJ vv, oS, oI (1 : Int32), oU, oU, oU, oU] [(.long vv)])) rfl (hb hby at_42)) ?_
    refine own_st (fun t_ k_ => XS.lcmp X215.here hx rfl (hb hby at_45) rfl k_) ?_
    show own_at p e below _ T215 m 46 #[oI p0, oR r_215, oJ vv, oS, oI (1 : Int32), oU, oU, oU, oU] [(.int (lcmpW vv (1296 : Int64)))]
    by_cases c46_239 : (lcmpW vv (1296 : Int64)) < (0 : Int32)
    · skip
      have z2 : (1296 : Int64).toInt = 1296 := by decide
      have hb2 := (lw_lt _ _).mp c46_239
      rw [Int64.lt_iff_toInt_lt, hv, z2] at hb2
      refine own_st (fun t_ k_ => XS.ifNo X215.here hx rfl (hb hby at_46) rfl ((if0 _ _).trans (tlt c46_239).2.1) (XS.iconst X215.here hx rfl (hb hby at_49) (XS.goto X215.here hx rfl (pc0 := 50) (pc' := 91) rfl (hb hby at_50) (by decide) (by decide) (XS.istore X215.here hx rfl (hb hby at_91) rfl (l' := #[oI p0, oR r_215, oJ vv, oS, oI (1 : Int32), oI (2 : Int32), oU, oU, oU]) rfl k_)))) ?_
      show own_at p e below _ T215 m 93 #[oI p0, oR r_215, oJ vv, oS, oI (1 : Int32), oI (2 : Int32), oU, oU, oU] []
      have en : n_215 = 2 := own_nn6 hdn.1 hdn.2.2.1 hdn.2.2.2 (by decide) (by have q_ : 36 ^ 2 = 1296 := (by decide); omega) (by first | exact Or.inl rfl | exact Or.inr (by have q_ : 36 ^ (2 - 1) = 36 := (by decide); omega))
      have As : own_A Z T215.heap t_215 kt_215 .byte (own_bl (0 : Int32) 4) (fun i => .int ((own_by (0 : Int32) (own_ws 1 2 V)) i)) := by have z_ := P215_4; rw [en, hsg, ← hV] at z_; exact z_
      have hcd : ((0 : Int32) = 0 ∧ ∀ q : Nat, q < 4 → ¬ (255 : Int32) < (own_ws 1 2 V) q) ∨ (0 : Int32) = 1 := Or.inl ⟨rfl, fun q _ => own_lat7 (own_ws7 _ _ _ q)⟩
      refine own_st (fun t_ k_ => XS.bipush X215.here hx rfl (hb hby at_93) k_) ?_
      show own_at p e below _ T215 m 95 #[oI p0, oR r_215, oJ vv, oS, oI (1 : Int32), oI (2 : Int32), oU, oU, oU] [(.int (8 : Int32))]
      obtain ⟨T240, h240, k240, X240, e240, E240, A240, st240⟩ := newP X215 hx hZ (own_w hw 145 rfl) rfl (g := (mkF m 95 #[oI p0, oR r_215, oJ vv, oS, oI (1 : Int32), oI (2 : Int32), oU, oU, oU] [(.int (8 : Int32))])) rfl (hb hby at_95) rfl (by decide) (cap := 8) (by decide) (by decide) (by decide) (by decide)
      obtain ⟨b240, g240⟩ : ∃ z, z = T215.heap.size := ⟨_, rfl⟩
      rw [← g240] at A240 st240
      have fr240 : h0.size ≤ b240 := Nat.le_trans K215.1 (Nat.le_of_eq g240.symm)
      have ge240 : n0 ≤ b240 := Nat.le_trans Z0 fr240
      have K240 : Keep h0 h240 [] := K215.ext E240
      have c240 : CHr Z own_EL _ T215.heap _ h240 := CHr.ext E240 C215.1
      have C240 := C215.trans c240
      have kk240 := Nat.le_trans kk215 c240.2.1
      have Sf240_b240 : Safe Z own_EL _ h240 b240 := Safe.ext E240 C215.1 (Safe.new (Nat.le_of_eq g240.symm))
      have Ar240 : own_A Z h240 b240 k240 .char 8 (fun i => .int ((fun _ => (0 : Int32)) i)) := own_A.new A240 rfl (by decide)
      refine own_st (st240) ?_
      refine own_st (fun t_ k_ => XS.astore X240.here hx rfl (hb hby at_97) rfl rfl (l' := #[oI p0, oR r_215, oJ vv, oS, oI (1 : Int32), oI (2 : Int32), oR b240, oU, oU]) rfl (XS.aload X240.here hx rfl (hb hby at_99) rfl rfl (XS.iconst X240.here hx rfl (hb hby at_101) (XS.bipush X240.here hx rfl (hb hby at_102) k_)))) ?_
      show own_at p e below _ T240 m 104 #[oI p0, oR r_215, oJ vv, oS, oI (1 : Int32), oI (2 : Int32), oR b240, oU, oU] [(.int (119 : Int32)), (.int (0 : Int32)), (.ref b240)]
      obtain ⟨T241, h241, X241, e241, W241, Aw241, st241⟩ := own_castore X240 hx hZ e240 Ar240 (i := 0) (by decide) (by decide) rfl (v' := (119 : Int32)) (g := (mkF m 104 #[oI p0, oR r_215, oJ vv, oS, oI (1 : Int32), oI (2 : Int32), oR b240, oU, oU] [(.int (119 : Int32)), (.int (0 : Int32)), (.ref b240)])) rfl rfl (hb hby at_104)
      have N241 := Fr.snoc X241 N215 ge240
      have K241 : Keep h0 h241 [] := K240.wr W241 (Or.inr fr240)
      have c241 : CHr Z own_EL _ h240 _ h241 := CHr.wr W241 (own_safeA hZ.alike Ar240 (by decide)) C240.1
      have C241 := C240.trans c241
      have kk241 := Nat.le_trans kk240 c241.2.1
      refine own_st (st241) ?_
      refine own_st (fun t_ k_ => XS.iconst X241.here hx rfl (hb hby at_105) (XS.istore X241.here hx rfl (hb hby at_106) rfl (l' := #[oI p0, oR r_215, oJ vv, oS, oI (1 : Int32), oI (2 : Int32), oR b240, oI (1 : Int32), oU]) rfl (XS.iload X241.here hx rfl (hb hby at_108) rfl (XS.ifNo X241.here hx rfl (hb hby at_110) rfl ((if0 _ _).trans (feq (by decide : ¬ ((1 : Int32) = (0 : Int32)))).1) (XS.aload X241.here hx rfl (hb hby at_113) rfl rfl (XS.iconst X241.here hx rfl (hb hby at_115) k_)))))) ?_
      show own_at p e below _ T241 m 116 #[oI p0, oR r_215, oJ vv, oS, oI (1 : Int32), oI (2 : Int32), oR b240, oI (1 : Int32), oU] [(.int (1 : Int32)), (.ref b240)]
      refine own_st (fun t_ k_ => XS.bipush X241.here hx rfl (hb hby at_116) k_) ?_
      show own_at p e below _ T241 m 118 #[oI p0, oR r_215, oJ vv, oS, oI (1 : Int32), oI (2 : Int32), oR b240, oI (1 : Int32), oU] [(.int (45 : Int32)), (.int (1 : Int32)), (.ref b240)]
      obtain ⟨T242, h242, X242, e242, W242, Aw242, st242⟩ := own_castore X241 hx hZ e241 Aw241 (i := 1) (by decide) (by decide) rfl (v' := (45 : Int32)) (g := (mkF m 118 #[oI p0, oR r_215, oJ vv, oS, oI (1 : Int32), oI (2 : Int32), oR b240, oI (1 : Int32), oU] [(.int (45 : Int32)), (.int (1 : Int32)), (.ref b240)])) rfl rfl (hb hby at_118)
      have N242 := Fr.snoc X242 N241 ge240
      have K242 : Keep h0 h242 [] := K241.wr W242 (Or.inr fr240)
      have c242 : CHr Z own_EL _ h241 _ h242 := CHr.wr W242 (own_safeA hZ.alike Aw241 (by decide)) C241.1
      have C242 := C241.trans c242
      have kk242 := Nat.le_trans kk241 c242.2.1
      refine own_st (st242) ?_
      refine own_st (fun t_ k_ => XS.iconst X242.here hx rfl (hb hby at_119) (XS.istore X242.here hx rfl (hb hby at_120) rfl (l' := #[oI p0, oR r_215, oJ vv, oS, oI (1 : Int32), oI (2 : Int32), oR b240, oI (2 : Int32), oU]) rfl (XS.aload X242.here hx rfl (hb hby at_122) rfl rfl (XS.iload X242.here hx rfl (hb hby at_124) rfl (XS.iload X242.here hx rfl (hb hby at_126) rfl (XS.iconst X242.here hx rfl (hb hby at_128) k_)))))) ?_
      show own_at p e below _ T242 m 129 #[oI p0, oR r_215, oJ vv, oS, oI (1 : Int32), oI (2 : Int32), oR b240, oI (2 : Int32), oU] [(.int (0 : Int32)), (.int (2 : Int32)), (.int (2 : Int32)), (.ref b240)]
      refine own_st (fun t_ k_ => XS.lloadN X242.here hx rfl (hb hby at_129) rfl (XS.lconst X242.here hx rfl (hb hby at_130) k_)) ?_
      show own_at p e below _ T242 m 131 #[oI p0, oR r_215, oJ vv, oS, oI (1 : Int32), oI (2 : Int32), oR b240, oI (2 : Int32), oU] [(.long (1 : Int64)), (.long vv), (.int (0 : Int32)), (.int (2 : Int32)), (.int (2 : Int32)), (.ref b240)]
      obtain ⟨_, _, ⟨T243, L243, k243, n243⟩, -, X243, ⟨Lc243, hQ243, l243, y243, z243⟩, st243⟩ := Jvm.LawKit.callS X242 hx (y := own_n31) hown (mvT hZ (own_w hw 146 rfl)) (mvT hZ (own_w hw 147 rfl)) (mvT hZ (own_w hw 148 rfl)) (mvT hZ (own_w hw 149 rfl)) (by decide) (backOf (W := 0) (own_rm27y l Z a0 hw [] b240 (2 : Int32) (2 : Int32) (0 : Int32) vv (1 : Int64) k240 (own_upd (own_upd (fun _ => (0 : Int32)) 0 (119 : Int32)) 1 (45 : Int32)) 3 h242 n0 (Nat.le_trans Z0 K242.1) Aw242 ge240 (by decide) (by decide) (by decide)) hZ (own_w hw 149 rfl) (own_w hw 148 rfl) (by decide) (by decide)) (g := (mkF m 131 #[oI p0, oR r_215, oJ vv, oS, oI (1 : Int32), oI (2 : Int32), oR b240, oI (2 : Int32), oU] [(.long (1 : Int64)), (.long vv), (.int (0 : Int32)), (.int (2 : Int32)), (.int (2 : Int32)), (.ref b240)])) rfl (by rw [hml]; rfl) (argsL := [(.ref b240), (.int (2 : Int32)), (.int (2 : Int32)), (.int (0 : Int32)), (.long vv), (.long (1 : Int64))]) (rest := []) (lenOf own_pd25 rfl) rfl (own_hW rfl) (hb hby at_131) (fun _ _ => ⟨rfl, e242, (by decide : 10 + 0 ≤ _), (by decide : 143 + 0 ≤ _)⟩)
      dsimp only [Pt.U, Pt.locs, Pt.cells, Pt.slots] at X243 l243 y243 z243 st243 hQ243
      subst y243 z243
      obtain ⟨rfl, N243q, Kq243, P243_0⟩ := hQ243
      have N243 : Fr n0 L243 := by rw [l243]; exact Fr.app N242 N243q
      have K243 : Keep h0 T243.heap [] := K242.trans Kq243 (allS (P := fun x => x ∈ [] ∨ h0.size ≤ x) (Or.inr fr240) all0)
      have c243 : CHr Z own_EL _ h242 _ T243.heap := CHr.keep Kq243 (own_slS (own_safeA hZ.alike Aw242 (by decide)) own_sl0) C242.1
      have C243 := C242.trans c243
      have kk243 := Nat.le_trans kk242 c243.2.1
      refine own_st (st243) ?_
      refine own_st (fun t_ k_ => XS.aload X243.here hx rfl (hb hby at_134) rfl rfl (XS.iload X243.here hx rfl (hb hby at_136) rfl (XS.iload X243.here hx rfl (hb hby at_138) rfl (XS.iconst X243.here hx rfl (hb hby at_140) (XS.lloadN X243.here hx rfl (hb hby at_141) rfl k_))))) ?_
      show own_at p e below _ T243 m 142 #[oI p0, oR r_215, oJ vv, oS, oI (1 : Int32), oI (2 : Int32), oR b240, oI (2 : Int32), oU] [(.long vv), (.int (1 : Int32)), (.int (2 : Int32)), (.int (2 : Int32)), (.ref b240)]
      refine own_st (X243.ldc2Long hx hown (mvT hZ (own_w hw 144 rfl)) (g := (mkF m 142 #[oI p0, oR r_215, oJ vv, oS, oI (1 : Int32), oI (2 : Int32), oR b240, oI (2 : Int32), oU] [(.long vv), (.int (1 : Int32)), (.int (2 : Int32)), (.int (2 : Int32)), (.ref b240)])) rfl (hb hby at_142)) ?_
      show own_at p e below _ T243 m 145 #[oI p0, oR r_215, oJ vv, oS, oI (1 : Int32), oI (2 : Int32), oR b240, oI (2 : Int32), oU] [(.long (36 : Int64)), (.long vv), (.int (1 : Int32)), (.int (2 : Int32)), (.int (2 : Int32)), (.ref b240)]
      obtain ⟨_, _, ⟨T244, L244, k244, n244⟩, -, X244, ⟨Lc244, hQ244, l244, y244, z244⟩, st244⟩ := Jvm.LawKit.callS X243 hx (y := own_n31) hown (mvT hZ (own_w hw 146 rfl)) (mvT hZ (own_w hw 147 rfl)) (mvT hZ (own_w hw 148 rfl)) (mvT hZ (own_w hw 149 rfl)) (by decide) (backOf (W := 0) (own_rm27y l Z a0 hw [] b240 (2 : Int32) (2 : Int32) (1 : Int32) vv (36 : Int64) k240 (own_upd (own_upd (own_upd (fun _ => (0 : Int32)) 0 (119 : Int32)) 1 (45 : Int32)) 3 (own_dig ((vv / (1 : Int64)) % (36 : Int64)))) 2 T243.heap n0 (Nat.le_trans Z0 K243.1) P243_0 ge240 (by decide) (by decide) (by decide)) hZ (own_w hw 149 rfl) (own_w hw 148 rfl) (by decide) (by decide)) (g := (mkF m 145 #[oI p0, oR r_215, oJ vv, oS, oI (1 : Int32), oI (2 : Int32), oR b240, oI (2 : Int32), oU] [(.long (36 : Int64)), (.long vv), (.int (1 : Int32)), (.int (2 : Int32)), (.int (2 : Int32)), (.ref b240)])) rfl (by rw [hml]; rfl) (argsL := [(.ref b240), (.int (2 : Int32)), (.int (2 : Int32)), (.int (1 : Int32)), (.long vv), (.long (36 : Int64))]) (rest := []) (lenOf own_pd25 rfl) rfl (own_hW rfl) (hb hby at_145) (fun _ _ => ⟨rfl, rfl, (by decide : 10 + 0 ≤ _), (by decide : 143 + 0 ≤ _)⟩)
      dsimp only [Pt.U, Pt.locs, Pt.cells, Pt.slots] at X244 l244 y244 z244 st244 hQ244
      subst y244 z244
      obtain ⟨rfl, N244q, Kq244, P244_0⟩ := hQ244
      have N244 : Fr n0 L244 := by rw [l244]; exact Fr.app N243 N244q
      have K244 : Keep h0 T244.heap [] := K243.trans Kq244 (allS (P := fun x => x ∈ [] ∨ h0.size ≤ x) (Or.inr fr240) all0)
      have c244 : CHr Z own_EL _ T243.heap _ T244.heap := CHr.keep Kq244 (own_slS (own_safeA hZ.alike P243_0 (by decide)) own_sl0) C243.1
      have C244 := C243.trans c244
      have kk244 := Nat.le_trans kk243 c244.2.1
      refine own_st (st244) ?_
      refine own_st (fun t_ k_ => XS.aload X244.here hx rfl (hb hby at_148) rfl rfl (XS.iload X244.here hx rfl (hb hby at_150) rfl (XS.iload X244.here hx rfl (hb hby at_152) rfl (XS.iconst X244.here hx rfl (hb hby at_154) (XS.lloadN X244.here hx rfl (hb hby at_155) rfl k_))))) ?_
      show own_at p e below _ T244 m 156 #[oI p0, oR r_215, oJ vv, oS, oI (1 : Int32), oI (2 : Int32), oR b240, oI (2 : Int32), oU] [(.long vv), (.int (2 : Int32)), (.int (2 : Int32)), (.int (2 : Int32)), (.ref b240)]
      refine own_st (X244.ldc2Long hx hown (mvT hZ (own_w hw 155 rfl)) (g := (mkF m 156 #[oI p0, oR r_215, oJ vv, oS, oI (1 : Int32), oI (2 : Int32), oR b240, oI (2 : Int32), oU] [(.long vv), (.int (2 : Int32)), (.int (2 : Int32)), (.int (2 : Int32)), (.ref b240)])) rfl (hb hby at_156)) ?_
      show own_at p e below _ T244 m 159 #[oI p0, oR r_215, oJ vv, oS, oI (1 : Int32), oI (2 : Int32), oR b240, oI (2 : Int32), oU] [(.long (1296 : Int64)), (.long vv), (.int (2 : Int32)), (.int (2 : Int32)), (.int (2 : Int32)), (.ref b240)]
      obtain ⟨_, _, ⟨T245, L245, k245, n245⟩, -, X245, ⟨Lc245, hQ245, l245, y245, z245⟩, st245⟩ := Jvm.LawKit.callS X244 hx (y := own_n31) hown (mvT hZ (own_w hw 146 rfl)) (mvT hZ (own_w hw 147 rfl)) (mvT hZ (own_w hw 148 rfl)) (mvT hZ (own_w hw 149 rfl)) (by decide) (backOf (W := 0) (own_rm27n l Z a0 hw [] b240 (2 : Int32) (2 : Int32) (2 : Int32) vv (1296 : Int64) T244.heap n0 (Nat.le_trans Z0 K244.1) (by decide)) hZ (own_w hw 149 rfl) (own_w hw 148 rfl) (by decide) (by decide)) (g := (mkF m 159 #[oI p0, oR r_215, oJ vv, oS, oI (1 : Int32), oI (2 : Int32), oR b240, oI (2 : Int32), oU] [(.long (1296 : Int64)), (.long vv), (.int (2 : Int32)), (.int (2 : Int32)), (.int (2 : Int32)), (.ref b240)])) rfl (by rw [hml]; rfl) (argsL := [(.ref b240), (.int (2 : Int32)), (.int (2 : Int32)), (.int (2 : Int32)), (.long vv), (.long (1296 : Int64))]) (rest := []) (lenOf own_pd25 rfl) rfl (own_hW rfl) (hb hby at_159) (fun _ _ => ⟨rfl, rfl, (by decide : 10 + 0 ≤ _), (by decide : 143 + 0 ≤ _)⟩)
      dsimp only [Pt.U, Pt.locs, Pt.cells, Pt.slots] at X245 l245 y245 z245 st245 hQ245
      subst y245 z245
      obtain ⟨rfl, N245q, eq245⟩ := hQ245
      have N245 : Fr n0 L245 := by rw [l245]; exact Fr.app N244 N245q
      refine own_st (st245) ?_
      refine own_st (fun t_ k_ => XS.aload X245.here hx rfl (hb hby at_162) rfl rfl (XS.iload X245.here hx rfl (hb hby at_164) rfl (XS.iload X245.here hx rfl (hb hby at_166) rfl (XS.iconst X245.here hx rfl (hb hby at_168) (XS.lloadN X245.here hx rfl (hb hby at_169) rfl k_))))) ?_
      show own_at p e below _ T245 m 170 #[oI p0, oR r_215, oJ vv, oS, oI (1 : Int32), oI (2 : Int32), oR b240, oI (2 : Int32), oU] [(.long vv), (.int (3 : Int32)), (.int (2 : Int32)), (.int (2 : Int32)), (.ref b240)]
      refine own_st (X245.ldc2Long hx hown (mvT hZ (own_w hw 156 rfl)) (g := (mkF m 170 #[oI p0, oR r_215, oJ vv, oS, oI (1 : Int32), oI (2 : Int32), oR b240, oI (2 : Int32), oU] [(.long vv), (.int (3 : Int32)), (.int (2 : Int32)), (.int (2 : Int32)), (.ref b240)])) rfl (hb hby at_170)) ?_
      show own_at p e below _ T245 m 173 #[oI p0, oR r_215, oJ vv, oS, oI (1 : Int32), oI (2 : Int32), oR b240, oI (2 : Int32), oU] [(.long (46656 : Int64)), (.long vv), (.int (3 : Int32)), (.int (2 : Int32)), (.int (2 : Int32)), (.ref b240)]
      obtain ⟨_, _, ⟨T246, L246, k246, n246⟩, -, X246, ⟨Lc246, hQ246, l246, y246, z246⟩, st246⟩ := Jvm.LawKit.callS X245 hx (y := own_n31) hown (mvT hZ (own_w hw 146 rfl)) (mvT hZ (own_w hw 147 rfl)) (mvT hZ (own_w hw 148 rfl)) (mvT hZ (own_w hw 149 rfl)) (by decide) (backOf (W := 0) (own_rm27n l Z a0 hw [] b240 (2 : Int32) (2 : Int32) (3 : Int32) vv (46656 : Int64) T244.heap n0 (Nat.le_trans Z0 K244.1) (by decide)) hZ (own_w hw 149 rfl) (own_w hw 148 rfl) (by decide) (by decide)) (g := (mkF m 173 #[oI p0, oR r_215, oJ vv, oS, oI (1 : Int32), oI (2 : Int32), oR b240, oI (2 : Int32), oU] [(.long (46656 : Int64)), (.long vv), (.int (3 : Int32)), (.int (2 : Int32)), (.int (2 : Int32)), (.ref b240)])) rfl (by rw [hml]; rfl) (argsL := [(.ref b240), (.int (2 : Int32)), (.int (2 : Int32)), (.int (3 : Int32)), (.long vv), (.long (46656 : Int64))]) (rest := []) (lenOf own_pd25 rfl) rfl (own_hW rfl) (hb hby at_173) (fun _ _ => ⟨rfl, eq245, (by decide : 10 + 0 ≤ _), (by decide : 143 + 0 ≤ _)⟩)
      dsimp only [Pt.U, Pt.locs, Pt.cells, Pt.slots] at X246 l246 y246 z246 st246 hQ246
      subst y246 z246
      obtain ⟨rfl, N246q, eq246⟩ := hQ246
      have N246 : Fr n0 L246 := by rw [l246]; exact Fr.app N245 N246q
      refine own_st (st246) ?_
      refine own_st (fun t_ k_ => XS.aload X246.here hx rfl (hb hby at_176) rfl rfl (XS.iload X246.here hx rfl (hb hby at_178) rfl (XS.iload X246.here hx rfl (hb hby at_180) rfl (XS.iconst X246.here hx rfl (hb hby at_182) (XS.lloadN X246.here hx rfl (hb hby at_183) rfl k_))))) ?_
      show own_at p e below _ T246 m 184 #[oI p0, oR r_215, oJ vv, oS, oI (1 : Int32), oI (2 : Int32), oR b240, oI (2 : Int32), oU] [(.long vv), (.int (4 : Int32)), (.int (2 : Int32)), (.int (2 : Int32)), (.ref b240)]
      refine own_st (X246.ldc2Long hx hown (mvT hZ (own_w hw 157 rfl)) (g := (mkF m 184 #[oI p0, oR r_215, oJ vv, oS, oI (1 : Int32), oI (2 : Int32), oR b240, oI (2 : Int32), oU] [(.long vv), (.int (4 : Int32)), (.int (2 : Int32)), (.int (2 : Int32)), (.ref b240)])) rfl (hb hby at_184)) ?_
      show own_at p e below _ T246 m 187 #[oI p0, oR r_215, oJ vv, oS, oI (1 : Int32), oI (2 : Int32), oR b240, oI (2 : Int32), oU] [(.long (1679616 : Int64)), (.long vv), (.int (4 : Int32)), (.int (2 : Int32)), (.int (2 : Int32)), (.ref b240)]
      obtain ⟨_, _, ⟨T247, L247, k247, n247⟩, -, X247, ⟨Lc247, hQ247, l247, y247, z247⟩, st247⟩ := Jvm.LawKit.callS X246 hx (y := own_n31) hown (mvT hZ (own_w hw 146 rfl)) (mvT hZ (own_w hw 147 rfl)) (mvT hZ (own_w hw 148 rfl)) (mvT hZ (own_w hw 149 rfl)) (by decide) (backOf (W := 0) (own_rm27n l Z a0 hw [] b240 (2 : Int32) (2 : Int32) (4 : Int32) vv (1679616 : Int64) T244.heap n0 (Nat.le_trans Z0 K244.1) (by decide)) hZ (own_w hw 149 rfl) (own_w hw 148 rfl) (by decide) (by decide)) (g := (mkF m 187 #[oI p0, oR r_215, oJ vv, oS, oI (1 : Int32), oI (2 : Int32), oR b240, oI (2 : Int32), oU] [(.long (1679616 : Int64)), (.long vv), (.int (4 : Int32)), (.int (2 : Int32)), (.int (2 : Int32)), (.ref b240)])) rfl (by rw [hml]; rfl) (argsL := [(.ref b240), (.int (2 : Int32)), (.int (2 : Int32)), (.int (4 : Int32)), (.long vv), (.long (1679616 : Int64))]) (rest := []) (lenOf own_pd25 rfl) rfl (own_hW rfl) (hb hby at_187) (fun _ _ => ⟨rfl, eq246, (by decide : 10 + 0 ≤ _), (by decide : 143 + 0 ≤ _)⟩)
      dsimp only [Pt.U, Pt.locs, Pt.cells, Pt.slots] at X247 l247 y247 z247 st247 hQ247
      subst y247 z247
      obtain ⟨rfl, N247q, eq247⟩ := hQ247
      have N247 : Fr n0 L247 := by rw [l247]; exact Fr.app N246 N247q
      refine own_st (st247) ?_
      refine own_st (fun t_ k_ => XS.aload X247.here hx rfl (hb hby at_190) rfl rfl (XS.iload X247.here hx rfl (hb hby at_192) rfl (XS.iload X247.here hx rfl (hb hby at_194) rfl (XS.iconst X247.here hx rfl (hb hby at_196) (XS.lloadN X247.here hx rfl (hb hby at_197) rfl k_))))) ?_
      show own_at p e below _ T247 m 198 #[oI p0, oR r_215, oJ vv, oS, oI (1 : Int32), oI (2 : Int32), oR b240, oI (2 : Int32), oU] [(.long vv), (.int (5 : Int32)), (.int (2 : Int32)), (.int (2 : Int32)), (.ref b240)]
      refine own_st (X247.ldc2Long hx hown (mvT hZ (own_w hw 158 rfl)) (g := (mkF m 198 #[oI p0, oR r_215, oJ vv, oS, oI (1 : Int32), oI (2 : Int32), oR b240, oI (2 : Int32), oU] [(.long vv), (.int (5 : Int32)), (.int (2 : Int32)), (.int (2 : Int32)), (.ref b240)])) rfl (hb hby at_198)) ?_
      show own_at p e below _ T247 m 201 #[oI p0, oR r_215, oJ vv, oS, oI (1 : Int32), oI (2 : Int32), oR b240, oI (2 : Int32), oU] [(.long (60466176 : Int64)), (.long vv), (.int (5 : Int32)), (.int (2 : Int32)), (.int (2 : Int32)), (.ref b240)]
      obtain ⟨_, _, ⟨T248, L248, k248, n248⟩, -, X248, ⟨Lc248, hQ248, l248, y248, z248⟩, st248⟩ := Jvm.LawKit.callS X247 hx (y := own_n31) hown (mvT hZ (own_w hw 146 rfl)) (mvT hZ (own_w hw 147 rfl)) (mvT hZ (own_w hw 148 rfl)) (mvT hZ (own_w hw 149 rfl)) (by decide) (backOf (W := 0) (own_rm27n l Z a0 hw [] b240 (2 : Int32) (2 : Int32) (5 : Int32) vv (60466176 : Int64) T244.heap n0 (Nat.le_trans Z0 K244.1) (by decide)) hZ (own_w hw 149 rfl) (own_w hw 148 rfl) (by decide) (by decide)) (g := (mkF m 201 #[oI p0, oR r_215, oJ vv, oS, oI (1 : Int32), oI (2 : Int32), oR b240, oI (2 : Int32), oU] [(.long (60466176 : Int64)), (.long vv), (.int (5 : Int32)), (.int (2 : Int32)), (.int (2 : Int32)), (.ref b240)])) rfl (by rw [hml]; rfl) (argsL := [(.ref b240), (.int (2 : Int32)), (.int (2 : Int32)), (.int (5 : Int32)), (.long vv), (.long (60466176 : Int64))]) (rest := []) (lenOf own_pd25 rfl) rfl (own_hW rfl) (hb hby at_201) (fun _ _ => ⟨rfl, eq247, (by decide : 10 + 0 ≤ _), (by decide : 143 + 0 ≤ _)⟩)
      dsimp only [Pt.U, Pt.locs, Pt.cells, Pt.slots] at X248 l248 y248 z248 st248 hQ248
      subst y248 z248
      obtain ⟨rfl, N248q, eq248⟩ := hQ248
      have N248 : Fr n0 L248 := by rw [l248]; exact Fr.app N247 N248q
      refine own_st (st248) ?_
      refine own_st (fun t_ k_ => XS.iload X248.here hx rfl (hb hby at_204) rfl (XS.iload X248.here hx rfl (hb hby at_206) rfl (XS.iadd X248.here hx rfl (hb hby at_208) rfl k_))) ?_
      show own_at p e below _ T248 m 209 #[oI p0, oR r_215, oJ vv, oS, oI (1 : Int32), oI (2 : Int32), oR b240, oI (2 : Int32), oU] [(.int ((2 : Int32) + (2 : Int32)))]
      rw [show ((2 : Int32) + (2 : Int32)) = (4 : Int32) from (by decide)]
      refine own_st (fun t_ k_ => XS.istore X248.here hx rfl (hb hby at_209) rfl (l' := #[oI p0, oR r_215, oJ vv, oS, oI (1 : Int32), oI (2 : Int32), oR b240, oI (2 : Int32), oI (4 : Int32)]) rfl (XS.aloadN X248.here hx rfl (hb hby at_211) rfl rfl k_)) ?_
      show own_at p e below _ T248 m 212 #[oI p0, oR r_215, oJ vv, oS, oI (1 : Int32), oI (2 : Int32), oR b240, oI (2 : Int32), oI (4 : Int32)] [(.ref r_215)]
      have f249 : Fld Z T244.heap r_215 "java/lang/String" "value" "[B" (.ref t_215) := (((((P215_2.ext E240).other W241 (Or.inl (Nat.ne_of_lt (Nat.lt_of_lt_of_le P215_1.lt (Nat.le_of_eq g240.symm))))).other W242 (Or.inl (Nat.ne_of_lt (Nat.lt_of_lt_of_le P215_1.lt (Nat.le_of_eq g240.symm))))).keep Kq243 (ninS (Nat.ne_of_lt (Nat.lt_of_lt_of_le P215_1.lt (Nat.le_of_eq g240.symm))) nin0)).keep Kq244 (ninS (Nat.ne_of_lt (Nat.lt_of_lt_of_le P215_1.lt (Nat.le_of_eq g240.symm))) nin0))
      have f250 : Fld Z T244.heap r_215 "java/lang/String" "coder" "B" (.int (0 : Int32)) := (((((P215_3.ext E240).other W241 (Or.inl (Nat.ne_of_lt (Nat.lt_of_lt_of_le P215_1.lt (Nat.le_of_eq g240.symm))))).other W242 (Or.inl (Nat.ne_of_lt (Nat.lt_of_lt_of_le P215_1.lt (Nat.le_of_eq g240.symm))))).keep Kq243 (ninS (Nat.ne_of_lt (Nat.lt_of_lt_of_le P215_1.lt (Nat.le_of_eq g240.symm))) nin0)).keep Kq244 (ninS (Nat.ne_of_lt (Nat.lt_of_lt_of_le P215_1.lt (Nat.le_of_eq g240.symm))) nin0))
      have f251 : own_A Z T244.heap t_215 kt_215 .byte (own_bl (0 : Int32) 4) (fun i => .int ((own_by (0 : Int32) (own_ws 1 2 V)) i)) := (((((As.ext E240).other W241 (Nat.ne_of_lt (Nat.lt_of_lt_of_le As.lt (Nat.le_of_eq g240.symm)))).other W242 (Nat.ne_of_lt (Nat.lt_of_lt_of_le As.lt (Nat.le_of_eq g240.symm)))).keep Kq243 (ninS (Nat.ne_of_lt (Nat.lt_of_lt_of_le As.lt (Nat.le_of_eq g240.symm))) nin0)).keep Kq244 (ninS (Nat.ne_of_lt (Nat.lt_of_lt_of_le As.lt (Nat.le_of_eq g240.symm))) nin0))
      obtain ⟨cq252, kq252, q252a, q252b, q252c⟩ := isOf hZ eq248 (((((P215_1.ext E240).wr W241).wr W242).keep Kq243).keep Kq244)
      obtain ⟨_, _, ⟨T252, L252, k252, n252⟩, -, X252, ⟨Lc252, hQ252, l252, y252, z252⟩, st252⟩ := X248.virtualBack hx (y := own_n6) (z := own_n6) hown (mvT hZ (own_w hw 159 rfl)) (mvT hZ (own_w hw 43 rfl)) (notFace_of_selects (args := #[]) (mvT hZ (own_w hw 45 rfl))) (mvT hZ (own_w hw 45 rfl)) (mvT hZ (own_w hw 44 rfl)) (by decide) (backOf (W := 0) (own_rm7 l Z a0 hw [] r_215 t_215 kt_215 (own_bl (0 : Int32) 4) (own_by (0 : Int32) (own_ws 1 2 V)) G1 T244.heap n0 (Nat.le_trans Z0 K244.1) (((((P215_1.ext E240).wr W241).wr W242).keep Kq243).keep Kq244) f249 f250 f251 ((((((q0.keep Kq215 all0).ext E240).wr W241 ge240).wr W242 ge240).keep Kq243 (allS ge240 all0)).keep Kq244 (allS ge240 all0)) q1 hG1) hZ (own_w hw 46 rfl) (own_w hw 20 rfl) (by decide) (by decide)) q252a q252c (g := (mkF m 212 #[oI p0, oR r_215, oJ vv, oS, oI (1 : Int32), oI (2 : Int32), oR b240, oI (2 : Int32), oI (4 : Int32)] [(.ref r_215)])) rfl (by rw [hml]; rfl) (Steps.refl _) (argsL := []) (rest := []) (lenOf own_pd8 rfl) rfl (own_hW rfl) (hb hby at_212) (fun _ _ => ⟨rfl, eq248, (by decide : 10 + 0 ≤ _), (by decide : 143 + 0 ≤ _)⟩)
      dsimp only [Pt.U, Pt.locs, Pt.cells, Pt.slots] at X252 l252 y252 z252 st252 hQ252
      subst y252 z252
      obtain ⟨rfl, N252q, eq252⟩ := hQ252
      have N252 : Fr n0 L252 := by rw [l252]; exact Fr.app N248 N252q
      refine own_tr st252 ?_
      refine own_st (fun t_ k_ => XS.iload X252.here hx rfl (hb hby at_215) rfl (XS.icmpYes X252.here hx rfl (pc0 := 217) (pc' := 222) rfl (hb hby at_217) rfl (teq (by decide : (Int32.ofNat (own_bl (0 : Int32) 4)) = (4 : Int32))).1 (by decide) (by decide) k_)) ?_
      show own_at p e below _ T252 m 222 #[oI p0, oR r_215, oJ vv, oS, oI (1 : Int32), oI (2 : Int32), oR b240, oI (2 : Int32), oI (4 : Int32)] []
      obtain ⟨gg, hgg⟩ : ∃ f_ : Nat → Int32, f_ = (own_upd (own_upd (own_upd (own_upd (fun _ => (0 : Int32)) 0 (119 : Int32)) 1 (45 : Int32)) 3 (own_dig ((vv / (1 : Int64)) % (36 : Int64)))) 2 (own_dig ((vv / (36 : Int64)) % (36 : Int64)))) := ⟨_, rfl⟩
      have Agg : own_A Z T244.heap b240 k240 .char 8 (fun i => .int (gg i)) := by rw [hgg]; exact P244_0
      have eg0 : own_ws 1 2 V 0 = gg 0 := by rw [hgg]; exact rfl.symm
      have eg1 : own_ws 1 2 V 1 = gg 1 := by rw [hgg]; exact rfl.symm
      have eg2 : own_ws 1 2 V 2 = gg 2 := by rw [hgg]; exact (show own_dig ((vv / (36 : Int64)) % (36 : Int64)) = own_ws 1 2 V 2 from (own_dd hv (by decide : (36 : Int64).toInt = ((36 : Nat) : Int)) (by decide)).trans (by unfold own_ws own_tb; rw [if_neg (by decide), if_neg (by decide)])).symm
      have eg3 : own_ws 1 2 V 3 = gg 3 := by rw [hgg]; exact (show own_dig ((vv / (1 : Int64)) % (36 : Int64)) = own_ws 1 2 V 3 from (own_dd hv (by decide : (1 : Int64).toInt = ((1 : Nat) : Int)) (by decide)).trans (by unfold own_ws own_tb; rw [if_neg (by decide), if_neg (by decide)])).symm
      refine own_st (fun t_ k_ => XS.aloadN X252.here hx rfl (hb hby at_222) rfl rfl (XS.aload X252.here hx rfl (hb hby at_223) rfl rfl (XS.iload X252.here hx rfl (hb hby at_225) rfl (XS.iconst X252.here hx rfl (hb hby at_227) k_)))) ?_
      show own_at p e below _ T252 m 228 #[oI p0, oR r_215, oJ vv, oS, oI (1 : Int32), oI (2 : Int32), oR b240, oI (2 : Int32), oI (4 : Int32)] [(.int (0 : Int32)), (.int (4 : Int32)), (.ref b240), (.ref r_215)]
      obtain ⟨_, _, ⟨T253, L253, k253, n253⟩, -, X253, ⟨Lc253, hQ253, l253, y253, z253⟩, st253⟩ := Jvm.LawKit.callS X252 hx (y := own_n32) hown (mvT hZ (own_w hw 160 rfl)) (mvT hZ (own_w hw 161 rfl)) (mvT hZ (own_w hw 148 rfl)) (mvT hZ (own_w hw 162 rfl)) (by decide) (backOf (W := 0) (own_rm29y l Z a0 hw [] r_215 b240 (4 : Int32) (0 : Int32) t_215 kt_215 4 (own_ws 1 2 V) k240 gg 0 G1 G3 T244.heap n0 (Nat.le_trans Z0 K244.1) (((((P215_1.ext E240).wr W241).wr W242).keep Kq243).keep Kq244) f249 f250 f251 hcd rfl ((((((q0.keep Kq215 all0).ext E240).wr W241 ge240).wr W242 ge240).keep Kq243 (allS ge240 all0)).keep Kq244 (allS ge240 all0)) q1 hG1 q3 rG3 Agg (by decide) (by decide) (by decide) ⟨(own_ws7 _ _ _ _).1, Int.le_trans (own_ws7 _ _ _ _).2 (by decide)⟩ eg0) hZ (own_w hw 162 rfl) (own_w hw 148 rfl) (by decide) (by decide)) (g := (mkF m 228 #[oI p0, oR r_215, oJ vv, oS, oI (1 : Int32), oI (2 : Int32), oR b240, oI (2 : Int32), oI (4 : Int32)] [(.int (0 : Int32)), (.int (4 : Int32)), (.ref b240), (.ref r_215)])) rfl (by rw [hml]; rfl) (argsL := [(.ref r_215), (.ref b240), (.int (4 : Int32)), (.int (0 : Int32))]) (rest := []) (lenOf own_pd26 rfl) rfl (own_hW rfl) (hb hby at_228) (fun _ _ => ⟨rfl, eq252, (by decide : 10 + 0 ≤ _), (by decide : 143 + 0 ≤ _)⟩)
      dsimp only [Pt.U, Pt.locs, Pt.cells, Pt.slots] at X253 l253 y253 z253 st253 hQ253
      subst y253 z253
      obtain ⟨rfl, N253q, eq253⟩ := hQ253
      have N253 : Fr n0 L253 := by rw [l253]; exact Fr.app N252 N253q
      refine own_st (st253) ?_
      refine own_st (fun t_ k_ => XS.ifNo X253.here hx rfl (hb hby at_231) rfl ((if0 _ _).trans (feq (by decide : ¬ ((1 : Int32) = (0 : Int32)))).1) (XS.aloadN X253.here hx rfl (hb hby at_234) rfl rfl (XS.aload X253.here hx rfl (hb hby at_235) rfl rfl (XS.iload X253.here hx rfl (hb hby at_237) rfl (XS.iconst X253.here hx rfl (hb hby at_239) k_))))) ?_
      show own_at p e below _ T253 m 240 #[oI p0, oR r_215, oJ vv, oS, oI (1 : Int32), oI (2 : Int32), oR b240, oI (2 : Int32), oI (4 : Int32)] [(.int (1 : Int32)), (.int (4 : Int32)), (.ref b240), (.ref r_215)]
      obtain ⟨_, _, ⟨T254, L254, k254, n254⟩, -, X254, ⟨Lc254, hQ254, l254, y254, z254⟩, st254⟩ := Jvm.LawKit.callS X253 hx (y := own_n32) hown (mvT hZ (own_w hw 160 rfl)) (mvT hZ (own_w hw 161 rfl)) (mvT hZ (own_w hw 148 rfl)) (mvT hZ (own_w hw 162 rfl)) (by decide) (backOf (W := 0) (own_rm29y l Z a0 hw [] r_215 b240 (4 : Int32) (1 : Int32) t_215 kt_215 4 (own_ws 1 2 V) k240 gg 1 G1 G3 T244.heap n0 (Nat.le_trans Z0 K244.1) (((((P215_1.ext E240).wr W241).wr W242).keep Kq243).keep Kq244) f249 f250 f251 hcd rfl ((((((q0.keep Kq215 all0).ext E240).wr W241 ge240).wr W242 ge240).keep Kq243 (allS ge240 all0)).keep Kq244 (allS ge240 all0)) q1 hG1 q3 rG3 Agg (by decide) (by decide) (by decide) ⟨(own_ws7 _ _ _ _).1, Int.le_trans (own_ws7 _ _ _ _).2 (by decide)⟩ eg1) hZ (own_w hw 162 rfl) (own_w hw 148 rfl) (by decide) (by decide)) (g := (mkF m 240 #[oI p0, oR r_215, oJ vv, oS, oI (1 : Int32), oI (2 : Int32), oR b240, oI (2 : Int32), oI (4 : Int32)] [(.int (1 : Int32)), (.int (4 : Int32)), (.ref b240), (.ref r_215)])) rfl (by rw [hml]; rfl) (argsL := [(.ref r_215), (.ref b240), (.int (4 : Int32)), (.int (1 : Int32))]) (rest := []) (lenOf own_pd26 rfl) rfl (own_hW rfl) (hb hby at_240) (fun _ _ => ⟨rfl, eq253, (by decide : 10 + 0 ≤ _), (by decide : 143 + 0 ≤ _)⟩)
      dsimp only [Pt.U, Pt.locs, Pt.cells, Pt.slots] at X254 l254 y254 z254 st254 hQ254
      subst y254 z254
      obtain ⟨rfl, N254q, eq254⟩ := hQ254
      have N254 : Fr n0 L254 := by rw [l254]; exact Fr.app N253 N254q
      refine own_st (st254) ?_
      refine own_st (fun t_ k_ => XS.ifNo X254.here hx rfl (hb hby at_243) rfl ((if0 _ _).trans (feq (by decide : ¬ ((1 : Int32) = (0 : Int32)))).1) (XS.aloadN X254.here hx rfl (hb hby at_246) rfl rfl (XS.aload X254.here hx rfl (hb hby at_247) rfl rfl (XS.iload X254.here hx rfl (hb hby at_249) rfl (XS.iconst X254.here hx rfl (hb hby at_251) k_))))) ?_
      show own_at p e below _ T254 m 252 #[oI p0, oR r_215, oJ vv, oS, oI (1 : Int32), oI (2 : Int32), oR b240, oI (2 : Int32), oI (4 : Int32)] [(.int (2 : Int32)), (.int (4 : Int32)), (.ref b240), (.ref r_215)]
      obtain ⟨_, _, ⟨T255, L255, k255, n255⟩, -, X255, ⟨Lc255, hQ255, l255, y255, z255⟩, st255⟩ := Jvm.LawKit.callS X254 hx (y := own_n32) hown (mvT hZ (own_w hw 160 rfl)) (mvT hZ (own_w hw 161 rfl)) (mvT hZ (own_w hw 148 rfl)) (mvT hZ (own_w hw 162 rfl)) (by decide) (backOf (W := 0) (own_rm29y l Z a0 hw [] r_215 b240 (4 : Int32) (2 : Int32) t_215 kt_215 4 (own_ws 1 2 V) k240 gg 2 G1 G3 T244.heap n0 (Nat.le_trans Z0 K244.1) (((((P215_1.ext E240).wr W241).wr W242).keep Kq243).keep Kq244) f249 f250 f251 hcd rfl ((((((q0.keep Kq215 all0).ext E240).wr W241 ge240).wr W242 ge240).keep Kq243 (allS ge240 all0)).keep Kq244 (allS ge240 all0)) q1 hG1 q3 rG3 Agg (by decide) (by decide) (by decide) ⟨(own_ws7 _ _ _ _).1, Int.le_trans (own_ws7 _ _ _ _).2 (by decide)⟩ eg2) hZ (own_w hw 162 rfl) (own_w hw 148 rfl) (by decide) (by decide)) (g := (mkF m 252 #[oI p0, oR r_215, oJ vv, oS, oI (1 : Int32), oI (2 : Int32), oR b240, oI (2 : Int32), oI (4 : Int32)] [(.int (2 : Int32)), (.int (4 : Int32)), (.ref b240), (.ref r_215)])) rfl (by rw [hml]; rfl) (argsL := [(.ref r_215), (.ref b240), (.int (4 : Int32)), (.int (2 : Int32))]) (rest := []) (lenOf own_pd26 rfl) rfl (own_hW rfl) (hb hby at_252) (fun _ _ => ⟨rfl, eq254, (by decide : 10 + 0 ≤ _), (by decide : 143 + 0 ≤ _)⟩)
      dsimp only [Pt.U, Pt.locs, Pt.cells, Pt.slots] at X255 l255 y255 z255 st255 hQ255
      subst y255 z255
      obtain ⟨rfl, N255q, eq255⟩ := hQ255
      have N255 : Fr n0 L255 := by rw [l255]; exact Fr.app N254 N255q
      refine own_st (st255) ?_
      refine own_st (fun t_ k_ => XS.ifNo X255.here hx rfl (hb hby at_255) rfl ((if0 _ _).trans (feq (by decide : ¬ ((1 : Int32) = (0 : Int32)))).1) (XS.aloadN X255.here hx rfl (hb hby at_258) rfl rfl (XS.aload X255.here hx rfl (hb hby at_259) rfl rfl (XS.iload X255.here hx rfl (hb hby at_261) rfl (XS.iconst X255.here hx rfl (hb hby at_263) k_))))) ?_
      show own_at p e below _ T255 m 264 #[oI p0, oR r_215, oJ vv, oS, oI (1 : Int32), oI (2 : Int32), oR b240, oI (2 : Int32), oI (4 : Int32)] [(.int (3 : Int32)), (.int (4 : Int32)), (.ref b240), (.ref r_215)]
      obtain ⟨_, _, ⟨T256, L256, k256, n256⟩, -, X256, ⟨Lc256, hQ256, l256, y256, z256⟩, st256⟩ := Jvm.LawKit.callS X255 hx (y := own_n32) hown (mvT hZ (own_w hw 160 rfl)) (mvT hZ (own_w hw 161 rfl)) (mvT hZ (own_w hw 148 rfl)) (mvT hZ (own_w hw 162 rfl)) (by decide) (backOf (W := 0) (own_rm29y l Z a0 hw [] r_215 b240 (4 : Int32) (3 : Int32) t_215 kt_215 4 (own_ws 1 2 V) k240 gg 3 G1 G3 T244.heap n0 (Nat.le_trans Z0 K244.1) (((((P215_1.ext E240).wr W241).wr W242).keep Kq243).keep Kq244) f249 f250 f251 hcd rfl ((((((q0.keep Kq215 all0).ext E240).wr W241 ge240).wr W242 ge240).keep Kq243 (allS ge240 all0)).keep Kq244 (allS ge240 all0)) q1 hG1 q3 rG3 Agg (by decide) (by decide) (by decide) ⟨(own_ws7 _ _ _ _).1, Int.le_trans (own_ws7 _ _ _ _).2 (by decide)⟩ eg3) hZ (own_w hw 162 rfl) (own_w hw 148 rfl) (by decide) (by decide)) (g := (mkF m 264 #[oI p0, oR r_215, oJ vv, oS, oI (1 : Int32), oI (2 : Int32), oR b240, oI (2 : Int32), oI (4 : Int32)] [(.int (3 : Int32)), (.int (4 : Int32)), (.ref b240), (.ref r_215)])) rfl (by rw [hml]; rfl) (argsL := [(.ref r_215), (.ref b240), (.int (4 : Int32)), (.int (3 : Int32))]) (rest := []) (lenOf own_pd26 rfl) rfl (own_hW rfl) (hb hby at_264) (fun _ _ => ⟨rfl, eq255, (by decide : 10 + 0 ≤ _), (by decide : 143 + 0 ≤ _)⟩)
      dsimp only [Pt.U, Pt.locs, Pt.cells, Pt.slots] at X256 l256 y256 z256 st256 hQ256
      subst y256 z256
      obtain ⟨rfl, N256q, eq256⟩ := hQ256
      have N256 : Fr n0 L256 := by rw [l256]; exact Fr.app N255 N256q
      refine own_st (st256) ?_
      refine own_st (fun t_ k_ => XS.ifNo X256.here hx rfl (hb hby at_267) rfl ((if0 _ _).trans (feq (by decide : ¬ ((1 : Int32) = (0 : Int32)))).1) (XS.aloadN X256.here hx rfl (hb hby at_270) rfl rfl (XS.aload X256.here hx rfl (hb hby at_271) rfl rfl (XS.iload X256.here hx rfl (hb hby at_273) rfl (XS.iconst X256.here hx rfl (hb hby at_275) k_))))) ?_
      show own_at p e below _ T256 m 276 #[oI p0, oR r_215, oJ vv, oS, oI (1 : Int32), oI (2 : Int32), oR b240, oI (2 : Int32), oI (4 : Int32)] [(.int (4 : Int32)), (.int (4 : Int32)), (.ref b240), (.ref r_215)]
      obtain ⟨_, _, ⟨T257, L257, k257, n257⟩, -, X257, ⟨Lc257, hQ257, l257, y257, z257⟩, st257⟩ := Jvm.LawKit.callS X256 hx (y := own_n32) hown (mvT hZ (own_w hw 160 rfl)) (mvT hZ (own_w hw 161 rfl)) (mvT hZ (own_w hw 148 rfl)) (mvT hZ (own_w hw 162 rfl)) (by decide) (backOf (W := 0) (own_rm29n l Z a0 hw [] r_215 b240 (4 : Int32) (4 : Int32) T244.heap n0 (Nat.le_trans Z0 K244.1) (by decide)) hZ (own_w hw 162 rfl) (own_w hw 148 rfl) (by decide) (by decide)) (g := (mkF m 276 #[oI p0, oR r_215, oJ vv, oS, oI (1 : Int32), oI (2 : Int32), oR b240, oI (2 : Int32), oI (4 : Int32)] [(.int (4 : Int32)), (.int (4 : Int32)), (.ref b240), (.ref r_215)])) rfl (by rw [hml]; rfl) (argsL := [(.ref r_215), (.ref b240), (.int (4 : Int32)), (.int (4 : Int32))]) (rest := []) (lenOf own_pd26 rfl) rfl (own_hW rfl) (hb hby at_276) (fun _ _ => ⟨rfl, eq256, (by decide : 10 + 0 ≤ _), (by decide : 143 + 0 ≤ _)⟩)
      dsimp only [Pt.U, Pt.locs, Pt.cells, Pt.slots] at X257 l257 y257 z257 st257 hQ257
      subst y257 z257
      obtain ⟨rfl, N257q, eq257⟩ := hQ257
      have N257 : Fr n0 L257 := by rw [l257]; exact Fr.app N256 N257q
      refine own_st (st257) ?_
      refine own_st (fun t_ k_ => XS.ifNo X257.here hx rfl (hb hby at_279) rfl ((if0 _ _).trans (feq (by decide : ¬ ((1 : Int32) = (0 : Int32)))).1) (XS.aloadN X257.here hx rfl (hb hby at_282) rfl rfl (XS.aload X257.here hx rfl (hb hby at_283) rfl rfl (XS.iload X257.here hx rfl (hb hby at_285) rfl (XS.iconst X257.here hx rfl (hb hby at_287) k_))))) ?_
      show own_at p e below _ T257 m 288 #[oI p0, oR r_215, oJ vv, oS, oI (1 : Int32), oI (2 : Int32), oR b240, oI (2 : Int32), oI (4 : Int32)] [(.int (5 : Int32)), (.int (4 : Int32)), (.ref b240), (.ref r_215)]
      obtain ⟨_, _, ⟨T258, L258, k258, n258⟩, -, X258, ⟨Lc258, hQ258, l258, y258, z258⟩, st258⟩ := Jvm.LawKit.callS X257 hx (y := own_n32) hown (mvT hZ (own_w hw 160 rfl)) (mvT hZ (own_w hw 161 rfl)) (mvT hZ (own_w hw 148 rfl)) (mvT hZ (own_w hw 162 rfl)) (by decide) (backOf (W := 0) (own_rm29n l Z a0 hw [] r_215 b240 (4 : Int32) (5 : Int32) T244.heap n0 (Nat.le_trans Z0 K244.1) (by decide)) hZ (own_w hw 162 rfl) (own_w hw 148 rfl) (by decide) (by decide)) (g := (mkF m 288 #[oI p0, oR r_215, oJ vv, oS, oI (1 : Int32), oI (2 : Int32), oR b240, oI (2 : Int32), oI (4 : Int32)] [(.int (5 : Int32)), (.int (4 : Int32)), (.ref b240), (.ref r_215)])) rfl (by rw [hml]; rfl) (argsL := [(.ref r_215), (.ref b240), (.int (4 : Int32)), (.int (5 : Int32))]) (rest := []) (lenOf own_pd26 rfl) rfl (own_hW rfl) (hb hby at_288) (fun _ _ => ⟨rfl, eq257, (by decide : 10 + 0 ≤ _), (by decide : 143 + 0 ≤ _)⟩)
      dsimp only [Pt.U, Pt.locs, Pt.cells, Pt.slots] at X258 l258 y258 z258 st258 hQ258
      subst y258 z258
      obtain ⟨rfl, N258q, eq258⟩ := hQ258
      have N258 : Fr n0 L258 := by rw [l258]; exact Fr.app N257 N258q
      refine own_st (st258) ?_
      refine own_st (fun t_ k_ => XS.ifNo X258.here hx rfl (hb hby at_291) rfl ((if0 _ _).trans (feq (by decide : ¬ ((1 : Int32) = (0 : Int32)))).1) (XS.aloadN X258.here hx rfl (hb hby at_294) rfl rfl (XS.aload X258.here hx rfl (hb hby at_295) rfl rfl (XS.iload X258.here hx rfl (hb hby at_297) rfl (XS.bipush X258.here hx rfl (hb hby at_299) k_))))) ?_
      show own_at p e below _ T258 m 301 #[oI p0, oR r_215, oJ vv, oS, oI (1 : Int32), oI (2 : Int32), oR b240, oI (2 : Int32), oI (4 : Int32)] [(.int (6 : Int32)), (.int (4 : Int32)), (.ref b240), (.ref r_215)]
      obtain ⟨_, _, ⟨T259, L259, k259, n259⟩, -, X259, ⟨Lc259, hQ259, l259, y259, z259⟩, st259⟩ := Jvm.LawKit.callS X258 hx (y := own_n32) hown (mvT hZ (own_w hw 160 rfl)) (mvT hZ (own_w hw 161 rfl)) (mvT hZ (own_w hw 148 rfl)) (mvT hZ (own_w hw 162 rfl)) (by decide) (backOf (W := 0) (own_rm29n l Z a0 hw [] r_215 b240 (4 : Int32) (6 : Int32) T244.heap n0 (Nat.le_trans Z0 K244.1) (by decide)) hZ (own_w hw 162 rfl) (own_w hw 148 rfl) (by decide) (by decide)) (g := (mkF m 301 #[oI p0, oR r_215, oJ vv, oS, oI (1 : Int32), oI (2 : Int32), oR b240, oI (2 : Int32), oI (4 : Int32)] [(.int (6 : Int32)), (.int (4 : Int32)), (.ref b240), (.ref r_215)])) rfl (by rw [hml]; rfl) (argsL := [(.ref r_215), (.ref b240), (.int (4 : Int32)), (.int (6 : Int32))]) (rest := []) (lenOf own_pd26 rfl) rfl (own_hW rfl) (hb hby at_301) (fun _ _ => ⟨rfl, eq258, (by decide : 10 + 0 ≤ _), (by decide : 143 + 0 ≤ _)⟩)
      dsimp only [Pt.U, Pt.locs, Pt.cells, Pt.slots] at X259 l259 y259 z259 st259 hQ259
      subst y259 z259
      obtain ⟨rfl, N259q, eq259⟩ := hQ259
      have N259 : Fr n0 L259 := by rw [l259]; exact Fr.app N258 N259q
      refine own_st (st259) ?_
      refine own_st (fun t_ k_ => XS.ifNo X259.here hx rfl (hb hby at_304) rfl ((if0 _ _).trans (feq (by decide : ¬ ((1 : Int32) = (0 : Int32)))).1) (XS.aloadN X259.here hx rfl (hb hby at_307) rfl rfl (XS.aload X259.here hx rfl (hb hby at_308) rfl rfl (XS.iload X259.here hx rfl (hb hby at_310) rfl (XS.bipush X259.here hx rfl (hb hby at_312) k_))))) ?_
      show own_at p e below _ T259 m 314 #[oI p0, oR r_215, oJ vv, oS, oI (1 : Int32), oI (2 : Int32), oR b240, oI (2 : Int32), oI (4 : Int32)] [(.int (7 : Int32)), (.int (4 : Int32)), (.ref b240), (.ref r_215)]
      obtain ⟨_, _, ⟨T260, L260, k260, n260⟩, -, X260, ⟨Lc260, hQ260, l260, y260, z260⟩, st260⟩ := Jvm.LawKit.callS X259 hx (y := own_n32) hown (mvT hZ (own_w hw 160 rfl)) (mvT hZ (own_w hw 161 rfl)) (mvT hZ (own_w hw 148 rfl)) (mvT hZ (own_w hw 162 rfl)) (by decide) (backOf (W := 0) (own_rm29n l Z a0 hw [] r_215 b240 (4 : Int32) (7 : Int32) T244.heap n0 (Nat.le_trans Z0 K244.1) (by decide)) hZ (own_w hw 162 rfl) (own_w hw 148 rfl) (by decide) (by decide)) (g := (mkF m 314 #[oI p0, oR r_215, oJ vv, oS, oI (1 : Int32), oI (2 : Int32), oR b240, oI (2 : Int32), oI (4 : Int32)] [(.int (7 : Int32)), (.int (4 : Int32)), (.ref b240), (.ref r_215)])) rfl (by rw [hml]; rfl) (argsL := [(.ref r_215), (.ref b240), (.int (4 : Int32)), (.int (7 : Int32))]) (rest := []) (lenOf own_pd26 rfl) rfl (own_hW rfl) (hb hby at_314) (fun _ _ => ⟨rfl, eq259, (by decide : 10 + 0 ≤ _), (by decide : 143 + 0 ≤ _)⟩)
      dsimp only [Pt.U, Pt.locs, Pt.cells, Pt.slots] at X260 l260 y260 z260 st260 hQ260
      subst y260 z260
      obtain ⟨rfl, N260q, eq260⟩ := hQ260
      have N260 : Fr n0 L260 := by rw [l260]; exact Fr.app N259 N260q
      refine own_st (st260) ?_
      refine own_st (fun t_ k_ => XS.ifNo X260.here hx rfl (hb hby at_317) rfl ((if0 _ _).trans (feq (by decide : ¬ ((1 : Int32) = (0 : Int32)))).1) (XS.iconst X260.here hx rfl (hb hby at_320) (XS.goto X260.here hx rfl (pc0 := 321) (pc' := 325) rfl (hb hby at_321) (by decide) (by decide) k_))) ?_
      show own_at p e below _ T260 m 325 #[oI p0, oR r_215, oJ vv, oS, oI (1 : Int32), oI (2 : Int32), oR b240, oI (2 : Int32), oI (4 : Int32)] [(.int (1 : Int32))]
      exact own_retW (w := (.int (1 : Int32))) X260 hx hnl hZ (own_hEL hw) S215 (by rw [eq260]; exact kk244) (by rw [eq260]; exact C244) Bd.returns rfl (Or.inl ⟨rfl, by decide, _, rfl⟩) (hb hby at_325) ⟨rfl, N260, (by rw [eq260]; exact K244)⟩ (by decide) (by decide)
    have z2 : (1296 : Int64).toInt = 1296 := by decide
    have hb2 := mt (lw_lt _ _).mpr c46_239
    rw [Int64.lt_iff_toInt_lt, hv, z2] at hb2
    refine own_st (fun t_ k_ => XS.ifYes X215.here hx rfl (pc0 := 46) (pc' := 53) rfl (hb hby at_46) rfl ((if0 _ _).trans (flt c46_239).2.1) (by decide) (by decide) (XS.lloadN X215.here hx rfl (hb hby at_53) rfl k_)) ?_
    show own_at p e below _ T215 m 54 #[oI p0, oR r_215, oJ vv, oS, oI (1 : Int32), oU, oU, oU, oU] [(.long vv)]
    refine own_st (X215.ldc2Long hx hown (mvT hZ (own_w hw 156 rfl)) (g := (mkF m 54 #[oI p0, oR r_215, oJ vv, oS, oI (1 : Int32), oU, oU, oU, oU] [(.long vv)])) rfl (hb hby at_54)) ?_
    refine own_st (fun t_ k_ => XS.lcmp X215.here hx rfl (hb hby at_57) rfl k_) ?_
    show own_at p e below _ T215 m 58 #[oI p0, oR r_215, oJ vv, oS, oI (1 : Int32), oU, oU, oU, oU] [(.int (lcmpW vv (46656 : Int64)))]
    by_cases c58_261 : (lcmpW vv (46656 : Int64)) < (0 : Int32)
    · skip
      have z3 : (46656 : Int64).toInt = 46656 := by decide
      have hb3 := (lw_lt _ _).mp c58_261
      rw [Int64.lt_iff_toInt_lt, hv, z3] at hb3
      refine own_st (fun t_ k_ => XS.ifNo X215.here hx rfl (hb hby at_58) rfl ((if0 _ _).trans (tlt c58_261).2.1) (XS.iconst X215.here hx rfl (hb hby at_61) (XS.goto X215.here hx rfl (pc0 := 62) (pc' := 91) rfl (hb hby at_62) (by decide) (by decide) (XS.istore X215.here hx rfl (hb hby at_91) rfl (l' := #[oI p0, oR r_215, oJ vv, oS, oI (1 : Int32), oI (3 : Int32), oU, oU, oU]) rfl k_)))) ?_
      show own_at p e below _ T215 m 93 #[oI p0, oR r_215, oJ vv, oS, oI (1 : Int32), oI (3 : Int32), oU, oU, oU] []
      have en : n_215 = 3 := own_nn6 hdn.1 hdn.2.2.1 hdn.2.2.2 (by decide) (by have q_ : 36 ^ 3 = 46656 := (by decide); omega) (by first | exact Or.inl rfl | exact Or.inr (by have q_ : 36 ^ (3 - 1) = 1296 := (by decide); omega))
      have As : own_A Z T215.heap t_215 kt_215 .byte (own_bl (0 : Int32) 5) (fun i => .int ((own_by (0 : Int32) (own_ws 1 3 V)) i)) := by have z_ := P215_4; rw [en, hsg, ← hV] at z_; exact z_
      have hcd : ((0 : Int32) = 0 ∧ ∀ q : Nat, q < 5 → ¬ (255 : Int32) < (own_ws 1 3 V) q) ∨ (0 : Int32) = 1 := Or.inl ⟨rfl, fun q _ => own_lat7 (own_ws7 _ _ _ q)⟩
      refine own_st (fun t_ k_ => XS.bipush X215.here hx rfl (hb hby at_93) k_) ?_
      show own_at p e below _ T215 m 95 #[oI p0, oR r_215, oJ vv, oS, oI (1 : Int32), oI (3 : Int32), oU, oU, oU] [(.int (8 : Int32))]
      obtain ⟨T262, h262, k262, X262, e262, E262, A262, st262⟩ := newP X215 hx hZ (own_w hw 145 rfl) rfl (g := (mkF m 95 #[oI p0, oR r_215, oJ vv, oS, oI (1 : Int32), oI (3 : Int32), oU, oU, oU] [(.int (8 : Int32))])) rfl (hb hby at_95) rfl (by decide) (cap := 8) (by decide) (by decide) (by decide) (by decide)
      obtain ⟨b262, g262⟩ : ∃ z, z = T215.heap.size := ⟨_, rfl⟩
      rw [← g262] at A262 st262
      have fr262 : h0.size ≤ b262 := Nat.le_trans K215.1 (Nat.le_of_eq g262.symm)
      have ge262 : n0 ≤ b262 := Nat.le_trans Z0 fr262
      have K262 : Keep h0 h262 [] := K215.ext E262
      have c262 : CHr Z own_EL _ T215.heap _ h262 := CHr.ext E262 C215.1
      have C262 := C215.trans c262
      have kk262 := Nat.le_trans kk215 c262.2.1
      have Sf262_b262 : Safe Z own_EL _ h262 b262 := Safe.ext E262 C215.1 (Safe.new (Nat.le_of_eq g262.symm))
      have Ar262 : own_A Z h262 b262 k262 .char 8 (fun i => .int ((fun _ => (0 : Int32)) i)) := own_A.new A262 rfl (by decide)
      refine own_st (st262) ?_
      refine own_st (fun t_ k_ => XS.astore X262.here hx rfl (hb hby at_97) rfl rfl (l' := #[oI p0, oR r_215, oJ vv, oS, oI (1 : Int32), oI (3 : Int32), oR b262, oU, oU]) rfl (XS.aload X262.here hx rfl (hb hby at_99) rfl rfl (XS.iconst X262.here hx rfl (hb hby at_101) (XS.bipush X262.here hx rfl (hb hby at_102) k_)))) ?_
      show own_at p e below _ T262 m 104 #[oI p0, oR r_215, oJ vv, oS, oI (1 : Int32), oI (3 : Int32), oR b262, oU, oU] [(.int (119 : Int32)), (.int (0 : Int32)), (.ref b262)]
      obtain ⟨T263, h263, X263, e263, W263, Aw263, st263⟩ := own_castore X262 hx hZ e262 Ar262 (i := 0) (by decide) (by decide) rfl (v' := (119 : Int32)) (g := (mkF m 104 #[oI p0, oR r_215, oJ vv, oS, oI (1 : Int32), oI (3 : Int32), oR b262, oU, oU] [(.int (119 : Int32)), (.int (0 : Int32)), (.ref b262)])) rfl rfl (hb hby at_104)
      have N263 := Fr.snoc X263 N215 ge262
      have K263 : Keep h0 h263 [] := K262.wr W263 (Or.inr fr262)
      have c263 : CHr Z own_EL _ h262 _ h263 := CHr.wr W263 (own_safeA hZ.alike Ar262 (by decide)) C262.1
      have C263 := C262.trans c263
      have kk263 := Nat.le_trans kk262 c263.2.1
      refine own_st (st263) ?_
      refine own_st (fun t_ k_ => XS.iconst X263.here hx rfl (hb hby at_105) (XS.istore X263.here hx rfl (hb hby at_106) rfl (l' := #[oI p0, oR r_215, oJ vv, oS, oI (1 : Int32), oI (3 : Int32), oR b262, oI (1 : Int32), oU]) rfl (XS.iload X263.here hx rfl (hb hby at_108) rfl (XS.ifNo X263.here hx rfl (hb hby at_110) rfl ((if0 _ _).trans (feq (by decide : ¬ ((1 : Int32) = (0 : Int32)))).1) (XS.aload X263.here hx rfl (hb hby at_113) rfl rfl (XS.iconst X263.here hx rfl (hb hby at_115) k_)))))) ?_
      show own_at p e below _ T263 m 116 #[oI p0, oR r_215, oJ vv, oS, oI (1 : Int32), oI (3 : Int32), oR b262, oI (1 : Int32), oU] [(.int (1 : Int32)), (.ref b262)]
      refine own_st (fun t_ k_ => XS.bipush X263.here hx rfl (hb hby at_116) k_) ?_
      show own_at p e below _ T263 m 118 #[oI p0, oR r_215, oJ vv, oS, oI (1 : Int32), oI (3 : Int32), oR b262, oI (1 : Int32), oU] [(.int (45 : Int32)), (.int (1 : Int32)), (.ref b262)]
      obtain ⟨T264, h264, X264, e264, W264, Aw264, st264⟩ := own_castore X263 hx hZ e263 Aw263 (i := 1) (by decide) (by decide) rfl (v' := (45 : Int32)) (g := (mkF m 118 #[oI p0, oR r_215, oJ vv, oS, oI (1 : Int32), oI (3 : Int32), oR b262, oI (1 : Int32), oU] [(.int (45 : Int32)), (.int (1 : Int32)), (.ref b262)])) rfl rfl (hb hby at_118)
      have N264 := Fr.snoc X264 N263 ge262
      have K264 : Keep h0 h264 [] := K263.wr W264 (Or.inr fr262)
      have c264 : CHr Z own_EL _ h263 _ h264 := CHr.wr W264 (own_safeA hZ.alike Aw263 (by decide)) C263.1
      have C264 := C263.trans c264
      have kk264 := Nat.le_trans kk263 c264.2.1
      refine own_st (st264) ?_
      refine own_st (fun t_ k_ => XS.iconst X264.here hx rfl (hb hby at_119) (XS.istore X264.here hx rfl (hb hby at_120) rfl (l' := #[oI p0, oR r_215, oJ vv, oS, oI (1 : Int32), oI (3 : Int32), oR b262, oI (2 : Int32), oU]) rfl (XS.aload X264.here hx rfl (hb hby at_122) rfl rfl (XS.iload X264.here hx rfl (hb hby at_124) rfl (XS.iload X264.here hx rfl (hb hby at_126) rfl (XS.iconst X264.here hx rfl (hb hby at_128) k_)))))) ?_
      show own_at p e below _ T264 m 129 #[oI p0, oR r_215, oJ vv, oS, oI (1 : Int32), oI (3 : Int32), oR b262, oI (2 : Int32), oU] [(.int (0 : Int32)), (.int (3 : Int32)), (.int (2 : Int32)), (.ref b262)]
      refine own_st (fun t_ k_ => XS.lloadN X264.here hx rfl (hb hby at_129) rfl (XS.lconst X264.here hx rfl (hb hby at_130) k_)) ?_
      show own_at p e below _ T264 m 131 #[oI p0, oR r_215, oJ vv, oS, oI (1 : Int32), oI (3 : Int32), oR b262, oI (2 : Int32), oU] [(.long (1 : Int64)), (.long vv), (.int (0 : Int32)), (.int (3 : Int32)), (.int (2 : Int32)), (.ref b262)]
      obtain ⟨_, _, ⟨T265, L265, k265, n265⟩, -, X265, ⟨Lc265, hQ265, l265, y265, z265⟩, st265⟩ := Jvm.LawKit.callS X264 hx (y := own_n31) hown (mvT hZ (own_w hw 146 rfl)) (mvT hZ (own_w hw 147 rfl)) (mvT hZ (own_w hw 148 rfl)) (mvT hZ (own_w hw 149 rfl)) (by decide) (backOf (W := 0) (own_rm27y l Z a0 hw [] b262 (2 : Int32) (3 : Int32) (0 : Int32) vv (1 : Int64) k262 (own_upd (own_upd (fun _ => (0 : Int32)) 0 (119 : Int32)) 1 (45 : Int32)) 4 h264 n0 (Nat.le_trans Z0 K264.1) Aw264 ge262 (by decide) (by decide) (by decide)) hZ (own_w hw 149 rfl) (own_w hw 148 rfl) (by decide) (by decide)) (g := (mkF m 131 #[oI p0, oR r_215, oJ vv, oS, oI (1 : Int32), oI (3 : Int32), oR b262, oI (2 : Int32), oU] [(.long (1 : Int64)), (.long vv), (.int (0 : Int32)), (.int (3 : Int32)), (.int (2 : Int32)), (.ref b262)])) rfl (by rw [hml]; rfl) (argsL := [(.ref b262), (.int (2 : Int32)), (.int (3 : Int32)), (.int (0 : Int32)), (.long vv), (.long (1 : Int64))]) (rest := []) (lenOf own_pd25 rfl) rfl (own_hW rfl) (hb hby at_131) (fun _ _ => ⟨rfl, e264, (by decide : 10 + 0 ≤ _), (by decide : 143 + 0 ≤ _)⟩)
      dsimp only [Pt.U, Pt.locs, Pt.cells, Pt.slots] at X265 l265 y265 z265 st265 hQ265
      subst y265 z265
      obtain ⟨rfl, N265q, Kq265, P265_0⟩ := hQ265
      have N265 : Fr n0 L265 := by rw [l265]; exact Fr.app N264 N265q
      have K265 : Keep h0 T265.heap [] := K264.trans Kq265 (allS (P := fun x => x ∈ [] ∨ h0.size ≤ x) (Or.inr fr262) all0)
      have c265 : CHr Z own_EL _ h264 _ T265.heap := CHr.keep Kq265 (own_slS (own_safeA hZ.alike Aw264 (by decide)) own_sl0) C264.1
      have C265 := C264.trans c265
      have kk265 := Nat.le_trans kk264 c265.2.1
      refine own_st (st265) ?_
      refine own_st (fun t_ k_ => XS.aload X265.here hx rfl (hb hby at_134) rfl rfl (XS.iload X265.here hx rfl (hb hby at_136) rfl (XS.iload X265.here hx rfl (hb hby at_138) rfl (XS.iconst X265.here hx rfl (hb hby at_140) (XS.lloadN X265.here hx rfl (hb hby at_141) rfl k_))))) ?_
      show own_at p e below _ T265 m 142 #[oI p0, oR r_215, oJ vv, oS, oI (1 : Int32), oI (3 : Int32), oR b262, oI (2 : Int32), oU] [(.long vv), (.int (1 : Int32)), (.int (3 : Int32)), (.int (2 : Int32)), (.ref b262)]
      refine own_st (X265.ldc2Long hx hown (mvT hZ (own_w hw 144 rfl)) (g := (mkF m 142 #[oI p0, oR r_215, oJ vv, oS, oI (1 : Int32), oI (3 : Int32), oR b262, oI (2 : Int32), oU] [(.long vv), (.int (1 : Int32)), (.int (3 : Int32)), (.int (2 : Int32)), (.ref b262)])) rfl (hb hby at_142)) ?_
      show own_at p e below _ T265 m 145 #[oI p0, oR r_215, oJ vv, oS, oI (1 : Int32), oI (3 : Int32), oR b262, oI (2 : Int32), oU] [(.long (36 : Int64)), (.long vv), (.int (1 : Int32)), (.int (3 : Int32)), (.int (2 : Int32)), (.ref b262)]
      obtain ⟨_, _, ⟨T266, L266, k266, n266⟩, -, X266, ⟨Lc266, hQ266, l266, y266, z266⟩, st266⟩ := Jvm.LawKit.callS X265 hx (y := own_n31) hown (mvT hZ (own_w hw 146 rfl)) (mvT hZ (own_w hw 147 rfl)) (mvT hZ (own_w hw 148 rfl)) (mvT hZ (own_w hw 149 rfl)) (by decide) (backOf (W := 0) (own_rm27y l Z a0 hw [] b262 (2 : Int32) (3 : Int32) (1 : Int32) vv (36 : Int64) k262 (own_upd (own_upd (own_upd (fun _ => (0 : Int32)) 0 (119 : Int32)) 1 (45 : Int32)) 4 (own_dig ((vv / (1 : Int64)) % (36 : Int64)))) 3 T265.heap n0 (Nat.le_trans Z0 K265.1) P265_0 ge262 (by decide) (by decide) (by decide)) hZ (own_w hw 149 rfl) (own_w hw 148 rfl) (by decide) (by decide)) (g := (mkF m 145 #[oI p0, oR r_215, oJ vv, oS, oI (1 : Int32), oI (3 : Int32), oR b262, oI (2 : Int32), oU] [(.long (36 : Int64)), (.long vv), (.int (1 : Int32)), (.int (3 : Int32)), (.int (2 : Int32)), (.ref b262)])) rfl (by rw [hml]; rfl) (argsL := [(.ref b262), (.int (2 : Int32)), (.int (3 : Int32)), (.int (1 : Int32)), (.long vv), (.long (36 : Int64))]) (rest := []) (lenOf own_pd25 rfl) rfl (own_hW rfl) (hb hby at_145) (fun _ _ => ⟨rfl, rfl, (by decide : 10 + 0 ≤ _), (by decide : 143 + 0 ≤ _)⟩)
      dsimp only [Pt.U, Pt.locs, Pt.cells, Pt.slots] at X266 l266 y266 z266 st266 hQ266
      subst y266 z266
      obtain ⟨rfl, N266q, Kq266, P266_0⟩ := hQ266
      have N266 : Fr n0 L266 := by rw [l266]; exact Fr.app N265 N266q
      have K266 : Keep h0 T266.heap [] := K265.trans Kq266 (allS (P := fun x => x ∈ [] ∨ h0.size ≤ x) (Or.inr fr262) all0)
      have c266 : CHr Z own_EL _ T265.heap _ T266.heap := CHr.keep Kq266 (own_slS (own_safeA hZ.alike P265_0 (by decide)) own_sl0) C265.1
      have C266 := C265.trans c266
      have kk266 := Nat.le_trans kk265 c266.2.1
      refine own_st (st266) ?_
      refine own_st (fun t_ k_ => XS.aload X266.here hx rfl (hb hby at_148) rfl rfl (XS.iload X266.here hx rfl (hb hby at_150) rfl (XS.iload X266.here hx rfl (hb hby at_152) rfl (XS.iconst X266.here hx rfl (hb hby at_154) (XS.lloadN X266.here hx rfl (hb hby at_155) rfl k_))))) ?_
      show own_at p e below _ T266 m 156 #[oI p0, oR r_215, oJ vv, oS, oI (1 : Int32), oI (3 : Int32), oR b262, oI (2 : Int32), oU] [(.long vv), (.int (2 : Int32)), (.int (3 : Int32)), (.int (2 : Int32)), (.ref b262)]
      refine own_st (X266.ldc2Long hx hown (mvT hZ (own_w hw 155 rfl)) (g := (mkF m 156 #[oI p0, oR r_215, oJ vv, oS, oI (1 : Int32), oI (3 : Int32), oR b262, oI (2 : Int32), oU] [(.long vv), (.int (2 : Int32)), (.int (3 : Int32)), (.int (2 : Int32)), (.ref b262)])) rfl (hb hby at_156)) ?_
      show own_at p e below _ T266 m 159 #[oI p0, oR r_215, oJ vv, oS, oI (1 : Int32), oI (3 : Int32), oR b262, oI (2 : Int32), oU] [(.long (1296 : Int64)), (.long vv), (.int (2 : Int32)), (.int (3 : Int32)), (.int (2 : Int32)), (.ref b262)]
      obtain ⟨_, _, ⟨T267, L267, k267, n267⟩, -, X267, ⟨Lc267, hQ267, l267, y267, z267⟩, st267⟩ := Jvm.LawKit.callS X266 hx (y := own_n31) hown (mvT hZ (own_w hw 146 rfl)) (mvT hZ (own_w hw 147 rfl)) (mvT hZ (own_w hw 148 rfl)) (mvT hZ (own_w hw 149 rfl)) (by decide) (backOf (W := 0) (own_rm27y l Z a0 hw [] b262 (2 : Int32) (3 : Int32) (2 : Int32) vv (1296 : Int64) k262 (own_upd (own_upd (own_upd (own_upd (fun _ => (0 : Int32)) 0 (119 : Int32)) 1 (45 : Int32)) 4 (own_dig ((vv / (1 : Int64)) % (36 : Int64)))) 3 (own_dig ((vv / (36 : Int64)) % (36 : Int64)))) 2 T266.heap n0 (Nat.le_trans Z0 K266.1) P266_0 ge262 (by decide) (by decide) (by decide)) hZ (own_w hw 149 rfl) (own_w hw 148 rfl) (by decide) (by decide)) (g := (mkF m 159 #[oI p0, oR r_215, oJ vv, oS, oI (1 : Int32), oI (3 : Int32), oR b262, oI (2 : Int32), oU] [(.long (1296 : Int64)), (.long vv), (.int (2 : Int32)), (.int (3 : Int32)), (.int (2 : Int32)), (.ref b262)])) rfl (by rw [hml]; rfl) (argsL := [(.ref b262), (.int (2 : Int32)), (.int (3 : Int32)), (.int (2 : Int32)), (.long vv), (.long (1296 : Int64))]) (rest := []) (lenOf own_pd25 rfl) rfl (own_hW rfl) (hb hby at_159) (fun _ _ => ⟨rfl, rfl, (by decide : 10 + 0 ≤ _), (by decide : 143 + 0 ≤ _)⟩)
      dsimp only [Pt.U, Pt.locs, Pt.cells, Pt.slots] at X267 l267 y267 z267 st267 hQ267
      subst y267 z267
      obtain ⟨rfl, N267q, Kq267, P267_0⟩ := hQ267
      have N267 : Fr n0 L267 := by rw [l267]; exact Fr.app N266 N267q
      have K267 : Keep h0 T267.heap [] := K266.trans Kq267 (allS (P := fun x => x ∈ [] ∨ h0.size ≤ x) (Or.inr fr262) all0)
      have c267 : CHr Z own_EL _ T266.heap _ T267.heap := CHr.keep Kq267 (own_slS (own_safeA hZ.alike P266_0 (by decide)) own_sl0) C266.1
      have C267 := C266.trans c267
      have kk267 := Nat.le_trans kk266 c267.2.1
      refine own_st (st267) ?_
      refine own_st (fun t_ k_ => XS.aload X267.here hx rfl (hb hby at_162) rfl rfl (XS.iload X267.here hx rfl (hb hby at_164) rfl (XS.iload X267.here hx rfl (hb hby at_166) rfl (XS.iconst X267.here hx rfl (hb hby at_168) (XS.lloadN X267.here hx rfl (hb hby at_169) rfl k_))))) ?_
      show own_at p e below _ T267 m 170 #[oI p0, oR r_215, oJ vv, oS, oI (1 : Int32), oI (3 : Int32), oR b262, oI (2 : Int32), oU] [(.long vv), (.int (3 : Int32)), (.int (3 : Int32)), (.int (2 : Int32)), (.ref b262)]
      refine own_st (X267.ldc2Long hx hown (mvT hZ (own_w hw 156 rfl)) (g := (mkF m 170 #[oI p0, oR r_215, oJ vv, oS, oI (1 : Int32), oI (3 : Int32), oR b262, oI (2 : Int32), oU] [(.long vv), (.int (3 : Int32)), (.int (3 : Int32)), (.int (2 : Int32)), (.ref b262)])) rfl (hb hby at_170)) ?_
      show own_at p e below _ T267 m 173 #[oI p0, oR r_215, oJ vv, oS, oI (1 : Int32), oI (3 : Int32), oR b262, oI (2 : Int32), oU] [(.long (46656 : Int64)), (.long vv), (.int (3 : Int32)), (.int (3 : Int32)), (.int (2 : Int32)), (.ref b262)]
      obtain ⟨_, _, ⟨T268, L268, k268, n268⟩, -, X268, ⟨Lc268, hQ268, l268, y268, z268⟩, st268⟩ := Jvm.LawKit.callS X267 hx (y := own_n31) hown (mvT hZ (own_w hw 146 rfl)) (mvT hZ (own_w hw 147 rfl)) (mvT hZ (own_w hw 148 rfl)) (mvT hZ (own_w hw 149 rfl)) (by decide) (backOf (W := 0) (own_rm27n l Z a0 hw [] b262 (2 : Int32) (3 : Int32) (3 : Int32) vv (46656 : Int64) T267.heap n0 (Nat.le_trans Z0 K267.1) (by decide)) hZ (own_w hw 149 rfl) (own_w hw 148 rfl) (by decide) (by decide)) (g := (mkF m 173 #[oI p0, oR r_215, oJ vv, oS, oI (1 : Int32), oI (3 : Int32), oR b262, oI (2 : Int32), oU] [(.long (46656 : Int64)), (.long vv), (.int (3 : Int32)), (.int (3 : Int32)), (.int (2 : Int32)), (.ref b262)])) rfl (by rw [hml]; rfl) (argsL := [(.ref b262), (.int (2 : Int32)), (.int (3 : Int32)), (.int (3 : Int32)), (.long vv), (.long (46656 : Int64))]) (rest := []) (lenOf own_pd25 rfl) rfl (own_hW rfl) (hb hby at_173) (fun _ _ => ⟨rfl, rfl, (by decide : 10 + 0 ≤ _), (by decide : 143 + 0 ≤ _)⟩)
      dsimp only [Pt.U, Pt.locs, Pt.cells, Pt.slots] at X268 l268 y268 z268 st268 hQ268
      subst y268 z268
      obtain ⟨rfl, N268q, eq268⟩ := hQ268
      have N268 : Fr n0 L268 := by rw [l268]; exact Fr.app N267 N268q
      refine own_st (st268) ?_
      refine own_st (fun t_ k_ => XS.aload X268.here hx rfl (hb hby at_176) rfl rfl (XS.iload X268.here hx rfl (hb hby at_178) rfl (XS.iload X268.here hx rfl (hb hby at_180) rfl (XS.iconst X268.here hx rfl (hb hby at_182) (XS.lloadN X268.here hx rfl (hb hby at_183) rfl k_))))) ?_
      show own_at p e below _ T268 m 184 #[oI p0, oR r_215, oJ vv, oS, oI (1 : Int32), oI (3 : Int32), oR b262, oI (2 : Int32), oU] [(.long vv), (.int (4 : Int32)), (.int (3 : Int32)), (.int (2 : Int32)), (.ref b262)]
      refine own_st (X268.ldc2Long hx hown (mvT hZ (own_w hw 157 rfl)) (g := (mkF m 184 #[oI p0, oR r_215, oJ vv, oS, oI (1 : Int32), oI (3 : Int32), oR b262, oI (2 : Int32), oU] [(.long vv), (.int (4 : Int32)), (.int (3 : Int32)), (.int (2 : Int32)), (.ref b262)])) rfl (hb hby at_184)) ?_
      show own_at p e below _ T268 m 187 #[oI p0, oR r_215, oJ vv, oS, oI (1 : Int32), oI (3 : Int32), oR b262, oI (2 : Int32), oU] [(.long (1679616 : Int64)), (.long vv), (.int (4 : Int32)), (.int (3 : Int32)), (.int (2 : Int32)), (.ref b262)]
      obtain ⟨_, _, ⟨T269, L269, k269, n269⟩, -, X269, ⟨Lc269, hQ269, l269, y269, z269⟩, st269⟩ := Jvm.LawKit.callS X268 hx (y := own_n31) hown (mvT hZ (own_w hw 146 rfl)) (mvT hZ (own_w hw 147 rfl)) (mvT hZ (own_w hw 148 rfl)) (mvT hZ (own_w hw 149 rfl)) (by decide) (backOf (W := 0) (own_rm27n l Z a0 hw [] b262 (2 : Int32) (3 : Int32) (4 : Int32) vv (1679616 : Int64) T267.heap n0 (Nat.le_trans Z0 K267.1) (by decide)) hZ (own_w hw 149 rfl) (own_w hw 148 rfl) (by decide) (by decide)) (g := (mkF m 187 #[oI p0, oR r_215, oJ vv, oS, oI (1 : Int32), oI (3 : Int32), oR b262, oI (2 : Int32), oU] [(.long (1679616 : Int64)), (.long vv), (.int (4 : Int32)), (.int (3 : Int32)), (.int (2 : Int32)), (.ref b262)])) rfl (by rw [hml]; rfl) (argsL := [(.ref b262), (.int (2 : Int32)), (.int (3 : Int32)), (.int (4 : Int32)), (.long vv), (.long (1679616 : Int64))]) (rest := []) (lenOf own_pd25 rfl) rfl (own_hW rfl) (hb hby at_187) (fun _ _ => ⟨rfl, eq268, (by decide : 10 + 0 ≤ _), (by decide : 143 + 0 ≤ _)⟩)
      dsimp only [Pt.U, Pt.locs, Pt.cells, Pt.slots] at X269 l269 y269 z269 st269 hQ269
      subst y269 z269
      obtain ⟨rfl, N269q, eq269⟩ := hQ269
      have N269 : Fr n0 L269 := by rw [l269]; exact Fr.app N268 N269q
      refine own_st (st269) ?_
      refine own_st (fun t_ k_ => XS.aload X269.here hx rfl (hb hby at_190) rfl rfl (XS.iload X269.here hx rfl (hb hby at_192) rfl (XS.iload X269.here hx rfl (hb hby at_194) rfl (XS.iconst X269.here hx rfl (hb hby at_196) (XS.lloadN X269.here hx rfl (hb hby at_197) rfl k_))))) ?_
      show own_at p e below _ T269 m 198 #[oI p0, oR r_215, oJ vv, oS, oI (1 : Int32), oI (3 : Int32), oR b262, oI (2 : Int32), oU] [(.long vv), (.int (5 : Int32)), (.int (3 : Int32)), (.int (2 : Int32)), (.ref b262)]
      refine own_st (X269.ldc2Long hx hown (mvT hZ (own_w hw 158 rfl)) (g := (mkF m 198 #[oI p0, oR r_215, oJ vv, oS, oI (1 : Int32), oI (3 : Int32), oR b262, oI (2 : Int32), oU] [(.long vv), (.int (5 : Int32)), (.int (3 : Int32)), (.int (2 : Int32)), (.ref b262)])) rfl (hb hby at_198)) ?_
      show own_at p e below _ T269 m 201 #[oI p0, oR r_215, oJ vv, oS, oI (1 : Int32), oI (3 : Int32), oR b262, oI (2 : Int32), oU] [(.long (60466176 : Int64)), (.long vv), (.int (5 : Int32)), (.int (3 : Int32)), (.int (2 : Int32)), (.ref b262)]
      obtain ⟨_, _, ⟨T270, L270, k270, n270⟩, -, X270, ⟨Lc270, hQ270, l270, y270, z270⟩, st270⟩ := Jvm.LawKit.callS X269 hx (y := own_n31) hown (mvT hZ (own_w hw 146 rfl)) (mvT hZ (own_w hw 147 rfl)) (mvT hZ (own_w hw 148 rfl)) (mvT hZ (own_w hw 149 rfl)) (by decide) (backOf (W := 0) (own_rm27n l Z a0 hw [] b262 (2 : Int32) (3 : Int32) (5 : Int32) vv (60466176 : Int64) T267.heap n0 (Nat.le_trans Z0 K267.1) (by decide)) hZ (own_w hw 149 rfl) (own_w hw 148 rfl) (by decide) (by decide)) (g := (mkF m 201 #[oI p0, oR r_215, oJ vv, oS, oI (1 : Int32), oI (3 : Int32), oR b262, oI (2 : Int32), oU] [(.long (60466176 : Int64)), (.long vv), (.int (5 : Int32)), (.int (3 : Int32)), (.int (2 : Int32)), (.ref b262)])) rfl (by rw [hml]; rfl) (argsL := [(.ref b262), (.int (2 : Int32)), (.int (3 : Int32)), (.int (5 : Int32)), (.long vv), (.long (60466176 : Int64))]) (rest := []) (lenOf own_pd25 rfl) rfl (own_hW rfl) (hb hby at_201) (fun _ _ => ⟨rfl, eq269, (by decide : 10 + 0 ≤ _), (by decide : 143 + 0 ≤ _)⟩)
      dsimp only [Pt.U, Pt.locs, Pt.cells, Pt.slots] at X270 l270 y270 z270 st270 hQ270
      subst y270 z270
      obtain ⟨rfl, N270q, eq270⟩ := hQ270
      have N270 : Fr n0 L270 := by rw [l270]; exact Fr.app N269 N270q
      refine own_st (st270) ?_
      refine own_st (fun t_ k_ => XS.iload X270.here hx rfl (hb hby at_204) rfl (XS.iload X270.here hx rfl (hb hby at_206) rfl (XS.iadd X270.here hx rfl (hb hby at_208) rfl k_))) ?_
      show own_at p e below _ T270 m 209 #[oI p0, oR r_215, oJ vv, oS, oI (1 : Int32), oI (3 : Int32), oR b262, oI (2 : Int32), oU] [(.int ((2 : Int32) + (3 : Int32)))]
      rw [show ((2 : Int32) + (3 : Int32)) = (5 : Int32) from (by decide)]
      refine own_st (fun t_ k_ => XS.istore X270.here hx rfl (hb hby at_209) rfl (l' := #[oI p0, oR r_215, oJ vv, oS, oI (1 : Int32), oI (3 : Int32), oR b262, oI (2 : Int32), oI (5 : Int32)]) rfl (XS.aloadN X270.here hx rfl (hb hby at_211) rfl rfl k_)) ?_
      show own_at p e below _ T270 m 212 #[oI p0, oR r_215, oJ vv, oS, oI (1 : Int32), oI (3 : Int32), oR b262, oI (2 : Int32), oI (5 : Int32)] [(.ref r_215)]
      have f271 : Fld Z T267.heap r_215 "java/lang/String" "value" "[B" (.ref t_215) := ((((((P215_2.ext E262).other W263 (Or.inl (Nat.ne_of_lt (Nat.lt_of_lt_of_le P215_1.lt (Nat.le_of_eq g262.symm))))).other W264 (Or.inl (Nat.ne_of_lt (Nat.lt_of_lt_of_le P215_1.lt (Nat.le_of_eq g262.symm))))).keep Kq265 (ninS (Nat.ne_of_lt (Nat.lt_of_lt_of_le P215_1.lt (Nat.le_of_eq g262.symm))) nin0)).keep Kq266 (ninS (Nat.ne_of_lt (Nat.lt_of_lt_of_le P215_1.lt (Nat.le_of_eq g262.symm))) nin0)).keep Kq267 (ninS (Nat.ne_of_lt (Nat.lt_of_lt_of_le P215_1.lt (Nat.le_of_eq g262.symm))) nin0))
      have f272 : Fld Z T267.heap r_215 "java/lang/String" "coder" "B" (.int (0 : Int32)) := ((((((P215_3.ext E262).other W263 (Or.inl (Nat.ne_of_lt (Nat.lt_of_lt_of_le P215_1.lt (Nat.le_of_eq g262.symm))))).other W264 (Or.inl (Nat.ne_of_lt (Nat.lt_of_lt_of_le P215_1.lt (Nat.le_of_eq g262.symm))))).keep Kq265 (ninS (Nat.ne_of_lt (Nat.lt_of_lt_of_le P215_1.lt (Nat.le_of_eq g262.symm))) nin0)).keep Kq266 (ninS (Nat.ne_of_lt (Nat.lt_of_lt_of_le P215_1.lt (Nat.le_of_eq g262.symm))) nin0)).keep Kq267 (ninS (Nat.ne_of_lt (Nat.lt_of_lt_of_le P215_1.lt (Nat.le_of_eq g262.symm))) nin0))
      have f273 : own_A Z T267.heap t_215 kt_215 .byte (own_bl (0 : Int32) 5) (fun i => .int ((own_by (0 : Int32) (own_ws 1 3 V)) i)) := ((((((As.ext E262).other W263 (Nat.ne_of_lt (Nat.lt_of_lt_of_le As.lt (Nat.le_of_eq g262.symm)))).other W264 (Nat.ne_of_lt (Nat.lt_of_lt_of_le As.lt (Nat.le_of_eq g262.symm)))).keep Kq265 (ninS (Nat.ne_of_lt (Nat.lt_of_lt_of_le As.lt (Nat.le_of_eq g262.symm))) nin0)).keep Kq266 (ninS (Nat.ne_of_lt (Nat.lt_of_lt_of_le As.lt (Nat.le_of_eq g262.symm))) nin0)).keep Kq267 (ninS (Nat.ne_of_lt (Nat.lt_of_lt_of_le As.lt (Nat.le_of_eq g262.symm))) nin0))
      have f274 : Old Z n0 T267.heap := (((((((q0.keep Kq215 all0).ext E262).wr W263 ge262).wr W264 ge262).keep Kq265 (allS ge262 all0)).keep Kq266 (allS ge262 all0)).keep Kq267 (allS ge262 all0))
      obtain ⟨cq275, kq275, q275a, q275b, q275c⟩ := isOf hZ eq270 ((((((P215_1.ext E262).wr W263).wr W264).keep Kq265).keep Kq266).keep Kq267)
      obtain ⟨_, _, ⟨T275, L275, k275, n275⟩, -, X275, ⟨Lc275, hQ275, l275, y275, z275⟩, st275⟩ := X270.virtualBack hx (y := own_n6) (z := own_n6) hown (mvT hZ (own_w hw 159 rfl)) (mvT hZ (own_w hw 43 rfl)) (notFace_of_selects (args := #[]) (mvT hZ (own_w hw 45 rfl))) (mvT hZ (own_w hw 45 rfl)) (mvT hZ (own_w hw 44 rfl)) (by decide) (backOf (W := 0) (own_rm7 l Z a0 hw [] r_215 t_215 kt_215 (own_bl (0 : Int32) 5) (own_by (0 : Int32) (own_ws 1 3 V)) G1 T267.heap n0 (Nat.le_trans Z0 K267.1) ((((((P215_1.ext E262).wr W263).wr W264).keep Kq265).keep Kq266).keep Kq267) f271 f272 f273 f274 q1 hG1) hZ (own_w hw 46 rfl) (own_w hw 20 rfl) (by decide) (by decide)) q275a q275c (g := (mkF m 212 #[oI p0, oR r_215, oJ vv, oS, oI (1 : Int32), oI (3 : Int32), oR b262, oI (2 : Int32), oI (5 : Int32)] [(.ref r_215)])) rfl (by rw [hml]; rfl) (Steps.refl _) (argsL := []) (rest := []) (lenOf own_pd8 rfl) rfl (own_hW rfl) (hb hby at_212) (fun _ _ => ⟨rfl, eq270, (by decide : 10 + 0 ≤ _), (by decide : 143 + 0 ≤ _)⟩)
      dsimp only [Pt.U, Pt.locs, Pt.cells, Pt.slots] at X275 l275 y275 z275 st275 hQ275
      subst y275 z275
      obtain ⟨rfl, N275q, eq275⟩ := hQ275
      have N275 : Fr n0 L275 := by rw [l275]; exact Fr.app N270 N275q
      refine own_tr st275 ?_
      refine own_st (fun t_ k_ => XS.iload X275.here hx rfl (hb hby at_215) rfl (XS.icmpYes X275.here hx rfl (pc0 := 217) (pc' := 222) rfl (hb hby at_217) rfl (teq (by decide : (Int32.ofNat (own_bl (0 : Int32) 5)) = (5 : Int32))).1 (by decide) (by decide) k_)) ?_
      show own_at p e below _ T275 m 222 #[oI p0, oR r_215, oJ vv, oS, oI (1 : Int32), oI (3 : Int32), oR b262, oI (2 : Int32), oI (5 : Int32)] []
      obtain ⟨gg, hgg⟩ : ∃ f_ : Nat → Int32, f_ = (own_upd (own_upd (own_upd (own_upd (own_upd (fun _ => (0 : Int32)) 0 (119 : Int32)) 1 (45 : Int32)) 4 (own_dig ((vv / (1 : Int64)) % (36 : Int64)))) 3 (own_dig ((vv / (36 : Int64)) % (36 : Int64)))) 2 (own_dig ((vv / (1296 : Int64)) % (36 : Int64)))) := ⟨_, rfl⟩
      have Agg : own_A Z T267.heap b262 k262 .char 8 (fun i => .int (gg i)) := by rw [hgg]; exact P267_0
      have eg0 : own_ws 1 3 V 0 = gg 0 := by rw [hgg]; exact rfl.symm
      have eg1 : own_ws 1 3 V 1 = gg 1 := by rw [hgg]; exact rfl.symm
      have eg2 : own_ws 1 3 V 2 = gg 2 := by rw [hgg]; exact (show own_dig ((vv / (1296 : Int64)) % (36 : Int64)) = own_ws 1 3 V 2 from (own_dd hv (by decide : (1296 : Int64).toInt = ((1296 : Nat) : Int)) (by decide)).trans (by unfold own_ws own_tb; rw [if_neg (by decide), if_neg (by decide)])).symm
      have eg3 : own_ws 1 3 V 3 = gg 3 := by rw [hgg]; exact (show own_dig ((vv / (36 : Int64)) % (36 : Int64)) = own_ws 1 3 V 3 from (own_dd hv (by decide : (36 : Int64).toInt = ((36 : Nat) : Int)) (by decide)).trans (by unfold own_ws own_tb; rw [if_neg (by decide), if_neg (by decide)])).symm
      have eg4 : own_ws 1 3 V 4 = gg 4 := by rw [hgg]; exact (show own_dig ((vv / (1 : Int64)) % (36 : Int64)) = own_ws 1 3 V 4 from (own_dd hv (by decide : (1 : Int64).toInt = ((1 : Nat) : Int)) (by decide)).trans (by unfold own_ws own_tb; rw [if_neg (by decide), if_neg (by decide)])).symm
      refine own_st (fun t_ k_ => XS.aloadN X275.here hx rfl (hb hby at_222) rfl rfl (XS.aload X275.here hx rfl (hb hby at_223) rfl rfl (XS.iload X275.here hx rfl (hb hby at_225) rfl (XS.iconst X275.here hx rfl (hb hby at_227) k_)))) ?_
      show own_at p e below _ T275 m 228 #[oI p0, oR r_215, oJ vv, oS, oI (1 : Int32), oI (3 : Int32), oR b262, oI (2 : Int32), oI (5 : Int32)] [(.int (0 : Int32)), (.int (5 : Int32)), (.ref b262), (.ref r_215)]
      obtain ⟨_, _, ⟨T276, L276, k276, n276⟩, -, X276, ⟨Lc276, hQ276, l276, y276, z276⟩, st276⟩ := Jvm.LawKit.callS X275 hx (y := own_n32) hown (mvT hZ (own_w hw 160 rfl)) (mvT hZ (own_w hw 161 rfl)) (mvT hZ (own_w hw 148 rfl)) (mvT hZ (own_w hw 162 rfl)) (by decide) (backOf (W := 0) (own_rm29y l Z a0 hw [] r_215 b262 (5 : Int32) (0 : Int32) t_215 kt_215 5 (own_ws 1 3 V) k262 gg 0 G1 G3 T267.heap n0 (Nat.le_trans Z0 K267.1) ((((((P215_1.ext E262).wr W263).wr W264).keep Kq265).keep Kq266).keep Kq267) f271 f272 f273 hcd rfl f274 q1 hG1 q3 rG3 Agg (by decide) (by decide) (by decide) ⟨(own_ws7 _ _ _ _).1, Int.le_trans (own_ws7 _ _ _ _).2 (by decide)⟩ eg0) hZ (own_w hw 162 rfl) (own_w hw 148 rfl) (by decide) (by decide)) (g := (mkF m 228 #[oI p0, oR r_215, oJ vv, oS, oI (1 : Int32), oI (3 : Int32), oR b262, oI (2 : Int32), oI (5 : Int32)] [(.int (0 : Int32)), (.int (5 : Int32)), (.ref b262), (.ref r_215)])) rfl (by rw [hml]; rfl) (argsL := [(.ref r_215), (.ref b262), (.int (5 : Int32)), (.int (0 : Int32))]) (rest := []) (lenOf own_pd26 rfl) rfl (own_hW rfl) (hb hby at_228) (fun _ _ => ⟨rfl, eq275, (by decide : 10 + 0 ≤ _), (by decide : 143 + 0 ≤ _)⟩)
      dsimp only [Pt.U, Pt.locs, Pt.cells, Pt.slots] at X276 l276 y276 z276 st276 hQ276
      subst y276 z276
      obtain ⟨rfl, N276q, eq276⟩ := hQ276
      have N276 : Fr n0 L276 := by rw [l276]; exact Fr.app N275 N276q
      refine own_st (st276) ?_
      refine own_st (fun t_ k_ => XS.ifNo X276.here hx rfl (hb hby at_231) rfl ((if0 _ _).trans (feq (by decide : ¬ ((1 : Int32) = (0 : Int32)))).1) (XS.aloadN X276.here hx rfl (hb hby at_234) rfl rfl (XS.aload X276.here hx rfl (hb hby at_235) rfl rfl (XS.iload X276.here hx rfl (hb hby at_237) rfl (XS.iconst X276.here hx rfl (hb hby at_239) k_))))) ?_
      show own_at p e below _ T276 m 240 #[oI p0, oR r_215, oJ vv, oS, oI (1 : Int32), oI (3 : Int32), oR b262, oI (2 : Int32), oI (5 : Int32)] [(.int (1 : Int32)), (.int (5 : Int32)), (.ref b262), (.ref r_215)]
      obtain ⟨_, _, ⟨T277, L277, k277, n277⟩, -, X277, ⟨Lc277, hQ277, l277, y277, z277⟩, st277⟩ := Jvm.LawKit.callS X276 hx (y := own_n32) hown (mvT hZ (own_w hw 160 rfl)) (mvT hZ (own_w hw 161 rfl)) (mvT hZ (own_w hw 148 rfl)) (mvT hZ (own_w hw 162 rfl)) (by decide) (backOf (W := 0) (own_rm29y l Z a0 hw [] r_215 b262 (5 : Int32) (1 : Int32) t_215 kt_215 5 (own_ws 1 3 V) k262 gg 1 G1 G3 T267.heap n0 (Nat.le_trans Z0 K267.1) ((((((P215_1.ext E262).wr W263).wr W264).keep Kq265).keep Kq266).keep Kq267) f271 f272 f273 hcd rfl f274 q1 hG1 q3 rG3 Agg (by decide) (by decide) (by decide) ⟨(own_ws7 _ _ _ _).1, Int.le_trans (own_ws7 _ _ _ _).2 (by decide)⟩ eg1) hZ (own_w hw 162 rfl) (own_w hw 148 rfl) (by decide) (by decide)) (g := (mkF m 240 #[oI p0, oR r_215, oJ vv, oS, oI (1 : Int32), oI (3 : Int32), oR b262, oI (2 : Int32), oI (5 : Int32)] [(.int (1 : Int32)), (.int (5 : Int32)), (.ref b262), (.ref r_215)])) rfl (by rw [hml]; rfl) (argsL := [(.ref r_215), (.ref b262), (.int (5 : Int32)), (.int (1 : Int32))]) (rest := []) (lenOf own_pd26 rfl) rfl (own_hW rfl) (hb hby at_240) (fun _ _ => ⟨rfl, eq276, (by decide : 10 + 0 ≤ _), (by decide : 143 + 0 ≤ _)⟩)
      dsimp only [Pt.U, Pt.locs, Pt.cells, Pt.slots] at X277 l277 y277 z277 st277 hQ277
      subst y277 z277
      obtain ⟨rfl, N277q, eq277⟩ := hQ277
      have N277 : Fr n0 L277 := by rw [l277]; exact Fr.app N276 N277q
      refine own_st (st277) ?_
      refine own_st (fun t_ k_ => XS.ifNo X277.here hx rfl (hb hby at_243) rfl ((if0 _ _).trans (feq (by decide : ¬ ((1 : Int32) = (0 : Int32)))).1) (XS.aloadN X277.here hx rfl (hb hby at_246) rfl rfl (XS.aload X277.here hx rfl (hb hby at_247) rfl rfl (XS.iload X277.here hx rfl (hb hby at_249) rfl (XS.iconst X277.here hx rfl (hb hby at_251) k_))))) ?_
      show own_at p e below _ T277 m 252 #[oI p0, oR r_215, oJ vv, oS, oI (1 : Int32), oI (3 : Int32), oR b262, oI (2 : Int32), oI (5 : Int32)] [(.int (2 : Int32)), (.int (5 : Int32)), (.ref b262), (.ref r_215)]
      obtain ⟨_, _, ⟨T278, L278, k278, n278⟩, -, X278, ⟨Lc278, hQ278, l278, y278, z278⟩, st278⟩ := Jvm.LawKit.callS X277 hx (y := own_n32) hown (mvT hZ (own_w hw 160 rfl)) (mvT hZ (own_w hw 161 rfl)) (mvT hZ (own_w hw 148 rfl)) (mvT hZ (own_w hw 162 rfl)) (by decide) (backOf (W := 0) (own_rm29y l Z a0 hw [] r_215 b262 (5 : Int32) (2 : Int32) t_215 kt_215 5 (own_ws 1 3 V) k262 gg 2 G1 G3 T267.heap n0 (Nat.le_trans Z0 K267.1) ((((((P215_1.ext E262).wr W263).wr W264).keep Kq265).keep Kq266).keep Kq267) f271 f272 f273 hcd rfl f274 q1 hG1 q3 rG3 Agg (by decide) (by decide) (by decide) ⟨(own_ws7 _ _ _ _).1, Int.le_trans (own_ws7 _ _ _ _).2 (by decide)⟩ eg2) hZ (own_w hw 162 rfl) (own_w hw 148 rfl) (by decide) (by decide)) (g := (mkF m 252 #[oI p0, oR r_215, oJ vv, oS, oI (1 : Int32), oI (3 : Int32), oR b262, oI (2 : Int32), oI (5 : Int32)] [(.int (2 : Int32)), (.int (5 : Int32)), (.ref b262), (.ref r_215)])) rfl (by rw [hml]; rfl) (argsL := [(.ref r_215), (.ref b262), (.int (5 : Int32)), (.int (2 : Int32))]) (rest := []) (lenOf own_pd26 rfl) rfl (own_hW rfl) (hb hby at_252) (fun _ _ => ⟨rfl, eq277, (by decide : 10 + 0 ≤ _), (by decide : 143 + 0 ≤ _)⟩)
      dsimp only [Pt.U, Pt.locs, Pt.cells, Pt.slots] at X278 l278 y278 z278 st278 hQ278
      subst y278 z278
      obtain ⟨rfl, N278q, eq278⟩ := hQ278
      have N278 : Fr n0 L278 := by rw [l278]; exact Fr.app N277 N278q
      refine own_st (st278) ?_
      refine own_st (fun t_ k_ => XS.ifNo X278.here hx rfl (hb hby at_255) rfl ((if0 _ _).trans (feq (by decide : ¬ ((1 : Int32) = (0 : Int32)))).1) (XS.aloadN X278.here hx rfl (hb hby at_258) rfl rfl (XS.aload X278.here hx rfl (hb hby at_259) rfl rfl (XS.iload X278.here hx rfl (hb hby at_261) rfl (XS.iconst X278.here hx rfl (hb hby at_263) k_))))) ?_
      show own_at p e below _ T278 m 264 #[oI p0, oR r_215, oJ vv, oS, oI (1 : Int32), oI (3 : Int32), oR b262, oI (2 : Int32), oI (5 : Int32)] [(.int (3 : Int32)), (.int (5 : Int32)), (.ref b262), (.ref r_215)]
      obtain ⟨_, _, ⟨T279, L279, k279, n279⟩, -, X279, ⟨Lc279, hQ279, l279, y279, z279⟩, st279⟩ := Jvm.LawKit.callS X278 hx (y := own_n32) hown (mvT hZ (own_w hw 160 rfl)) (mvT hZ (own_w hw 161 rfl)) (mvT hZ (own_w hw 148 rfl)) (mvT hZ (own_w hw 162 rfl)) (by decide) (backOf (W := 0) (own_rm29y l Z a0 hw [] r_215 b262 (5 : Int32) (3 : Int32) t_215 kt_215 5 (own_ws 1 3 V) k262 gg 3 G1 G3 T267.heap n0 (Nat.le_trans Z0 K267.1) ((((((P215_1.ext E262).wr W263).wr W264).keep Kq265).keep Kq266).keep Kq267) f271 f272 f273 hcd rfl f274 q1 hG1 q3 rG3 Agg (by decide) (by decide) (by decide) ⟨(own_ws7 _ _ _ _).1, Int.le_trans (own_ws7 _ _ _ _).2 (by decide)⟩ eg3) hZ (own_w hw 162 rfl) (own_w hw 148 rfl) (by decide) (by decide)) (g := (mkF m 264 #[oI p0, oR r_215, oJ vv, oS, oI (1 : Int32), oI (3 : Int32), oR b262, oI (2 : Int32), oI (5 : Int32)] [(.int (3 : Int32)), (.int (5 : Int32)), (.ref b262), (.ref r_215)])) rfl (by rw [hml]; rfl) (argsL := [(.ref r_215), (.ref b262), (.int (5 : Int32)), (.int (3 : Int32))]) (rest := []) (lenOf own_pd26 rfl) rfl (own_hW rfl) (hb hby at_264) (fun _ _ => ⟨rfl, eq278, (by decide : 10 + 0 ≤ _), (by decide : 143 + 0 ≤ _)⟩)
      dsimp only [Pt.U, Pt.locs, Pt.cells, Pt.slots] at X279 l279 y279 z279 st279 hQ279
      subst y279 z279
      obtain ⟨rfl, N279q, eq279⟩ := hQ279
      have N279 : Fr n0 L279 := by rw [l279]; exact Fr.app N278 N279q
      refine own_st (st279) ?_
      refine own_st (fun t_ k_ => XS.ifNo X279.here hx rfl (hb hby at_267) rfl ((if0 _ _).trans (feq (by decide : ¬ ((1 : Int32) = (0 : Int32)))).1) (XS.aloadN X279.here hx rfl (hb hby at_270) rfl rfl (XS.aload X279.here hx rfl (hb hby at_271) rfl rfl (XS.iload X279.here hx rfl (hb hby at_273) rfl (XS.iconst X279.here hx rfl (hb hby at_275) k_))))) ?_
      show own_at p e below _ T279 m 276 #[oI p0, oR r_215, oJ vv, oS, oI (1 : Int32), oI (3 : Int32), oR b262, oI (2 : Int32), oI (5 : Int32)] [(.int (4 : Int32)), (.int (5 : Int32)), (.ref b262), (.ref r_215)]
      obtain ⟨_, _, ⟨T280, L280, k280, n280⟩, -, X280, ⟨Lc280, hQ280, l280, y280, z280⟩, st280⟩ := Jvm.LawKit.callS X279 hx (y := own_n32) hown (mvT hZ (own_w hw 160 rfl)) (mvT hZ (own_w hw 161 rfl)) (mvT hZ (own_w hw 148 rfl)) (mvT hZ (own_w hw 162 rfl)) (by decide) (backOf (W := 0) (own_rm29y l Z a0 hw [] r_215 b262 (5 : Int32) (4 : Int32) t_215 kt_215 5 (own_ws 1 3 V) k262 gg 4 G1 G3 T267.heap n0 (Nat.le_trans Z0 K267.1) ((((((P215_1.ext E262).wr W263).wr W264).keep Kq265).keep Kq266).keep Kq267) f271 f272 f273 hcd rfl f274 q1 hG1 q3 rG3 Agg (by decide) (by decide) (by decide) ⟨(own_ws7 _ _ _ _).1, Int.le_trans (own_ws7 _ _ _ _).2 (by decide)⟩ eg4) hZ (own_w hw 162 rfl) (own_w hw 148 rfl) (by decide) (by decide)) (g := (mkF m 276 #[oI p0, oR r_215, oJ vv, oS, oI (1 : Int32), oI (3 : Int32), oR b262, oI (2 : Int32), oI (5 : Int32)] [(.int (4 : Int32)), (.int (5 : Int32)), (.ref b262), (.ref r_215)])) rfl (by rw [hml]; rfl) (argsL := [(.ref r_215), (.ref b262), (.int (5 : Int32)), (.int (4 : Int32))]) (rest := []) (lenOf own_pd26 rfl) rfl (own_hW rfl) (hb hby at_276) (fun _ _ => ⟨rfl, eq279, (by decide : 10 + 0 ≤ _), (by decide : 143 + 0 ≤ _)⟩)
      dsimp only [Pt.U, Pt.locs, Pt.cells, Pt.slots] at X280 l280 y280 z280 st280 hQ280
      subst y280 z280
      obtain ⟨rfl, N280q, eq280⟩ := hQ280
      have N280 : Fr n0 L280 := by rw [l280]; exact Fr.app N279 N280q
      refine own_st (st280) ?_
      refine own_st (fun t_ k_ => XS.ifNo X280.here hx rfl (hb hby at_279) rfl ((if0 _ _).trans (feq (by decide : ¬ ((1 : Int32) = (0 : Int32)))).1) (XS.aloadN X280.here hx rfl (hb hby at_282) rfl rfl (XS.aload X280.here hx rfl (hb hby at_283) rfl rfl (XS.iload X280.here hx rfl (hb hby at_285) rfl (XS.iconst X280.here hx rfl (hb hby at_287) k_))))) ?_
      show own_at p e below _ T280 m 288 #[oI p0, oR r_215, oJ vv, oS, oI (1 : Int32), oI (3 : Int32), oR b262, oI (2 : Int32), oI (5 : Int32)] [(.int (5 : Int32)), (.int (5 : Int32)), (.ref b262), (.ref r_215)]
      obtain ⟨_, _, ⟨T281, L281, k281, n281⟩, -, X281, ⟨Lc281, hQ281, l281, y281, z281⟩, st281⟩ := Jvm.LawKit.callS X280 hx (y := own_n32) hown (mvT hZ (own_w hw 160 rfl)) (mvT hZ (own_w hw 161 rfl)) (mvT hZ (own_w hw 148 rfl)) (mvT hZ (own_w hw 162 rfl)) (by decide) (backOf (W := 0) (own_rm29n l Z a0 hw [] r_215 b262 (5 : Int32) (5 : Int32) T267.heap n0 (Nat.le_trans Z0 K267.1) (by decide)) hZ (own_w hw 162 rfl) (own_w hw 148 rfl) (by decide) (by decide)) (g := (mkF m 288 #[oI p0, oR r_215, oJ vv, oS, oI (1 : Int32), oI (3 : Int32), oR b262, oI (2 : Int32), oI (5 : Int32)] [(.int (5 : Int32)), (.int (5 : Int32)), (.ref b262), (.ref r_215)])) rfl (by rw [hml]; rfl) (argsL := [(.ref r_215), (.ref b262), (.int (5 : Int32)), (.int (5 : Int32))]) (rest := []) (lenOf own_pd26 rfl) rfl (own_hW rfl) (hb hby at_288) (fun _ _ => ⟨rfl, eq280, (by decide : 10 + 0 ≤ _), (by decide : 143 + 0 ≤ _)⟩)
      dsimp only [Pt.U, Pt.locs, Pt.cells, Pt.slots] at X281 l281 y281 z281 st281 hQ281
      subst y281 z281
      obtain ⟨rfl, N281q, eq281⟩ := hQ281
      have N281 : Fr n0 L281 := by rw [l281]; exact Fr.app N280 N281q
      refine own_st (st281) ?_
      refine own_st (fun t_ k_ => XS.ifNo X281.here hx rfl (hb hby at_291) rfl ((if0 _ _).trans (feq (by decide : ¬ ((1 : Int32) = (0 : Int32)))).1) (XS.aloadN X281.here hx rfl (hb hby at_294) rfl rfl (XS.aload X281.here hx rfl (hb hby at_295) rfl rfl (XS.iload X281.here hx rfl (hb hby at_297) rfl (XS.bipush X281.here hx rfl (hb hby at_299) k_))))) ?_
      show own_at p e below _ T281 m 301 #[oI p0, oR r_215, oJ vv, oS, oI (1 : Int32), oI (3 : Int32), oR b262, oI (2 : Int32), oI (5 : Int32)] [(.int (6 : Int32)), (.int (5 : Int32)), (.ref b262), (.ref r_215)]
      obtain ⟨_, _, ⟨T282, L282, k282, n282⟩, -, X282, ⟨Lc282, hQ282, l282, y282, z282⟩, st282⟩ := Jvm.LawKit.callS X281 hx (y := own_n32) hown (mvT hZ (own_w hw 160 rfl)) (mvT hZ (own_w hw 161 rfl)) (mvT hZ (own_w hw 148 rfl)) (mvT hZ (own_w hw 162 rfl)) (by decide) (backOf (W := 0) (own_rm29n l Z a0 hw [] r_215 b262 (5 : Int32) (6 : Int32) T267.heap n0 (Nat.le_trans Z0 K267.1) (by decide)) hZ (own_w hw 162 rfl) (own_w hw 148 rfl) (by decide) (by decide)) (g := (mkF m 301 #[oI p0, oR r_215, oJ vv, oS, oI (1 : Int32), oI (3 : Int32), oR b262, oI (2 : Int32), oI (5 : Int32)] [(.int (6 : Int32)), (.int (5 : Int32)), (.ref b262), (.ref r_215)])) rfl (by rw [hml]; rfl) (argsL := [(.ref r_215), (.ref b262), (.int (5 : Int32)), (.int (6 : Int32))]) (rest := []) (lenOf own_pd26 rfl) rfl (own_hW rfl) (hb hby at_301) (fun _ _ => ⟨rfl, eq281, (by decide : 10 + 0 ≤ _), (by decide : 143 + 0 ≤ _)⟩)
      dsimp only [Pt.U, Pt.locs, Pt.cells, Pt.slots] at X282 l282 y282 z282 st282 hQ282
      subst y282 z282
      obtain ⟨rfl, N282q, eq282⟩ := hQ282
      have N282 : Fr n0 L282 := by rw [l282]; exact Fr.app N281 N282q
      refine own_st (st282) ?_
      refine own_st (fun t_ k_ => XS.ifNo X282.here hx rfl (hb hby at_304) rfl ((if0 _ _).trans (feq (by decide : ¬ ((1 : Int32) = (0 : Int32)))).1) (XS.aloadN X282.here hx rfl (hb hby at_307) rfl rfl (XS.aload X282.here hx rfl (hb hby at_308) rfl rfl (XS.iload X282.here hx rfl (hb hby at_310) rfl (XS.bipush X282.here hx rfl (hb hby at_312) k_))))) ?_
      show own_at p e below _ T282 m 314 #[oI p0, oR r_215, oJ vv, oS, oI (1 : Int32), oI (3 : Int32), oR b262, oI (2 : Int32), oI (5 : Int32)] [(.int (7 : Int32)), (.int (5 : Int32)), (.ref b262), (.ref r_215)]
      obtain ⟨_, _, ⟨T283, L283, k283, n283⟩, -, X283, ⟨Lc283, hQ283, l283, y283, z283⟩, st283⟩ := Jvm.LawKit.callS X282 hx (y := own_n32) hown (mvT hZ (own_w hw 160 rfl)) (mvT hZ (own_w hw 161 rfl)) (mvT hZ (own_w hw 148 rfl)) (mvT hZ (own_w hw 162 rfl)) (by decide) (backOf (W := 0) (own_rm29n l Z a0 hw [] r_215 b262 (5 : Int32) (7 : Int32) T267.heap n0 (Nat.le_trans Z0 K267.1) (by decide)) hZ (own_w hw 162 rfl) (own_w hw 148 rfl) (by decide) (by decide)) (g := (mkF m 314 #[oI p0, oR r_215, oJ vv, oS, oI (1 : Int32), oI (3 : Int32), oR b262, oI (2 : Int32), oI (5 : Int32)] [(.int (7 : Int32)), (.int (5 : Int32)), (.ref b262), (.ref r_215)])) rfl (by rw [hml]; rfl) (argsL := [(.ref r_215), (.ref b262), (.int (5 : Int32)), (.int (7 : Int32))]) (rest := []) (lenOf own_pd26 rfl) rfl (own_hW rfl) (hb hby at_314) (fun _ _ => ⟨rfl, eq282, (by decide : 10 + 0 ≤ _), (by decide : 143 + 0 ≤ _)⟩)
      dsimp only [Pt.U, Pt.locs, Pt.cells, Pt.slots] at X283 l283 y283 z283 st283 hQ283
      subst y283 z283
      obtain ⟨rfl, N283q, eq283⟩ := hQ283
      have N283 : Fr n0 L283 := by rw [l283]; exact Fr.app N282 N283q
      refine own_st (st283) ?_
      refine own_st (fun t_ k_ => XS.ifNo X283.here hx rfl (hb hby at_317) rfl ((if0 _ _).trans (feq (by decide : ¬ ((1 : Int32) = (0 : Int32)))).1) (XS.iconst X283.here hx rfl (hb hby at_320) (XS.goto X283.here hx rfl (pc0 := 321) (pc' := 325) rfl (hb hby at_321) (by decide) (by decide) k_))) ?_
      show own_at p e below _ T283 m 325 #[oI p0, oR r_215, oJ vv, oS, oI (1 : Int32), oI (3 : Int32), oR b262, oI (2 : Int32), oI (5 : Int32)] [(.int (1 : Int32))]
      exact own_retW (w := (.int (1 : Int32))) X283 hx hnl hZ (own_hEL hw) S215 (by rw [eq283]; exact kk267) (by rw [eq283]; exact C267) Bd.returns rfl (Or.inl ⟨rfl, by decide, _, rfl⟩) (hb hby at_325) ⟨rfl, N283, (by rw [eq283]; exact K267)⟩ (by decide) (by decide)
    have z3 : (46656 : Int64).toInt = 46656 := by decide
    have hb3 := mt (lw_lt _ _).mpr c58_261
    rw [Int64.lt_iff_toInt_lt, hv, z3] at hb3
    refine own_st (fun t_ k_ => XS.ifYes X215.here hx rfl (pc0 := 58) (pc' := 65) rfl (hb hby at_58) rfl ((if0 _ _).trans (flt c58_261).2.1) (by decide) (by decide) (XS.lloadN X215.here hx rfl (hb hby at_65) rfl k_)) ?_
    show own_at p e below _ T215 m 66 #[oI p0, oR r_215, oJ vv, oS, oI (1 : Int32), oU, oU, oU, oU] [(.long vv)]
    refine own_st (X215.ldc2Long hx hown (mvT hZ (own_w hw 157 rfl)) (g := (mkF m 66 #[oI p0, oR r_215, oJ vv, oS, oI (1 : Int32), oU, oU, oU, oU] [(.long vv)])) rfl (hb hby at_66)) ?_
    refine own_st (fun t_ k_ => XS.lcmp X215.here hx rfl (hb hby at_69) rfl k_) ?_
    show own_at p e below _ T215 m 70 #[oI p0, oR r_215, oJ vv, oS, oI (1 : Int32), oU, oU, oU, oU] [(.int (lcmpW vv (1679616 : Int64)))]
    by_cases c70_284 : (lcmpW vv (1679616 : Int64)) < (0 : Int32)
    · skip
      have z4 : (1679616 : Int64).toInt = 1679616 := by decide
      have hb4 := (lw_lt _ _).mp c70_284
      rw [Int64.lt_iff_toInt_lt, hv, z4] at hb4
      refine own_st (fun t_ k_ => XS.ifNo X215.here hx rfl (hb hby at_70) rfl ((if0 _ _).trans (tlt c70_284).2.1) (XS.iconst X215.here hx rfl (hb hby at_73) (XS.goto X215.here hx rfl (pc0 := 74) (pc' := 91) rfl (hb hby at_74) (by decide) (by decide) (XS.istore X215.here hx rfl (hb hby at_91) rfl (l' := #[oI p0, oR r_215, oJ vv, oS, oI (1 : Int32), oI (4 : Int32), oU, oU, oU]) rfl k_)))) ?_
      show own_at p e below _ T215 m 93 #[oI p0, oR r_215, oJ vv, oS, oI (1 : Int32), oI (4 : Int32), oU, oU, oU] []
      have en : n_215 = 4 := own_nn6 hdn.1 hdn.2.2.1 hdn.2.2.2 (by decide) (by have q_ : 36 ^ 4 = 1679616 := (by decide); omega) (by first | exact Or.inl rfl | exact Or.inr (by have q_ : 36 ^ (4 - 1) = 46656 := (by decide); omega))
      have As : own_A Z T215.heap t_215 kt_215 .byte (own_bl (0 : Int32) 6) (fun i => .int ((own_by (0 : Int32) (own_ws 1 4 V)) i)) := by have z_ := P215_4; rw [en, hsg, ← hV] at z_; exact z_
      have hcd : ((0 : Int32) = 0 ∧ ∀ q : Nat, q < 6 → ¬ (255 : Int32) < (own_ws 1 4 V) q) ∨ (0 : Int32) = 1 := Or.inl ⟨rfl, fun q _ => own_lat7 (own_ws7 _ _ _ q)⟩
      refine own_st (fun t_ k_ => XS.bipush X215.here hx rfl (hb hby at_93) k_) ?_
      show own_at p e below _ T215 m 95 #[oI p0, oR r_215, oJ vv, oS, oI (1 : Int32), oI (4 : Int32), oU, oU, oU] [(.int (8 : Int32))]
      obtain ⟨T285, h285, k285, X285, e285, E285, A285, st285⟩ := newP X215 hx hZ (own_w hw 145 rfl) rfl (g := (mkF m 95 #[oI p0, oR r_215, oJ vv, oS, oI (1 : Int32), oI (4 : Int32), oU, oU, oU] [(.int (8 : Int32))])) rfl (hb hby at_95) rfl (by decide) (cap := 8) (by decide) (by decide) (by decide) (by decide)
      obtain ⟨b285, g285⟩ : ∃ z, z = T215.heap.size := ⟨_, rfl⟩
      rw [← g285] at A285 st285
      have fr285 : h0.size ≤ b285 := Nat.le_trans K215.1 (Nat.le_of_eq g285.symm)
      have ge285 : n0 ≤ b285 := Nat.le_trans Z0 fr285
      have K285 : Keep h0 h285 [] := K215.ext E285
      have c285 : CHr Z own_EL _ T215.heap _ h285 := CHr.ext E285 C215.1
      have C285 := C215.trans c285
      have kk285 := Nat.le_trans kk215 c285.2.1
      have Sf285_b285 : Safe Z own_EL _ h285 b285 := Safe.ext E285 C215.1 (Safe.new (Nat.le_of_eq g285.symm))
      have Ar285 : own_A Z h285 b285 k285 .char 8 (fun i => .int ((fun _ => (0 : Int32)) i)) := own_A.new A285 rfl (by decide)
      refine own_st (st285) ?_
      refine own_st (fun t_ k_ => XS.astore X285.here hx rfl (hb hby at_97) rfl rfl (l' := #[oI p0, oR r_215, oJ vv, oS, oI (1 : Int32), oI (4 : Int32), oR b285, oU, oU]) rfl (XS.aload X285.here hx rfl (hb hby at_99) rfl rfl (XS.iconst X285.here hx rfl (hb hby at_101) (XS.bipush X285.here hx rfl (hb hby at_102) k_)))) ?_
      show own_at p e below _ T285 m 104 #[oI p0, oR r_215, oJ vv, oS, oI (1 : Int32), oI (4 : Int32), oR b285, oU, oU] [(.int (119 : Int32)), (.int (0 : Int32)), (.ref b285)]
      obtain ⟨T286, h286, X286, e286, W286, Aw286, st286⟩ := own_castore X285 hx hZ e285 Ar285 (i := 0) (by decide) (by decide) rfl (v' := (119 : Int32)) (g := (mkF m 104 #[oI p0, oR r_215, oJ vv, oS, oI (1 : Int32), oI (4 : Int32), oR b285, oU, oU] [(.int (119 : Int32)), (.int (0 : Int32)), (.ref b285)])) rfl rfl (hb hby at_104)
      have N286 := Fr.snoc X286 N215 ge285
      have K286 : Keep h0 h286 [] := K285.wr W286 (Or.inr fr285)
      have c286 : CHr Z own_EL _ h285 _ h286 := CHr.wr W286 (own_safeA hZ.alike Ar285 (by decide)) C285.1
      have C286 := C285.trans c286
      have kk286 := Nat.le_trans kk285 c286.2.1
      refine own_st (st286) ?_
      refine own_st (fun t_ k_ => XS.iconst X286.here hx rfl (hb hby at_105) (XS.istore X286.here hx rfl (hb hby at_106) rfl (l' := #[oI p0, oR r_215, oJ vv, oS, oI (1 : Int32), oI (4 : Int32), oR b285, oI (1 : Int32), oU]) rfl (XS.iload X286.here hx rfl (hb hby at_108) rfl (XS.ifNo X286.here hx rfl (hb hby at_110) rfl ((if0 _ _).trans (feq (by decide : ¬ ((1 : Int32) = (0 : Int32)))).1) (XS.aload X286.here hx rfl (hb hby at_113) rfl rfl (XS.iconst X286.here hx rfl (hb hby at_115) k_)))))) ?_
      show own_at p e below _ T286 m 116 #[oI p0, oR r_215, oJ vv, oS, oI (1 : Int32), oI (4 : Int32), oR b285, oI (1 : Int32), oU] [(.int (1 : Int32)), (.ref b285)]
      refine own_st (fun t_ k_ => XS.bipush X286.here hx rfl (hb hby at_116) k_) ?_
      show own_at p e below _ T286 m 118 #[oI p0, oR r_215, oJ vv, oS, oI (1 : Int32), oI (4 : Int32), oR b285, oI (1 : Int32), oU] [(.int (45 : Int32)), (.int (1 : Int32)), (.ref b285)]
      obtain ⟨T287, h287, X287, e287, W287, Aw287, st287⟩ := own_castore X286 hx hZ e286 Aw286 (i := 1) (by decide) (by decide) rfl (v' := (45 : Int32)) (g := (mkF m 118 #[oI p0, oR r_215, oJ vv, oS, oI (1 : Int32), oI (4 : Int32), oR b285, oI (1 : Int32), oU] [(.int (45 : Int32)), (.int (1 : Int32)), (.ref b285)])) rfl rfl (hb hby at_118)
      have N287 := Fr.snoc X287 N286 ge285
      have K287 : Keep h0 h287 [] := K286.wr W287 (Or.inr fr285)
      have c287 : CHr Z own_EL _ h286 _ h287 := CHr.wr W287 (own_safeA hZ.alike Aw286 (by decide)) C286.1
      have C287 := C286.trans c287
      have kk287 := Nat.le_trans kk286 c287.2.1
      refine own_st (st287) ?_
      refine own_st (fun t_ k_ => XS.iconst X287.here hx rfl (hb hby at_119) (XS.istore X287.here hx rfl (hb hby at_120) rfl (l' := #[oI p0, oR r_215, oJ vv, oS, oI (1 : Int32), oI (4 : Int32), oR b285, oI (2 : Int32), oU]) rfl (XS.aload X287.here hx rfl (hb hby at_122) rfl rfl (XS.iload X287.here hx rfl (hb hby at_124) rfl (XS.iload X287.here hx rfl (hb hby at_126) rfl (XS.iconst X287.here hx rfl (hb hby at_128) k_)))))) ?_
      show own_at p e below _ T287 m 129 #[oI p0, oR r_215, oJ vv, oS, oI (1 : Int32), oI (4 : Int32), oR b285, oI (2 : Int32), oU] [(.int (0 : Int32)), (.int (4 : Int32)), (.int (2 : Int32)), (.ref b285)]
      refine own_st (fun t_ k_ => XS.lloadN X287.here hx rfl (hb hby at_129) rfl (XS.lconst X287.here hx rfl (hb hby at_130) k_)) ?_
      show own_at p e below _ T287 m 131 #[oI p0, oR r_215, oJ vv, oS, oI (1 : Int32), oI (4 : Int32), oR b285, oI (2 : Int32), oU] [(.long (1 : Int64)), (.long vv), (.int (0 : Int32)), (.int (4 : Int32)), (.int (2 : Int32)), (.ref b285)]
      obtain ⟨_, _, ⟨T288, L288, k288, n288⟩, -, X288, ⟨Lc288, hQ288, l288, y288, z288⟩, st288⟩ := Jvm.LawKit.callS X287 hx (y := own_n31) hown (mvT hZ (own_w hw 146 rfl)) (mvT hZ (own_w hw 147 rfl)) (mvT hZ (own_w hw 148 rfl)) (mvT hZ (own_w hw 149 rfl)) (by decide) (backOf (W := 0) (own_rm27y l Z a0 hw [] b285 (2 : Int32) (4 : Int32) (0 : Int32) vv (1 : Int64) k285 (own_upd (own_upd (fun _ => (0 : Int32)) 0 (119 : Int32)) 1 (45 : Int32)) 5 h287 n0 (Nat.le_trans Z0 K287.1) Aw287 ge285 (by decide) (by decide) (by decide)) hZ (own_w hw 149 rfl) (own_w hw 148 rfl) (by decide) (by decide)) (g := (mkF m 131 #[oI p0, oR r_215, oJ vv, oS, oI (1 : Int32), oI (4 : Int32), oR b285, oI (2 : Int32), oU] [(.long (1 : Int64)), (.long vv), (.int (0 : Int32)), (.int (4 : Int32)), (.int (2 : Int32)), (.ref b285)])) rfl (by rw [hml]; rfl) (argsL := [(.ref b285), (.int (2 : Int32)), (.int (4 : Int32)), (.int (0 : Int32)), (.long vv), (.long (1 : Int64))]) (rest := []) (lenOf own_pd25 rfl) rfl (own_hW rfl) (hb hby at_131) (fun _ _ => ⟨rfl, e287, (by decide : 10 + 0 ≤ _), (by decide : 143 + 0 ≤ _)⟩)
      dsimp only [Pt.U, Pt.locs, Pt.cells, Pt.slots] at X288 l288 y288 z288 st288 hQ288
      subst y288 z288
      obtain ⟨rfl, N288q, Kq288, P288_0⟩ := hQ288
      have N288 : Fr n0 L288 := by rw [l288]; exact Fr.app N287 N288q
      have K288 : Keep h0 T288.heap [] := K287.trans Kq288 (allS (P := fun x => x ∈ [] ∨ h0.size ≤ x) (Or.inr fr285) all0)
      have c288 : CHr Z own_EL _ h287 _ T288.heap := CHr.keep Kq288 (own_slS (own_safeA hZ.alike Aw287 (by decide)) own_sl0) C287.1
      have C288 := C287.trans c288
      have kk288 := Nat.le_trans kk287 c288.2.1
      refine own_st (st288) ?_
      refine own_st (fun t_ k_ => XS.aload X288.here hx rfl (hb hby at_134) rfl rfl (XS.iload X288.here hx rfl (hb hby at_136) rfl (XS.iload X288.here hx rfl (hb hby at_138) rfl (XS.iconst X288.here hx rfl (hb hby at_140) (XS.lloadN X288.here hx rfl (hb hby at_141) rfl k_))))) ?_
      show own_at p e below _ T288 m 142 #[oI p0, oR r_215, oJ vv, oS, oI (1 : Int32), oI (4 : Int32), oR b285, oI (2 : Int32), oU] [(.long vv), (.int (1 : Int32)), (.int (4 : Int32)), (.int (2 : Int32)), (.ref b285)]
      refine own_st (X288.ldc2Long hx hown (mvT hZ (own_w hw 144 rfl)) (g := (mkF m 142 #[oI p0, oR r_215, oJ vv, oS, oI (1 : Int32), oI (4 : Int32), oR b285, oI (2 : Int32), oU] [(.long vv), (.int (1 : Int32)), (.int (4 : Int32)), (.int (2 : Int32)), (.ref b285)])) rfl (hb hby at_142)) ?_
      show own_at p e below _ T288 m 145 #[oI p0, oR r_215, oJ vv, oS, oI (1 : Int32), oI (4 : Int32), oR b285, oI (2 : Int32), oU] [(.long (36 : Int64)), (.long vv), (.int (1 : Int32)), (.int (4 : Int32)), (.int (2 : Int32)), (.ref b285)]
      obtain ⟨_, _, ⟨T289, L289, k289, n289⟩, -, X289, ⟨Lc289, hQ289, l289, y289, z289⟩, st289⟩ := Jvm.LawKit.callS X288 hx (y := own_n31) hown (mvT hZ (own_w hw 146 rfl)) (mvT hZ (own_w hw 147 rfl)) (mvT hZ (own_w hw 148 rfl)) (mvT hZ (own_w hw 149 rfl)) (by decide) (backOf (W := 0) (own_rm27y l Z a0 hw [] b285 (2 : Int32) (4 : Int32) (1 : Int32) vv (36 : Int64) k285 (own_upd (own_upd (own_upd (fun _ => (0 : Int32)) 0 (119 : Int32)) 1 (45 : Int32)) 5 (own_dig ((vv / (1 : Int64)) % (36 : Int64)))) 4 T288.heap n0 (Nat.le_trans Z0 K288.1) P288_0 ge285 (by decide) (by decide) (by decide)) hZ (own_w hw 149 rfl) (own_w hw 148 rfl) (by decide) (by decide)) (g := (mkF m 145 #[oI p0, oR r_215, oJ vv, oS, oI (1 : Int32), oI (4 : Int32), oR b285, oI (2 : Int32), oU] [(.long (36 : Int64)), (.long vv), (.int (1 : Int32)), (.int (4 : Int32)), (.int (2 : Int32)), (.ref b285)])) rfl (by rw [hml]; rfl) (argsL := [(.ref b285), (.int (2 : Int32)), (.int (4 : Int32)), (.int (1 : Int32)), (.long vv), (.long (36 : Int64))]) (rest := []) (lenOf own_pd25 rfl) rfl (own_hW rfl) (hb hby at_145) (fun _ _ => ⟨rfl, rfl, (by decide : 10 + 0 ≤ _), (by decide : 143 + 0 ≤ _)⟩)
      dsimp only [Pt.U, Pt.locs, Pt.cells, Pt.slots] at X289 l289 y289 z289 st289 hQ289
      subst y289 z289
      obtain ⟨rfl, N289q, Kq289, P289_0⟩ := hQ289
      have N289 : Fr n0 L289 := by rw [l289]; exact Fr.app N288 N289q
      have K289 : Keep h0 T289.heap [] := K288.trans Kq289 (allS (P := fun x => x ∈ [] ∨ h0.size ≤ x) (Or.inr fr285) all0)
      have c289 : CHr Z own_EL _ T288.heap _ T289.heap := CHr.keep Kq289 (own_slS (own_safeA hZ.alike P288_0 (by decide)) own_sl0) C288.1
      have C289 := C288.trans c289
      have kk289 := Nat.le_trans kk288 c289.2.1
      refine own_st (st289) ?_
      refine own_st (fun t_ k_ => XS.aload X289.here hx rfl (hb hby at_148) rfl rfl (XS.iload X289.here hx rfl (hb hby at_150) rfl (XS.iload X289.here hx rfl (hb hby at_152) rfl (XS.iconst X289.here hx rfl (hb hby at_154) (XS.lloadN X289.here hx rfl (hb hby at_155) rfl k_))))) ?_
      show own_at p e below _ T289 m 156 #[oI p0, oR r_215, oJ vv, oS, oI (1 : Int32), oI (4 : Int32), oR b285, oI (2 : Int32), oU] [(.long vv), (.int (2 : Int32)), (.int (4 : Int32)), (.int (2 : Int32)), (.ref b285)]
      refine own_st (X289.ldc2Long hx hown (mvT hZ (own_w hw 155 rfl)) (g := (mkF m 156 #[oI p0, oR r_215, oJ vv, oS, oI (1 : Int32), oI (4 : Int32), oR b285, oI (2 : Int32), oU] [(.long vv), (.int (2 : Int32)), (.int (4 : Int32)), (.int (2 : Int32)), (.ref b285)])) rfl (hb hby at_156)) ?_
      show own_at p e below _ T289 m 159 #[oI p0, oR r_215, oJ vv, oS, oI (1 : Int32), oI (4 : Int32), oR b285, oI (2 : Int32), oU] [(.long (1296 : Int64)), (.long vv), (.int (2 : Int32)), (.int (4 : Int32)), (.int (2 : Int32)), (.ref b285)]
      obtain ⟨_, _, ⟨T290, L290, k290, n290⟩, -, X290, ⟨Lc290, hQ290, l290, y290, z290⟩, st290⟩ := Jvm.LawKit.callS X289 hx (y := own_n31) hown (mvT hZ (own_w hw 146 rfl)) (mvT hZ (own_w hw 147 rfl)) (mvT hZ (own_w hw 148 rfl)) (mvT hZ (own_w hw 149 rfl)) (by decide) (backOf (W := 0) (own_rm27y l Z a0 hw [] b285 (2 : Int32) (4 : Int32) (2 : Int32) vv (1296 : Int64) k285 (own_upd (own_upd (own_upd (own_upd (fun _ => (0 : Int32)) 0 (119 : Int32)) 1 (45 : Int32)) 5 (own_dig ((vv / (1 : Int64)) % (36 : Int64)))) 4 (own_dig ((vv / (36 : Int64)) % (36 : Int64)))) 3 T289.heap n0 (Nat.le_trans Z0 K289.1) P289_0 ge285 (by decide) (by decide) (by decide)) hZ (own_w hw 149 rfl) (own_w hw 148 rfl) (by decide) (by decide)) (g := (mkF m 159 #[oI p0, oR r_215, oJ vv, oS, oI (1 : Int32), oI (4 : Int32), oR b285, oI (2 : Int32), oU] [(.long (1296 : Int64)), (.long vv), (.int (2 : Int32)), (.int (4 : Int32)), (.int (2 : Int32)), (.ref b285)])) rfl (by rw [hml]; rfl) (argsL := [(.ref b285), (.int (2 : Int32)), (.int (4 : Int32)), (.int (2 : Int32)), (.long vv), (.long (1296 : Int64))]) (rest := []) (lenOf own_pd25 rfl) rfl (own_hW rfl) (hb hby at_159) (fun _ _ => ⟨rfl, rfl, (by decide : 10 + 0 ≤ _), (by decide : 143 + 0 ≤ _)⟩)
      dsimp only [Pt.U, Pt.locs, Pt.cells, Pt.slots] at X290 l290 y290 z290 st290 hQ290
      subst y290 z290
      obtain ⟨rfl, N290q, Kq290, P290_0⟩ := hQ290
      have N290 : Fr n0 L290 := by rw [l290]; exact Fr.app N289 N290q
      have K290 : Keep h0 T290.heap [] := K289.trans Kq290 (allS (P := fun x => x ∈ [] ∨ h0.size ≤ x) (Or.inr fr285) all0)
      have c290 : CHr Z own_EL _ T289.heap _ T290.heap := CHr.keep Kq290 (own_slS (own_safeA hZ.alike P289_0 (by decide)) own_sl0) C289.1
      have C290 := C289.trans c290
      have kk290 := Nat.le_trans kk289 c290.2.1
      refine own_st (st290) ?_
      refine own_st (fun t_ k_ => XS.aload X290.here hx rfl (hb hby at_162) rfl rfl (XS.iload X290.here hx rfl (hb hby at_164) rfl (XS.iload X290.here hx rfl (hb hby at_166) rfl (XS.iconst X290.here hx rfl (hb hby at_168) (XS.lloadN X290.here hx rfl (hb hby at_169) rfl k_))))) ?_
      show own_at p e below _ T290 m 170 #[oI p0, oR r_215, oJ vv, oS, oI (1 : Int32), oI (4 : Int32), oR b285, oI (2 : Int32), oU] [(.long vv), (.int (3 : Int32)), (.int (4 : Int32)), (.int (2 : Int32)), (.ref b285)]
      refine own_st (X290.ldc2Long hx hown (mvT hZ (own_w hw 156 rfl)) (g := (mkF m 170 #[oI p0, oR r_215, oJ vv, oS, oI (1 : Int32), oI (4 : Int32), oR b285, oI (2 : Int32), oU] [(.long vv), (.int (3 : Int32)), (.int (4 : Int32)), (.int (2 : Int32)), (.ref b285)])) rfl (hb hby at_170)) ?_
      show own_at p e below _ T290 m 173 #[oI p0, oR r_215, oJ vv, oS, oI (1 : Int32), oI (4 : Int32), oR b285, oI (2 : Int32), oU] [(.long (46656 : Int64)), (.long vv), (.int (3 : Int32)), (.int (4 : Int32)), (.int (2 : Int32)), (.ref b285)]
      obtain ⟨_, _, ⟨T291, L291, k291, n291⟩, -, X291, ⟨Lc291, hQ291, l291, y291, z291⟩, st291⟩ := Jvm.LawKit.callS X290 hx (y := own_n31) hown (mvT hZ (own_w hw 146 rfl)) (mvT hZ (own_w hw 147 rfl)) (mvT hZ (own_w hw 148 rfl)) (mvT hZ (own_w hw 149 rfl)) (by decide) (backOf (W := 0) (own_rm27y l Z a0 hw [] b285 (2 : Int32) (4 : Int32) (3 : Int32) vv (46656 : Int64) k285 (own_upd (own_upd (own_upd (own_upd (own_upd (fun _ => (0 : Int32)) 0 (119 : Int32)) 1 (45 : Int32)) 5 (own_dig ((vv / (1 : Int64)) % (36 : Int64)))) 4 (own_dig ((vv / (36 : Int64)) % (36 : Int64)))) 3 (own_dig ((vv / (1296 : Int64)) % (36 : Int64)))) 2 T290.heap n0 (Nat.le_trans Z0 K290.1) P290_0 ge285 (by decide) (by decide) (by decide)) hZ (own_w hw 149 rfl) (own_w hw 148 rfl) (by decide) (by decide)) (g := (mkF m 173 #[oI p0, oR r_215, oJ vv, oS, oI (1 : Int32), oI (4 : Int32), oR b285, oI (2 : Int32), oU] [(.long (46656 : Int64)), (.long vv), (.int (3 : Int32)), (.int (4 : Int32)), (.int (2 : Int32)), (.ref b285)])) rfl (by rw [hml]; rfl) (argsL := [(.ref b285), (.int (2 : Int32)), (.int (4 : Int32)), (.int (3 : Int32)), (.long vv), (.long (46656 : Int64))]) (rest := []) (lenOf own_pd25 rfl) rfl (own_hW rfl) (hb hby at_173) (fun _ _ => ⟨rfl, rfl, (by decide : 10 + 0 ≤ _), (by decide : 143 + 0 ≤ _)⟩)
      dsimp only [Pt.U, Pt.locs, Pt.cells, Pt.slots] at X291 l291 y291 z291 st291 hQ291
      subst y291 z291
      obtain ⟨rfl, N291q, Kq291, P291_0⟩ := hQ291
      have N291 : Fr n0 L291 := by rw [l291]; exact Fr.app N290 N291q
      have K291 : Keep h0 T291.heap [] := K290.trans Kq291 (allS (P := fun x => x ∈ [] ∨ h0.size ≤ x) (Or.inr fr285) all0)
      have c291 : CHr Z own_EL _ T290.heap _ T291.heap := CHr.keep Kq291 (own_slS (own_safeA hZ.alike P290_0 (by decide)) own_sl0) C290.1
      have C291 := C290.trans c291
      have kk291 := Nat.le_trans kk290 c291.2.1
      refine own_st (st291) ?_
      refine own_st (fun t_ k_ => XS.aload X291.here hx rfl (hb hby at_176) rfl rfl (XS.iload X291.here hx rfl (hb hby at_178) rfl (XS.iload X291.here hx rfl (hb hby at_180) rfl (XS.iconst X291.here hx rfl (hb hby at_182) (XS.lloadN X291.here hx rfl (hb hby at_183) rfl k_))))) ?_
      show own_at p e below _ T291 m 184 #[oI p0, oR r_215, oJ vv, oS, oI (1 : Int32), oI (4 : Int32), oR b285, oI (2 : Int32), oU] [(.long vv), (.int (4 : Int32)), (.int (4 : Int32)), (.int (2 : Int32)), (.ref b285)]
      refine own_st (X291.ldc2Long hx hown (mvT hZ (own_w hw 157 rfl)) (g := (mkF m 184 #[oI p0, oR r_215, oJ vv, oS, oI (1 : Int32), oI (4 : Int32), oR b285, oI (2 : Int32), oU] [(.long vv), (.int (4 : Int32)), (.int (4 : Int32)), (.int (2 : Int32)), (.ref b285)])) rfl (hb hby at_184)) ?_
      show own_at p e below _ T291 m 187 #[oI p0, oR r_215, oJ vv, oS, oI (1 : Int32), oI (4 : Int32), oR b285, oI (2 : Int32), oU] [(.long (1679616 : Int64)), (.long vv), (.int (4 : Int32)), (.int (4 : Int32)), (.int (2 : Int32)), (.ref b285)]
      obtain ⟨_, _, ⟨T292, L292, k292, n292⟩, -, X292, ⟨Lc292, hQ292, l292, y292, z292⟩, st292⟩ := Jvm.LawKit.callS X291 hx (y := own_n31) hown (mvT hZ (own_w hw 146 rfl)) (mvT hZ (own_w hw 147 rfl)) (mvT hZ (own_w hw 148 rfl)) (mvT hZ (own_w hw 149 rfl)) (by decide) (backOf (W := 0) (own_rm27n l Z a0 hw [] b285 (2 : Int32) (4 : Int32) (4 : Int32) vv (1679616 : Int64) T291.heap n0 (Nat.le_trans Z0 K291.1) (by decide)) hZ (own_w hw 149 rfl) (own_w hw 148 rfl) (by decide) (by decide)) (g := (mkF m 187 #[oI p0, oR r_215, oJ vv, oS, oI (1 : Int32), oI (4 : Int32), oR b285, oI (2 : Int32), oU] [(.long (1679616 : Int64)), (.long vv), (.int (4 : Int32)), (.int (4 : Int32)), (.int (2 : Int32)), (.ref b285)])) rfl (by rw [hml]; rfl) (argsL := [(.ref b285), (.int (2 : Int32)), (.int (4 : Int32)), (.int (4 : Int32)), (.long vv), (.long (1679616 : Int64))]) (rest := []) (lenOf own_pd25 rfl) rfl (own_hW rfl) (hb hby at_187) (fun _ _ => ⟨rfl, rfl, (by decide : 10 + 0 ≤ _), (by decide : 143 + 0 ≤ _)⟩)
      dsimp only [Pt.U, Pt.locs, Pt.cells, Pt.slots] at X292 l292 y292 z292 st292 hQ292
      subst y292 z292
      obtain ⟨rfl, N292q, eq292⟩ := hQ292
      have N292 : Fr n0 L292 := by rw [l292]; exact Fr.app N291 N292q
      refine own_st (st292) ?_
      refine own_st (fun t_ k_ => XS.aload X292.here hx rfl (hb hby at_190) rfl rfl (XS.iload X292.here hx rfl (hb hby at_192) rfl (XS.iload X292.here hx rfl (hb hby at_194) rfl (XS.iconst X292.here hx rfl (hb hby at_196) (XS.lloadN X292.here hx rfl (hb hby at_197) rfl k_))))) ?_
      show own_at p e below _ T292 m 198 #[oI p0, oR r_215, oJ vv, oS, oI (1 : Int32), oI (4 : Int32), oR b285, oI (2 : Int32), oU] [(.long vv), (.int (5 : Int32)), (.int (4 : Int32)), (.int (2 : Int32)), (.ref b285)]
      refine own_st (X292.ldc2Long hx hown (mvT hZ (own_w hw 158 rfl)) (g := (mkF m 198 #[oI p0, oR r_215, oJ vv, oS, oI (1 : Int32), oI (4 : Int32), oR b285, oI (2 : Int32), oU] [(.long vv), (.int (5 : Int32)), (.int (4 : Int32)), (.int (2 : Int32)), (.ref b285)])) rfl (hb hby at_198)) ?_
      show own_at p e below _ T292 m 201 #[oI p0, oR r_215, oJ vv, oS, oI (1 : Int32), oI (4 : Int32), oR b285, oI (2 : Int32), oU] [(.long (60466176 : Int64)), (.long vv), (.int (5 : Int32)), (.int (4 : Int32)), (.int (2 : Int32)), (.ref b285)]
      obtain ⟨_, _, ⟨T293, L293, k293, n293⟩, -, X293, ⟨Lc293, hQ293, l293, y293, z293⟩, st293⟩ := Jvm.LawKit.callS X292 hx (y := own_n31) hown (mvT hZ (own_w hw 146 rfl)) (mvT hZ (own_w hw 147 rfl)) (mvT hZ (own_w hw 148 rfl)) (mvT hZ (own_w hw 149 rfl)) (by decide) (backOf (W := 0) (own_rm27n l Z a0 hw [] b285 (2 : Int32) (4 : Int32) (5 : Int32) vv (60466176 : Int64) T291.heap n0 (Nat.le_trans Z0 K291.1) (by decide)) hZ (own_w hw 149 rfl) (own_w hw 148 rfl) (by decide) (by decide)) (g := (mkF m 201 #[oI p0, oR r_215, oJ vv, oS, oI (1 : Int32), oI (4 : Int32), oR b285, oI (2 : Int32), oU] [(.long (60466176 : Int64)), (.long vv), (.int (5 : Int32)), (.int (4 : Int32)), (.int (2 : Int32)), (.ref b285)])) rfl (by rw [hml]; rfl) (argsL := [(.ref b285), (.int (2 : Int32)), (.int (4 : Int32)), (.int (5 : Int32)), (.long vv), (.long (60466176 : Int64))]) (rest := []) (lenOf own_pd25 rfl) rfl (own_hW rfl) (hb hby at_201) (fun _ _ => ⟨rfl, eq292, (by decide : 10 + 0 ≤ _), (by decide : 143 + 0 ≤ _)⟩)
      dsimp only [Pt.U, Pt.locs, Pt.cells, Pt.slots] at X293 l293 y293 z293 st293 hQ293
      subst y293 z293
      obtain ⟨rfl, N293q, eq293⟩ := hQ293
      have N293 : Fr n0 L293 := by rw [l293]; exact Fr.app N292 N293q
      refine own_st (st293) ?_
      refine own_st (fun t_ k_ => XS.iload X293.here hx rfl (hb hby at_204) rfl (XS.iload X293.here hx rfl (hb hby at_206) rfl (XS.iadd X293.here hx rfl (hb hby at_208) rfl k_))) ?_
      show own_at p e below _ T293 m 209 #[oI p0, oR r_215, oJ vv, oS, oI (1 : Int32), oI (4 : Int32), oR b285, oI (2 : Int32), oU] [(.int ((2 : Int32) + (4 : Int32)))]
      rw [show ((2 : Int32) + (4 : Int32)) = (6 : Int32) from (by decide)]
      refine own_st (fun t_ k_ => XS.istore X293.here hx rfl (hb hby at_209) rfl (l' := #[oI p0, oR r_215, oJ vv, oS, oI (1 : Int32), oI (4 : Int32), oR b285, oI (2 : Int32), oI (6 : Int32)]) rfl (XS.aloadN X293.here hx rfl (hb hby at_211) rfl rfl k_)) ?_
      show own_at p e below _ T293 m 212 #[oI p0, oR r_215, oJ vv, oS, oI (1 : Int32), oI (4 : Int32), oR b285, oI (2 : Int32), oI (6 : Int32)] [(.ref r_215)]
      have f294 : Fld Z T291.heap r_215 "java/lang/String" "value" "[B" (.ref t_215) := (((((((P215_2.ext E285).other W286 (Or.inl (Nat.ne_of_lt (Nat.lt_of_lt_of_le P215_1.lt (Nat.le_of_eq g285.symm))))).other W287 (Or.inl (Nat.ne_of_lt (Nat.lt_of_lt_of_le P215_1.lt (Nat.le_of_eq g285.symm))))).keep Kq288 (ninS (Nat.ne_of_lt (Nat.lt_of_lt_of_le P215_1.lt (Nat.le_of_eq g285.symm))) nin0)).keep Kq289 (ninS (Nat.ne_of_lt (Nat.lt_of_lt_of_le P215_1.lt (Nat.le_of_eq g285.symm))) nin0)).keep Kq290 (ninS (Nat.ne_of_lt (Nat.lt_of_lt_of_le P215_1.lt (Nat.le_of_eq g285.symm))) nin0)).keep Kq291 (ninS (Nat.ne_of_lt (Nat.lt_of_lt_of_le P215_1.lt (Nat.le_of_eq g285.symm))) nin0))
      have f295 : Fld Z T291.heap r_215 "java/lang/String" "coder" "B" (.int (0 : Int32)) := (((((((P215_3.ext E285).other W286 (Or.inl (Nat.ne_of_lt (Nat.lt_of_lt_of_le P215_1.lt (Nat.le_of_eq g285.symm))))).other W287 (Or.inl (Nat.ne_of_lt (Nat.lt_of_lt_of_le P215_1.lt (Nat.le_of_eq g285.symm))))).keep Kq288 (ninS (Nat.ne_of_lt (Nat.lt_of_lt_of_le P215_1.lt (Nat.le_of_eq g285.symm))) nin0)).keep Kq289 (ninS (Nat.ne_of_lt (Nat.lt_of_lt_of_le P215_1.lt (Nat.le_of_eq g285.symm))) nin0)).keep Kq290 (ninS (Nat.ne_of_lt (Nat.lt_of_lt_of_le P215_1.lt (Nat.le_of_eq g285.symm))) nin0)).keep Kq291 (ninS (Nat.ne_of_lt (Nat.lt_of_lt_of_le P215_1.lt (Nat.le_of_eq g285.symm))) nin0))
      have f296 : own_A Z T291.heap t_215 kt_215 .byte (own_bl (0 : Int32) 6) (fun i => .int ((own_by (0 : Int32) (own_ws 1 4 V)) i)) := (((((((As.ext E285).other W286 (Nat.ne_of_lt (Nat.lt_of_lt_of_le As.lt (Nat.le_of_eq g285.symm)))).other W287 (Nat.ne_of_lt (Nat.lt_of_lt_of_le As.lt (Nat.le_of_eq g285.symm)))).keep Kq288 (ninS (Nat.ne_of_lt (Nat.lt_of_lt_of_le As.lt (Nat.le_of_eq g285.symm))) nin0)).keep Kq289 (ninS (Nat.ne_of_lt (Nat.lt_of_lt_of_le As.lt (Nat.le_of_eq g285.symm))) nin0)).keep Kq290 (ninS (Nat.ne_of_lt (Nat.lt_of_lt_of_le As.lt (Nat.le_of_eq g285.symm))) nin0)).keep Kq291 (ninS (Nat.ne_of_lt (Nat.lt_of_lt_of_le As.lt (Nat.le_of_eq g285.symm))) nin0))
      have f297 : Old Z n0 T291.heap := ((((((((q0.keep Kq215 all0).ext E285).wr W286 ge285).wr W287 ge285).keep Kq288 (allS ge285 all0)).keep Kq289 (allS ge285 all0)).keep Kq290 (allS ge285 all0)).keep Kq291 (allS ge285 all0))
      obtain ⟨cq298, kq298, q298a, q298b, q298c⟩ := isOf hZ eq293 (((((((P215_1.ext E285).wr W286).wr W287).keep Kq288).keep Kq289).keep Kq290).keep Kq291)
      obtain ⟨_, _, ⟨T298, L298, k298, n298⟩, -, X298, ⟨Lc298, hQ298, l298, y298, z298⟩, st298⟩ := X293.virtualBack hx (y := own_n6) (z := own_n6) hown (mvT hZ (own_w hw 159 rfl)) (mvT hZ (own_w hw 43 rfl)) (notFace_of_selects (args := #[]) (mvT hZ (own_w hw 45 rfl))) (mvT hZ (own_w hw 45 rfl)) (mvT hZ (own_w hw 44 rfl)) (by decide) (backOf (W := 0) (own_rm7 l Z a0 hw [] r_215 t_215 kt_215 (own_bl (0 : Int32) 6) (own_by (0 : Int32) (own_ws 1 4 V)) G1 T291.heap n0 (Nat.le_trans Z0 K291.1) (((((((P215_1.ext E285).wr W286).wr W287).keep Kq288).keep Kq289).keep Kq290).keep Kq291) f294 f295 f296 f297 q1 hG1) hZ (own_w hw 46 rfl) (own_w hw 20 rfl) (by decide) (by decide)) q298a q298c (g := (mkF m 212 #[oI p0, oR r_215, oJ vv, oS, oI (1 : Int32), oI (4 : Int32), oR b285, oI (2 : Int32), oI (6 : Int32)] [(.ref r_215)])) rfl (by rw [hml]; rfl) (Steps.refl _) (argsL := []) (rest := []) (lenOf own_pd8 rfl) rfl (own_hW rfl) (hb hby at_212) (fun _ _ => ⟨rfl, eq293, (by decide : 10 + 0 ≤ _), (by decide : 143 + 0 ≤ _)⟩)
      dsimp only [Pt.U, Pt.locs, Pt.cells, Pt.slots] at X298 l298 y298 z298 st298 hQ298
      subst y298 z298
      obtain ⟨rfl, N298q, eq298⟩ := hQ298
      have N298 : Fr n0 L298 := by rw [l298]; exact Fr.app N293 N298q
      refine own_tr st298 ?_
      refine own_st (fun t_ k_ => XS.iload X298.here hx rfl (hb hby at_215) rfl (XS.icmpYes X298.here hx rfl (pc0 := 217) (pc' := 222) rfl (hb hby at_217) rfl (teq (by decide : (Int32.ofNat (own_bl (0 : Int32) 6)) = (6 : Int32))).1 (by decide) (by decide) k_)) ?_
      show own_at p e below _ T298 m 222 #[oI p0, oR r_215, oJ vv, oS, oI (1 : Int32), oI (4 : Int32), oR b285, oI (2 : Int32), oI (6 : Int32)] []
      obtain ⟨gg, hgg⟩ : ∃ f_ : Nat → Int32, f_ = (own_upd (own_upd (own_upd (own_upd (own_upd (own_upd (fun _ => (0 : Int32)) 0 (119 : Int32)) 1 (45 : Int32)) 5 (own_dig ((vv / (1 : Int64)) % (36 : Int64)))) 4 (own_dig ((vv / (36 : Int64)) % (36 : Int64)))) 3 (own_dig ((vv / (1296 : Int64)) % (36 : Int64)))) 2 (own_dig ((vv / (46656 : Int64)) % (36 : Int64)))) := ⟨_, rfl⟩
      have Agg : own_A Z T291.heap b285 k285 .char 8 (fun i => .int (gg i)) := by rw [hgg]; exact P291_0
      have eg0 : own_ws 1 4 V 0 = gg 0 := by rw [hgg]; exact rfl.symm
      have eg1 : own_ws 1 4 V 1 = gg 1 := by rw [hgg]; exact rfl.symm
      have eg2 : own_ws 1 4 V 2 = gg 2 := by rw [hgg]; exact (show own_dig ((vv / (46656 : Int64)) % (36 : Int64)) = own_ws 1 4 V 2 from (own_dd hv (by decide : (46656 : Int64).toInt = ((46656 : Nat) : Int)) (by decide)).trans (by unfold own_ws own_tb; rw [if_neg (by decide), if_neg (by decide)])).symm
      have eg3 : own_ws 1 4 V 3 = gg 3 := by rw [hgg]; exact (show own_dig ((vv / (1296 : Int64)) % (36 : Int64)) = own_ws 1 4 V 3 from (own_dd hv (by decide : (1296 : Int64).toInt = ((1296 : Nat) : Int)) (by decide)).trans (by unfold own_ws own_tb; rw [if_neg (by decide), if_neg (by decide)])).symm
      have eg4 : own_ws 1 4 V 4 = gg 4 := by rw [hgg]; exact (show own_dig ((vv / (36 : Int64)) % (36 : Int64)) = own_ws 1 4 V 4 from (own_dd hv (by decide : (36 : Int64).toInt = ((36 : Nat) : Int)) (by decide)).trans (by unfold own_ws own_tb; rw [if_neg (by decide), if_neg (by decide)])).symm
      have eg5 : own_ws 1 4 V 5 = gg 5 := by rw [hgg]; exact (show own_dig ((vv / (1 : Int64)) % (36 : Int64)) = own_ws 1 4 V 5 from (own_dd hv (by decide : (1 : Int64).toInt = ((1 : Nat) : Int)) (by decide)).trans (by unfold own_ws own_tb; rw [if_neg (by decide), if_neg (by decide)])).symm
      refine own_st (fun t_ k_ => XS.aloadN X298.here hx rfl (hb hby at_222) rfl rfl (XS.aload X298.here hx rfl (hb hby at_223) rfl rfl (XS.iload X298.here hx rfl (hb hby at_225) rfl (XS.iconst X298.here hx rfl (hb hby at_227) k_)))) ?_
      show own_at p e below _ T298 m 228 #[oI p0, oR r_215, oJ vv, oS, oI (1 : Int32), oI (4 : Int32), oR b285, oI (2 : Int32), oI (6 : Int32)] [(.int (0 : Int32)), (.int (6 : Int32)), (.ref b285), (.ref r_215)]
      obtain ⟨_, _, ⟨T299, L299, k299, n299⟩, -, X299, ⟨Lc299, hQ299, l299, y299, z299⟩, st299⟩ := Jvm.LawKit.callS X298 hx (y := own_n32) hown (mvT hZ (own_w hw 160 rfl)) (mvT hZ (own_w hw 161 rfl)) (mvT hZ (own_w hw 148 rfl)) (mvT hZ (own_w hw 162 rfl)) (by decide) (backOf (W := 0) (own_rm29y l Z a0 hw [] r_215 b285 (6 : Int32) (0 : Int32) t_215 kt_215 6 (own_ws 1 4 V) k285 gg 0 G1 G3 T291.heap n0 (Nat.le_trans Z0 K291.1) (((((((P215_1.ext E285).wr W286).wr W287).keep Kq288).keep Kq289).keep Kq290).keep Kq291) f294 f295 f296 hcd rfl f297 q1 hG1 q3 rG3 Agg (by decide) (by decide) (by decide) ⟨(own_ws7 _ _ _ _).1, Int.le_trans (own_ws7 _ _ _ _).2 (by decide)⟩ eg0) hZ (own_w hw 162 rfl) (own_w hw 148 rfl) (by decide) (by decide)) (g := (mkF m 228 #[oI p0, oR r_215, oJ vv, oS, oI (1 : Int32), oI (4 : Int32), oR b285, oI (2 : Int32), oI (6 : Int32)] [(.int (0 : Int32)), (.int (6 : Int32)), (.ref b285), (.ref r_215)])) rfl (by rw [hml]; rfl) (argsL := [(.ref r_215), (.ref b285), (.int (6 : Int32)), (.int (0 : Int32))]) (rest := []) (lenOf own_pd26 rfl) rfl (own_hW rfl) (hb hby at_228) (fun _ _ => ⟨rfl, eq298, (by decide : 10 + 0 ≤ _), (by decide : 143 + 0 ≤ _)⟩)
      dsimp only [Pt.U, Pt.locs, Pt.cells, Pt.slots] at X299 l299 y299 z299 st299 hQ299
      subst y299 z299
      obtain ⟨rfl, N299q, eq299⟩ := hQ299
      have N299 : Fr n0 L299 := by rw [l299]; exact Fr.app N298 N299q
      refine own_st (st299) ?_
      refine own_st (fun t_ k_ => XS.ifNo X299.here hx rfl (hb hby at_231) rfl ((if0 _ _).trans (feq (by decide : ¬ ((1 : Int32) = (0 : Int32)))).1) (XS.aloadN X299.here hx rfl (hb hby at_234) rfl rfl (XS.aload X299.here hx rfl (hb hby at_235) rfl rfl (XS.iload X299.here hx rfl (hb hby at_237) rfl (XS.iconst X299.here hx rfl (hb hby at_239) k_))))) ?_
      show own_at p e below _ T299 m 240 #[oI p0, oR r_215, oJ vv, oS, oI (1 : Int32), oI (4 : Int32), oR b285, oI (2 : Int32), oI (6 : Int32)] [(.int (1 : Int32)), (.int (6 : Int32)), (.ref b285), (.ref r_215)]
      obtain ⟨_, _, ⟨T300, L300, k300, n300⟩, -, X300, ⟨Lc300, hQ300, l300, y300, z300⟩, st300⟩ := Jvm.LawKit.callS X299 hx (y := own_n32) hown (mvT hZ (own_w hw 160 rfl)) (mvT hZ (own_w hw 161 rfl)) (mvT hZ (own_w hw 148 rfl)) (mvT hZ (own_w hw 162 rfl)) (by decide) (backOf (W := 0) (own_rm29y l Z a0 hw [] r_215 b285 (6 : Int32) (1 : Int32) t_215 kt_215 6 (own_ws 1 4 V) k285 gg 1 G1 G3 T291.heap n0 (Nat.le_trans Z0 K291.1) (((((((P215_1.ext E285).wr W286).wr W287).keep Kq288).keep Kq289).keep Kq290).keep Kq291) f294 f295 f296 hcd rfl f297 q1 hG1 q3 rG3 Agg (by decide) (by decide) (by decide) ⟨(own_ws7 _ _ _ _).1, Int.le_trans (own_ws7 _ _ _ _).2 (by decide)⟩ eg1) hZ (own_w hw 162 rfl) (own_w hw 148 rfl) (by decide) (by decide)) (g := (mkF m 240 #[oI p0, oR r_215, oJ vv, oS, oI (1 : Int32), oI (4 : Int32), oR b285, oI (2 : Int32), oI (6 : Int32)] [(.int (1 : Int32)), (.int (6 : Int32)), (.ref b285), (.ref r_215)])) rfl (by rw [hml]; rfl) (argsL := [(.ref r_215), (.ref b285), (.int (6 : Int32)), (.int (1 : Int32))]) (rest := []) (lenOf own_pd26 rfl) rfl (own_hW rfl) (hb hby at_240) (fun _ _ => ⟨rfl, eq299, (by decide : 10 + 0 ≤ _), (by decide : 143 + 0 ≤ _)⟩)
      dsimp only [Pt.U, Pt.locs, Pt.cells, Pt.slots] at X300 l300 y300 z300 st300 hQ300
      subst y300 z300
      obtain ⟨rfl, N300q, eq300⟩ := hQ300
      have N300 : Fr n0 L300 := by rw [l300]; exact Fr.app N299 N300q
      refine own_st (st300) ?_
      refine own_st (fun t_ k_ => XS.ifNo X300.here hx rfl (hb hby at_243) rfl ((if0 _ _).trans (feq (by decide : ¬ ((1 : Int32) = (0 : Int32)))).1) (XS.aloadN X300.here hx rfl (hb hby at_246) rfl rfl (XS.aload X300.here hx rfl (hb hby at_247) rfl rfl (XS.iload X300.here hx rfl (hb hby at_249) rfl (XS.iconst X300.here hx rfl (hb hby at_251) k_))))) ?_
      show own_at p e below _ T300 m 252 #[oI p0, oR r_215, oJ vv, oS, oI (1 : Int32), oI (4 : Int32), oR b285, oI (2 : Int32), oI (6 : Int32)] [(.int (2 : Int32)), (.int (6 : Int32)), (.ref b285), (.ref r_215)]
      obtain ⟨_, _, ⟨T301, L301, k301, n301⟩, -, X301, ⟨Lc301, hQ301, l301, y301, z301⟩, st301⟩ := Jvm.LawKit.callS X300 hx (y := own_n32) hown (mvT hZ (own_w hw 160 rfl)) (mvT hZ (own_w hw 161 rfl)) (mvT hZ (own_w hw 148 rfl)) (mvT hZ (own_w hw 162 rfl)) (by decide) (backOf (W := 0) (own_rm29y l Z a0 hw [] r_215 b285 (6 : Int32) (2 : Int32) t_215 kt_215 6 (own_ws 1 4 V) k285 gg 2 G1 G3 T291.heap n0 (Nat.le_trans Z0 K291.1) (((((((P215_1.ext E285).wr W286).wr W287).keep Kq288).keep Kq289).keep Kq290).keep Kq291) f294 f295 f296 hcd rfl f297 q1 hG1 q3 rG3 Agg (by decide) (by decide) (by decide) ⟨(own_ws7 _ _ _ _).1, Int.le_trans (own_ws7 _ _ _ _).2 (by decide)⟩ eg2) hZ (own_w hw 162 rfl) (own_w hw 148 rfl) (by decide) (by decide)) (g := (mkF m 252 #[oI p0, oR r_215, oJ vv, oS, oI (1 : Int32), oI (4 : Int32), oR b285, oI (2 : Int32), oI (6 : Int32)] [(.int (2 : Int32)), (.int (6 : Int32)), (.ref b285), (.ref r_215)])) rfl (by rw [hml]; rfl) (argsL := [(.ref r_215), (.ref b285), (.int (6 : Int32)), (.int (2 : Int32))]) (rest := []) (lenOf own_pd26 rfl) rfl (own_hW rfl) (hb hby at_252) (fun _ _ => ⟨rfl, eq300, (by decide : 10 + 0 ≤ _), (by decide : 143 + 0 ≤ _)⟩)
      dsimp only [Pt.U, Pt.locs, Pt.cells, Pt.slots] at X301 l301 y301 z301 st301 hQ301
      subst y301 z301
      obtain ⟨rfl, N301q, eq301⟩ := hQ301
      have N301 : Fr n0 L301 := by rw [l301]; exact Fr.app N300 N301q
      refine own_st (st301) ?_
      refine own_st (fun t_ k_ => XS.ifNo X301.here hx rfl (hb hby at_255) rfl ((if0 _ _).trans (feq (by decide : ¬ ((1 : Int32) = (0 : Int32)))).1) (XS.aloadN X301.here hx rfl (hb hby at_258) rfl rfl (XS.aload X301.here hx rfl (hb hby at_259) rfl rfl (XS.iload X301.here hx rfl (hb hby at_261) rfl (XS.iconst X301.here hx rfl (hb hby at_263) k_))))) ?_
      show own_at p e below _ T301 m 264 #[oI p0, oR r_215, oJ vv, oS, oI (1 : Int32), oI (4 : Int32), oR b285, oI (2 : Int32), oI (6 : Int32)] [(.int (3 : Int32)), (.int (6 : Int32)), (.ref b285), (.ref r_215)]
      obtain ⟨_, _, ⟨T302, L302, k302, n302⟩, -, X302, ⟨Lc302, hQ302, l302, y302, z302⟩, st302⟩ := Jvm.LawKit.callS X301 hx (y := own_n32) hown (mvT hZ (own_w hw 160 rfl)) (mvT hZ (own_w hw 161 rfl)) (mvT hZ (own_w hw 148 rfl)) (mvT hZ (own_w hw 162 rfl)) (by decide) (backOf (W := 0) (own_rm29y l Z a0 hw [] r_215 b285 (6 : Int32) (3 : Int32) t_215 kt_215 6 (own_ws 1 4 V) k285 gg 3 G1 G3 T291.heap n0 (Nat.le_trans Z0 K291.1) (((((((P215_1.ext E285).wr W286).wr W287).keep Kq288).keep Kq289).keep Kq290).keep Kq291) f294 f295 f296 hcd rfl f297 q1 hG1 q3 rG3 Agg (by decide) (by decide) (by decide) ⟨(own_ws7 _ _ _ _).1, Int.le_trans (own_ws7 _ _ _ _).2 (by decide)⟩ eg3) hZ (own_w hw 162 rfl) (own_w hw 148 rfl) (by decide) (by decide)) (g := (mkF m 264 #[oI p0, oR r_215, oJ vv, oS, oI (1 : Int32), oI (4 : Int32), oR b285, oI (2 : Int32), oI (6 : Int32)] [(.int (3 : Int32)), (.int (6 : Int32)), (.ref b285), (.ref r_215)])) rfl (by rw [hml]; rfl) (argsL := [(.ref r_215), (.ref b285), (.int (6 : Int32)), (.int (3 : Int32))]) (rest := []) (lenOf own_pd26 rfl) rfl (own_hW rfl) (hb hby at_264) (fun _ _ => ⟨rfl, eq301, (by decide : 10 + 0 ≤ _), (by decide : 143 + 0 ≤ _)⟩)
      dsimp only [Pt.U, Pt.locs, Pt.cells, Pt.slots] at X302 l302 y302 z302 st302 hQ302
      subst y302 z302
      obtain ⟨rfl, N302q, eq302⟩ := hQ302
      have N302 : Fr n0 L302 := by rw [l302]; exact Fr.app N301 N302q
      refine own_st (st302) ?_
      refine own_st (fun t_ k_ => XS.ifNo X302.here hx rfl (hb hby at_267) rfl ((if0 _ _).trans (feq (by decide : ¬ ((1 : Int32) = (0 : Int32)))).1) (XS.aloadN X302.here hx rfl (hb hby at_270) rfl rfl (XS.aload X302.here hx rfl (hb hby at_271) rfl rfl (XS.iload X302.here hx rfl (hb hby at_273) rfl (XS.iconst X302.here hx rfl (hb hby at_275) k_))))) ?_
      show own_at p e below _ T302 m 276 #[oI p0, oR r_215, oJ vv, oS, oI (1 : Int32), oI (4 : Int32), oR b285, oI (2 : Int32), oI (6 : Int32)] [(.int (4 : Int32)), (.int (6 : Int32)), (.ref b285), (.ref r_215)]
      obtain ⟨_, _, ⟨T303, L303, k303, n303⟩, -, X303, ⟨Lc303, hQ303, l303, y303, z303⟩, st303⟩ := Jvm.LawKit.callS X302 hx (y := own_n32) hown (mvT hZ (own_w hw 160 rfl)) (mvT hZ (own_w hw 161 rfl)) (mvT hZ (own_w hw 148 rfl)) (mvT hZ (own_w hw 162 rfl)) (by decide) (backOf (W := 0) (own_rm29y l Z a0 hw [] r_215 b285 (6 : Int32) (4 : Int32) t_215 kt_215 6 (own_ws 1 4 V) k285 gg 4 G1 G3 T291.heap n0 (Nat.le_trans Z0 K291.1) (((((((P215_1.ext E285).wr W286).wr W287).keep Kq288).keep Kq289).keep Kq290).keep Kq291) f294 f295 f296 hcd rfl f297 q1 hG1 q3 rG3 Agg (by decide) (by decide) (by decide) ⟨(own_ws7 _ _ _ _).1, Int.le_trans (own_ws7 _ _ _ _).2 (by decide)⟩ eg4) hZ (own_w hw 162 rfl) (own_w hw 148 rfl) (by decide) (by decide)) (g := (mkF m 276 #[oI p0, oR r_215, oJ vv, oS, oI (1 : Int32), oI (4 : Int32), oR b285, oI (2 : Int32), oI (6 : Int32)] [(.int (4 : Int32)), (.int (6 : Int32)), (.ref b285), (.ref r_215)])) rfl (by rw [hml]; rfl) (argsL := [(.ref r_215), (.ref b285), (.int (6 : Int32)), (.int (4 : Int32))]) (rest := []) (lenOf own_pd26 rfl) rfl (own_hW rfl) (hb hby at_276) (fun _ _ => ⟨rfl, eq302, (by decide : 10 + 0 ≤ _), (by decide : 143 + 0 ≤ _)⟩)
      dsimp only [Pt.U, Pt.locs, Pt.cells, Pt.slots] at X303 l303 y303 z303 st303 hQ303
      subst y303 z303
      obtain ⟨rfl, N303q, eq303⟩ := hQ303
      have N303 : Fr n0 L303 := by rw [l303]; exact Fr.app N302 N303q
      refine own_st (st303) ?_
      refine own_st (fun t_ k_ => XS.ifNo X303.here hx rfl (hb hby at_279) rfl ((if0 _ _).trans (feq (by decide : ¬ ((1 : Int32) = (0 : Int32)))).1) (XS.aloadN X303.here hx rfl (hb hby at_282) rfl rfl (XS.aload X303.here hx rfl (hb hby at_283) rfl rfl (XS.iload X303.here hx rfl (hb hby at_285) rfl (XS.iconst X303.here hx rfl (hb hby at_287) k_))))) ?_
      show own_at p e below _ T303 m 288 #[oI p0, oR r_215, oJ vv, oS, oI (1 : Int32), oI (4 : Int32), oR b285, oI (2 : Int32), oI (6 : Int32)] [(.int (5 : Int32)), (.int (6 : Int32)), (.ref b285), (.ref r_215)]
      obtain ⟨_, _, ⟨T304, L304, k304, n304⟩, -, X304, ⟨Lc304, hQ304, l304, y304, z304⟩, st304⟩ := Jvm.LawKit.callS X303 hx (y := own_n32) hown (mvT hZ (own_w hw 160 rfl)) (mvT hZ (own_w hw 161 rfl)) (mvT hZ (own_w hw 148 rfl)) (mvT hZ (own_w hw 162 rfl)) (by decide) (backOf (W := 0) (own_rm29y l Z a0 hw [] r_215 b285 (6 : Int32) (5 : Int32) t_215 kt_215 6 (own_ws 1 4 V) k285 gg 5 G1 G3 T291.heap n0 (Nat.le_trans Z0 K291.1) (((((((P215_1.ext E285).wr W286).wr W287).keep Kq288).keep Kq289).keep Kq290).keep Kq291) f294 f295 f296 hcd rfl f297 q1 hG1 q3 rG3 Agg (by decide) (by decide) (by decide) ⟨(own_ws7 _ _ _ _).1, Int.le_trans (own_ws7 _ _ _ _).2 (by decide)⟩ eg5) hZ (own_w hw 162 rfl) (own_w hw 148 rfl) (by decide) (by decide)) (g := (mkF m 288 #[oI p0, oR r_215, oJ vv, oS, oI (1 : Int32), oI (4 : Int32), oR b285, oI (2 : Int32), oI (6 : Int32)] [(.int (5 : Int32)), (.int (6 : Int32)), (.ref b285), (.ref r_215)])) rfl (by rw [hml]; rfl) (argsL := [(.ref r_215), (.ref b285), (.int (6 : Int32)), (.int (5 : Int32))]) (rest := []) (lenOf own_pd26 rfl) rfl (own_hW rfl) (hb hby at_288) (fun _ _ => ⟨rfl, eq303, (by decide : 10 + 0 ≤ _), (by decide : 143 + 0 ≤ _)⟩)
      dsimp only [Pt.U, Pt.locs, Pt.cells, Pt.slots] at X304 l304 y304 z304 st304 hQ304
      subst y304 z304
      obtain ⟨rfl, N304q, eq304⟩ := hQ304
      have N304 : Fr n0 L304 := by rw [l304]; exact Fr.app N303 N304q
      refine own_st (st304) ?_
      refine own_st (fun t_ k_ => XS.ifNo X304.here hx rfl (hb hby at_291) rfl ((if0 _ _).trans (feq (by decide : ¬ ((1 : Int32) = (0 : Int32)))).1) (XS.aloadN X304.here hx rfl (hb hby at_294) rfl rfl (XS.aload X304.here hx rfl (hb hby at_295) rfl rfl (XS.iload X304.here hx rfl (hb hby at_297) rfl (XS.bipush X304.here hx rfl (hb hby at_299) k_))))) ?_
      show own_at p e below _ T304 m 301 #[oI p0, oR r_215, oJ vv, oS, oI (1 : Int32), oI (4 : Int32), oR b285, oI (2 : Int32), oI (6 : Int32)] [(.int (6 : Int32)), (.int (6 : Int32)), (.ref b285), (.ref r_215)]
      obtain ⟨_, _, ⟨T305, L305, k305, n305⟩, -, X305, ⟨Lc305, hQ305, l305, y305, z305⟩, st305⟩ := Jvm.LawKit.callS X304 hx (y := own_n32) hown (mvT hZ (own_w hw 160 rfl)) (mvT hZ (own_w hw 161 rfl)) (mvT hZ (own_w hw 148 rfl)) (mvT hZ (own_w hw 162 rfl)) (by decide) (backOf (W := 0) (own_rm29n l Z a0 hw [] r_215 b285 (6 : Int32) (6 : Int32) T291.heap n0 (Nat.le_trans Z0 K291.1) (by decide)) hZ (own_w hw 162 rfl) (own_w hw 148 rfl) (by decide) (by decide)) (g := (mkF m 301 #[oI p0, oR r_215, oJ vv, oS, oI (1 : Int32), oI (4 : Int32), oR b285, oI (2 : Int32), oI (6 : Int32)] [(.int (6 : Int32)), (.int (6 : Int32)), (.ref b285), (.ref r_215)])) rfl (by rw [hml]; rfl) (argsL := [(.ref r_215), (.ref b285), (.int (6 : Int32)), (.int (6 : Int32))]) (rest := []) (lenOf own_pd26 rfl) rfl (own_hW rfl) (hb hby at_301) (fun _ _ => ⟨rfl, eq304, (by decide : 10 + 0 ≤ _), (by decide : 143 + 0 ≤ _)⟩)
      dsimp only [Pt.U, Pt.locs, Pt.cells, Pt.slots] at X305 l305 y305 z305 st305 hQ305
      subst y305 z305
      obtain ⟨rfl, N305q, eq305⟩ := hQ305
      have N305 : Fr n0 L305 := by rw [l305]; exact Fr.app N304 N305q
      refine own_st (st305) ?_
      refine own_st (fun t_ k_ => XS.ifNo X305.here hx rfl (hb hby at_304) rfl ((if0 _ _).trans (feq (by decide : ¬ ((1 : Int32) = (0 : Int32)))).1) (XS.aloadN X305.here hx rfl (hb hby at_307) rfl rfl (XS.aload X305.here hx rfl (hb hby at_308) rfl rfl (XS.iload X305.here hx rfl (hb hby at_310) rfl (XS.bipush X305.here hx rfl (hb hby at_312) k_))))) ?_
      show own_at p e below _ T305 m 314 #[oI p0, oR r_215, oJ vv, oS, oI (1 : Int32), oI (4 : Int32), oR b285, oI (2 : Int32), oI (6 : Int32)] [(.int (7 : Int32)), (.int (6 : Int32)), (.ref b285), (.ref r_215)]
      obtain ⟨_, _, ⟨T306, L306, k306, n306⟩, -, X306, ⟨Lc306, hQ306, l306, y306, z306⟩, st306⟩ := Jvm.LawKit.callS X305 hx (y := own_n32) hown (mvT hZ (own_w hw 160 rfl)) (mvT hZ (own_w hw 161 rfl)) (mvT hZ (own_w hw 148 rfl)) (mvT hZ (own_w hw 162 rfl)) (by decide) (backOf (W := 0) (own_rm29n l Z a0 hw [] r_215 b285 (6 : Int32) (7 : Int32) T291.heap n0 (Nat.le_trans Z0 K291.1) (by decide)) hZ (own_w hw 162 rfl) (own_w hw 148 rfl) (by decide) (by decide)) (g := (mkF m 314 #[oI p0, oR r_215, oJ vv, oS, oI (1 : Int32), oI (4 : Int32), oR b285, oI (2 : Int32), oI (6 : Int32)] [(.int (7 : Int32)), (.int (6 : Int32)), (.ref b285), (.ref r_215)])) rfl (by rw [hml]; rfl) (argsL := [(.ref r_215), (.ref b285), (.int (6 : Int32)), (.int (7 : Int32))]) (rest := []) (lenOf own_pd26 rfl) rfl (own_hW rfl) (hb hby at_314) (fun _ _ => ⟨rfl, eq305, (by decide : 10 + 0 ≤ _), (by decide : 143 + 0 ≤ _)⟩)
      dsimp only [Pt.U, Pt.locs, Pt.cells, Pt.slots] at X306 l306 y306 z306 st306 hQ306
      subst y306 z306
      obtain ⟨rfl, N306q, eq306⟩ := hQ306
      have N306 : Fr n0 L306 := by rw [l306]; exact Fr.app N305 N306q
      refine own_st (st306) ?_
      refine own_st (fun t_ k_ => XS.ifNo X306.here hx rfl (hb hby at_317) rfl ((if0 _ _).trans (feq (by decide : ¬ ((1 : Int32) = (0 : Int32)))).1) (XS.iconst X306.here hx rfl (hb hby at_320) (XS.goto X306.here hx rfl (pc0 := 321) (pc' := 325) rfl (hb hby at_321) (by decide) (by decide) k_))) ?_
      show own_at p e below _ T306 m 325 #[oI p0, oR r_215, oJ vv, oS, oI (1 : Int32), oI (4 : Int32), oR b285, oI (2 : Int32), oI (6 : Int32)] [(.int (1 : Int32))]
      exact own_retW (w := (.int (1 : Int32))) X306 hx hnl hZ (own_hEL hw) S215 (by rw [eq306]; exact kk291) (by rw [eq306]; exact C291) Bd.returns rfl (Or.inl ⟨rfl, by decide, _, rfl⟩) (hb hby at_325) ⟨rfl, N306, (by rw [eq306]; exact K291)⟩ (by decide) (by decide)
    have z4 : (1679616 : Int64).toInt = 1679616 := by decide
    have hb4 := mt (lw_lt _ _).mpr c70_284
    rw [Int64.lt_iff_toInt_lt, hv, z4] at hb4
    refine own_st (fun t_ k_ => XS.ifYes X215.here hx rfl (pc0 := 70) (pc' := 77) rfl (hb hby at_70) rfl ((if0 _ _).trans (flt c70_284).2.1) (by decide) (by decide) (XS.lloadN X215.here hx rfl (hb hby at_77) rfl k_)) ?_
    show own_at p e below _ T215 m 78 #[oI p0, oR r_215, oJ vv, oS, oI (1 : Int32), oU, oU, oU, oU] [(.long vv)]
    refine own_st (X215.ldc2Long hx hown (mvT hZ (own_w hw 158 rfl)) (g := (mkF m 78 #[oI p0, oR r_215, oJ vv, oS, oI (1 : Int32), oU, oU, oU, oU] [(.long vv)])) rfl (hb hby at_78)) ?_
    refine own_st (fun t_ k_ => XS.lcmp X215.here hx rfl (hb hby at_81) rfl k_) ?_
    show own_at p e below _ T215 m 82 #[oI p0, oR r_215, oJ vv, oS, oI (1 : Int32), oU, oU, oU, oU] [(.int (lcmpW vv (60466176 : Int64)))]
    by_cases c82_307 : (lcmpW vv (60466176 : Int64)) < (0 : Int32)
    · skip
      have z5 : (60466176 : Int64).toInt = 60466176 := by decide
      have hb5 := (lw_lt _ _).mp c82_307
      rw [Int64.lt_iff_toInt_lt, hv, z5] at hb5
      refine own_st (fun t_ k_ => XS.ifNo X215.here hx rfl (hb hby at_82) rfl ((if0 _ _).trans (tlt c82_307).2.1) (XS.iconst X215.here hx rfl (hb hby at_85) (XS.goto X215.here hx rfl (pc0 := 86) (pc' := 91) rfl (hb hby at_86) (by decide) (by decide) (XS.istore X215.here hx rfl (hb hby at_91) rfl (l' := #[oI p0, oR r_215, oJ vv, oS, oI (1 : Int32), oI (5 : Int32), oU, oU, oU]) rfl k_)))) ?_
      show own_at p e below _ T215 m 93 #[oI p0, oR r_215, oJ vv, oS, oI (1 : Int32), oI (5 : Int32), oU, oU, oU] []
      have en : n_215 = 5 := own_nn6 hdn.1 hdn.2.2.1 hdn.2.2.2 (by decide) (by have q_ : 36 ^ 5 = 60466176 := (by decide); omega) (by first | exact Or.inl rfl | exact Or.inr (by have q_ : 36 ^ (5 - 1) = 1679616 := (by decide); omega))
      have As : own_A Z T215.heap t_215 kt_215 .byte (own_bl (0 : Int32) 7) (fun i => .int ((own_by (0 : Int32) (own_ws 1 5 V)) i)) := by have z_ := P215_4; rw [en, hsg, ← hV] at z_; exact z_
      have hcd : ((0 : Int32) = 0 ∧ ∀ q : Nat, q < 7 → ¬ (255 : Int32) < (own_ws 1 5 V) q) ∨ (0 : Int32) = 1 := Or.inl ⟨rfl, fun q _ => own_lat7 (own_ws7 _ _ _ q)⟩
      refine own_st (fun t_ k_ => XS.bipush X215.here hx rfl (hb hby at_93) k_) ?_
      show own_at p e below _ T215 m 95 #[oI p0, oR r_215, oJ vv, oS, oI (1 : Int32), oI (5 : Int32), oU, oU, oU] [(.int (8 : Int32))]
      obtain ⟨T308, h308, k308, X308, e308, E308, A308, st308⟩ := newP X215 hx hZ (own_w hw 145 rfl) rfl (g := (mkF m 95 #[oI p0, oR r_215, oJ vv, oS, oI (1 : Int32), oI (5 : Int32), oU, oU, oU] [(.int (8 : Int32))])) rfl (hb hby at_95) rfl (by decide) (cap := 8) (by decide) (by decide) (by decide) (by decide)
      obtain ⟨b308, g308⟩ : ∃ z, z = T215.heap.size := ⟨_, rfl⟩
      rw [← g308] at A308 st308
      have fr308 : h0.size ≤ b308 := Nat.le_trans K215.1 (Nat.le_of_eq g308.symm)
      have ge308 : n0 ≤ b308 := Nat.le_trans Z0 fr308
      have K308 : Keep h0 h308 [] := K215.ext E308
      have c308 : CHr Z own_EL _ T215.heap _ h308 := CHr.ext E308 C215.1
      have C308 := C215.trans c308
      have kk308 := Nat.le_trans kk215 c308.2.1
      have Sf308_b308 : Safe Z own_EL _ h308 b308 := Safe.ext E308 C215.1 (Safe.new (Nat.le_of_eq g308.symm))
      have Ar308 : own_A Z h308 b308 k308 .char 8 (fun i => .int ((fun _ => (0 : Int32)) i)) := own_A.new A308 rfl (by decide)
      refine own_st (st308) ?_
      refine own_st (fun t_ k_ => XS.astore X308.here hx rfl (hb hby at_97) rfl rfl (l' := #[oI p0, oR r_215, oJ vv, oS, oI (1 : Int32), oI (5 : Int32), oR b308, oU, oU]) rfl (XS.aload X308.here hx rfl (hb hby at_99) rfl rfl (XS.iconst X308.here hx rfl (hb hby at_101) (XS.bipush X308.here hx rfl (hb hby at_102) k_)))) ?_
      show own_at p e below _ T308 m 104 #[oI p0, oR r_215, oJ vv, oS, oI (1 : Int32), oI (5 : Int32), oR b308, oU, oU] [(.int (119 : Int32)), (.int (0 : Int32)), (.ref b308)]
      obtain ⟨T309, h309, X309, e309, W309, Aw309, st309⟩ := own_castore X308 hx hZ e308 Ar308 (i := 0) (by decide) (by decide) rfl (v' := (119 : Int32)) (g := (mkF m 104 #[oI p0, oR r_215, oJ vv, oS, oI (1 : Int32), oI (5 : Int32), oR b308, oU, oU] [(.int (119 : Int32)), (.int (0 : Int32)), (.ref b308)])) rfl rfl (hb hby at_104)
      have N309 := Fr.snoc X309 N215 ge308
      have K309 : Keep h0 h309 [] := K308.wr W309 (Or.inr fr308)
      have c309 : CHr Z own_EL _ h308 _ h309 := CHr.wr W309 (own_safeA hZ.alike Ar308 (by decide)) C308.1
      have C309 := C308.trans c309
      have kk309 := Nat.le_trans kk308 c309.2.1
      refine own_st (st309) ?_
      refine own_st (fun t_ k_ => XS.iconst X309.here hx rfl (hb hby at_105) (XS.istore X309.here hx rfl (hb hby at_106) rfl (l' := #[oI p0, oR r_215, oJ vv, oS, oI (1 : Int32), oI (5 : Int32), oR b308, oI (1 : Int32), oU]) rfl (XS.iload X309.here hx rfl (hb hby at_108) rfl (XS.ifNo X309.here hx rfl (hb hby at_110) rfl ((if0 _ _).trans (feq (by decide : ¬ ((1 : Int32) = (0 : Int32)))).1) (XS.aload X309.here hx rfl (hb hby at_113) rfl rfl (XS.iconst X309.here hx rfl (hb hby at_115) k_)))))) ?_
      show own_at p e below _ T309 m 116 #[oI p0, oR r_215, oJ vv, oS, oI (1 : Int32), oI (5 : Int32), oR b308, oI (1 : Int32), oU] [(.int (1 : Int32)), (.ref b308)]
      refine own_st (fun t_ k_ => XS.bipush X309.here hx rfl (hb hby at_116) k_) ?_
      show own_at p e below _ T309 m 118 #[oI p0, oR r_215, oJ vv, oS, oI (1 : Int32), oI (5 : Int32), oR b308, oI (1 : Int32), oU] [(.int (45 : Int32)), (.int (1 : Int32)), (.ref b308)]
      obtain ⟨T310, h310, X310, e310, W310, Aw310, st310⟩ := own_castore X309 hx hZ e309 Aw309 (i := 1) (by decide) (by decide) rfl (v' := (45 : Int32)) (g := (mkF m 118 #[oI p0, oR r_215, oJ vv, oS, oI (1 : Int32), oI (5 : Int32), oR b308, oI (1 : Int32), oU] [(.int (45 : Int32)), (.int (1 : Int32)), (.ref b308)])) rfl rfl (hb hby at_118)
      have N310 := Fr.snoc X310 N309 ge308
      have K310 : Keep h0 h310 [] := K309.wr W310 (Or.inr fr308)
      have c310 : CHr Z own_EL _ h309 _ h310 := CHr.wr W310 (own_safeA hZ.alike Aw309 (by decide)) C309.1
      have C310 := C309.trans c310
      have kk310 := Nat.le_trans kk309 c310.2.1
      refine own_st (st310) ?_
      refine own_st (fun t_ k_ => XS.iconst X310.here hx rfl (hb hby at_119) (XS.istore X310.here hx rfl (hb hby at_120) rfl (l' := #[oI p0, oR r_215, oJ vv, oS, oI (1 : Int32), oI (5 : Int32), oR b308, oI (2 : Int32), oU]) rfl (XS.aload X310.here hx rfl (hb hby at_122) rfl rfl (XS.iload X310.here hx rfl (hb hby at_124) rfl (XS.iload X310.here hx rfl (hb hby at_126) rfl (XS.iconst X310.here hx rfl (hb hby at_128) k_)))))) ?_
      show own_at p e below _ T310 m 129 #[oI p0, oR r_215, oJ vv, oS, oI (1 : Int32), oI (5 : Int32), oR b308, oI (2 : Int32), oU] [(.int (0 : Int32)), (.int (5 : Int32)), (.int (2 : Int32)), (.ref b308)]
      refine own_st (fun t_ k_ => XS.lloadN X310.here hx rfl (hb hby at_129) rfl (XS.lconst X310.here hx rfl (hb hby at_130) k_)) ?_
      show own_at p e below _ T310 m 131 #[oI p0, oR r_215, oJ vv, oS, oI (1 : Int32), oI (5 : Int32), oR b308, oI (2 : Int32), oU] [(.long (1 : Int64)), (.long vv), (.int (0 : Int32)), (.int (5 : Int32)), (.int (2 : Int32)), (.ref b308)]
      obtain ⟨_, _, ⟨T311, L311, k311, n311⟩, -, X311, ⟨Lc311, hQ311, l311, y311, z311⟩, st311⟩ := Jvm.LawKit.callS X310 hx (y := own_n31) hown (mvT hZ (own_w hw 146 rfl)) (mvT hZ (own_w hw 147 rfl)) (mvT hZ (own_w hw 148 rfl)) (mvT hZ (own_w hw 149 rfl)) (by decide) (backOf (W := 0) (own_rm27y l Z a0 hw [] b308 (2 : Int32) (5 : Int32) (0 : Int32) vv (1 : Int64) k308 (own_upd (own_upd (fun _ => (0 : Int32)) 0 (119 : Int32)) 1 (45 : Int32)) 6 h310 n0 (Nat.le_trans Z0 K310.1) Aw310 ge308 (by decide) (by decide) (by decide)) hZ (own_w hw 149 rfl) (own_w hw 148 rfl) (by decide) (by decide)) (g := (mkF m 131 #[oI p0, oR r_215, oJ vv, oS, oI (1 : Int32), oI (5 : Int32), oR b308, oI (2 : Int32), oU] [(.long (1 : Int64)), (.long vv), (.int (0 : Int32)), (.int (5 : Int32)), (.int (2 : Int32)), (.ref b308)])) rfl (by rw [hml]; rfl) (argsL := [(.ref b308), (.int (2 : Int32)), (.int (5 : Int32)), (.int (0 : Int32)), (.long vv), (.long (1 : Int64))]) (rest := []) (lenOf own_pd25 rfl) rfl (own_hW rfl) (hb hby at_131) (fun _ _ => ⟨rfl, e310, (by decide : 10 + 0 ≤ _), (by decide : 143 + 0 ≤ _)⟩)
      dsimp only [Pt.U, Pt.locs, Pt.cells, Pt.slots] at X311 l311 y311 z311 st311 hQ311
      subst y311 z311
      obtain ⟨rfl, N311q, Kq311, P311_0⟩ := hQ311
      have N311 : Fr n0 L311 := by rw [l311]; exact Fr.app N310 N311q
      have K311 : Keep h0 T311.heap [] := K310.trans Kq311 (allS (P := fun x => x ∈ [] ∨ h0.size ≤ x) (Or.inr fr308) all0)
      have c311 : CHr Z own_EL _ h310 _ T311.heap := CHr.keep Kq311 (own_slS (own_safeA hZ.alike Aw310 (by decide)) own_sl0) C310.1
      have C311 := C310.trans c311
      have kk311 := Nat.le_trans kk310 c311.2.1
      refine own_st (st311) ?_
      refine own_st (fun t_ k_ => XS.aload X311.here hx rfl (hb hby at_134) rfl rfl (XS.iload X311.here hx rfl (hb hby at_136) rfl (XS.iload X311.here hx rfl (hb hby at_138) rfl (XS.iconst X311.here hx rfl (hb hby at_140) (XS.lloadN X311.here hx rfl (hb hby at_141) rfl k_))))) ?_
      show own_at p e below _ T311 m 142 #[oI p0, oR r_215, oJ vv, oS, oI (1 : Int32), oI (5 : Int32), oR b308, oI (2 : Int32), oU] [(.long vv), (.int (1 : Int32)), (.int (5 : Int32)), (.int (2 : Int32)), (.ref b308)]
      refine own_st (X311.ldc2Long hx hown (mvT hZ (own_w hw 144 rfl)) (g := (mkF m 142 #[oI p0, oR r_215, oJ vv, oS, oI (1 : Int32), oI (5 : Int32), oR b308, oI (2 : Int32), oU] [(.long vv), (.int (1 : Int32)), (.int (5 : Int32)), (.int (2 : Int32)), (.ref b308)])) rfl (hb hby at_142)) ?_
      show own_at p e below _ T311 m 145 #[oI p0, oR r_215, oJ vv, oS, oI (1 : Int32), oI (5 : Int32), oR b308, oI (2 : Int32), oU] [(.long (36 : Int64)), (.long vv), (.int (1 : Int32)), (.int (5 : Int32)), (.int (2 : Int32)), (.ref b308)]
      obtain ⟨_, _, ⟨T312, L312, k312, n312⟩, -, X312, ⟨Lc312, hQ312, l312, y312, z312⟩, st312⟩ := Jvm.LawKit.callS X311 hx (y := own_n31) hown (mvT hZ (own_w hw 146 rfl)) (mvT hZ (own_w hw 147 rfl)) (mvT hZ (own_w hw 148 rfl)) (mvT hZ (own_w hw 149 rfl)) (by decide) (backOf (W := 0) (own_rm27y l Z a0 hw [] b308 (2 : Int32) (5 : Int32) (1 : Int32) vv (36 : Int64) k308 (own_upd (own_upd (own_upd (fun _ => (0 : Int32)) 0 (119 : Int32)) 1 (45 : Int32)) 6 (own_dig ((vv / (1 : Int64)) % (36 : Int64)))) 5 T311.heap n0 (Nat.le_trans Z0 K311.1) P311_0 ge308 (by decide) (by decide) (by decide)) hZ (own_w hw 149 rfl) (own_w hw 148 rfl) (by decide) (by decide)) (g := (mkF m 145 #[oI p0, oR r_215, oJ vv, oS, oI (1 : Int32), oI (5 : Int32), oR b308, oI (2 : Int32), oU] [(.long (36 : Int64)), (.long vv), (.int (1 : Int32)), (.int (5 : Int32)), (.int (2 : Int32)), (.ref b308)])) rfl (by rw [hml]; rfl) (argsL := [(.ref b308), (.int (2 : Int32)), (.int (5 : Int32)), (.int (1 : Int32)), (.long vv), (.long (36 : Int64))]) (rest := []) (lenOf own_pd25 rfl) rfl (own_hW rfl) (hb hby at_145) (fun _ _ => ⟨rfl, rfl, (by decide : 10 + 0 ≤ _), (by decide : 143 + 0 ≤ _)⟩)
      dsimp only [Pt.U, Pt.locs, Pt.cells, Pt.slots] at X312 l312 y312 z312 st312 hQ312
      subst y312 z312
      obtain ⟨rfl, N312q, Kq312, P312_0⟩ := hQ312
      have N312 : Fr n0 L312 := by rw [l312]; exact Fr.app N311 N312q
      have K312 : Keep h0 T312.heap [] := K311.trans Kq312 (allS (P := fun x => x ∈ [] ∨ h0.size ≤ x) (Or.inr fr308) all0)
      have c312 : CHr Z own_EL _ T311.heap _ T312.heap := CHr.keep Kq312 (own_slS (own_safeA hZ.alike P311_0 (by decide)) own_sl0) C311.1
      have C312 := C311.trans c312
      have kk312 := Nat.le_trans kk311 c312.2.1
      refine own_st (st312) ?_
      refine own_st (fun t_ k_ => XS.aload X312.here hx rfl (hb hby at_148) rfl rfl (XS.iload X312.here hx rfl (hb hby at_150) rfl (XS.iload X312.here hx rfl (hb hby at_152) rfl (XS.iconst X312.here hx rfl (hb hby at_154) (XS.lloadN X312.here hx rfl (hb hby at_155) rfl k_))))) ?_
      show own_at p e below _ T312 m 156 #[oI p0, oR r_215, oJ vv, oS, oI (1 : Int32), oI (5 : Int32), oR b308, oI (2 : Int32), oU] [(.long vv), (.int (2 : Int32)), (.int (5 : Int32)), (.int (2 : Int32)), (.ref b308)]
      refine own_st (X312.ldc2Long hx hown (mvT hZ (own_w hw 155 rfl)) (g := (mkF m 156 #[oI p0, oR r_215, oJ vv, oS, oI (1 : Int32), oI (5 : Int32), oR b308, oI (2 : Int32), oU] [(.long vv), (.int (2 : Int32)), (.int (5 : Int32)), (.int (2 : Int32)), (.ref b308)])) rfl (hb hby at_156)) ?_
      show own_at p e below _ T312 m 159 #[oI p0, oR r_215, oJ vv, oS, oI (1 : Int32), oI (5 : Int32), oR b308, oI (2 : Int32), oU] [(.long (1296 : Int64)), (.long vv), (.int (2 : Int32)), (.int (5 : Int32)), (.int (2 : Int32)), (.ref b308)]
      obtain ⟨_, _, ⟨T313, L313, k313, n313⟩, -, X313, ⟨Lc313, hQ313, l313, y313, z313⟩, st313⟩ := Jvm.LawKit.callS X312 hx (y := own_n31) hown (mvT hZ (own_w hw 146 rfl)) (mvT hZ (own_w hw 147 rfl)) (mvT hZ (own_w hw 148 rfl)) (mvT hZ (own_w hw 149 rfl)) (by decide) (backOf (W := 0) (own_rm27y l Z a0 hw [] b308 (2 : Int32) (5 : Int32) (2 : Int32) vv (1296 : Int64) k308 (own_upd (own_upd (own_upd (own_upd (fun _ => (0 : Int32)) 0 (119 : Int32)) 1 (45 : Int32)) 6 (own_dig ((vv / (1 : Int64)) % (36 : Int64)))) 5 (own_dig ((vv / (36 : Int64)) % (36 : Int64)))) 4 T312.heap n0 (Nat.le_trans Z0 K312.1) P312_0 ge308 (by decide) (by decide) (by decide)) hZ (own_w hw 149 rfl) (own_w hw 148 rfl) (by decide) (by decide)) (g := (mkF m 159 #[oI p0, oR r_215, oJ vv, oS, oI (1 : Int32), oI (5 : Int32), oR b308, oI (2 : Int32), oU] [(.long (1296 : Int64)), (.long vv), (.int (2 : Int32)), (.int (5 : Int32)), (.int (2 : Int32)), (.ref b308)])) rfl (by rw [hml]; rfl) (argsL := [(.ref b308), (.int (2 : Int32)), (.int (5 : Int32)), (.int (2 : Int32)), (.long vv), (.long (1296 : Int64))]) (rest := []) (lenOf own_pd25 rfl) rfl (own_hW rfl) (hb hby at_159) (fun _ _ => ⟨rfl, rfl, (by decide : 10 + 0 ≤ _), (by decide : 143 + 0 ≤ _)⟩)
      dsimp only [Pt.U, Pt.locs, Pt.cells, Pt.slots] at X313 l313 y313 z313 st313 hQ313
      subst y313 z313
      obtain ⟨rfl, N313q, Kq313, P313_0⟩ := hQ313
      have N313 : Fr n0 L313 := by rw [l313]; exact Fr.app N312 N313q
      have K313 : Keep h0 T313.heap [] := K312.trans Kq313 (allS (P := fun x => x ∈ [] ∨ h0.size ≤ x) (Or.inr fr308) all0)
      have c313 : CHr Z own_EL _ T312.heap _ T313.heap := CHr.keep Kq313 (own_slS (own_safeA hZ.alike P312_0 (by decide)) own_sl0) C312.1
      have C313 := C312.trans c313
      have kk313 := Nat.le_trans kk312 c313.2.1
      refine own_st (st313) ?_
      refine own_st (fun t_ k_ => XS.aload X313.here hx rfl (hb hby at_162) rfl rfl (XS.iload X313.here hx rfl (hb hby at_164) rfl (XS.iload X313.here hx rfl (hb hby at_166) rfl (XS.iconst X313.here hx rfl (hb hby at_168) (XS.lloadN X313.here hx rfl (hb hby at_169) rfl k_))))) ?_
      show own_at p e below _ T313 m 170 #[oI p0, oR r_215, oJ vv, oS, oI (1 : Int32), oI (5 : Int32), oR b308, oI (2 : Int32), oU] [(.long vv), (.int (3 : Int32)), (.int (5 : Int32)), (.int (2 : Int32)), (.ref b308)]
      refine own_st (X313.ldc2Long hx hown (mvT hZ (own_w hw 156 rfl)) (g := (mkF m 170 #[oI p0, oR r_215, oJ vv, oS, oI (1 : Int32), oI (5 : Int32), oR b308, oI (2 : Int32), oU] [(.long vv), (.int (3 : Int32)), (.int (5 : Int32)), (.int (2 : Int32)), (.ref b308)])) rfl (hb hby at_170)) ?_
      show own_at p e below _ T313 m 173 #[oI p0, oR r_215, oJ vv, oS, oI (1 : Int32), oI (5 : Int32), oR b308, oI (2 : Int32), oU] [(.long (46656 : Int64)), (.long vv), (.int (3 : Int32)), (.int (5 : Int32)), (.int (2 : Int32)), (.ref b308)]
      obtain ⟨_, _, ⟨T314, L314, k314, n314⟩, -, X314, ⟨Lc314, hQ314, l314, y314, z314⟩, st314⟩ := Jvm.LawKit.callS X313 hx (y := own_n31) hown (mvT hZ (own_w hw 146 rfl)) (mvT hZ (own_w hw 147 rfl)) (mvT hZ (own_w hw 148 rfl)) (mvT hZ (own_w hw 149 rfl)) (by decide) (backOf (W := 0) (own_rm27y l Z a0 hw [] b308 (2 : Int32) (5 : Int32) (3 : Int32) vv (46656 : Int64) k308 (own_upd (own_upd (own_upd (own_upd (own_upd (fun _ => (0 : Int32)) 0 (119 : Int32)) 1 (45 : Int32)) 6 (own_dig ((vv / (1 : Int64)) % (36 : Int64)))) 5 (own_dig ((vv / (36 : Int64)) % (36 : Int64)))) 4 (own_dig ((vv / (1296 : Int64)) % (36 : Int64)))) 3 T313.heap n0 (Nat.le_trans Z0 K313.1) P313_0 ge308 (by decide) (by decide) (by decide)) hZ (own_w hw 149 rfl) (own_w hw 148 rfl) (by decide) (by decide)) (g := (mkF m 173 #[oI p0, oR r_215, oJ vv, oS, oI (1 : Int32), oI (5 : Int32), oR b308, oI (2 : Int32), oU] [(.long (46656 : Int64)), (.long vv), (.int (3 : Int32)), (.int (5 : Int32)), (.int (2 : Int32)), (.ref b308)])) rfl (by rw [hml]; rfl) (argsL := [(.ref b308), (.int (2 : Int32)), (.int (5 : Int32)), (.int (3 : Int32)), (.long vv), (.long (46656 : Int64))]) (rest := []) (lenOf own_pd25 rfl) rfl (own_hW rfl) (hb hby at_173) (fun _ _ => ⟨rfl, rfl, (by decide : 10 + 0 ≤ _), (by decide : 143 + 0 ≤ _)⟩)
      dsimp only [Pt.U, Pt.locs, Pt.cells, Pt.slots] at X314 l314 y314 z314 st314 hQ314
      subst y314 z314
      obtain ⟨rfl, N314q, Kq314, P314_0⟩ := hQ314
      have N314 : Fr n0 L314 := by rw [l314]; exact Fr.app N313 N314q
      have K314 : Keep h0 T314.heap [] := K313.trans Kq314 (allS (P := fun x => x ∈ [] ∨ h0.size ≤ x) (Or.inr fr308) all0)
      have c314 : CHr Z own_EL _ T313.heap _ T314.heap := CHr.keep Kq314 (own_slS (own_safeA hZ.alike P313_0 (by decide)) own_sl0) C313.1
      have C314 := C313.trans c314
      have kk314 := Nat.le_trans kk313 c314.2.1
      refine own_st (st314) ?_
      refine own_st (fun t_ k_ => XS.aload X314.here hx rfl (hb hby at_176) rfl rfl (XS.iload X314.here hx rfl (hb hby at_178) rfl (XS.iload X314.here hx rfl (hb hby at_180) rfl (XS.iconst X314.here hx rfl (hb hby at_182) (XS.lloadN X314.here hx rfl (hb hby at_183) rfl k_))))) ?_
      show own_at p e below _ T314 m 184 #[oI p0, oR r_215, oJ vv, oS, oI (1 : Int32), oI (5 : Int32), oR b308, oI (2 : Int32), oU] [(.long vv), (.int (4 : Int32)), (.int (5 : Int32)), (.int (2 : Int32)), (.ref b308)]
      refine own_st (X314.ldc2Long hx hown (mvT hZ (own_w hw 157 rfl)) (g := (mkF m 184 #[oI p0, oR r_215, oJ vv, oS, oI (1 : Int32), oI (5 : Int32), oR b308, oI (2 : Int32), oU] [(.long vv), (.int (4 : Int32)), (.int (5 : Int32)), (.int (2 : Int32)), (.ref b308)])) rfl (hb hby at_184)) ?_
      show own_at p e below _ T314 m 187 #[oI p0, oR r_215, oJ vv, oS, oI (1 : Int32), oI (5 : Int32), oR b308, oI (2 : Int32), oU] [(.long (1679616 : Int64)), (.long vv), (.int (4 : Int32)), (.int (5 : Int32)), (.int (2 : Int32)), (.ref b308)]
      obtain ⟨_, _, ⟨T315, L315, k315, n315⟩, -, X315, ⟨Lc315, hQ315, l315, y315, z315⟩, st315⟩ := Jvm.LawKit.callS X314 hx (y := own_n31) hown (mvT hZ (own_w hw 146 rfl)) (mvT hZ (own_w hw 147 rfl)) (mvT hZ (own_w hw 148 rfl)) (mvT hZ (own_w hw 149 rfl)) (by decide) (backOf (W := 0) (own_rm27y l Z a0 hw [] b308 (2 : Int32) (5 : Int32) (4 : Int32) vv (1679616 : Int64) k308 (own_upd (own_upd (own_upd (own_upd (own_upd (own_upd (fun _ => (0 : Int32)) 0 (119 : Int32)) 1 (45 : Int32)) 6 (own_dig ((vv / (1 : Int64)) % (36 : Int64)))) 5 (own_dig ((vv / (36 : Int64)) % (36 : Int64)))) 4 (own_dig ((vv / (1296 : Int64)) % (36 : Int64)))) 3 (own_dig ((vv / (46656 : Int64)) % (36 : Int64)))) 2 T314.heap n0 (Nat.le_trans Z0 K314.1) P314_0 ge308 (by decide) (by decide) (by decide)) hZ (own_w hw 149 rfl) (own_w hw 148 rfl) (by decide) (by decide)) (g := (mkF m 187 #[oI p0, oR r_215, oJ vv, oS, oI (1 : Int32), oI (5 : Int32), oR b308, oI (2 : Int32), oU] [(.long (1679616 : Int64)), (.long vv), (.int (4 : Int32)), (.int (5 : Int32)), (.int (2 : Int32)), (.ref b308)])) rfl (by rw [hml]; rfl) (argsL := [(.ref b308), (.int (2 : Int32)), (.int (5 : Int32)), (.int (4 : Int32)), (.long vv), (.long (1679616 : Int64))]) (rest := []) (lenOf own_pd25 rfl) rfl (own_hW rfl) (hb hby at_187) (fun _ _ => ⟨rfl, rfl, (by decide : 10 + 0 ≤ _), (by decide : 143 + 0 ≤ _)⟩)
      dsimp only [Pt.U, Pt.locs, Pt.cells, Pt.slots] at X315 l315 y315 z315 st315 hQ315
      subst y315 z315
      obtain ⟨rfl, N315q, Kq315, P315_0⟩ := hQ315
      have N315 : Fr n0 L315 := by rw [l315]; exact Fr.app N314 N315q
      have K315 : Keep h0 T315.heap [] := K314.trans Kq315 (allS (P := fun x => x ∈ [] ∨ h0.size ≤ x) (Or.inr fr308) all0)
      have c315 : CHr Z own_EL _ T314.heap _ T315.heap := CHr.keep Kq315 (own_slS (own_safeA hZ.alike P314_0 (by decide)) own_sl0) C314.1
      have C315 := C314.trans c315
      have kk315 := Nat.le_trans kk314 c315.2.1
      refine own_st (st315) ?_
      refine own_st (fun t_ k_ => XS.aload X315.here hx rfl (hb hby at_190) rfl rfl (XS.iload X315.here hx rfl (hb hby at_192) rfl (XS.iload X315.here hx rfl (hb hby at_194) rfl (XS.iconst X315.here hx rfl (hb hby at_196) (XS.lloadN X315.here hx rfl (hb hby at_197) rfl k_))))) ?_
      show own_at p e below _ T315 m 198 #[oI p0, oR r_215, oJ vv, oS, oI (1 : Int32), oI (5 : Int32), oR b308, oI (2 : Int32), oU] [(.long vv), (.int (5 : Int32)), (.int (5 : Int32)), (.int (2 : Int32)), (.ref b308)]
      refine own_st (X315.ldc2Long hx hown (mvT hZ (own_w hw 158 rfl)) (g := (mkF m 198 #[oI p0, oR r_215, oJ vv, oS, oI (1 : Int32), oI (5 : Int32), oR b308, oI (2 : Int32), oU] [(.long vv), (.int (5 : Int32)), (.int (5 : Int32)), (.int (2 : Int32)), (.ref b308)])) rfl (hb hby at_198)) ?_
      show own_at p e below _ T315 m 201 #[oI p0, oR r_215, oJ vv, oS, oI (1 : Int32), oI (5 : Int32), oR b308, oI (2 : Int32), oU] [(.long (60466176 : Int64)), (.long vv), (.int (5 : Int32)), (.int (5 : Int32)), (.int (2 : Int32)), (.ref b308)]
      obtain ⟨_, _, ⟨T316, L316, k316, n316⟩, -, X316, ⟨Lc316, hQ316, l316, y316, z316⟩, st316⟩ := Jvm.LawKit.callS X315 hx (y := own_n31) hown (mvT hZ (own_w hw 146 rfl)) (mvT hZ (own_w hw 147 rfl)) (mvT hZ (own_w hw 148 rfl)) (mvT hZ (own_w hw 149 rfl)) (by decide) (backOf (W := 0) (own_rm27n l Z a0 hw [] b308 (2 : Int32) (5 : Int32) (5 : Int32) vv (60466176 : Int64) T315.heap n0 (Nat.le_trans Z0 K315.1) (by decide)) hZ (own_w hw 149 rfl) (own_w hw 148 rfl) (by decide) (by decide)) (g := (mkF m 201 #[oI p0, oR r_215, oJ vv, oS, oI (1 : Int32), oI (5 : Int32), oR b308, oI (2 : Int32), oU] [(.long (60466176 : Int64)), (.long vv), (.int (5 : Int32)), (.int (5 : Int32)), (.int (2 : Int32)), (.ref b308)])) rfl (by rw [hml]; rfl) (argsL := [(.ref b308), (.int (2 : Int32)), (.int (5 : Int32)), (.int (5 : Int32)), (.long vv), (.long (60466176 : Int64))]) (rest := []) (lenOf own_pd25 rfl) rfl (own_hW rfl) (hb hby at_201) (fun _ _ => ⟨rfl, rfl, (by decide : 10 + 0 ≤ _), (by decide : 143 + 0 ≤ _)⟩)
      dsimp only [Pt.U, Pt.locs, Pt.cells, Pt.slots] at X316 l316 y316 z316 st316 hQ316
      subst y316 z316
      obtain ⟨rfl, N316q, eq316⟩ := hQ316
      have N316 : Fr n0 L316 := by rw [l316]; exact Fr.app N315 N316q
      refine own_st (st316) ?_
      refine own_st (fun t_ k_ => XS.iload X316.here hx rfl (hb hby at_204) rfl (XS.iload X316.here hx rfl (hb hby at_206) rfl (XS.iadd X316.here hx rfl (hb hby at_208) rfl k_))) ?_
      show own_at p e below _ T316 m 209 #[oI p0, oR r_215, oJ vv, oS, oI (1 : Int32), oI (5 : Int32), oR b308, oI (2 : Int32), oU] [(.int ((2 : Int32) + (5 : Int32)))]
      rw [show ((2 : Int32) + (5 : Int32)) = (7 : Int32) from (by decide)]
      refine own_st (fun t_ k_ => XS.istore X316.here hx rfl (hb hby at_209) rfl (l' := #[oI p0, oR r_215, oJ vv, oS, oI (1 : Int32), oI (5 : Int32), oR b308, oI (2 : Int32), oI (7 : Int32)]) rfl (XS.aloadN X316.here hx rfl (hb hby at_211) rfl rfl k_)) ?_
      show own_at p e below _ T316 m 212 #[oI p0, oR r_215, oJ vv, oS, oI (1 : Int32), oI (5 : Int32), oR b308, oI (2 : Int32), oI (7 : Int32)] [(.ref r_215)]
      have f317 : Fld Z T315.heap r_215 "java/lang/String" "value" "[B" (.ref t_215) := ((((((((P215_2.ext E308).other W309 (Or.inl (Nat.ne_of_lt (Nat.lt_of_lt_of_le P215_1.lt (Nat.le_of_eq g308.symm))))).other W310 (Or.inl (Nat.ne_of_lt (Nat.lt_of_lt_of_le P215_1.lt (Nat.le_of_eq g308.symm))))).keep Kq311 (ninS (Nat.ne_of_lt (Nat.lt_of_lt_of_le P215_1.lt (Nat.le_of_eq g308.symm))) nin0)).keep Kq312 (ninS (Nat.ne_of_lt (Nat.lt_of_lt_of_le P215_1.lt (Nat.le_of_eq g308.symm))) nin0)).keep Kq313 (ninS (Nat.ne_of_lt (Nat.lt_of_lt_of_le P215_1.lt (Nat.le_of_eq g308.symm))) nin0)).keep Kq314 (ninS (Nat.ne_of_lt (Nat.lt_of_lt_of_le P215_1.lt (Nat.le_of_eq g308.symm))) nin0)).keep Kq315 (ninS (Nat.ne_of_lt (Nat.lt_of_lt_of_le P215_1.lt (Nat.le_of_eq g308.symm))) nin0))
      have f318 : Fld Z T315.heap r_215 "java/lang/String" "coder" "B" (.int (0 : Int32)) := ((((((((P215_3.ext E308).other W309 (Or.inl (Nat.ne_of_lt (Nat.lt_of_lt_of_le P215_1.lt (Nat.le_of_eq g308.symm))))).other W310 (Or.inl (Nat.ne_of_lt (Nat.lt_of_lt_of_le P215_1.lt (Nat.le_of_eq g308.symm))))).keep Kq311 (ninS (Nat.ne_of_lt (Nat.lt_of_lt_of_le P215_1.lt (Nat.le_of_eq g308.symm))) nin0)).keep Kq312 (ninS (Nat.ne_of_lt (Nat.lt_of_lt_of_le P215_1.lt (Nat.le_of_eq g308.symm))) nin0)).keep Kq313 (ninS (Nat.ne_of_lt (Nat.lt_of_lt_of_le P215_1.lt (Nat.le_of_eq g308.symm))) nin0)).keep Kq314 (ninS (Nat.ne_of_lt (Nat.lt_of_lt_of_le P215_1.lt (Nat.le_of_eq g308.symm))) nin0)).keep Kq315 (ninS (Nat.ne_of_lt (Nat.lt_of_lt_of_le P215_1.lt (Nat.le_of_eq g308.symm))) nin0))
      have f319 : own_A Z T315.heap t_215 kt_215 .byte (own_bl (0 : Int32) 7) (fun i => .int ((own_by (0 : Int32) (own_ws 1 5 V)) i)) := ((((((((As.ext E308).other W309 (Nat.ne_of_lt (Nat.lt_of_lt_of_le As.lt (Nat.le_of_eq g308.symm)))).other W310 (Nat.ne_of_lt (Nat.lt_of_lt_of_le As.lt (Nat.le_of_eq g308.symm)))).keep Kq311 (ninS (Nat.ne_of_lt (Nat.lt_of_lt_of_le As.lt (Nat.le_of_eq g308.symm))) nin0)).keep Kq312 (ninS (Nat.ne_of_lt (Nat.lt_of_lt_of_le As.lt (Nat.le_of_eq g308.symm))) nin0)).keep Kq313 (ninS (Nat.ne_of_lt (Nat.lt_of_lt_of_le As.lt (Nat.le_of_eq g308.symm))) nin0)).keep Kq314 (ninS (Nat.ne_of_lt (Nat.lt_of_lt_of_le As.lt (Nat.le_of_eq g308.symm))) nin0)).keep Kq315 (ninS (Nat.ne_of_lt (Nat.lt_of_lt_of_le As.lt (Nat.le_of_eq g308.symm))) nin0))
      have f320 : Old Z n0 T315.heap := (((((((((q0.keep Kq215 all0).ext E308).wr W309 ge308).wr W310 ge308).keep Kq311 (allS ge308 all0)).keep Kq312 (allS ge308 all0)).keep Kq313 (allS ge308 all0)).keep Kq314 (allS ge308 all0)).keep Kq315 (allS ge308 all0))
      obtain ⟨cq321, kq321, q321a, q321b, q321c⟩ := isOf hZ eq316 ((((((((P215_1.ext E308).wr W309).wr W310).keep Kq311).keep Kq312).keep Kq313).keep Kq314).keep Kq315)
      obtain ⟨_, _, ⟨T321, L321, k321, n321⟩, -, X321, ⟨Lc321, hQ321, l321, y321, z321⟩, st321⟩ := X316.virtualBack hx (y := own_n6) (z := own_n6) hown (mvT hZ (own_w hw 159 rfl)) (mvT hZ (own_w hw 43 rfl)) (notFace_of_selects (args := #[]) (mvT hZ (own_w hw 45 rfl))) (mvT hZ (own_w hw 45 rfl)) (mvT hZ (own_w hw 44 rfl)) (by decide) (backOf (W := 0) (own_rm7 l Z a0 hw [] r_215 t_215 kt_215 (own_bl (0 : Int32) 7) (own_by (0 : Int32) (own_ws 1 5 V)) G1 T315.heap n0 (Nat.le_trans Z0 K315.1) ((((((((P215_1.ext E308).wr W309).wr W310).keep Kq311).keep Kq312).keep Kq313).keep Kq314).keep Kq315) f317 f318 f319 f320 q1 hG1) hZ (own_w hw 46 rfl) (own_w hw 20 rfl) (by decide) (by decide)) q321a q321c (g := (mkF m 212 #[oI p0, oR r_215, oJ vv, oS, oI (1 : Int32), oI (5 : Int32), oR b308, oI (2 : Int32), oI (7 : Int32)] [(.ref r_215)])) rfl (by rw [hml]; rfl) (Steps.refl _) (argsL := []) (rest := []) (lenOf own_pd8 rfl) rfl (own_hW rfl) (hb hby at_212) (fun _ _ => ⟨rfl, eq316, (by decide : 10 + 0 ≤ _), (by decide : 143 + 0 ≤ _)⟩)
      dsimp only [Pt.U, Pt.locs, Pt.cells, Pt.slots] at X321 l321 y321 z321 st321 hQ321
      subst y321 z321
      obtain ⟨rfl, N321q, eq321⟩ := hQ321
      have N321 : Fr n0 L321 := by rw [l321]; exact Fr.app N316 N321q
      refine own_tr st321 ?_
      refine own_st (fun t_ k_ => XS.iload X321.here hx rfl (hb hby at_215) rfl (XS.icmpYes X321.here hx rfl (pc0 := 217) (pc' := 222) rfl (hb hby at_217) rfl (teq (by decide : (Int32.ofNat (own_bl (0 : Int32) 7)) = (7 : Int32))).1 (by decide) (by decide) k_)) ?_
      show own_at p e below _ T321 m 222 #[oI p0, oR r_215, oJ vv, oS, oI (1 : Int32), oI (5 : Int32), oR b308, oI (2 : Int32), oI (7 : Int32)] []
      obtain ⟨gg, hgg⟩ : ∃ f_ : Nat → Int32, f_ = (own_upd (own_upd (own_upd (own_upd (own_upd (own_upd (own_upd (fun _ => (0 : Int32)) 0 (119 : Int32)) 1 (45 : Int32)) 6 (own_dig ((vv / (1 : Int64)) % (36 : Int64)))) 5 (own_dig ((vv / (36 : Int64)) % (36 : Int64)))) 4 (own_dig ((vv / (1296 : Int64)) % (36 : Int64)))) 3 (own_dig ((vv / (46656 : Int64)) % (36 : Int64)))) 2 (own_dig ((vv / (1679616 : Int64)) % (36 : Int64)))) := ⟨_, rfl⟩
      have Agg : own_A Z T315.heap b308 k308 .char 8 (fun i => .int (gg i)) := by rw [hgg]; exact P315_0
      have eg0 : own_ws 1 5 V 0 = gg 0 := by rw [hgg]; exact rfl.symm
      have eg1 : own_ws 1 5 V 1 = gg 1 := by rw [hgg]; exact rfl.symm
      have eg2 : own_ws 1 5 V 2 = gg 2 := by rw [hgg]; exact (show own_dig ((vv / (1679616 : Int64)) % (36 : Int64)) = own_ws 1 5 V 2 from (own_dd hv (by decide : (1679616 : Int64).toInt = ((1679616 : Nat) : Int)) (by decide)).trans (by unfold own_ws own_tb; rw [if_neg (by decide), if_neg (by decide)])).symm
      have eg3 : own_ws 1 5 V 3 = gg 3 := by rw [hgg]; exact (show own_dig ((vv / (46656 : Int64)) % (36 : Int64)) = own_ws 1 5 V 3 from (own_dd hv (by decide : (46656 : Int64).toInt = ((46656 : Nat) : Int)) (by decide)).trans (by unfold own_ws own_tb; rw [if_neg (by decide), if_neg (by decide)])).symm
      have eg4 : own_ws 1 5 V 4 = gg 4 := by rw [hgg]; exact (show own_dig ((vv / (1296 : Int64)) % (36 : Int64)) = own_ws 1 5 V 4 from (own_dd hv (by decide : (1296 : Int64).toInt = ((1296 : Nat) : Int)) (by decide)).trans (by unfold own_ws own_tb; rw [if_neg (by decide), if_neg (by decide)])).symm
      have eg5 : own_ws 1 5 V 5 = gg 5 := by rw [hgg]; exact (show own_dig ((vv / (36 : Int64)) % (36 : Int64)) = own_ws 1 5 V 5 from (own_dd hv (by decide : (36 : Int64).toInt = ((36 : Nat) : Int)) (by decide)).trans (by unfold own_ws own_tb; rw [if_neg (by decide), if_neg (by decide)])).symm
      have eg6 : own_ws 1 5 V 6 = gg 6 := by rw [hgg]; exact (show own_dig ((vv / (1 : Int64)) % (36 : Int64)) = own_ws 1 5 V 6 from (own_dd hv (by decide : (1 : Int64).toInt = ((1 : Nat) : Int)) (by decide)).trans (by unfold own_ws own_tb; rw [if_neg (by decide), if_neg (by decide)])).symm
      refine own_st (fun t_ k_ => XS.aloadN X321.here hx rfl (hb hby at_222) rfl rfl (XS.aload X321.here hx rfl (hb hby at_223) rfl rfl (XS.iload X321.here hx rfl (hb hby at_225) rfl (XS.iconst X321.here hx rfl (hb hby at_227) k_)))) ?_
      show own_at p e below _ T321 m 228 #[oI p0, oR r_215, oJ vv, oS, oI (1 : Int32), oI (5 : Int32), oR b308, oI (2 : Int32), oI (7 : Int32)] [(.int (0 : Int32)), (.int (7 : Int32)), (.ref b308), (.ref r_215)]
      obtain ⟨_, _, ⟨T322, L322, k322, n322⟩, -, X322, ⟨Lc322, hQ322, l322, y322, z322⟩, st322⟩ := Jvm.LawKit.callS X321 hx (y := own_n32) hown (mvT hZ (own_w hw 160 rfl)) (mvT hZ (own_w hw 161 rfl)) (mvT hZ (own_w hw 148 rfl)) (mvT hZ (own_w hw 162 rfl)) (by decide) (backOf (W := 0) (own_rm29y l Z a0 hw [] r_215 b308 (7 : Int32) (0 : Int32) t_215 kt_215 7 (own_ws 1 5 V) k308 gg 0 G1 G3 T315.heap n0 (Nat.le_trans Z0 K315.1) ((((((((P215_1.ext E308).wr W309).wr W310).keep Kq311).keep Kq312).keep Kq313).keep Kq314).keep Kq315) f317 f318 f319 hcd rfl f320 q1 hG1 q3 rG3 Agg (by decide) (by decide) (by decide) ⟨(own_ws7 _ _ _ _).1, Int.le_trans (own_ws7 _ _ _ _).2 (by decide)⟩ eg0) hZ (own_w hw 162 rfl) (own_w hw 148 rfl) (by decide) (by decide)) (g := (mkF m 228 #[oI p0, oR r_215, oJ vv, oS, oI (1 : Int32), oI (5 : Int32), oR b308, oI (2 : Int32), oI (7 : Int32)] [(.int (0 : Int32)), (.int (7 : Int32)), (.ref b308), (.ref r_215)])) rfl (by rw [hml]; rfl) (argsL := [(.ref r_215), (.ref b308), (.int (7 : Int32)), (.int (0 : Int32))]) (rest := []) (lenOf own_pd26 rfl) rfl (own_hW rfl) (hb hby at_228) (fun _ _ => ⟨rfl, eq321, (by decide : 10 + 0 ≤ _), (by decide : 143 + 0 ≤ _)⟩)
      dsimp only [Pt.U, Pt.locs, Pt.cells, Pt.slots] at X322 l322 y322 z322 st322 hQ322
      subst y322 z322
      obtain ⟨rfl, N322q, eq322⟩ := hQ322
      have N322 : Fr n0 L322 := by rw [l322]; exact Fr.app N321 N322q
      refine own_st (st322) ?_
      refine own_st (fun t_ k_ => XS.ifNo X322.here hx rfl (hb hby at_231) rfl ((if0 _ _).trans (feq (by decide : ¬ ((1 : Int32) = (0 : Int32)))).1) (XS.aloadN X322.here hx rfl (hb hby at_234) rfl rfl (XS.aload X322.here hx rfl (hb hby at_235) rfl rfl (XS.iload X322.here hx rfl (hb hby at_237) rfl (XS.iconst X322.here hx rfl (hb hby at_239) k_))))) ?_
      show own_at p e below _ T322 m 240 #[oI p0, oR r_215, oJ vv, oS, oI (1 : Int32), oI (5 : Int32), oR b308, oI (2 : Int32), oI (7 : Int32)] [(.int (1 : Int32)), (.int (7 : Int32)), (.ref b308), (.ref r_215)]
      obtain ⟨_, _, ⟨T323, L323, k323, n323⟩, -, X323, ⟨Lc323, hQ323, l323, y323, z323⟩, st323⟩ := Jvm.LawKit.callS X322 hx (y := own_n32) hown (mvT hZ (own_w hw 160 rfl)) (mvT hZ (own_w hw 161 rfl)) (mvT hZ (own_w hw 148 rfl)) (mvT hZ (own_w hw 162 rfl)) (by decide) (backOf (W := 0) (own_rm29y l Z a0 hw [] r_215 b308 (7 : Int32) (1 : Int32) t_215 kt_215 7 (own_ws 1 5 V) k308 gg 1 G1 G3 T315.heap n0 (Nat.le_trans Z0 K315.1) ((((((((P215_1.ext E308).wr W309).wr W310).keep Kq311).keep Kq312).keep Kq313).keep Kq314).keep Kq315) f317 f318 f319 hcd rfl f320 q1 hG1 q3 rG3 Agg (by decide) (by decide) (by decide) ⟨(own_ws7 _ _ _ _).1, Int.le_trans (own_ws7 _ _ _ _).2 (by decide)⟩ eg1) hZ (own_w hw 162 rfl) (own_w hw 148 rfl) (by decide) (by decide)) (g := (mkF m 240 #[oI p0, oR r_215, oJ vv, oS, oI (1 : Int32), oI (5 : Int32), oR b308, oI (2 : Int32), oI (7 : Int32)] [(.int (1 : Int32)), (.int (7 : Int32)), (.ref b308), (.ref r_215)])) rfl (by rw [hml]; rfl) (argsL := [(.ref r_215), (.ref b308), (.int (7 : Int32)), (.int (1 : Int32))]) (rest := []) (lenOf own_pd26 rfl) rfl (own_hW rfl) (hb hby at_240) (fun _ _ => ⟨rfl, eq322, (by decide : 10 + 0 ≤ _), (by decide : 143 + 0 ≤ _)⟩)
      dsimp only [Pt.U, Pt.locs, Pt.cells, Pt.slots] at X323 l323 y323 z323 st323 hQ323
      subst y323 z323
      obtain ⟨rfl, N323q, eq323⟩ := hQ323
      have N323 : Fr n0 L323 := by rw [l323]; exact Fr.app N322 N323q
      refine own_st (st323) ?_
      refine own_st (fun t_ k_ => XS.ifNo X323.here hx rfl (hb hby at_243) rfl ((if0 _ _).trans (feq (by decide : ¬ ((1 : Int32) = (0 : Int32)))).1) (XS.aloadN X323.here hx rfl (hb hby at_246) rfl rfl (XS.aload X323.here hx rfl (hb hby at_247) rfl rfl (XS.iload X323.here hx rfl (hb hby at_249) rfl (XS.iconst X323.here hx rfl (hb hby at_251) k_))))) ?_
      show own_at p e below _ T323 m 252 #[oI p0, oR r_215, oJ vv, oS, oI (1 : Int32), oI (5 : Int32), oR b308, oI (2 : Int32), oI (7 : Int32)] [(.int (2 : Int32)), (.int (7 : Int32)), (.ref b308), (.ref r_215)]
      obtain ⟨_, _, ⟨T324, L324, k324, n324⟩, -, X324, ⟨Lc324, hQ324, l324, y324, z324⟩, st324⟩ := Jvm.LawKit.callS X323 hx (y := own_n32) hown (mvT hZ (own_w hw 160 rfl)) (mvT hZ (own_w hw 161 rfl)) (mvT hZ (own_w hw 148 rfl)) (mvT hZ (own_w hw 162 rfl)) (by decide) (backOf (W := 0) (own_rm29y l Z a0 hw [] r_215 b308 (7 : Int32) (2 : Int32) t_215 kt_215 7 (own_ws 1 5 V) k308 gg 2 G1 G3 T315.heap n0 (Nat.le_trans Z0 K315.1) ((((((((P215_1.ext E308).wr W309).wr W310).keep Kq311).keep Kq312).keep Kq313).keep Kq314).keep Kq315) f317 f318 f319 hcd rfl f320 q1 hG1 q3 rG3 Agg (by decide) (by decide) (by decide) ⟨(own_ws7 _ _ _ _).1, Int.le_trans (own_ws7 _ _ _ _).2 (by decide)⟩ eg2) hZ (own_w hw 162 rfl) (own_w hw 148 rfl) (by decide) (by decide)) (g := (mkF m 252 #[oI p0, oR r_215, oJ vv, oS, oI (1 : Int32), oI (5 : Int32), oR b308, oI (2 : Int32), oI (7 : Int32)] [(.int (2 : Int32)), (.int (7 : Int32)), (.ref b308), (.ref r_215)])) rfl (by rw [hml]; rfl) (argsL := [(.ref r_215), (.ref b308), (.int (7 : Int32)), (.int (2 : Int32))]) (rest := []) (lenOf own_pd26 rfl) rfl (own_hW rfl) (hb hby at_252) (fun _ _ => ⟨rfl, eq323, (by decide : 10 + 0 ≤ _), (by decide : 143 + 0 ≤ _)⟩)
      dsimp only [Pt.U, Pt.locs, Pt.cells, Pt.slots] at X324 l324 y324 z324 st324 hQ324
      subst y324 z324
      obtain ⟨rfl, N324q, eq324⟩ := hQ324
      have N324 : Fr n0 L324 := by rw [l324]; exact Fr.app N323 N324q
      refine own_st (st324) ?_
      refine own_st (fun t_ k_ => XS.ifNo X324.here hx rfl (hb hby at_255) rfl ((if0 _ _).trans (feq (by decide : ¬ ((1 : Int32) = (0 : Int32)))).1) (XS.aloadN X324.here hx rfl (hb hby at_258) rfl rfl (XS.aload X324.here hx rfl (hb hby at_259) rfl rfl (XS.iload X324.here hx rfl (hb hby at_261) rfl (XS.iconst X324.here hx rfl (hb hby at_263) k_))))) ?_
      show own_at p e below _ T324 m 264 #[oI p0, oR r_215, oJ vv, oS, oI (1 : Int32), oI (5 : Int32), oR b308, oI (2 : Int32), oI (7 : Int32)] [(.int (3 : Int32)), (.int (7 : Int32)), (.ref b308), (.ref r_215)]
      obtain ⟨_, _, ⟨T325, L325, k325, n325⟩, -, X325, ⟨Lc325, hQ325, l325, y325, z325⟩, st325⟩ := Jvm.LawKit.callS X324 hx (y := own_n32) hown (mvT hZ (own_w hw 160 rfl)) (mvT hZ (own_w hw 161 rfl)) (mvT hZ (own_w hw 148 rfl)) (mvT hZ (own_w hw 162 rfl)) (by decide) (backOf (W := 0) (own_rm29y l Z a0 hw [] r_215 b308 (7 : Int32) (3 : Int32) t_215 kt_215 7 (own_ws 1 5 V) k308 gg 3 G1 G3 T315.heap n0 (Nat.le_trans Z0 K315.1) ((((((((P215_1.ext E308).wr W309).wr W310).keep Kq311).keep Kq312).keep Kq313).keep Kq314).keep Kq315) f317 f318 f319 hcd rfl f320 q1 hG1 q3 rG3 Agg (by decide) (by decide) (by decide) ⟨(own_ws7 _ _ _ _).1, Int.le_trans (own_ws7 _ _ _ _).2 (by decide)⟩ eg3) hZ (own_w hw 162 rfl) (own_w hw 148 rfl) (by decide) (by decide)) (g := (mkF m 264 #[oI p0, oR r_215, oJ vv, oS, oI (1 : Int32), oI (5 : Int32), oR b308, oI (2 : Int32), oI (7 : Int32)] [(.int (3 : Int32)), (.int (7 : Int32)), (.ref b308), (.ref r_215)])) rfl (by rw [hml]; rfl) (argsL := [(.ref r_215), (.ref b308), (.int (7 : Int32)), (.int (3 : Int32))]) (rest := []) (lenOf own_pd26 rfl) rfl (own_hW rfl) (hb hby at_264) (fun _ _ => ⟨rfl, eq324, (by decide : 10 + 0 ≤ _), (by decide : 143 + 0 ≤ _)⟩)
      dsimp only [Pt.U, Pt.locs, Pt.cells, Pt.slots] at X325 l325 y325 z325 st325 hQ325
      subst y325 z325
      obtain ⟨rfl, N325q, eq325⟩ := hQ325
      have N325 : Fr n0 L325 := by rw [l325]; exact Fr.app N324 N325q
      refine own_st (st325) ?_
      refine own_st (fun t_ k_ => XS.ifNo X325.here hx rfl (hb hby at_267) rfl ((if0 _ _).trans (feq (by decide : ¬ ((1 : Int32) = (0 : Int32)))).1) (XS.aloadN X325.here hx rfl (hb hby at_270) rfl rfl (XS.aload X325.here hx rfl (hb hby at_271) rfl rfl (XS.iload X325.here hx rfl (hb hby at_273) rfl (XS.iconst X325.here hx rfl (hb hby at_275) k_))))) ?_
      show own_at p e below _ T325 m 276 #[oI p0, oR r_215, oJ vv, oS, oI (1 : Int32), oI (5 : Int32), oR b308, oI (2 : Int32), oI (7 : Int32)] [(.int (4 : Int32)), (.int (7 : Int32)), (.ref b308), (.ref r_215)]
      obtain ⟨_, _, ⟨T326, L326, k326, n326⟩, -, X326, ⟨Lc326, hQ326, l326, y326, z326⟩, st326⟩ := Jvm.LawKit.callS X325 hx (y := own_n32) hown (mvT hZ (own_w hw 160 rfl)) (mvT hZ (own_w hw 161 rfl)) (mvT hZ (own_w hw 148 rfl)) (mvT hZ (own_w hw 162 rfl)) (by decide) (backOf (W := 0) (own_rm29y l Z a0 hw [] r_215 b308 (7 : Int32) (4 : Int32) t_215 kt_215 7 (own_ws 1 5 V) k308 gg 4 G1 G3 T315.heap n0 (Nat.le_trans Z0 K315.1) ((((((((P215_1.ext E308).wr W309).wr W310).keep Kq311).keep Kq312).keep Kq313).keep Kq314).keep Kq315) f317 f318 f319 hcd rfl f320 q1 hG1 q3 rG3 Agg (by decide) (by decide) (by decide) ⟨(own_ws7 _ _ _ _).1, Int.le_trans (own_ws7 _ _ _ _).2 (by decide)⟩ eg4) hZ (own_w hw 162 rfl) (own_w hw 148 rfl) (by decide) (by decide)) (g := (mkF m 276 #[oI p0, oR r_215, oJ vv, oS, oI (1 : Int32), oI (5 : Int32), oR b308, oI (2 : Int32), oI (7 : Int32)] [(.int (4 : Int32)), (.int (7 : Int32)), (.ref b308), (.ref r_215)])) rfl (by rw [hml]; rfl) (argsL := [(.ref r_215), (.ref b308), (.int (7 : Int32)), (.int (4 : Int32))]) (rest := []) (lenOf own_pd26 rfl) rfl (own_hW rfl) (hb hby at_276) (fun _ _ => ⟨rfl, eq325, (by decide : 10 + 0 ≤ _), (by decide : 143 + 0 ≤ _)⟩)
      dsimp only [Pt.U, Pt.locs, Pt.cells, Pt.slots] at X326 l326 y326 z326 st326 hQ326
      subst y326 z326
      obtain ⟨rfl, N326q, eq326⟩ := hQ326
      have N326 : Fr n0 L326 := by rw [l326]; exact Fr.app N325 N326q
      refine own_st (st326) ?_
      refine own_st (fun t_ k_ => XS.ifNo X326.here hx rfl (hb hby at_279) rfl ((if0 _ _).trans (feq (by decide : ¬ ((1 : Int32) = (0 : Int32)))).1) (XS.aloadN X326.here hx rfl (hb hby at_282) rfl rfl (XS.aload X326.here hx rfl (hb hby at_283) rfl rfl (XS.iload X326.here hx rfl (hb hby at_285) rfl (XS.iconst X326.here hx rfl (hb hby at_287) k_))))) ?_
      show own_at p e below _ T326 m 288 #[oI p0, oR r_215, oJ vv, oS, oI (1 : Int32), oI (5 : Int32), oR b308, oI (2 : Int32), oI (7 : Int32)] [(.int (5 : Int32)), (.int (7 : Int32)), (.ref b308), (.ref r_215)]
      obtain ⟨_, _, ⟨T327, L327, k327, n327⟩, -, X327, ⟨Lc327, hQ327, l327, y327, z327⟩, st327⟩ := Jvm.LawKit.callS X326 hx (y := own_n32) hown (mvT hZ (own_w hw 160 rfl)) (mvT hZ (own_w hw 161 rfl)) (mvT hZ (own_w hw 148 rfl)) (mvT hZ (own_w hw 162 rfl)) (by decide) (backOf (W := 0) (own_rm29y l Z a0 hw [] r_215 b308 (7 : Int32) (5 : Int32) t_215 kt_215 7 (own_ws 1 5 V) k308 gg 5 G1 G3 T315.heap n0 (Nat.le_trans Z0 K315.1) ((((((((P215_1.ext E308).wr W309).wr W310).keep Kq311).keep Kq312).keep Kq313).keep Kq314).keep Kq315) f317 f318 f319 hcd rfl f320 q1 hG1 q3 rG3 Agg (by decide) (by decide) (by decide) ⟨(own_ws7 _ _ _ _).1, Int.le_trans (own_ws7 _ _ _ _).2 (by decide)⟩ eg5) hZ (own_w hw 162 rfl) (own_w hw 148 rfl) (by decide) (by decide)) (g := (mkF m 288 #[oI p0, oR r_215, oJ vv, oS, oI (1 : Int32), oI (5 : Int32), oR b308, oI (2 : Int32), oI (7 : Int32)] [(.int (5 : Int32)), (.int (7 : Int32)), (.ref b308), (.ref r_215)])) rfl (by rw [hml]; rfl) (argsL := [(.ref r_215), (.ref b308), (.int (7 : Int32)), (.int (5 : Int32))]) (rest := []) (lenOf own_pd26 rfl) rfl (own_hW rfl) (hb hby at_288) (fun _ _ => ⟨rfl, eq326, (by decide : 10 + 0 ≤ _), (by decide : 143 + 0 ≤ _)⟩)
      dsimp only [Pt.U, Pt.locs, Pt.cells, Pt.slots] at X327 l327 y327 z327 st327 hQ327
      subst y327 z327
      obtain ⟨rfl, N327q, eq327⟩ := hQ327
      have N327 : Fr n0 L327 := by rw [l327]; exact Fr.app N326 N327q
      refine own_st (st327) ?_
      refine own_st (fun t_ k_ => XS.ifNo X327.here hx rfl (hb hby at_291) rfl ((if0 _ _).trans (feq (by decide : ¬ ((1 : Int32) = (0 : Int32)))).1) (XS.aloadN X327.here hx rfl (hb hby at_294) rfl rfl (XS.aload X327.here hx rfl (hb hby at_295) rfl rfl (XS.iload X327.here hx rfl (hb hby at_297) rfl (XS.bipush X327.here hx rfl (hb hby at_299) k_))))) ?_
      show own_at p e below _ T327 m 301 #[oI p0, oR r_215, oJ vv, oS, oI (1 : Int32), oI (5 : Int32), oR b308, oI (2 : Int32), oI (7 : Int32)] [(.int (6 : Int32)), (.int (7 : Int32)), (.ref b308), (.ref r_215)]
      obtain ⟨_, _, ⟨T328, L328, k328, n328⟩, -, X328, ⟨Lc328, hQ328, l328, y328, z328⟩, st328⟩ := Jvm.LawKit.callS X327 hx (y := own_n32) hown (mvT hZ (own_w hw 160 rfl)) (mvT hZ (own_w hw 161 rfl)) (mvT hZ (own_w hw 148 rfl)) (mvT hZ (own_w hw 162 rfl)) (by decide) (backOf (W := 0) (own_rm29y l Z a0 hw [] r_215 b308 (7 : Int32) (6 : Int32) t_215 kt_215 7 (own_ws 1 5 V) k308 gg 6 G1 G3 T315.heap n0 (Nat.le_trans Z0 K315.1) ((((((((P215_1.ext E308).wr W309).wr W310).keep Kq311).keep Kq312).keep Kq313).keep Kq314).keep Kq315) f317 f318 f319 hcd rfl f320 q1 hG1 q3 rG3 Agg (by decide) (by decide) (by decide) ⟨(own_ws7 _ _ _ _).1, Int.le_trans (own_ws7 _ _ _ _).2 (by decide)⟩ eg6) hZ (own_w hw 162 rfl) (own_w hw 148 rfl) (by decide) (by decide)) (g := (mkF m 301 #[oI p0, oR r_215, oJ vv, oS, oI (1 : Int32), oI (5 : Int32), oR b308, oI (2 : Int32), oI (7 : Int32)] [(.int (6 : Int32)), (.int (7 : Int32)), (.ref b308), (.ref r_215)])) rfl (by rw [hml]; rfl) (argsL := [(.ref r_215), (.ref b308), (.int (7 : Int32)), (.int (6 : Int32))]) (rest := []) (lenOf own_pd26 rfl) rfl (own_hW rfl) (hb hby at_301) (fun _ _ => ⟨rfl, eq327, (by decide : 10 + 0 ≤ _), (by decide : 143 + 0 ≤ _)⟩)
      dsimp only [Pt.U, Pt.locs, Pt.cells, Pt.slots] at X328 l328 y328 z328 st328 hQ328
      subst y328 z328
      obtain ⟨rfl, N328q, eq328⟩ := hQ328
      have N328 : Fr n0 L328 := by rw [l328]; exact Fr.app N327 N328q
      refine own_st (st328) ?_
      refine own_st (fun t_ k_ => XS.ifNo X328.here hx rfl (hb hby at_304) rfl ((if0 _ _).trans (feq (by decide : ¬ ((1 : Int32) = (0 : Int32)))).1) (XS.aloadN X328.here hx rfl (hb hby at_307) rfl rfl (XS.aload X328.here hx rfl (hb hby at_308) rfl rfl (XS.iload X328.here hx rfl (hb hby at_310) rfl (XS.bipush X328.here hx rfl (hb hby at_312) k_))))) ?_
      show own_at p e below _ T328 m 314 #[oI p0, oR r_215, oJ vv, oS, oI (1 : Int32), oI (5 : Int32), oR b308, oI (2 : Int32), oI (7 : Int32)] [(.int (7 : Int32)), (.int (7 : Int32)), (.ref b308), (.ref r_215)]
      obtain ⟨_, _, ⟨T329, L329, k329, n329⟩, -, X329, ⟨Lc329, hQ329, l329, y329, z329⟩, st329⟩ := Jvm.LawKit.callS X328 hx (y := own_n32) hown (mvT hZ (own_w hw 160 rfl)) (mvT hZ (own_w hw 161 rfl)) (mvT hZ (own_w hw 148 rfl)) (mvT hZ (own_w hw 162 rfl)) (by decide) (backOf (W := 0) (own_rm29n l Z a0 hw [] r_215 b308 (7 : Int32) (7 : Int32) T315.heap n0 (Nat.le_trans Z0 K315.1) (by decide)) hZ (own_w hw 162 rfl) (own_w hw 148 rfl) (by decide) (by decide)) (g := (mkF m 314 #[oI p0, oR r_215, oJ vv, oS, oI (1 : Int32), oI (5 : Int32), oR b308, oI (2 : Int32), oI (7 : Int32)] [(.int (7 : Int32)), (.int (7 : Int32)), (.ref b308), (.ref r_215)])) rfl (by rw [hml]; rfl) (argsL := [(.ref r_215), (.ref b308), (.int (7 : Int32)), (.int (7 : Int32))]) (rest := []) (lenOf own_pd26 rfl) rfl (own_hW rfl) (hb hby at_314) (fun _ _ => ⟨rfl, eq328, (by decide : 10 + 0 ≤ _), (by decide : 143 + 0 ≤ _)⟩)
      dsimp only [Pt.U, Pt.locs, Pt.cells, Pt.slots] at X329 l329 y329 z329 st329 hQ329
      subst y329 z329
      obtain ⟨rfl, N329q, eq329⟩ := hQ329
      have N329 : Fr n0 L329 := by rw [l329]; exact Fr.app N328 N329q
      refine own_st (st329) ?_
      refine own_st (fun t_ k_ => XS.ifNo X329.here hx rfl (hb hby at_317) rfl ((if0 _ _).trans (feq (by decide : ¬ ((1 : Int32) = (0 : Int32)))).1) (XS.iconst X329.here hx rfl (hb hby at_320) (XS.goto X329.here hx rfl (pc0 := 321) (pc' := 325) rfl (hb hby at_321) (by decide) (by decide) k_))) ?_
      show own_at p e below _ T329 m 325 #[oI p0, oR r_215, oJ vv, oS, oI (1 : Int32), oI (5 : Int32), oR b308, oI (2 : Int32), oI (7 : Int32)] [(.int (1 : Int32))]
      exact own_retW (w := (.int (1 : Int32))) X329 hx hnl hZ (own_hEL hw) S215 (by rw [eq329]; exact kk315) (by rw [eq329]; exact C315) Bd.returns rfl (Or.inl ⟨rfl, by decide, _, rfl⟩) (hb hby at_325) ⟨rfl, N329, (by rw [eq329]; exact K315)⟩ (by decide) (by decide)
    have z5 : (60466176 : Int64).toInt = 60466176 := by decide
    have hb5 := mt (lw_lt _ _).mpr c82_307
    rw [Int64.lt_iff_toInt_lt, hv, z5] at hb5
    refine own_st (fun t_ k_ => XS.ifYes X215.here hx rfl (pc0 := 82) (pc' := 89) rfl (hb hby at_82) rfl ((if0 _ _).trans (flt c82_307).2.1) (by decide) (by decide) (XS.bipush X215.here hx rfl (hb hby at_89) (XS.istore X215.here hx rfl (hb hby at_91) rfl (l' := #[oI p0, oR r_215, oJ vv, oS, oI (1 : Int32), oI (6 : Int32), oU, oU, oU]) rfl k_))) ?_
    show own_at p e below _ T215 m 93 #[oI p0, oR r_215, oJ vv, oS, oI (1 : Int32), oI (6 : Int32), oU, oU, oU] []
    have en : n_215 = 6 := own_nn6 hdn.1 hdn.2.2.1 hdn.2.2.2 (by decide) (by have q_ : 36 ^ 6 = 2176782336 := (by decide); omega) (by first | exact Or.inl rfl | exact Or.inr (by have q_ : 36 ^ (6 - 1) = 60466176 := (by decide); omega))
    have As : own_A Z T215.heap t_215 kt_215 .byte (own_bl (0 : Int32) 8) (fun i => .int ((own_by (0 : Int32) (own_ws 1 6 V)) i)) := by have z_ := P215_4; rw [en, hsg, ← hV] at z_; exact z_
    have hcd : ((0 : Int32) = 0 ∧ ∀ q : Nat, q < 8 → ¬ (255 : Int32) < (own_ws 1 6 V) q) ∨ (0 : Int32) = 1 := Or.inl ⟨rfl, fun q _ => own_lat7 (own_ws7 _ _ _ q)⟩
    refine own_st (fun t_ k_ => XS.bipush X215.here hx rfl (hb hby at_93) k_) ?_
    show own_at p e below _ T215 m 95 #[oI p0, oR r_215, oJ vv, oS, oI (1 : Int32), oI (6 : Int32), oU, oU, oU] [(.int (8 : Int32))]
    obtain ⟨T330, h330, k330, X330, e330, E330, A330, st330⟩ := newP X215 hx hZ (own_w hw 145 rfl) rfl (g := (mkF m 95 #[oI p0, oR r_215, oJ vv, oS, oI (1 : Int32), oI (6 : Int32), oU, oU, oU] [(.int (8 : Int32))])) rfl (hb hby at_95) rfl (by decide) (cap := 8) (by decide) (by decide) (by decide) (by decide)
    obtain ⟨b330, g330⟩ : ∃ z, z = T215.heap.size := ⟨_, rfl⟩
    rw [← g330] at A330 st330
    have fr330 : h0.size ≤ b330 := Nat.le_trans K215.1 (Nat.le_of_eq g330.symm)
    have ge330 : n0 ≤ b330 := Nat.le_trans Z0 fr330
    have K330 : Keep h0 h330 [] := K215.ext E330
    have c330 : CHr Z own_EL _ T215.heap _ h330 := CHr.ext E330 C215.1
    have C330 := C215.trans c330
    have kk330 := Nat.le_trans kk215 c330.2.1
    have Sf330_b330 : Safe Z own_EL _ h330 b330 := Safe.ext E330 C215.1 (Safe.new (Nat.le_of_eq g330.symm))
    have Ar330 : own_A Z h330 b330 k330 .char 8 (fun i => .int ((fun _ => (0 : Int32)) i)) := own_A.new A330 rfl (by decide)
    refine own_st (st330) ?_
    refine own_st (fun t_ k_ => XS.astore X330.here hx rfl (hb hby at_97) rfl rfl (l' := #[oI p0, oR r_215, oJ vv, oS, oI (1 : Int32), oI (6 : Int32), oR b330, oU, oU]) rfl (XS.aload X330.here hx rfl (hb hby at_99) rfl rfl (XS.iconst X330.here hx rfl (hb hby at_101) (XS.bipush X330.here hx rfl (hb hby at_102) k_)))) ?_
    show own_at p e below _ T330 m 104 #[oI p0, oR r_215, oJ vv, oS, oI (1 : Int32), oI (6 : Int32), oR b330, oU, oU] [(.int (119 : Int32)), (.int (0 : Int32)), (.ref b330)]
    obtain ⟨T331, h331, X331, e331, W331, Aw331, st331⟩ := own_castore X330 hx hZ e330 Ar330 (i := 0) (by decide) (by decide) rfl (v' := (119 : Int32)) (g := (mkF m 104 #[oI p0, oR r_215, oJ vv, oS, oI (1 : Int32), oI (6 : Int32), oR b330, oU, oU] [(.int (119 : Int32)), (.int (0 : Int32)), (.ref b330)])) rfl rfl (hb hby at_104)
    have N331 := Fr.snoc X331 N215 ge330
    have K331 : Keep h0 h331 [] := K330.wr W331 (Or.inr fr330)
    have c331 : CHr Z own_EL _ h330 _ h331 := CHr.wr W331 (own_safeA hZ.alike Ar330 (by decide)) C330.1
    have C331 := C330.trans c331
    have kk331 := Nat.le_trans kk330 c331.2.1
    refine own_st (st331) ?_
    refine own_st (fun t_ k_ => XS.iconst X331.here hx rfl (hb hby at_105) (XS.istore X331.here hx rfl (hb hby at_106) rfl (l' := #[oI p0, oR r_215, oJ vv, oS, oI (1 : Int32), oI (6 : Int32), oR b330, oI (1 : Int32), oU]) rfl (XS.iload X331.here hx rfl (hb hby at_108) rfl (XS.ifNo X331.here hx rfl (hb hby at_110) rfl ((if0 _ _).trans (feq (by decide : ¬ ((1 : Int32) = (0 : Int32)))).1) (XS.aload X331.here hx rfl (hb hby at_113) rfl rfl (XS.iconst X331.here hx rfl (hb hby at_115) k_)))))) ?_
    show own_at p e below _ T331 m 116 #[oI p0, oR r_215, oJ vv, oS, oI (1 : Int32), oI (6 : Int32), oR b330, oI (1 : Int32), oU] [(.int (1 : Int32)), (.ref b330)]
    refine own_st (fun t_ k_ => XS.bipush X331.here hx rfl (hb hby at_116) k_) ?_
    show own_at p e below _ T331 m 118 #[oI p0, oR r_215, oJ vv, oS, oI (1 : Int32), oI (6 : Int32), oR b330, oI (1 : Int32), oU] [(.int (45 : Int32)), (.int (1 : Int32)), (.ref b330)]
    obtain ⟨T332, h332, X332, e332, W332, Aw332, st332⟩ := own_castore X331 hx hZ e331 Aw331 (i := 1) (by decide) (by decide) rfl (v' := (45 : Int32)) (g := (mkF m 118 #[oI p0, oR r_215, oJ vv, oS, oI (1 : Int32), oI (6 : Int32), oR b330, oI (1 : Int32), oU] [(.int (45 : Int32)), (.int (1 : Int32)), (.ref b330)])) rfl rfl (hb hby at_118)
    have N332 := Fr.snoc X332 N331 ge330
    have K332 : Keep h0 h332 [] := K331.wr W332 (Or.inr fr330)
    have c332 : CHr Z own_EL _ h331 _ h332 := CHr.wr W332 (own_safeA hZ.alike Aw331 (by decide)) C331.1
    have C332 := C331.trans c332
    have kk332 := Nat.le_trans kk331 c332.2.1
    refine own_st (st332) ?_
    refine own_st (fun t_ k_ => XS.iconst X332.here hx rfl (hb hby at_119) (XS.istore X332.here hx rfl (hb hby at_120) rfl (l' := #[oI p0, oR r_215, oJ vv, oS, oI (1 : Int32), oI (6 : Int32), oR b330, oI (2 : Int32), oU]) rfl (XS.aload X332.here hx rfl (hb hby at_122) rfl rfl (XS.iload X332.here hx rfl (hb hby at_124) rfl (XS.iload X332.here hx rfl (hb hby at_126) rfl (XS.iconst X332.here hx rfl (hb hby at_128) k_)))))) ?_
    show own_at p e below _ T332 m 129 #[oI p0, oR r_215, oJ vv, oS, oI (1 : Int32), oI (6 : Int32), oR b330, oI (2 : Int32), oU] [(.int (0 : Int32)), (.int (6 : Int32)), (.int (2 : Int32)), (.ref b330)]
    refine own_st (fun t_ k_ => XS.lloadN X332.here hx rfl (hb hby at_129) rfl (XS.lconst X332.here hx rfl (hb hby at_130) k_)) ?_
    show own_at p e below _ T332 m 131 #[oI p0, oR r_215, oJ vv, oS, oI (1 : Int32), oI (6 : Int32), oR b330, oI (2 : Int32), oU] [(.long (1 : Int64)), (.long vv), (.int (0 : Int32)), (.int (6 : Int32)), (.int (2 : Int32)), (.ref b330)]
    obtain ⟨_, _, ⟨T333, L333, k333, n333⟩, -, X333, ⟨Lc333, hQ333, l333, y333, z333⟩, st333⟩ := Jvm.LawKit.callS X332 hx (y := own_n31) hown (mvT hZ (own_w hw 146 rfl)) (mvT hZ (own_w hw 147 rfl)) (mvT hZ (own_w hw 148 rfl)) (mvT hZ (own_w hw 149 rfl)) (by decide) (backOf (W := 0) (own_rm27y l Z a0 hw [] b330 (2 : Int32) (6 : Int32) (0 : Int32) vv (1 : Int64) k330 (own_upd (own_upd (fun _ => (0 : Int32)) 0 (119 : Int32)) 1 (45 : Int32)) 7 h332 n0 (Nat.le_trans Z0 K332.1) Aw332 ge330 (by decide) (by decide) (by decide)) hZ (own_w hw 149 rfl) (own_w hw 148 rfl) (by decide) (by decide)) (g := (mkF m 131 #[oI p0, oR r_215, oJ vv, oS, oI (1 : Int32), oI (6 : Int32), oR b330, oI (2 : Int32), oU] [(.long (1 : Int64)), (.long vv), (.int (0 : Int32)), (.int (6 : Int32)), (.int (2 : Int32)), (.ref b330)])) rfl (by rw [hml]; rfl) (argsL := [(.ref b330), (.int (2 : Int32)), (.int (6 : Int32)), (.int (0 : Int32)), (.long vv), (.long (1 : Int64))]) (rest := []) (lenOf own_pd25 rfl) rfl (own_hW rfl) (hb hby at_131) (fun _ _ => ⟨rfl, e332, (by decide : 10 + 0 ≤ _), (by decide : 143 + 0 ≤ _)⟩)
    dsimp only [Pt.U, Pt.locs, Pt.cells, Pt.slots] at X333 l333 y333 z333 st333 hQ333
    subst y333 z333
    obtain ⟨rfl, N333q, Kq333, P333_0⟩ := hQ333
    have N333 : Fr n0 L333 := by rw [l333]; exact Fr.app N332 N333q
    have K333 : Keep h0 T333.heap [] := K332.trans Kq333 (allS (P := fun x => x ∈ [] ∨ h0.size ≤ x) (Or.inr fr330) all0)
    have c333 : CHr Z own_EL _ h332 _ T333.heap := CHr.keep Kq333 (own_slS (own_safeA hZ.alike Aw332 (by decide)) own_sl0) C332.1
    have C333 := C332.trans c333
    have kk333 := Nat.le_trans kk332 c333.2.1
    refine own_st (st333) ?_
    refine own_st (fun t_ k_ => XS.aload X333.here hx rfl (hb hby at_134) rfl rfl (XS.iload X333.here hx rfl (hb hby at_136) rfl (XS.iload X333.here hx rfl (hb hby at_138) rfl (XS.iconst X333.here hx rfl (hb hby at_140) (XS.lloadN X333.here hx rfl (hb hby at_141) rfl k_))))) ?_
    show own_at p e below _ T333 m 142 #[oI p0, oR r_215, oJ vv, oS, oI (1 : Int32), oI (6 : Int32), oR b330, oI (2 : Int32), oU] [(.long vv), (.int (1 : Int32)), (.int (6 : Int32)), (.int (2 : Int32)), (.ref b330)]
    refine own_st (X333.ldc2Long hx hown (mvT hZ (own_w hw 144 rfl)) (g := (mkF m 142 #[oI p0, oR r_215, oJ vv, oS, oI (1 : Int32), oI (6 : Int32), oR b330, oI (2 : Int32), oU] [(.long vv), (.int (1 : Int32)), (.int (6 : Int32)), (.int (2 : Int32)), (.ref b330)])) rfl (hb hby at_142)) ?_
    show own_at p e below _ T333 m 145 #[oI p0, oR r_215, oJ vv, oS, oI (1 : Int32), oI (6 : Int32), oR b330, oI (2 : Int32), oU] [(.long (36 : Int64)), (.long vv), (.int (1 : Int32)), (.int (6 : Int32)), (.int (2 : Int32)), (.ref b330)]
    obtain ⟨_, _, ⟨T334, L334, k334, n334⟩, -, X334, ⟨Lc334, hQ334, l334, y334, z334⟩, st334⟩ := Jvm.LawKit.callS X333 hx (y := own_n31) hown (mvT hZ (own_w hw 146 rfl)) (mvT hZ (own_w hw 147 rfl)) (mvT hZ (own_w hw 148 rfl)) (mvT hZ (own_w hw 149 rfl)) (by decide) (backOf (W := 0) (own_rm27y l Z a0 hw [] b330 (2 : Int32) (6 : Int32) (1 : Int32) vv (36 : Int64) k330 (own_upd (own_upd (own_upd (fun _ => (0 : Int32)) 0 (119 : Int32)) 1 (45 : Int32)) 7 (own_dig ((vv / (1 : Int64)) % (36 : Int64)))) 6 T333.heap n0 (Nat.le_trans Z0 K333.1) P333_0 ge330 (by decide) (by decide) (by decide)) hZ (own_w hw 149 rfl) (own_w hw 148 rfl) (by decide) (by decide)) (g := (mkF m 145 #[oI p0, oR r_215, oJ vv, oS, oI (1 : Int32), oI (6 : Int32), oR b330, oI (2 : Int32), oU] [(.long (36 : Int64)), (.long vv), (.int (1 : Int32)), (.int (6 : Int32)), (.int (2 : Int32)), (.ref b330)])) rfl (by rw [hml]; rfl) (argsL := [(.ref b330), (.int (2 : Int32)), (.int (6 : Int32)), (.int (1 : Int32)), (.long vv), (.long (36 : Int64))]) (rest := []) (lenOf own_pd25 rfl) rfl (own_hW rfl) (hb hby at_145) (fun _ _ => ⟨rfl, rfl, (by decide : 10 + 0 ≤ _), (by decide : 143 + 0 ≤ _)⟩)
    dsimp only [Pt.U, Pt.locs, Pt.cells, Pt.slots] at X334 l334 y334 z334 st334 hQ334
    subst y334 z334
    obtain ⟨rfl, N334q, Kq334, P334_0⟩ := hQ334
    have N334 : Fr n0 L334 := by rw [l334]; exact Fr.app N333 N334q
    have K334 : Keep h0 T334.heap [] := K333.trans Kq334 (allS (P := fun x => x ∈ [] ∨ h0.size ≤ x) (Or.inr fr330) all0)
    have c334 : CHr Z own_EL _ T333.heap _ T334.heap := CHr.keep Kq334 (own_slS (own_safeA hZ.alike P333_0 (by decide)) own_sl0) C333.1
    have C334 := C333.trans c334
    have kk334 := Nat.le_trans kk333 c334.2.1
    refine own_st (st334) ?_
    refine own_st (fun t_ k_ => XS.aload X334.here hx rfl (hb hby at_148) rfl rfl (XS.iload X334.here hx rfl (hb hby at_150) rfl (XS.iload X334.here hx rfl (hb hby at_152) rfl (XS.iconst X334.here hx rfl (hb hby at_154) (XS.lloadN X334.here hx rfl (hb hby at_155) rfl k_))))) ?_
    show own_at p e below _ T334 m 156 #[oI p0, oR r_215, oJ vv, oS, oI (1 : Int32), oI (6 : Int32), oR b330, oI (2 : Int32), oU] [(.long vv), (.int (2 : Int32)), (.int (6 : Int32)), (.int (2 : Int32)), (.ref b330)]
    refine own_st (X334.ldc2Long hx hown (mvT hZ (own_w hw 155 rfl)) (g := (mkF m 156 #[oI p0, oR r_215, oJ vv, oS, oI (1 : Int32), oI (6 : Int32), oR b330, oI (2 : Int32), oU] [(.long vv), (.int (2 : Int32)), (.int (6 : Int32)), (.int (2 : Int32)), (.ref b330)])) rfl (hb hby at_156)) ?_
    show own_at p e below _ T334 m 159 #[oI p0, oR r_215, oJ vv, oS, oI (1 : Int32), oI (6 : Int32), oR b330, oI (2 : Int32), oU] [(.long (1296 : Int64)), (.long vv), (.int (2 : Int32)), (.int (6 : Int32)), (.int (2 : Int32)), (.ref b330)]
    obtain ⟨_, _, ⟨T335, L335, k335, n335⟩, -, X335, ⟨Lc335, hQ335, l335, y335, z335⟩, st335⟩ := Jvm.LawKit.callS X334 hx (y := own_n31) hown (mvT hZ (own_w hw 146 rfl)) (mvT hZ (own_w hw 147 rfl)) (mvT hZ (own_w hw 148 rfl)) (mvT hZ (own_w hw 149 rfl)) (by decide) (backOf (W := 0) (own_rm27y l Z a0 hw [] b330 (2 : Int32) (6 : Int32) (2 : Int32) vv (1296 : Int64) k330 (own_upd (own_upd (own_upd (own_upd (fun _ => (0 : Int32)) 0 (119 : Int32)) 1 (45 : Int32)) 7 (own_dig ((vv / (1 : Int64)) % (36 : Int64)))) 6 (own_dig ((vv / (36 : Int64)) % (36 : Int64)))) 5 T334.heap n0 (Nat.le_trans Z0 K334.1) P334_0 ge330 (by decide) (by decide) (by decide)) hZ (own_w hw 149 rfl) (own_w hw 148 rfl) (by decide) (by decide)) (g := (mkF m 159 #[oI p0, oR r_215, oJ vv, oS, oI (1 : Int32), oI (6 : Int32), oR b330, oI (2 : Int32), oU] [(.long (1296 : Int64)), (.long vv), (.int (2 : Int32)), (.int (6 : Int32)), (.int (2 : Int32)), (.ref b330)])) rfl (by rw [hml]; rfl) (argsL := [(.ref b330), (.int (2 : Int32)), (.int (6 : Int32)), (.int (2 : Int32)), (.long vv), (.long (1296 : Int64))]) (rest := []) (lenOf own_pd25 rfl) rfl (own_hW rfl) (hb hby at_159) (fun _ _ => ⟨rfl, rfl, (by decide : 10 + 0 ≤ _), (by decide : 143 + 0 ≤ _)⟩)
    dsimp only [Pt.U, Pt.locs, Pt.cells, Pt.slots] at X335 l335 y335 z335 st335 hQ335
    subst y335 z335
    obtain ⟨rfl, N335q, Kq335, P335_0⟩ := hQ335
    have N335 : Fr n0 L335 := by rw [l335]; exact Fr.app N334 N335q
    have K335 : Keep h0 T335.heap [] := K334.trans Kq335 (allS (P := fun x => x ∈ [] ∨ h0.size ≤ x) (Or.inr fr330) all0)
    have c335 : CHr Z own_EL _ T334.heap _ T335.heap := CHr.keep Kq335 (own_slS (own_safeA hZ.alike P334_0 (by decide)) own_sl0) C334.1
    have C335 := C334.trans c335
    have kk335 := Nat.le_trans kk334 c335.2.1
    refine own_st (st335) ?_
    refine own_st (fun t_ k_ => XS.aload X335.here hx rfl (hb hby at_162) rfl rfl (XS.iload X335.here hx rfl (hb hby at_164) rfl (XS.iload X335.here hx rfl (hb hby at_166) rfl (XS.iconst X335.here hx rfl (hb hby at_168) (XS.lloadN X335.here hx rfl (hb hby at_169) rfl k_))))) ?_
    show own_at p e below _ T335 m 170 #[oI p0, oR r_215, oJ vv, oS, oI (1 : Int32), oI (6 : Int32), oR b330, oI (2 : Int32), oU] [(.long vv), (.int (3 : Int32)), (.int (6 : Int32)), (.int (2 : Int32)), (.ref b330)]
    refine own_st (X335.ldc2Long hx hown (mvT hZ (own_w hw 156 rfl)) (g := (mkF m 170 #[oI p0, oR r_215, oJ vv, oS, oI (1 : Int32), oI (6 : Int32), oR b330, oI (2 : Int32), oU] [(.long vv), (.int (3 : Int32)), (.int (6 : Int32)), (.int (2 : Int32)), (.ref b330)])) rfl (hb hby at_170)) ?_
    show own_at p e below _ T335 m 173 #[oI p0, oR r_215, oJ vv, oS, oI (1 : Int32), oI (6 : Int32), oR b330, oI (2 : Int32), oU] [(.long (46656 : Int64)), (.long vv), (.int (3 : Int32)), (.int (6 : Int32)), (.int (2 : Int32)), (.ref b330)]
    obtain ⟨_, _, ⟨T336, L336, k336, n336⟩, -, X336, ⟨Lc336, hQ336, l336, y336, z336⟩, st336⟩ := Jvm.LawKit.callS X335 hx (y := own_n31) hown (mvT hZ (own_w hw 146 rfl)) (mvT hZ (own_w hw 147 rfl)) (mvT hZ (own_w hw 148 rfl)) (mvT hZ (own_w hw 149 rfl)) (by decide) (backOf (W := 0) (own_rm27y l Z a0 hw [] b330 (2 : Int32) (6 : Int32) (3 : Int32) vv (46656 : Int64) k330 (own_upd (own_upd (own_upd (own_upd (own_upd (fun _ => (0 : Int32)) 0 (119 : Int32)) 1 (45 : Int32)) 7 (own_dig ((vv / (1 : Int64)) % (36 : Int64)))) 6 (own_dig ((vv / (36 : Int64)) % (36 : Int64)))) 5 (own_dig ((vv / (1296 : Int64)) % (36 : Int64)))) 4 T335.heap n0 (Nat.le_trans Z0 K335.1) P335_0 ge330 (by decide) (by decide) (by decide)) hZ (own_w hw 149 rfl) (own_w hw 148 rfl) (by decide) (by decide)) (g := (mkF m 173 #[oI p0, oR r_215, oJ vv, oS, oI (1 : Int32), oI (6 : Int32), oR b330, oI (2 : Int32), oU] [(.long (46656 : Int64)), (.long vv), (.int (3 : Int32)), (.int (6 : Int32)), (.int (2 : Int32)), (.ref b330)])) rfl (by rw [hml]; rfl) (argsL := [(.ref b330), (.int (2 : Int32)), (.int (6 : Int32)), (.int (3 : Int32)), (.long vv), (.long (46656 : Int64))]) (rest := []) (lenOf own_pd25 rfl) rfl (own_hW rfl) (hb hby at_173) (fun _ _ => ⟨rfl, rfl, (by decide : 10 + 0 ≤ _), (by decide : 143 + 0 ≤ _)⟩)
    dsimp only [Pt.U, Pt.locs, Pt.cells, Pt.slots] at X336 l336 y336 z336 st336 hQ336
    subst y336 z336
    obtain ⟨rfl, N336q, Kq336, P336_0⟩ := hQ336
    have N336 : Fr n0 L336 := by rw [l336]; exact Fr.app N335 N336q
    have K336 : Keep h0 T336.heap [] := K335.trans Kq336 (allS (P := fun x => x ∈ [] ∨ h0.size ≤ x) (Or.inr fr330) all0)
    have c336 : CHr Z own_EL _ T335.heap _ T336.heap := CHr.keep Kq336 (own_slS (own_safeA hZ.alike P335_0 (by decide)) own_sl0) C335.1
    have C336 := C335.trans c336
    have kk336 := Nat.le_trans kk335 c336.2.1
    refine own_st (st336) ?_
    refine own_st (fun t_ k_ => XS.aload X336.here hx rfl (hb hby at_176) rfl rfl (XS.iload X336.here hx rfl (hb hby at_178) rfl (XS.iload X336.here hx rfl (hb hby at_180) rfl (XS.iconst X336.here hx rfl (hb hby at_182) (XS.lloadN X336.here hx rfl (hb hby at_183) rfl k_))))) ?_
    show own_at p e below _ T336 m 184 #[oI p0, oR r_215, oJ vv, oS, oI (1 : Int32), oI (6 : Int32), oR b330, oI (2 : Int32), oU] [(.long vv), (.int (4 : Int32)), (.int (6 : Int32)), (.int (2 : Int32)), (.ref b330)]
    refine own_st (X336.ldc2Long hx hown (mvT hZ (own_w hw 157 rfl)) (g := (mkF m 184 #[oI p0, oR r_215, oJ vv, oS, oI (1 : Int32), oI (6 : Int32), oR b330, oI (2 : Int32), oU] [(.long vv), (.int (4 : Int32)), (.int (6 : Int32)), (.int (2 : Int32)), (.ref b330)])) rfl (hb hby at_184)) ?_
    show own_at p e below _ T336 m 187 #[oI p0, oR r_215, oJ vv, oS, oI (1 : Int32), oI (6 : Int32), oR b330, oI (2 : Int32), oU] [(.long (1679616 : Int64)), (.long vv), (.int (4 : Int32)), (.int (6 : Int32)), (.int (2 : Int32)), (.ref b330)]
    obtain ⟨_, _, ⟨T337, L337, k337, n337⟩, -, X337, ⟨Lc337, hQ337, l337, y337, z337⟩, st337⟩ := Jvm.LawKit.callS X336 hx (y := own_n31) hown (mvT hZ (own_w hw 146 rfl)) (mvT hZ (own_w hw 147 rfl)) (mvT hZ (own_w hw 148 rfl)) (mvT hZ (own_w hw 149 rfl)) (by decide) (backOf (W := 0) (own_rm27y l Z a0 hw [] b330 (2 : Int32) (6 : Int32) (4 : Int32) vv (1679616 : Int64) k330 (own_upd (own_upd (own_upd (own_upd (own_upd (own_upd (fun _ => (0 : Int32)) 0 (119 : Int32)) 1 (45 : Int32)) 7 (own_dig ((vv / (1 : Int64)) % (36 : Int64)))) 6 (own_dig ((vv / (36 : Int64)) % (36 : Int64)))) 5 (own_dig ((vv / (1296 : Int64)) % (36 : Int64)))) 4 (own_dig ((vv / (46656 : Int64)) % (36 : Int64)))) 3 T336.heap n0 (Nat.le_trans Z0 K336.1) P336_0 ge330 (by decide) (by decide) (by decide)) hZ (own_w hw 149 rfl) (own_w hw 148 rfl) (by decide) (by decide)) (g := (mkF m 187 #[oI p0, oR r_215, oJ vv, oS, oI (1 : Int32), oI (6 : Int32), oR b330, oI (2 : Int32), oU] [(.long (1679616 : Int64)), (.long vv), (.int (4 : Int32)), (.int (6 : Int32)), (.int (2 : Int32)), (.ref b330)])) rfl (by rw [hml]; rfl) (argsL := [(.ref b330), (.int (2 : Int32)), (.int (6 : Int32)), (.int (4 : Int32)), (.long vv), (.long (1679616 : Int64))]) (rest := []) (lenOf own_pd25 rfl) rfl (own_hW rfl) (hb hby at_187) (fun _ _ => ⟨rfl, rfl, (by decide : 10 + 0 ≤ _), (by decide : 143 + 0 ≤ _)⟩)
    dsimp only [Pt.U, Pt.locs, Pt.cells, Pt.slots] at X337 l337 y337 z337 st337 hQ337
    subst y337 z337
    obtain ⟨rfl, N337q, Kq337, P337_0⟩ := hQ337
    have N337 : Fr n0 L337 := by rw [l337]; exact Fr.app N336 N337q
    have K337 : Keep h0 T337.heap [] := K336.trans Kq337 (allS (P := fun x => x ∈ [] ∨ h0.size ≤ x) (Or.inr fr330) all0)
    have c337 : CHr Z own_EL _ T336.heap _ T337.heap := CHr.keep Kq337 (own_slS (own_safeA hZ.alike P336_0 (by decide)) own_sl0) C336.1
    have C337 := C336.trans c337
    have kk337 := Nat.le_trans kk336 c337.2.1
    refine own_st (st337) ?_
    refine own_st (fun t_ k_ => XS.aload X337.here hx rfl (hb hby at_190) rfl rfl (XS.iload X337.here hx rfl (hb hby at_192) rfl (XS.iload X337.here hx rfl (hb hby at_194) rfl (XS.iconst X337.here hx rfl (hb hby at_196) (XS.lloadN X337.here hx rfl (hb hby at_197) rfl k_))))) ?_
    show own_at p e below _ T337 m 198 #[oI p0, oR r_215, oJ vv, oS, oI (1 : Int32), oI (6 : Int32), oR b330, oI (2 : Int32), oU] [(.long vv), (.int (5 : Int32)), (.int (6 : Int32)), (.int (2 : Int32)), (.ref b330)]
    refine own_st (X337.ldc2Long hx hown (mvT hZ (own_w hw 158 rfl)) (g := (mkF m 198 #[oI p0, oR r_215, oJ vv, oS, oI (1 : Int32), oI (6 : Int32), oR b330, oI (2 : Int32), oU] [(.long vv), (.int (5 : Int32)), (.int (6 : Int32)), (.int (2 : Int32)), (.ref b330)])) rfl (hb hby at_198)) ?_
    show own_at p e below _ T337 m 201 #[oI p0, oR r_215, oJ vv, oS, oI (1 : Int32), oI (6 : Int32), oR b330, oI (2 : Int32), oU] [(.long (60466176 : Int64)), (.long vv), (.int (5 : Int32)), (.int (6 : Int32)), (.int (2 : Int32)), (.ref b330)]
    obtain ⟨_, _, ⟨T338, L338, k338, n338⟩, -, X338, ⟨Lc338, hQ338, l338, y338, z338⟩, st338⟩ := Jvm.LawKit.callS X337 hx (y := own_n31) hown (mvT hZ (own_w hw 146 rfl)) (mvT hZ (own_w hw 147 rfl)) (mvT hZ (own_w hw 148 rfl)) (mvT hZ (own_w hw 149 rfl)) (by decide) (backOf (W := 0) (own_rm27y l Z a0 hw [] b330 (2 : Int32) (6 : Int32) (5 : Int32) vv (60466176 : Int64) k330 (own_upd (own_upd (own_upd (own_upd (own_upd (own_upd (own_upd (fun _ => (0 : Int32)) 0 (119 : Int32)) 1 (45 : Int32)) 7 (own_dig ((vv / (1 : Int64)) % (36 : Int64)))) 6 (own_dig ((vv / (36 : Int64)) % (36 : Int64)))) 5 (own_dig ((vv / (1296 : Int64)) % (36 : Int64)))) 4 (own_dig ((vv / (46656 : Int64)) % (36 : Int64)))) 3 (own_dig ((vv / (1679616 : Int64)) % (36 : Int64)))) 2 T337.heap n0 (Nat.le_trans Z0 K337.1) P337_0 ge330 (by decide) (by decide) (by decide)) hZ (own_w hw 149 rfl) (own_w hw 148 rfl) (by decide) (by decide)) (g := (mkF m 201 #[oI p0, oR r_215, oJ vv, oS, oI (1 : Int32), oI (6 : Int32), oR b330, oI (2 : Int32), oU] [(.long (60466176 : Int64)), (.long vv), (.int (5 : Int32)), (.int (6 : Int32)), (.int (2 : Int32)), (.ref b330)])) rfl (by rw [hml]; rfl) (argsL := [(.ref b330), (.int (2 : Int32)), (.int (6 : Int32)), (.int (5 : Int32)), (.long vv), (.long (60466176 : Int64))]) (rest := []) (lenOf own_pd25 rfl) rfl (own_hW rfl) (hb hby at_201) (fun _ _ => ⟨rfl, rfl, (by decide : 10 + 0 ≤ _), (by decide : 143 + 0 ≤ _)⟩)
    dsimp only [Pt.U, Pt.locs, Pt.cells, Pt.slots] at X338 l338 y338 z338 st338 hQ338
    subst y338 z338
    obtain ⟨rfl, N338q, Kq338, P338_0⟩ := hQ338
    have N338 : Fr n0 L338 := by rw [l338]; exact Fr.app N337 N338q
    have K338 : Keep h0 T338.heap [] := K337.trans Kq338 (allS (P := fun x => x ∈ [] ∨ h0.size ≤ x) (Or.inr fr330) all0)
    have c338 : CHr Z own_EL _ T337.heap _ T338.heap := CHr.keep Kq338 (own_slS (own_safeA hZ.alike P337_0 (by decide)) own_sl0) C337.1
    have C338 := C337.trans c338
    have kk338 := Nat.le_trans kk337 c338.2.1
    refine own_st (st338) ?_
    refine own_st (fun t_ k_ => XS.iload X338.here hx rfl (hb hby at_204) rfl (XS.iload X338.here hx rfl (hb hby at_206) rfl (XS.iadd X338.here hx rfl (hb hby at_208) rfl k_))) ?_
    show own_at p e below _ T338 m 209 #[oI p0, oR r_215, oJ vv, oS, oI (1 : Int32), oI (6 : Int32), oR b330, oI (2 : Int32), oU] [(.int ((2 : Int32) + (6 : Int32)))]
    rw [show ((2 : Int32) + (6 : Int32)) = (8 : Int32) from (by decide)]
    refine own_st (fun t_ k_ => XS.istore X338.here hx rfl (hb hby at_209) rfl (l' := #[oI p0, oR r_215, oJ vv, oS, oI (1 : Int32), oI (6 : Int32), oR b330, oI (2 : Int32), oI (8 : Int32)]) rfl (XS.aloadN X338.here hx rfl (hb hby at_211) rfl rfl k_)) ?_
    show own_at p e below _ T338 m 212 #[oI p0, oR r_215, oJ vv, oS, oI (1 : Int32), oI (6 : Int32), oR b330, oI (2 : Int32), oI (8 : Int32)] [(.ref r_215)]
    have f339 : Fld Z T338.heap r_215 "java/lang/String" "value" "[B" (.ref t_215) := (((((((((P215_2.ext E330).other W331 (Or.inl (Nat.ne_of_lt (Nat.lt_of_lt_of_le P215_1.lt (Nat.le_of_eq g330.symm))))).other W332 (Or.inl (Nat.ne_of_lt (Nat.lt_of_lt_of_le P215_1.lt (Nat.le_of_eq g330.symm))))).keep Kq333 (ninS (Nat.ne_of_lt (Nat.lt_of_lt_of_le P215_1.lt (Nat.le_of_eq g330.symm))) nin0)).keep Kq334 (ninS (Nat.ne_of_lt (Nat.lt_of_lt_of_le P215_1.lt (Nat.le_of_eq g330.symm))) nin0)).keep Kq335 (ninS (Nat.ne_of_lt (Nat.lt_of_lt_of_le P215_1.lt (Nat.le_of_eq g330.symm))) nin0)).keep Kq336 (ninS (Nat.ne_of_lt (Nat.lt_of_lt_of_le P215_1.lt (Nat.le_of_eq g330.symm))) nin0)).keep Kq337 (ninS (Nat.ne_of_lt (Nat.lt_of_lt_of_le P215_1.lt (Nat.le_of_eq g330.symm))) nin0)).keep Kq338 (ninS (Nat.ne_of_lt (Nat.lt_of_lt_of_le P215_1.lt (Nat.le_of_eq g330.symm))) nin0))
    have f340 : Fld Z T338.heap r_215 "java/lang/String" "coder" "B" (.int (0 : Int32)) := (((((((((P215_3.ext E330).other W331 (Or.inl (Nat.ne_of_lt (Nat.lt_of_lt_of_le P215_1.lt (Nat.le_of_eq g330.symm))))).other W332 (Or.inl (Nat.ne_of_lt (Nat.lt_of_lt_of_le P215_1.lt (Nat.le_of_eq g330.symm))))).keep Kq333 (ninS (Nat.ne_of_lt (Nat.lt_of_lt_of_le P215_1.lt (Nat.le_of_eq g330.symm))) nin0)).keep Kq334 (ninS (Nat.ne_of_lt (Nat.lt_of_lt_of_le P215_1.lt (Nat.le_of_eq g330.symm))) nin0)).keep Kq335 (ninS (Nat.ne_of_lt (Nat.lt_of_lt_of_le P215_1.lt (Nat.le_of_eq g330.symm))) nin0)).keep Kq336 (ninS (Nat.ne_of_lt (Nat.lt_of_lt_of_le P215_1.lt (Nat.le_of_eq g330.symm))) nin0)).keep Kq337 (ninS (Nat.ne_of_lt (Nat.lt_of_lt_of_le P215_1.lt (Nat.le_of_eq g330.symm))) nin0)).keep Kq338 (ninS (Nat.ne_of_lt (Nat.lt_of_lt_of_le P215_1.lt (Nat.le_of_eq g330.symm))) nin0))
    have f341 : own_A Z T338.heap t_215 kt_215 .byte (own_bl (0 : Int32) 8) (fun i => .int ((own_by (0 : Int32) (own_ws 1 6 V)) i)) := (((((((((As.ext E330).other W331 (Nat.ne_of_lt (Nat.lt_of_lt_of_le As.lt (Nat.le_of_eq g330.symm)))).other W332 (Nat.ne_of_lt (Nat.lt_of_lt_of_le As.lt (Nat.le_of_eq g330.symm)))).keep Kq333 (ninS (Nat.ne_of_lt (Nat.lt_of_lt_of_le As.lt (Nat.le_of_eq g330.symm))) nin0)).keep Kq334 (ninS (Nat.ne_of_lt (Nat.lt_of_lt_of_le As.lt (Nat.le_of_eq g330.symm))) nin0)).keep Kq335 (ninS (Nat.ne_of_lt (Nat.lt_of_lt_of_le As.lt (Nat.le_of_eq g330.symm))) nin0)).keep Kq336 (ninS (Nat.ne_of_lt (Nat.lt_of_lt_of_le As.lt (Nat.le_of_eq g330.symm))) nin0)).keep Kq337 (ninS (Nat.ne_of_lt (Nat.lt_of_lt_of_le As.lt (Nat.le_of_eq g330.symm))) nin0)).keep Kq338 (ninS (Nat.ne_of_lt (Nat.lt_of_lt_of_le As.lt (Nat.le_of_eq g330.symm))) nin0))
    have f342 : Old Z n0 T338.heap := ((((((((((q0.keep Kq215 all0).ext E330).wr W331 ge330).wr W332 ge330).keep Kq333 (allS ge330 all0)).keep Kq334 (allS ge330 all0)).keep Kq335 (allS ge330 all0)).keep Kq336 (allS ge330 all0)).keep Kq337 (allS ge330 all0)).keep Kq338 (allS ge330 all0))
    obtain ⟨cq343, kq343, q343a, q343b, q343c⟩ := isOf hZ rfl (((((((((P215_1.ext E330).wr W331).wr W332).keep Kq333).keep Kq334).keep Kq335).keep Kq336).keep Kq337).keep Kq338)
    obtain ⟨_, _, ⟨T343, L343, k343, n343⟩, -, X343, ⟨Lc343, hQ343, l343, y343, z343⟩, st343⟩ := X338.virtualBack hx (y := own_n6) (z := own_n6) hown (mvT hZ (own_w hw 159 rfl)) (mvT hZ (own_w hw 43 rfl)) (notFace_of_selects (args := #[]) (mvT hZ (own_w hw 45 rfl))) (mvT hZ (own_w hw 45 rfl)) (mvT hZ (own_w hw 44 rfl)) (by decide) (backOf (W := 0) (own_rm7 l Z a0 hw [] r_215 t_215 kt_215 (own_bl (0 : Int32) 8) (own_by (0 : Int32) (own_ws 1 6 V)) G1 T338.heap n0 (Nat.le_trans Z0 K338.1) (((((((((P215_1.ext E330).wr W331).wr W332).keep Kq333).keep Kq334).keep Kq335).keep Kq336).keep Kq337).keep Kq338) f339 f340 f341 f342 q1 hG1) hZ (own_w hw 46 rfl) (own_w hw 20 rfl) (by decide) (by decide)) q343a q343c (g := (mkF m 212 #[oI p0, oR r_215, oJ vv, oS, oI (1 : Int32), oI (6 : Int32), oR b330, oI (2 : Int32), oI (8 : Int32)] [(.ref r_215)])) rfl (by rw [hml]; rfl) (Steps.refl _) (argsL := []) (rest := []) (lenOf own_pd8 rfl) rfl (own_hW rfl) (hb hby at_212) (fun _ _ => ⟨rfl, rfl, (by decide : 10 + 0 ≤ _), (by decide : 143 + 0 ≤ _)⟩)
    dsimp only [Pt.U, Pt.locs, Pt.cells, Pt.slots] at X343 l343 y343 z343 st343 hQ343
    subst y343 z343
    obtain ⟨rfl, N343q, eq343⟩ := hQ343
    have N343 : Fr n0 L343 := by rw [l343]; exact Fr.app N338 N343q
    refine own_tr st343 ?_
    refine own_st (fun t_ k_ => XS.iload X343.here hx rfl (hb hby at_215) rfl (XS.icmpYes X343.here hx rfl (pc0 := 217) (pc' := 222) rfl (hb hby at_217) rfl (teq (by decide : (Int32.ofNat (own_bl (0 : Int32) 8)) = (8 : Int32))).1 (by decide) (by decide) k_)) ?_
    show own_at p e below _ T343 m 222 #[oI p0, oR r_215, oJ vv, oS, oI (1 : Int32), oI (6 : Int32), oR b330, oI (2 : Int32), oI (8 : Int32)] []
    obtain ⟨gg, hgg⟩ : ∃ f_ : Nat → Int32, f_ = (own_upd (own_upd (own_upd (own_upd (own_upd (own_upd (own_upd (own_upd (fun _ => (0 : Int32)) 0 (119 : Int32)) 1 (45 : Int32)) 7 (own_dig ((vv / (1 : Int64)) % (36 : Int64)))) 6 (own_dig ((vv / (36 : Int64)) % (36 : Int64)))) 5 (own_dig ((vv / (1296 : Int64)) % (36 : Int64)))) 4 (own_dig ((vv / (46656 : Int64)) % (36 : Int64)))) 3 (own_dig ((vv / (1679616 : Int64)) % (36 : Int64)))) 2 (own_dig ((vv / (60466176 : Int64)) % (36 : Int64)))) := ⟨_, rfl⟩
    have Agg : own_A Z T338.heap b330 k330 .char 8 (fun i => .int (gg i)) := by rw [hgg]; exact P338_0
    have eg0 : own_ws 1 6 V 0 = gg 0 := by rw [hgg]; exact rfl.symm
    have eg1 : own_ws 1 6 V 1 = gg 1 := by rw [hgg]; exact rfl.symm
    have eg2 : own_ws 1 6 V 2 = gg 2 := by rw [hgg]; exact (show own_dig ((vv / (60466176 : Int64)) % (36 : Int64)) = own_ws 1 6 V 2 from (own_dd hv (by decide : (60466176 : Int64).toInt = ((60466176 : Nat) : Int)) (by decide)).trans (by unfold own_ws own_tb; rw [if_neg (by decide), if_neg (by decide)])).symm
    have eg3 : own_ws 1 6 V 3 = gg 3 := by rw [hgg]; exact (show own_dig ((vv / (1679616 : Int64)) % (36 : Int64)) = own_ws 1 6 V 3 from (own_dd hv (by decide : (1679616 : Int64).toInt = ((1679616 : Nat) : Int)) (by decide)).trans (by unfold own_ws own_tb; rw [if_neg (by decide), if_neg (by decide)])).symm
    have eg4 : own_ws 1 6 V 4 = gg 4 := by rw [hgg]; exact (show own_dig ((vv / (46656 : Int64)) % (36 : Int64)) = own_ws 1 6 V 4 from (own_dd hv (by decide : (46656 : Int64).toInt = ((46656 : Nat) : Int)) (by decide)).trans (by unfold own_ws own_tb; rw [if_neg (by decide), if_neg (by decide)])).symm
    have eg5 : own_ws 1 6 V 5 = gg 5 := by rw [hgg]; exact (show own_dig ((vv / (1296 : Int64)) % (36 : Int64)) = own_ws 1 6 V 5 from (own_dd hv (by decide : (1296 : Int64).toInt = ((1296 : Nat) : Int)) (by decide)).trans (by unfold own_ws own_tb; rw [if_neg (by decide), if_neg (by decide)])).symm
    have eg6 : own_ws 1 6 V 6 = gg 6 := by rw [hgg]; exact (show own_dig ((vv / (36 : Int64)) % (36 : Int64)) = own_ws 1 6 V 6 from (own_dd hv (by decide : (36 : Int64).toInt = ((36 : Nat) : Int)) (by decide)).trans (by unfold own_ws own_tb; rw [if_neg (by decide), if_neg (by decide)])).symm
    have eg7 : own_ws 1 6 V 7 = gg 7 := by rw [hgg]; exact (show own_dig ((vv / (1 : Int64)) % (36 : Int64)) = own_ws 1 6 V 7 from (own_dd hv (by decide : (1 : Int64).toInt = ((1 : Nat) : Int)) (by decide)).trans (by unfold own_ws own_tb; rw [if_neg (by decide), if_neg (by decide)])).symm
    refine own_st (fun t_ k_ => XS.aloadN X343.here hx rfl (hb hby at_222) rfl rfl (XS.aload X343.here hx rfl (hb hby at_223) rfl rfl (XS.iload X343.here hx rfl (hb hby at_225) rfl (XS.iconst X343.here hx rfl (hb hby at_227) k_)))) ?_
    show own_at p e below _ T343 m 228 #[oI p0, oR r_215, oJ vv, oS, oI (1 : Int32), oI (6 : Int32), oR b330, oI (2 : Int32), oI (8 : Int32)] [(.int (0 : Int32)), (.int (8 : Int32)), (.ref b330), (.ref r_215)]
    obtain ⟨_, _, ⟨T344, L344, k344, n344⟩, -, X344, ⟨Lc344, hQ344, l344, y344, z344⟩, st344⟩ := Jvm.LawKit.callS X343 hx (y := own_n32) hown (mvT hZ (own_w hw 160 rfl)) (mvT hZ (own_w hw 161 rfl)) (mvT hZ (own_w hw 148 rfl)) (mvT hZ (own_w hw 162 rfl)) (by decide) (backOf (W := 0) (own_rm29y l Z a0 hw [] r_215 b330 (8 : Int32) (0 : Int32) t_215 kt_215 8 (own_ws 1 6 V) k330 gg 0 G1 G3 T338.heap n0 (Nat.le_trans Z0 K338.1) (((((((((P215_1.ext E330).wr W331).wr W332).keep Kq333).keep Kq334).keep Kq335).keep Kq336).keep Kq337).keep Kq338) f339 f340 f341 hcd rfl f342 q1 hG1 q3 rG3 Agg (by decide) (by decide) (by decide) ⟨(own_ws7 _ _ _ _).1, Int.le_trans (own_ws7 _ _ _ _).2 (by decide)⟩ eg0) hZ (own_w hw 162 rfl) (own_w hw 148 rfl) (by decide) (by decide)) (g := (mkF m 228 #[oI p0, oR r_215, oJ vv, oS, oI (1 : Int32), oI (6 : Int32), oR b330, oI (2 : Int32), oI (8 : Int32)] [(.int (0 : Int32)), (.int (8 : Int32)), (.ref b330), (.ref r_215)])) rfl (by rw [hml]; rfl) (argsL := [(.ref r_215), (.ref b330), (.int (8 : Int32)), (.int (0 : Int32))]) (rest := []) (lenOf own_pd26 rfl) rfl (own_hW rfl) (hb hby at_228) (fun _ _ => ⟨rfl, eq343, (by decide : 10 + 0 ≤ _), (by decide : 143 + 0 ≤ _)⟩)
    dsimp only [Pt.U, Pt.locs, Pt.cells, Pt.slots] at X344 l344 y344 z344 st344 hQ344
    subst y344 z344
    obtain ⟨rfl, N344q, eq344⟩ := hQ344
    have N344 : Fr n0 L344 := by rw [l344]; exact Fr.app N343 N344q
    refine own_st (st344) ?_
    refine own_st (fun t_ k_ => XS.ifNo X344.here hx rfl (hb hby at_231) rfl ((if0 _ _).trans (feq (by decide : ¬ ((1 : Int32) = (0 : Int32)))).1) (XS.aloadN X344.here hx rfl (hb hby at_234) rfl rfl (XS.aload X344.here hx rfl (hb hby at_235) rfl rfl (XS.iload X344.here hx rfl (hb hby at_237) rfl (XS.iconst X344.here hx rfl (hb hby at_239) k_))))) ?_
    show own_at p e below _ T344 m 240 #[oI p0, oR r_215, oJ vv, oS, oI (1 : Int32), oI (6 : Int32), oR b330, oI (2 : Int32), oI (8 : Int32)] [(.int (1 : Int32)), (.int (8 : Int32)), (.ref b330), (.ref r_215)]
    obtain ⟨_, _, ⟨T345, L345, k345, n345⟩, -, X345, ⟨Lc345, hQ345, l345, y345, z345⟩, st345⟩ := Jvm.LawKit.callS X344 hx (y := own_n32) hown (mvT hZ (own_w hw 160 rfl)) (mvT hZ (own_w hw 161 rfl)) (mvT hZ (own_w hw 148 rfl)) (mvT hZ (own_w hw 162 rfl)) (by decide) (backOf (W := 0) (own_rm29y l Z a0 hw [] r_215 b330 (8 : Int32) (1 : Int32) t_215 kt_215 8 (own_ws 1 6 V) k330 gg 1 G1 G3 T338.heap n0 (Nat.le_trans Z0 K338.1) (((((((((P215_1.ext E330).wr W331).wr W332).keep Kq333).keep Kq334).keep Kq335).keep Kq336).keep Kq337).keep Kq338) f339 f340 f341 hcd rfl f342 q1 hG1 q3 rG3 Agg (by decide) (by decide) (by decide) ⟨(own_ws7 _ _ _ _).1, Int.le_trans (own_ws7 _ _ _ _).2 (by decide)⟩ eg1) hZ (own_w hw 162 rfl) (own_w hw 148 rfl) (by decide) (by decide)) (g := (mkF m 240 #[oI p0, oR r_215, oJ vv, oS, oI (1 : Int32), oI (6 : Int32), oR b330, oI (2 : Int32), oI (8 : Int32)] [(.int (1 : Int32)), (.int (8 : Int32)), (.ref b330), (.ref r_215)])) rfl (by rw [hml]; rfl) (argsL := [(.ref r_215), (.ref b330), (.int (8 : Int32)), (.int (1 : Int32))]) (rest := []) (lenOf own_pd26 rfl) rfl (own_hW rfl) (hb hby at_240) (fun _ _ => ⟨rfl, eq344, (by decide : 10 + 0 ≤ _), (by decide : 143 + 0 ≤ _)⟩)
    dsimp only [Pt.U, Pt.locs, Pt.cells, Pt.slots] at X345 l345 y345 z345 st345 hQ345
    subst y345 z345
    obtain ⟨rfl, N345q, eq345⟩ := hQ345
    have N345 : Fr n0 L345 := by rw [l345]; exact Fr.app N344 N345q
    refine own_st (st345) ?_
    refine own_st (fun t_ k_ => XS.ifNo X345.here hx rfl (hb hby at_243) rfl ((if0 _ _).trans (feq (by decide : ¬ ((1 : Int32) = (0 : Int32)))).1) (XS.aloadN X345.here hx rfl (hb hby at_246) rfl rfl (XS.aload X345.here hx rfl (hb hby at_247) rfl rfl (XS.iload X345.here hx rfl (hb hby at_249) rfl (XS.iconst X345.here hx rfl (hb hby at_251) k_))))) ?_
    show own_at p e below _ T345 m 252 #[oI p0, oR r_215, oJ vv, oS, oI (1 : Int32), oI (6 : Int32), oR b330, oI (2 : Int32), oI (8 : Int32)] [(.int (2 : Int32)), (.int (8 : Int32)), (.ref b330), (.ref r_215)]
    obtain ⟨_, _, ⟨T346, L346, k346, n346⟩, -, X346, ⟨Lc346, hQ346, l346, y346, z346⟩, st346⟩ := Jvm.LawKit.callS X345 hx (y := own_n32) hown (mvT hZ (own_w hw 160 rfl)) (mvT hZ (own_w hw 161 rfl)) (mvT hZ (own_w hw 148 rfl)) (mvT hZ (own_w hw 162 rfl)) (by decide) (backOf (W := 0) (own_rm29y l Z a0 hw [] r_215 b330 (8 : Int32) (2 : Int32) t_215 kt_215 8 (own_ws 1 6 V) k330 gg 2 G1 G3 T338.heap n0 (Nat.le_trans Z0 K338.1) (((((((((P215_1.ext E330).wr W331).wr W332).keep Kq333).keep Kq334).keep Kq335).keep Kq336).keep Kq337).keep Kq338) f339 f340 f341 hcd rfl f342 q1 hG1 q3 rG3 Agg (by decide) (by decide) (by decide) ⟨(own_ws7 _ _ _ _).1, Int.le_trans (own_ws7 _ _ _ _).2 (by decide)⟩ eg2) hZ (own_w hw 162 rfl) (own_w hw 148 rfl) (by decide) (by decide)) (g := (mkF m 252 #[oI p0, oR r_215, oJ vv, oS, oI (1 : Int32), oI (6 : Int32), oR b330, oI (2 : Int32), oI (8 : Int32)] [(.int (2 : Int32)), (.int (8 : Int32)), (.ref b330), (.ref r_215)])) rfl (by rw [hml]; rfl) (argsL := [(.ref r_215), (.ref b330), (.int (8 : Int32)), (.int (2 : Int32))]) (rest := []) (lenOf own_pd26 rfl) rfl (own_hW rfl) (hb hby at_252) (fun _ _ => ⟨rfl, eq345, (by decide : 10 + 0 ≤ _), (by decide : 143 + 0 ≤ _)⟩)
    dsimp only [Pt.U, Pt.locs, Pt.cells, Pt.slots] at X346 l346 y346 z346 st346 hQ346
    subst y346 z346
    obtain ⟨rfl, N346q, eq346⟩ := hQ346
    have N346 : Fr n0 L346 := by rw [l346]; exact Fr.app N345 N346q
    refine own_st (st346) ?_
    refine own_st (fun t_ k_ => XS.ifNo X346.here hx rfl (hb hby at_255) rfl ((if0 _ _).trans (feq (by decide : ¬ ((1 : Int32) = (0 : Int32)))).1) (XS.aloadN X346.here hx rfl (hb hby at_258) rfl rfl (XS.aload X346.here hx rfl (hb hby at_259) rfl rfl (XS.iload X346.here hx rfl (hb hby at_261) rfl (XS.iconst X346.here hx rfl (hb hby at_263) k_))))) ?_
    show own_at p e below _ T346 m 264 #[oI p0, oR r_215, oJ vv, oS, oI (1 : Int32), oI (6 : Int32), oR b330, oI (2 : Int32), oI (8 : Int32)] [(.int (3 : Int32)), (.int (8 : Int32)), (.ref b330), (.ref r_215)]
    obtain ⟨_, _, ⟨T347, L347, k347, n347⟩, -, X347, ⟨Lc347, hQ347, l347, y347, z347⟩, st347⟩ := Jvm.LawKit.callS X346 hx (y := own_n32) hown (mvT hZ (own_w hw 160 rfl)) (mvT hZ (own_w hw 161 rfl)) (mvT hZ (own_w hw 148 rfl)) (mvT hZ (own_w hw 162 rfl)) (by decide) (backOf (W := 0) (own_rm29y l Z a0 hw [] r_215 b330 (8 : Int32) (3 : Int32) t_215 kt_215 8 (own_ws 1 6 V) k330 gg 3 G1 G3 T338.heap n0 (Nat.le_trans Z0 K338.1) (((((((((P215_1.ext E330).wr W331).wr W332).keep Kq333).keep Kq334).keep Kq335).keep Kq336).keep Kq337).keep Kq338) f339 f340 f341 hcd rfl f342 q1 hG1 q3 rG3 Agg (by decide) (by decide) (by decide) ⟨(own_ws7 _ _ _ _).1, Int.le_trans (own_ws7 _ _ _ _).2 (by decide)⟩ eg3) hZ (own_w hw 162 rfl) (own_w hw 148 rfl) (by decide) (by decide)) (g := (mkF m 264 #[oI p0, oR r_215, oJ vv, oS, oI (1 : Int32), oI (6 : Int32), oR b330, oI (2 : Int32), oI (8 : Int32)] [(.int (3 : Int32)), (.int (8 : Int32)), (.ref b330), (.ref r_215)])) rfl (by rw [hml]; rfl) (argsL := [(.ref r_215), (.ref b330), (.int (8 : Int32)), (.int (3 : Int32))]) (rest := []) (lenOf own_pd26 rfl) rfl (own_hW rfl) (hb hby at_264) (fun _ _ => ⟨rfl, eq346, (by decide : 10 + 0 ≤ _), (by decide : 143 + 0 ≤ _)⟩)
    dsimp only [Pt.U, Pt.locs, Pt.cells, Pt.slots] at X347 l347 y347 z347 st347 hQ347
    subst y347 z347
    obtain ⟨rfl, N347q, eq347⟩ := hQ347
    have N347 : Fr n0 L347 := by rw [l347]; exact Fr.app N346 N347q
    refine own_st (st347) ?_
    refine own_st (fun t_ k_ => XS.ifNo X347.here hx rfl (hb hby at_267) rfl ((if0 _ _).trans (feq (by decide : ¬ ((1 : Int32) = (0 : Int32)))).1) (XS.aloadN X347.here hx rfl (hb hby at_270) rfl rfl (XS.aload X347.here hx rfl (hb hby at_271) rfl rfl (XS.iload X347.here hx rfl (hb hby at_273) rfl (XS.iconst X347.here hx rfl (hb hby at_275) k_))))) ?_
    show own_at p e below _ T347 m 276 #[oI p0, oR r_215, oJ vv, oS, oI (1 : Int32), oI (6 : Int32), oR b330, oI (2 : Int32), oI (8 : Int32)] [(.int (4 : Int32)), (.int (8 : Int32)), (.ref b330), (.ref r_215)]
    obtain ⟨_, _, ⟨T348, L348, k348, n348⟩, -, X348, ⟨Lc348, hQ348, l348, y348, z348⟩, st348⟩ := Jvm.LawKit.callS X347 hx (y := own_n32) hown (mvT hZ (own_w hw 160 rfl)) (mvT hZ (own_w hw 161 rfl)) (mvT hZ (own_w hw 148 rfl)) (mvT hZ (own_w hw 162 rfl)) (by decide) (backOf (W := 0) (own_rm29y l Z a0 hw [] r_215 b330 (8 : Int32) (4 : Int32) t_215 kt_215 8 (own_ws 1 6 V) k330 gg 4 G1 G3 T338.heap n0 (Nat.le_trans Z0 K338.1) (((((((((P215_1.ext E330).wr W331).wr W332).keep Kq333).keep Kq334).keep Kq335).keep Kq336).keep Kq337).keep Kq338) f339 f340 f341 hcd rfl f342 q1 hG1 q3 rG3 Agg (by decide) (by decide) (by decide) ⟨(own_ws7 _ _ _ _).1, Int.le_trans (own_ws7 _ _ _ _).2 (by decide)⟩ eg4) hZ (own_w hw 162 rfl) (own_w hw 148 rfl) (by decide) (by decide)) (g := (mkF m 276 #[oI p0, oR r_215, oJ vv, oS, oI (1 : Int32), oI (6 : Int32), oR b330, oI (2 : Int32), oI (8 : Int32)] [(.int (4 : Int32)), (.int (8 : Int32)), (.ref b330), (.ref r_215)])) rfl (by rw [hml]; rfl) (argsL := [(.ref r_215), (.ref b330), (.int (8 : Int32)), (.int (4 : Int32))]) (rest := []) (lenOf own_pd26 rfl) rfl (own_hW rfl) (hb hby at_276) (fun _ _ => ⟨rfl, eq347, (by decide : 10 + 0 ≤ _), (by decide : 143 + 0 ≤ _)⟩)
    dsimp only [Pt.U, Pt.locs, Pt.cells, Pt.slots] at X348 l348 y348 z348 st348 hQ348
    subst y348 z348
    obtain ⟨rfl, N348q, eq348⟩ := hQ348
    have N348 : Fr n0 L348 := by rw [l348]; exact Fr.app N347 N348q
    refine own_st (st348) ?_
    refine own_st (fun t_ k_ => XS.ifNo X348.here hx rfl (hb hby at_279) rfl ((if0 _ _).trans (feq (by decide : ¬ ((1 : Int32) = (0 : Int32)))).1) (XS.aloadN X348.here hx rfl (hb hby at_282) rfl rfl (XS.aload X348.here hx rfl (hb hby at_283) rfl rfl (XS.iload X348.here hx rfl (hb hby at_285) rfl (XS.iconst X348.here hx rfl (hb hby at_287) k_))))) ?_
    show own_at p e below _ T348 m 288 #[oI p0, oR r_215, oJ vv, oS, oI (1 : Int32), oI (6 : Int32), oR b330, oI (2 : Int32), oI (8 : Int32)] [(.int (5 : Int32)), (.int (8 : Int32)), (.ref b330), (.ref r_215)]
    obtain ⟨_, _, ⟨T349, L349, k349, n349⟩, -, X349, ⟨Lc349, hQ349, l349, y349, z349⟩, st349⟩ := Jvm.LawKit.callS X348 hx (y := own_n32) hown (mvT hZ (own_w hw 160 rfl)) (mvT hZ (own_w hw 161 rfl)) (mvT hZ (own_w hw 148 rfl)) (mvT hZ (own_w hw 162 rfl)) (by decide) (backOf (W := 0) (own_rm29y l Z a0 hw [] r_215 b330 (8 : Int32) (5 : Int32) t_215 kt_215 8 (own_ws 1 6 V) k330 gg 5 G1 G3 T338.heap n0 (Nat.le_trans Z0 K338.1) (((((((((P215_1.ext E330).wr W331).wr W332).keep Kq333).keep Kq334).keep Kq335).keep Kq336).keep Kq337).keep Kq338) f339 f340 f341 hcd rfl f342 q1 hG1 q3 rG3 Agg (by decide) (by decide) (by decide) ⟨(own_ws7 _ _ _ _).1, Int.le_trans (own_ws7 _ _ _ _).2 (by decide)⟩ eg5) hZ (own_w hw 162 rfl) (own_w hw 148 rfl) (by decide) (by decide)) (g := (mkF m 288 #[oI p0, oR r_215, oJ vv, oS, oI (1 : Int32), oI (6 : Int32), oR b330, oI (2 : Int32), oI (8 : Int32)] [(.int (5 : Int32)), (.int (8 : Int32)), (.ref b330), (.ref r_215)])) rfl (by rw [hml]; rfl) (argsL := [(.ref r_215), (.ref b330), (.int (8 : Int32)), (.int (5 : Int32))]) (rest := []) (lenOf own_pd26 rfl) rfl (own_hW rfl) (hb hby at_288) (fun _ _ => ⟨rfl, eq348, (by decide : 10 + 0 ≤ _), (by decide : 143 + 0 ≤ _)⟩)
    dsimp only [Pt.U, Pt.locs, Pt.cells, Pt.slots] at X349 l349 y349 z349 st349 hQ349
    subst y349 z349
    obtain ⟨rfl, N349q, eq349⟩ := hQ349
    have N349 : Fr n0 L349 := by rw [l349]; exact Fr.app N348 N349q
    refine own_st (st349) ?_
    refine own_st (fun t_ k_ => XS.ifNo X349.here hx rfl (hb hby at_291) rfl ((if0 _ _).trans (feq (by decide : ¬ ((1 : Int32) = (0 : Int32)))).1) (XS.aloadN X349.here hx rfl (hb hby at_294) rfl rfl (XS.aload X349.here hx rfl (hb hby at_295) rfl rfl (XS.iload X349.here hx rfl (hb hby at_297) rfl (XS.bipush X349.here hx rfl (hb hby at_299) k_))))) ?_
    show own_at p e below _ T349 m 301 #[oI p0, oR r_215, oJ vv, oS, oI (1 : Int32), oI (6 : Int32), oR b330, oI (2 : Int32), oI (8 : Int32)] [(.int (6 : Int32)), (.int (8 : Int32)), (.ref b330), (.ref r_215)]
    obtain ⟨_, _, ⟨T350, L350, k350, n350⟩, -, X350, ⟨Lc350, hQ350, l350, y350, z350⟩, st350⟩ := Jvm.LawKit.callS X349 hx (y := own_n32) hown (mvT hZ (own_w hw 160 rfl)) (mvT hZ (own_w hw 161 rfl)) (mvT hZ (own_w hw 148 rfl)) (mvT hZ (own_w hw 162 rfl)) (by decide) (backOf (W := 0) (own_rm29y l Z a0 hw [] r_215 b330 (8 : Int32) (6 : Int32) t_215 kt_215 8 (own_ws 1 6 V) k330 gg 6 G1 G3 T338.heap n0 (Nat.le_trans Z0 K338.1) (((((((((P215_1.ext E330).wr W331).wr W332).keep Kq333).keep Kq334).keep Kq335).keep Kq336).keep Kq337).keep Kq338) f339 f340 f341 hcd rfl f342 q1 hG1 q3 rG3 Agg (by decide) (by decide) (by decide) ⟨(own_ws7 _ _ _ _).1, Int.le_trans (own_ws7 _ _ _ _).2 (by decide)⟩ eg6) hZ (own_w hw 162 rfl) (own_w hw 148 rfl) (by decide) (by decide)) (g := (mkF m 301 #[oI p0, oR r_215, oJ vv, oS, oI (1 : Int32), oI (6 : Int32), oR b330, oI (2 : Int32), oI (8 : Int32)] [(.int (6 : Int32)), (.int (8 : Int32)), (.ref b330), (.ref r_215)])) rfl (by rw [hml]; rfl) (argsL := [(.ref r_215), (.ref b330), (.int (8 : Int32)), (.int (6 : Int32))]) (rest := []) (lenOf own_pd26 rfl) rfl (own_hW rfl) (hb hby at_301) (fun _ _ => ⟨rfl, eq349, (by decide : 10 + 0 ≤ _), (by decide : 143 + 0 ≤ _)⟩)
    dsimp only [Pt.U, Pt.locs, Pt.cells, Pt.slots] at X350 l350 y350 z350 st350 hQ350
    subst y350 z350
    obtain ⟨rfl, N350q, eq350⟩ := hQ350
    have N350 : Fr n0 L350 := by rw [l350]; exact Fr.app N349 N350q
    refine own_st (st350) ?_
    refine own_st (fun t_ k_ => XS.ifNo X350.here hx rfl (hb hby at_304) rfl ((if0 _ _).trans (feq (by decide : ¬ ((1 : Int32) = (0 : Int32)))).1) (XS.aloadN X350.here hx rfl (hb hby at_307) rfl rfl (XS.aload X350.here hx rfl (hb hby at_308) rfl rfl (XS.iload X350.here hx rfl (hb hby at_310) rfl (XS.bipush X350.here hx rfl (hb hby at_312) k_))))) ?_
    show own_at p e below _ T350 m 314 #[oI p0, oR r_215, oJ vv, oS, oI (1 : Int32), oI (6 : Int32), oR b330, oI (2 : Int32), oI (8 : Int32)] [(.int (7 : Int32)), (.int (8 : Int32)), (.ref b330), (.ref r_215)]
    obtain ⟨_, _, ⟨T351, L351, k351, n351⟩, -, X351, ⟨Lc351, hQ351, l351, y351, z351⟩, st351⟩ := Jvm.LawKit.callS X350 hx (y := own_n32) hown (mvT hZ (own_w hw 160 rfl)) (mvT hZ (own_w hw 161 rfl)) (mvT hZ (own_w hw 148 rfl)) (mvT hZ (own_w hw 162 rfl)) (by decide) (backOf (W := 0) (own_rm29y l Z a0 hw [] r_215 b330 (8 : Int32) (7 : Int32) t_215 kt_215 8 (own_ws 1 6 V) k330 gg 7 G1 G3 T338.heap n0 (Nat.le_trans Z0 K338.1) (((((((((P215_1.ext E330).wr W331).wr W332).keep Kq333).keep Kq334).keep Kq335).keep Kq336).keep Kq337).keep Kq338) f339 f340 f341 hcd rfl f342 q1 hG1 q3 rG3 Agg (by decide) (by decide) (by decide) ⟨(own_ws7 _ _ _ _).1, Int.le_trans (own_ws7 _ _ _ _).2 (by decide)⟩ eg7) hZ (own_w hw 162 rfl) (own_w hw 148 rfl) (by decide) (by decide)) (g := (mkF m 314 #[oI p0, oR r_215, oJ vv, oS, oI (1 : Int32), oI (6 : Int32), oR b330, oI (2 : Int32), oI (8 : Int32)] [(.int (7 : Int32)), (.int (8 : Int32)), (.ref b330), (.ref r_215)])) rfl (by rw [hml]; rfl) (argsL := [(.ref r_215), (.ref b330), (.int (8 : Int32)), (.int (7 : Int32))]) (rest := []) (lenOf own_pd26 rfl) rfl (own_hW rfl) (hb hby at_314) (fun _ _ => ⟨rfl, eq350, (by decide : 10 + 0 ≤ _), (by decide : 143 + 0 ≤ _)⟩)
    dsimp only [Pt.U, Pt.locs, Pt.cells, Pt.slots] at X351 l351 y351 z351 st351 hQ351
    subst y351 z351
    obtain ⟨rfl, N351q, eq351⟩ := hQ351
    have N351 : Fr n0 L351 := by rw [l351]; exact Fr.app N350 N351q
    refine own_st (st351) ?_
    refine own_st (fun t_ k_ => XS.ifNo X351.here hx rfl (hb hby at_317) rfl ((if0 _ _).trans (feq (by decide : ¬ ((1 : Int32) = (0 : Int32)))).1) (XS.iconst X351.here hx rfl (hb hby at_320) (XS.goto X351.here hx rfl (pc0 := 321) (pc' := 325) rfl (hb hby at_321) (by decide) (by decide) k_))) ?_
    show own_at p e below _ T351 m 325 #[oI p0, oR r_215, oJ vv, oS, oI (1 : Int32), oI (6 : Int32), oR b330, oI (2 : Int32), oI (8 : Int32)] [(.int (1 : Int32))]
    exact own_retW (w := (.int (1 : Int32))) X351 hx hnl hZ (own_hEL hw) S215 (by rw [eq351]; exact kk338) (by rw [eq351]; exact C338) Bd.returns rfl (Or.inl ⟨rfl, by decide, _, rfl⟩) (hb hby at_325) ⟨rfl, N351, (by rw [eq351]; exact K338)⟩ (by decide) (by decide)
  have z0 : (0 : Int64).toInt = 0 := by decide
  have y0 : (0 : Int32).toInt = 0 := by decide
  have rr := rng32 p0
  have el := c_i2l p0
  have hs11 := mt (lw_lt _ _).mpr c11_216
  rw [Int64.lt_iff_toInt_lt, el, z0] at hs11
  have hsg : own_sg p0 = 0 := own_sgN (by rw [Int32.lt_iff_toInt_lt, y0]; exact hs11)
  refine own_st (fun t_ k_ => XS.ifYes X215.here hx rfl (pc0 := 11) (pc' := 18) rfl (hb hby at_11) rfl ((if0 _ _).trans (flt c11_216).2.1) (by decide) (by decide) (XS.iconst X215.here hx rfl (hb hby at_18) (XS.istore X215.here hx rfl (hb hby at_19) rfl (l' := #[oI p0, oR r_215, oJ (p0.toInt64), oS, oI (0 : Int32), oU, oU, oU, oU]) rfl (XS.iload X215.here hx rfl (hb hby at_21) rfl (XS.ifYes X215.here hx rfl (pc0 := 23) (pc' := 29) rfl (hb hby at_23) rfl ((if0 _ _).trans (teq (by decide : (0 : Int32) = (0 : Int32))).1) (by decide) (by decide) k_))))) ?_
  show own_at p e below _ T215 m 29 #[oI p0, oR r_215, oJ (p0.toInt64), oS, oI (0 : Int32), oU, oU, oU, oU] []
  obtain ⟨V, hV⟩ : ∃ z, z = p0.toInt.natAbs := ⟨_, rfl⟩
  obtain ⟨vv, hvv⟩ : ∃ z, z = (p0.toInt64) := ⟨_, rfl⟩
  have hv : vv.toInt = (V : Int) := by rw [hvv]; omega
  rw [← hvv]
  show own_at p e below _ T215 m 29 #[oI p0, oR r_215, oJ vv, oS, oI (0 : Int32), oU, oU, oU, oU] []
  rw [← hV] at hdn
  refine own_st (fun t_ k_ => XS.lloadN X215.here hx rfl (hb hby at_29) rfl k_) ?_
  show own_at p e below _ T215 m 30 #[oI p0, oR r_215, oJ vv, oS, oI (0 : Int32), oU, oU, oU, oU] [(.long vv)]
  refine own_st (X215.ldc2Long hx hown (mvT hZ (own_w hw 144 rfl)) (g := (mkF m 30 #[oI p0, oR r_215, oJ vv, oS, oI (0 : Int32), oU, oU, oU, oU] [(.long vv)])) rfl (hb hby at_30)) ?_
  refine own_st (fun t_ k_ => XS.lcmp X215.here hx rfl (hb hby at_33) rfl k_) ?_
  show own_at p e below _ T215 m 34 #[oI p0, oR r_215, oJ vv, oS, oI (0 : Int32), oU, oU, oU, oU] [(.int (lcmpW vv (36 : Int64)))]
  by_cases c34_352 : (lcmpW vv (36 : Int64)) < (0 : Int32)
  · skip
    have z1 : (36 : Int64).toInt = 36 := by decide
    have hb1 := (lw_lt _ _).mp c34_352
    rw [Int64.lt_iff_toInt_lt, hv, z1] at hb1
    refine own_st (fun t_ k_ => XS.ifNo X215.here hx rfl (hb hby at_34) rfl ((if0 _ _).trans (tlt c34_352).2.1) (XS.iconst X215.here hx rfl (hb hby at_37) (XS.goto X215.here hx rfl (pc0 := 38) (pc' := 91) rfl (hb hby at_38) (by decide) (by decide) (XS.istore X215.here hx rfl (hb hby at_91) rfl (l' := #[oI p0, oR r_215, oJ vv, oS, oI (0 : Int32), oI (1 : Int32), oU, oU, oU]) rfl k_)))) ?_
    show own_at p e below _ T215 m 93 #[oI p0, oR r_215, oJ vv, oS, oI (0 : Int32), oI (1 : Int32), oU, oU, oU] []
    have en : n_215 = 1 := own_nn6 hdn.1 hdn.2.2.1 hdn.2.2.2 (by decide) (by have q_ : 36 ^ 1 = 36 := (by decide); omega) (by first | exact Or.inl rfl | exact Or.inr (by have q_ : 36 ^ (1 - 1) = 1 := (by decide); omega))
    have As : own_A Z T215.heap t_215 kt_215 .byte (own_bl (0 : Int32) 2) (fun i => .int ((own_by (0 : Int32) (own_ws 0 1 V)) i)) := by have z_ := P215_4; rw [en, hsg, ← hV] at z_; exact z_
    have hcd : ((0 : Int32) = 0 ∧ ∀ q : Nat, q < 2 → ¬ (255 : Int32) < (own_ws 0 1 V) q) ∨ (0 : Int32) = 1 := Or.inl ⟨rfl, fun q _ => own_lat7 (own_ws7 _ _ _ q)⟩
    refine own_st (fun t_ k_ => XS.bipush X215.here hx rfl (hb hby at_93) k_) ?_
    show own_at p e below _ T215 m 95 #[oI p0, oR r_215, oJ vv, oS, oI (0 : Int32), oI (1 : Int32), oU, oU, oU] [(.int (8 : Int32))]
    obtain ⟨T353, h353, k353, X353, e353, E353, A353, st353⟩ := newP X215 hx hZ (own_w hw 145 rfl) rfl (g := (mkF m 95 #[oI p0, oR r_215, oJ vv, oS, oI (0 : Int32), oI (1 : Int32), oU, oU, oU] [(.int (8 : Int32))])) rfl (hb hby at_95) rfl (by decide) (cap := 8) (by decide) (by decide) (by decide) (by decide)
    obtain ⟨b353, g353⟩ : ∃ z, z = T215.heap.size := ⟨_, rfl⟩
    rw [← g353] at A353 st353
    have fr353 : h0.size ≤ b353 := Nat.le_trans K215.1 (Nat.le_of_eq g353.symm)
    have ge353 : n0 ≤ b353 := Nat.le_trans Z0 fr353
    have K353 : Keep h0 h353 [] := K215.ext E353
    have c353 : CHr Z own_EL _ T215.heap _ h353 := CHr.ext E353 C215.1
    have C353 := C215.trans c353
    have kk353 := Nat.le_trans kk215 c353.2.1
    have Sf353_b353 : Safe Z own_EL _ h353 b353 := Safe.ext E353 C215.1 (Safe.new (Nat.le_of_eq g353.symm))
    have Ar353 : own_A Z h353 b353 k353 .char 8 (fun i => .int ((fun _ => (0 : Int32)) i)) := own_A.new A353 rfl (by decide)
    refine own_st (st353) ?_
    refine own_st (fun t_ k_ => XS.astore X353.here hx rfl (hb hby at_97) rfl rfl (l' := #[oI p0, oR r_215, oJ vv, oS, oI (0 : Int32), oI (1 : Int32), oR b353, oU, oU]) rfl (XS.aload X353.here hx rfl (hb hby at_99) rfl rfl (XS.iconst X353.here hx rfl (hb hby at_101) (XS.bipush X353.here hx rfl (hb hby at_102) k_)))) ?_
    show own_at p e below _ T353 m 104 #[oI p0, oR r_215, oJ vv, oS, oI (0 : Int32), oI (1 : Int32), oR b353, oU, oU] [(.int (119 : Int32)), (.int (0 : Int32)), (.ref b353)]
    obtain ⟨T354, h354, X354, e354, W354, Aw354, st354⟩ := own_castore X353 hx hZ e353 Ar353 (i := 0) (by decide) (by decide) rfl (v' := (119 : Int32)) (g := (mkF m 104 #[oI p0, oR r_215, oJ vv, oS, oI (0 : Int32), oI (1 : Int32), oR b353, oU, oU] [(.int (119 : Int32)), (.int (0 : Int32)), (.ref b353)])) rfl rfl (hb hby at_104)
    have N354 := Fr.snoc X354 N215 ge353
    have K354 : Keep h0 h354 [] := K353.wr W354 (Or.inr fr353)
    have c354 : CHr Z own_EL _ h353 _ h354 := CHr.wr W354 (own_safeA hZ.alike Ar353 (by decide)) C353.1
    have C354 := C353.trans c354
    have kk354 := Nat.le_trans kk353 c354.2.1
    refine own_st (st354) ?_
    refine own_st (fun t_ k_ => XS.iconst X354.here hx rfl (hb hby at_105) (XS.istore X354.here hx rfl (hb hby at_106) rfl (l' := #[oI p0, oR r_215, oJ vv, oS, oI (0 : Int32), oI (1 : Int32), oR b353, oI (1 : Int32), oU]) rfl (XS.iload X354.here hx rfl (hb hby at_108) rfl (XS.ifYes X354.here hx rfl (pc0 := 110) (pc' := 122) rfl (hb hby at_110) rfl ((if0 _ _).trans (teq (by decide : (0 : Int32) = (0 : Int32))).1) (by decide) (by decide) (XS.aload X354.here hx rfl (hb hby at_122) rfl rfl (XS.iload X354.here hx rfl (hb hby at_124) rfl k_)))))) ?_
    show own_at p e below _ T354 m 126 #[oI p0, oR r_215, oJ vv, oS, oI (0 : Int32), oI (1 : Int32), oR b353, oI (1 : Int32), oU] [(.int (1 : Int32)), (.ref b353)]
    refine own_st (fun t_ k_ => XS.iload X354.here hx rfl (hb hby at_126) rfl (XS.iconst X354.here hx rfl (hb hby at_128) (XS.lloadN X354.here hx rfl (hb hby at_129) rfl (XS.lconst X354.here hx rfl (hb hby at_130) k_)))) ?_
    show own_at p e below _ T354 m 131 #[oI p0, oR r_215, oJ vv, oS, oI (0 : Int32), oI (1 : Int32), oR b353, oI (1 : Int32), oU] [(.long (1 : Int64)), (.long vv), (.int (0 : Int32)), (.int (1 : Int32)), (.int (1 : Int32)), (.ref b353)]
    obtain ⟨_, _, ⟨T355, L355, k355, n355⟩, -, X355, ⟨Lc355, hQ355, l355, y355, z355⟩, st355⟩ := Jvm.LawKit.callS X354 hx (y := own_n31) hown (mvT hZ (own_w hw 146 rfl)) (mvT hZ (own_w hw 147 rfl)) (mvT hZ (own_w hw 148 rfl)) (mvT hZ (own_w hw 149 rfl)) (by decide) (backOf (W := 0) (own_rm27y l Z a0 hw [] b353 (1 : Int32) (1 : Int32) (0 : Int32) vv (1 : Int64) k353 (own_upd (fun _ => (0 : Int32)) 0 (119 : Int32)) 1 h354 n0 (Nat.le_trans Z0 K354.1) Aw354 ge353 (by decide) (by decide) (by decide)) hZ (own_w hw 149 rfl) (own_w hw 148 rfl) (by decide) (by decide)) (g := (mkF m 131 #[oI p0, oR r_215, oJ vv, oS, oI (0 : Int32), oI (1 : Int32), oR b353, oI (1 : Int32), oU] [(.long (1 : Int64)), (.long vv), (.int (0 : Int32)), (.int (1 : Int32)), (.int (1 : Int32)), (.ref b353)])) rfl (by rw [hml]; rfl) (argsL := [(.ref b353), (.int (1 : Int32)), (.int (1 : Int32)), (.int (0 : Int32)), (.long vv), (.long (1 : Int64))]) (rest := []) (lenOf own_pd25 rfl) rfl (own_hW rfl) (hb hby at_131) (fun _ _ => ⟨rfl, e354, (by decide : 10 + 0 ≤ _), (by decide : 143 + 0 ≤ _)⟩)
    dsimp only [Pt.U, Pt.locs, Pt.cells, Pt.slots] at X355 l355 y355 z355 st355 hQ355
    subst y355 z355
    obtain ⟨rfl, N355q, Kq355, P355_0⟩ := hQ355
    have N355 : Fr n0 L355 := by rw [l355]; exact Fr.app N354 N355q
    have K355 : Keep h0 T355.heap [] := K354.trans Kq355 (allS (P := fun x => x ∈ [] ∨ h0.size ≤ x) (Or.inr fr353) all0)
    have c355 : CHr Z own_EL _ h354 _ T355.heap := CHr.keep Kq355 (own_slS (own_safeA hZ.alike Aw354 (by decide)) own_sl0) C354.1
    have C355 := C354.trans c355
    have kk355 := Nat.le_trans kk354 c355.2.1
    refine own_st (st355) ?_
    refine own_st (fun t_ k_ => XS.aload X355.here hx rfl (hb hby at_134) rfl rfl (XS.iload X355.here hx rfl (hb hby at_136) rfl (XS.iload X355.here hx rfl (hb hby at_138) rfl (XS.iconst X355.here hx rfl (hb hby at_140) (XS.lloadN X355.here hx rfl (hb hby at_141) rfl k_))))) ?_
    show own_at p e below _ T355 m 142 #[oI p0, oR r_215, oJ vv, oS, oI (0 : Int32), oI (1 : Int32), oR b353, oI (1 : Int32), oU] [(.long vv), (.int (1 : Int32)), (.int (1 : Int32)), (.int (1 : Int32)), (.ref b353)]
    refine own_st (X355.ldc2Long hx hown (mvT hZ (own_w hw 144 rfl)) (g := (mkF m 142 #[oI p0, oR r_215, oJ vv, oS, oI (0 : Int32), oI (1 : Int32), oR b353, oI (1 : Int32), oU] [(.long vv), (.int (1 : Int32)), (.int (1 : Int32)), (.int (1 : Int32)), (.ref b353)])) rfl (hb hby at_142)) ?_
    show own_at p e below _ T355 m 145 #[oI p0, oR r_215, oJ vv, oS, oI (0 : Int32), oI (1 : Int32), oR b353, oI (1 : Int32), oU] [(.long (36 : Int64)), (.long vv), (.int (1 : Int32)), (.int (1 : Int32)), (.int (1 : Int32)), (.ref b353)]
    obtain ⟨_, _, ⟨T356, L356, k356, n356⟩, -, X356, ⟨Lc356, hQ356, l356, y356, z356⟩, st356⟩ := Jvm.LawKit.callS X355 hx (y := own_n31) hown (mvT hZ (own_w hw 146 rfl)) (mvT hZ (own_w hw 147 rfl)) (mvT hZ (own_w hw 148 rfl)) (mvT hZ (own_w hw 149 rfl)) (by decide) (backOf (W := 0) (own_rm27n l Z a0 hw [] b353 (1 : Int32) (1 : Int32) (1 : Int32) vv (36 : Int64) T355.heap n0 (Nat.le_trans Z0 K355.1) (by decide)) hZ (own_w hw 149 rfl) (own_w hw 148 rfl) (by decide) (by decide)) (g := (mkF m 145 #[oI p0, oR r_215, oJ vv, oS, oI (0 : Int32), oI (1 : Int32), oR b353, oI (1 : Int32), oU] [(.long (36 : Int64)), (.long vv), (.int (1 : Int32)), (.int (1 : Int32)), (.int (1 : Int32)), (.ref b353)])) rfl (by rw [hml]; rfl) (argsL := [(.ref b353), (.int (1 : Int32)), (.int (1 : Int32)), (.int (1 : Int32)), (.long vv), (.long (36 : Int64))]) (rest := []) (lenOf own_pd25 rfl) rfl (own_hW rfl) (hb hby at_145) (fun _ _ => ⟨rfl, rfl, (by decide : 10 + 0 ≤ _), (by decide : 143 + 0 ≤ _)⟩)
    dsimp only [Pt.U, Pt.locs, Pt.cells, Pt.slots] at X356 l356 y356 z356 st356 hQ356
    subst y356 z356
    obtain ⟨rfl, N356q, eq356⟩ := hQ356
    have N356 : Fr n0 L356 := by rw [l356]; exact Fr.app N355 N356q
    refine own_st (st356) ?_
    refine own_st (fun t_ k_ => XS.aload X356.here hx rfl (hb hby at_148) rfl rfl (XS.iload X356.here hx rfl (hb hby at_150) rfl (XS.iload X356.here hx rfl (hb hby at_152) rfl (XS.iconst X356.here hx rfl (hb hby at_154) (XS.lloadN X356.here hx rfl (hb hby at_155) rfl k_))))) ?_
    show own_at p e below _ T356 m 156 #[oI p0, oR r_215, oJ vv, oS, oI (0 : Int32), oI (1 : Int32), oR b353, oI (1 : Int32), oU] [(.long vv), (.int (2 : Int32)), (.int (1 : Int32)), (.int (1 : Int32)), (.ref b353)]
    refine own_st (X356.ldc2Long hx hown (mvT hZ (own_w hw 155 rfl)) (g := (mkF m 156 #[oI p0, oR r_215, oJ vv, oS, oI (0 : Int32), oI (1 : Int32), oR b353, oI (1 : Int32), oU] [(.long vv), (.int (2 : Int32)), (.int (1 : Int32)), (.int (1 : Int32)), (.ref b353)])) rfl (hb hby at_156)) ?_
    show own_at p e below _ T356 m 159 #[oI p0, oR r_215, oJ vv, oS, oI (0 : Int32), oI (1 : Int32), oR b353, oI (1 : Int32), oU] [(.long (1296 : Int64)), (.long vv), (.int (2 : Int32)), (.int (1 : Int32)), (.int (1 : Int32)), (.ref b353)]
    obtain ⟨_, _, ⟨T357, L357, k357, n357⟩, -, X357, ⟨Lc357, hQ357, l357, y357, z357⟩, st357⟩ := Jvm.LawKit.callS X356 hx (y := own_n31) hown (mvT hZ (own_w hw 146 rfl)) (mvT hZ (own_w hw 147 rfl)) (mvT hZ (own_w hw 148 rfl)) (mvT hZ (own_w hw 149 rfl)) (by decide) (backOf (W := 0) (own_rm27n l Z a0 hw [] b353 (1 : Int32) (1 : Int32) (2 : Int32) vv (1296 : Int64) T355.heap n0 (Nat.le_trans Z0 K355.1) (by decide)) hZ (own_w hw 149 rfl) (own_w hw 148 rfl) (by decide) (by decide)) (g := (mkF m 159 #[oI p0, oR r_215, oJ vv, oS, oI (0 : Int32), oI (1 : Int32), oR b353, oI (1 : Int32), oU] [(.long (1296 : Int64)), (.long vv), (.int (2 : Int32)), (.int (1 : Int32)), (.int (1 : Int32)), (.ref b353)])) rfl (by rw [hml]; rfl) (argsL := [(.ref b353), (.int (1 : Int32)), (.int (1 : Int32)), (.int (2 : Int32)), (.long vv), (.long (1296 : Int64))]) (rest := []) (lenOf own_pd25 rfl) rfl (own_hW rfl) (hb hby at_159) (fun _ _ => ⟨rfl, eq356, (by decide : 10 + 0 ≤ _), (by decide : 143 + 0 ≤ _)⟩)
    dsimp only [Pt.U, Pt.locs, Pt.cells, Pt.slots] at X357 l357 y357 z357 st357 hQ357
    subst y357 z357
    obtain ⟨rfl, N357q, eq357⟩ := hQ357
    have N357 : Fr n0 L357 := by rw [l357]; exact Fr.app N356 N357q
    refine own_st (st357) ?_
    refine own_st (fun t_ k_ => XS.aload X357.here hx rfl (hb hby at_162) rfl rfl (XS.iload X357.here hx rfl (hb hby at_164) rfl (XS.iload X357.here hx rfl (hb hby at_166) rfl (XS.iconst X357.here hx rfl (hb hby at_168) (XS.lloadN X357.here hx rfl (hb hby at_169) rfl k_))))) ?_
    show own_at p e below _ T357 m 170 #[oI p0, oR r_215, oJ vv, oS, oI (0 : Int32), oI (1 : Int32), oR b353, oI (1 : Int32), oU] [(.long vv), (.int (3 : Int32)), (.int (1 : Int32)), (.int (1 : Int32)), (.ref b353)]
    refine own_st (X357.ldc2Long hx hown (mvT hZ (own_w hw 156 rfl)) (g := (mkF m 170 #[oI p0, oR r_215, oJ vv, oS, oI (0 : Int32), oI (1 : Int32), oR b353, oI (1 : Int32), oU] [(.long vv), (.int (3 : Int32)), (.int (1 : Int32)), (.int (1 : Int32)), (.ref b353)])) rfl (hb hby at_170)) ?_
    show own_at p e below _ T357 m 173 #[oI p0, oR r_215, oJ vv, oS, oI (0 : Int32), oI (1 : Int32), oR b353, oI (1 : Int32), oU] [(.long (46656 : Int64)), (.long vv), (.int (3 : Int32)), (.int (1 : Int32)), (.int (1 : Int32)), (.ref b353)]
    obtain ⟨_, _, ⟨T358, L358, k358, n358⟩, -, X358, ⟨Lc358, hQ358, l358, y358, z358⟩, st358⟩ := Jvm.LawKit.callS X357 hx (y := own_n31) hown (mvT hZ (own_w hw 146 rfl)) (mvT hZ (own_w hw 147 rfl)) (mvT hZ (own_w hw 148 rfl)) (mvT hZ (own_w hw 149 rfl)) (by decide) (backOf (W := 0) (own_rm27n l Z a0 hw [] b353 (1 : Int32) (1 : Int32) (3 : Int32) vv (46656 : Int64) T355.heap n0 (Nat.le_trans Z0 K355.1) (by decide)) hZ (own_w hw 149 rfl) (own_w hw 148 rfl) (by decide) (by decide)) (g := (mkF m 173 #[oI p0, oR r_215, oJ vv, oS, oI (0 : Int32), oI (1 : Int32), oR b353, oI (1 : Int32), oU] [(.long (46656 : Int64)), (.long vv), (.int (3 : Int32)), (.int (1 : Int32)), (.int (1 : Int32)), (.ref b353)])) rfl (by rw [hml]; rfl) (argsL := [(.ref b353), (.int (1 : Int32)), (.int (1 : Int32)), (.int (3 : Int32)), (.long vv), (.long (46656 : Int64))]) (rest := []) (lenOf own_pd25 rfl) rfl (own_hW rfl) (hb hby at_173) (fun _ _ => ⟨rfl, eq357, (by decide : 10 + 0 ≤ _), (by decide : 143 + 0 ≤ _)⟩)
    dsimp only [Pt.U, Pt.locs, Pt.cells, Pt.slots] at X358 l358 y358 z358 st358 hQ358
    subst y358 z358
    obtain ⟨rfl, N358q, eq358⟩ := hQ358
    have N358 : Fr n0 L358 := by rw [l358]; exact Fr.app N357 N358q
    refine own_st (st358) ?_
    refine own_st (fun t_ k_ => XS.aload X358.here hx rfl (hb hby at_176) rfl rfl (XS.iload X358.here hx rfl (hb hby at_178) rfl (XS.iload X358.here hx rfl (hb hby at_180) rfl (XS.iconst X358.here hx rfl (hb hby at_182) (XS.lloadN X358.here hx rfl (hb hby at_183) rfl k_))))) ?_
    show own_at p e below _ T358 m 184 #[oI p0, oR r_215, oJ vv, oS, oI (0 : Int32), oI (1 : Int32), oR b353, oI (1 : Int32), oU] [(.long vv), (.int (4 : Int32)), (.int (1 : Int32)), (.int (1 : Int32)), (.ref b353)]
    refine own_st (X358.ldc2Long hx hown (mvT hZ (own_w hw 157 rfl)) (g := (mkF m 184 #[oI p0, oR r_215, oJ vv, oS, oI (0 : Int32), oI (1 : Int32), oR b353, oI (1 : Int32), oU] [(.long vv), (.int (4 : Int32)), (.int (1 : Int32)), (.int (1 : Int32)), (.ref b353)])) rfl (hb hby at_184)) ?_
    show own_at p e below _ T358 m 187 #[oI p0, oR r_215, oJ vv, oS, oI (0 : Int32), oI (1 : Int32), oR b353, oI (1 : Int32), oU] [(.long (1679616 : Int64)), (.long vv), (.int (4 : Int32)), (.int (1 : Int32)), (.int (1 : Int32)), (.ref b353)]
    obtain ⟨_, _, ⟨T359, L359, k359, n359⟩, -, X359, ⟨Lc359, hQ359, l359, y359, z359⟩, st359⟩ := Jvm.LawKit.callS X358 hx (y := own_n31) hown (mvT hZ (own_w hw 146 rfl)) (mvT hZ (own_w hw 147 rfl)) (mvT hZ (own_w hw 148 rfl)) (mvT hZ (own_w hw 149 rfl)) (by decide) (backOf (W := 0) (own_rm27n l Z a0 hw [] b353 (1 : Int32) (1 : Int32) (4 : Int32) vv (1679616 : Int64) T355.heap n0 (Nat.le_trans Z0 K355.1) (by decide)) hZ (own_w hw 149 rfl) (own_w hw 148 rfl) (by decide) (by decide)) (g := (mkF m 187 #[oI p0, oR r_215, oJ vv, oS, oI (0 : Int32), oI (1 : Int32), oR b353, oI (1 : Int32), oU] [(.long (1679616 : Int64)), (.long vv), (.int (4 : Int32)), (.int (1 : Int32)), (.int (1 : Int32)), (.ref b353)])) rfl (by rw [hml]; rfl) (argsL := [(.ref b353), (.int (1 : Int32)), (.int (1 : Int32)), (.int (4 : Int32)), (.long vv), (.long (1679616 : Int64))]) (rest := []) (lenOf own_pd25 rfl) rfl (own_hW rfl) (hb hby at_187) (fun _ _ => ⟨rfl, eq358, (by decide : 10 + 0 ≤ _), (by decide : 143 + 0 ≤ _)⟩)
    dsimp only [Pt.U, Pt.locs, Pt.cells, Pt.slots] at X359 l359 y359 z359 st359 hQ359
    subst y359 z359
    obtain ⟨rfl, N359q, eq359⟩ := hQ359
    have N359 : Fr n0 L359 := by rw [l359]; exact Fr.app N358 N359q
    refine own_st (st359) ?_
    refine own_st (fun t_ k_ => XS.aload X359.here hx rfl (hb hby at_190) rfl rfl (XS.iload X359.here hx rfl (hb hby at_192) rfl (XS.iload X359.here hx rfl (hb hby at_194) rfl (XS.iconst X359.here hx rfl (hb hby at_196) (XS.lloadN X359.here hx rfl (hb hby at_197) rfl k_))))) ?_
    show own_at p e below _ T359 m 198 #[oI p0, oR r_215, oJ vv, oS, oI (0 : Int32), oI (1 : Int32), oR b353, oI (1 : Int32), oU] [(.long vv), (.int (5 : Int32)), (.int (1 : Int32)), (.int (1 : Int32)), (.ref b353)]
    refine own_st (X359.ldc2Long hx hown (mvT hZ (own_w hw 158 rfl)) (g := (mkF m 198 #[oI p0, oR r_215, oJ vv, oS, oI (0 : Int32), oI (1 : Int32), oR b353, oI (1 : Int32), oU] [(.long vv), (.int (5 : Int32)), (.int (1 : Int32)), (.int (1 : Int32)), (.ref b353)])) rfl (hb hby at_198)) ?_
    show own_at p e below _ T359 m 201 #[oI p0, oR r_215, oJ vv, oS, oI (0 : Int32), oI (1 : Int32), oR b353, oI (1 : Int32), oU] [(.long (60466176 : Int64)), (.long vv), (.int (5 : Int32)), (.int (1 : Int32)), (.int (1 : Int32)), (.ref b353)]
    obtain ⟨_, _, ⟨T360, L360, k360, n360⟩, -, X360, ⟨Lc360, hQ360, l360, y360, z360⟩, st360⟩ := Jvm.LawKit.callS X359 hx (y := own_n31) hown (mvT hZ (own_w hw 146 rfl)) (mvT hZ (own_w hw 147 rfl)) (mvT hZ (own_w hw 148 rfl)) (mvT hZ (own_w hw 149 rfl)) (by decide) (backOf (W := 0) (own_rm27n l Z a0 hw [] b353 (1 : Int32) (1 : Int32) (5 : Int32) vv (60466176 : Int64) T355.heap n0 (Nat.le_trans Z0 K355.1) (by decide)) hZ (own_w hw 149 rfl) (own_w hw 148 rfl) (by decide) (by decide)) (g := (mkF m 201 #[oI p0, oR r_215, oJ vv, oS, oI (0 : Int32), oI (1 : Int32), oR b353, oI (1 : Int32), oU] [(.long (60466176 : Int64)), (.long vv), (.int (5 : Int32)), (.int (1 : Int32)), (.int (1 : Int32)), (.ref b353)])) rfl (by rw [hml]; rfl) (argsL := [(.ref b353), (.int (1 : Int32)), (.int (1 : Int32)), (.int (5 : Int32)), (.long vv), (.long (60466176 : Int64))]) (rest := []) (lenOf own_pd25 rfl) rfl (own_hW rfl) (hb hby at_201) (fun _ _ => ⟨rfl, eq359, (by decide : 10 + 0 ≤ _), (by decide : 143 + 0 ≤ _)⟩)
    dsimp only [Pt.U, Pt.locs, Pt.cells, Pt.slots] at X360 l360 y360 z360 st360 hQ360
    subst y360 z360
    obtain ⟨rfl, N360q, eq360⟩ := hQ360
    have N360 : Fr n0 L360 := by rw [l360]; exact Fr.app N359 N360q
    refine own_st (st360) ?_
    refine own_st (fun t_ k_ => XS.iload X360.here hx rfl (hb hby at_204) rfl (XS.iload X360.here hx rfl (hb hby at_206) rfl (XS.iadd X360.here hx rfl (hb hby at_208) rfl k_))) ?_
    show own_at p e below _ T360 m 209 #[oI p0, oR r_215, oJ vv, oS, oI (0 : Int32), oI (1 : Int32), oR b353, oI (1 : Int32), oU] [(.int ((1 : Int32) + (1 : Int32)))]
    rw [show ((1 : Int32) + (1 : Int32)) = (2 : Int32) from (by decide)]
    refine own_st (fun t_ k_ => XS.istore X360.here hx rfl (hb hby at_209) rfl (l' := #[oI p0, oR r_215, oJ vv, oS, oI (0 : Int32), oI (1 : Int32), oR b353, oI (1 : Int32), oI (2 : Int32)]) rfl (XS.aloadN X360.here hx rfl (hb hby at_211) rfl rfl k_)) ?_
    show own_at p e below _ T360 m 212 #[oI p0, oR r_215, oJ vv, oS, oI (0 : Int32), oI (1 : Int32), oR b353, oI (1 : Int32), oI (2 : Int32)] [(.ref r_215)]
    have f361 : Fld Z T355.heap r_215 "java/lang/String" "value" "[B" (.ref t_215) := (((P215_2.ext E353).other W354 (Or.inl (Nat.ne_of_lt (Nat.lt_of_lt_of_le P215_1.lt (Nat.le_of_eq g353.symm))))).keep Kq355 (ninS (Nat.ne_of_lt (Nat.lt_of_lt_of_le P215_1.lt (Nat.le_of_eq g353.symm))) nin0))
    have f362 : Fld Z T355.heap r_215 "java/lang/String" "coder" "B" (.int (0 : Int32)) := (((P215_3.ext E353).other W354 (Or.inl (Nat.ne_of_lt (Nat.lt_of_lt_of_le P215_1.lt (Nat.le_of_eq g353.symm))))).keep Kq355 (ninS (Nat.ne_of_lt (Nat.lt_of_lt_of_le P215_1.lt (Nat.le_of_eq g353.symm))) nin0))
    have f363 : own_A Z T355.heap t_215 kt_215 .byte (own_bl (0 : Int32) 2) (fun i => .int ((own_by (0 : Int32) (own_ws 0 1 V)) i)) := (((As.ext E353).other W354 (Nat.ne_of_lt (Nat.lt_of_lt_of_le As.lt (Nat.le_of_eq g353.symm)))).keep Kq355 (ninS (Nat.ne_of_lt (Nat.lt_of_lt_of_le As.lt (Nat.le_of_eq g353.symm))) nin0))
    obtain ⟨cq364, kq364, q364a, q364b, q364c⟩ := isOf hZ eq360 (((P215_1.ext E353).wr W354).keep Kq355)
    obtain ⟨_, _, ⟨T364, L364, k364, n364⟩, -, X364, ⟨Lc364, hQ364, l364, y364, z364⟩, st364⟩ := X360.virtualBack hx (y := own_n6) (z := own_n6) hown (mvT hZ (own_w hw 159 rfl)) (mvT hZ (own_w hw 43 rfl)) (notFace_of_selects (args := #[]) (mvT hZ (own_w hw 45 rfl))) (mvT hZ (own_w hw 45 rfl)) (mvT hZ (own_w hw 44 rfl)) (by decide) (backOf (W := 0) (own_rm7 l Z a0 hw [] r_215 t_215 kt_215 (own_bl (0 : Int32) 2) (own_by (0 : Int32) (own_ws 0 1 V)) G1 T355.heap n0 (Nat.le_trans Z0 K355.1) (((P215_1.ext E353).wr W354).keep Kq355) f361 f362 f363 ((((q0.keep Kq215 all0).ext E353).wr W354 ge353).keep Kq355 (allS ge353 all0)) q1 hG1) hZ (own_w hw 46 rfl) (own_w hw 20 rfl) (by decide) (by decide)) q364a q364c (g := (mkF m 212 #[oI p0, oR r_215, oJ vv, oS, oI (0 : Int32), oI (1 : Int32), oR b353, oI (1 : Int32), oI (2 : Int32)] [(.ref r_215)])) rfl (by rw [hml]; rfl) (Steps.refl _) (argsL := []) (rest := []) (lenOf own_pd8 rfl) rfl (own_hW rfl) (hb hby at_212) (fun _ _ => ⟨rfl, eq360, (by decide : 10 + 0 ≤ _), (by decide : 143 + 0 ≤ _)⟩)
    dsimp only [Pt.U, Pt.locs, Pt.cells, Pt.slots] at X364 l364 y364 z364 st364 hQ364
    subst y364 z364
    obtain ⟨rfl, N364q, eq364⟩ := hQ364
    have N364 : Fr n0 L364 := by rw [l364]; exact Fr.app N360 N364q
    refine own_tr st364 ?_
    refine own_st (fun t_ k_ => XS.iload X364.here hx rfl (hb hby at_215) rfl (XS.icmpYes X364.here hx rfl (pc0 := 217) (pc' := 222) rfl (hb hby at_217) rfl (teq (by decide : (Int32.ofNat (own_bl (0 : Int32) 2)) = (2 : Int32))).1 (by decide) (by decide) k_)) ?_
    show own_at p e below _ T364 m 222 #[oI p0, oR r_215, oJ vv, oS, oI (0 : Int32), oI (1 : Int32), oR b353, oI (1 : Int32), oI (2 : Int32)] []
    obtain ⟨gg, hgg⟩ : ∃ f_ : Nat → Int32, f_ = (own_upd (own_upd (fun _ => (0 : Int32)) 0 (119 : Int32)) 1 (own_dig ((vv / (1 : Int64)) % (36 : Int64)))) := ⟨_, rfl⟩
    have Agg : own_A Z T355.heap b353 k353 .char 8 (fun i => .int (gg i)) := by rw [hgg]; exact P355_0
    have eg0 : own_ws 0 1 V 0 = gg 0 := by rw [hgg]; exact rfl.symm
    have eg1 : own_ws 0 1 V 1 = gg 1 := by rw [hgg]; exact (show own_dig ((vv / (1 : Int64)) % (36 : Int64)) = own_ws 0 1 V 1 from (own_dd hv (by decide : (1 : Int64).toInt = ((1 : Nat) : Int)) (by decide)).trans (by unfold own_ws own_tb; rw [if_neg (by decide), if_neg (by decide)])).symm
    refine own_st (fun t_ k_ => XS.aloadN X364.here hx rfl (hb hby at_222) rfl rfl (XS.aload X364.here hx rfl (hb hby at_223) rfl rfl (XS.iload X364.here hx rfl (hb hby at_225) rfl (XS.iconst X364.here hx rfl (hb hby at_227) k_)))) ?_
    show own_at p e below _ T364 m 228 #[oI p0, oR r_215, oJ vv, oS, oI (0 : Int32), oI (1 : Int32), oR b353, oI (1 : Int32), oI (2 : Int32)] [(.int (0 : Int32)), (.int (2 : Int32)), (.ref b353), (.ref r_215)]
    obtain ⟨_, _, ⟨T365, L365, k365, n365⟩, -, X365, ⟨Lc365, hQ365, l365, y365, z365⟩, st365⟩ := Jvm.LawKit.callS X364 hx (y := own_n32) hown (mvT hZ (own_w hw 160 rfl)) (mvT hZ (own_w hw 161 rfl)) (mvT hZ (own_w hw 148 rfl)) (mvT hZ (own_w hw 162 rfl)) (by decide) (backOf (W := 0) (own_rm29y l Z a0 hw [] r_215 b353 (2 : Int32) (0 : Int32) t_215 kt_215 2 (own_ws 0 1 V) k353 gg 0 G1 G3 T355.heap n0 (Nat.le_trans Z0 K355.1) (((P215_1.ext E353).wr W354).keep Kq355) f361 f362 f363 hcd rfl ((((q0.keep Kq215 all0).ext E353).wr W354 ge353).keep Kq355 (allS ge353 all0)) q1 hG1 q3 rG3 Agg (by decide) (by decide) (by decide) ⟨(own_ws7 _ _ _ _).1, Int.le_trans (own_ws7 _ _ _ _).2 (by decide)⟩ eg0) hZ (own_w hw 162 rfl) (own_w hw 148 rfl) (by decide) (by decide)) (g := (mkF m 228 #[oI p0, oR r_215, oJ vv, oS, oI (0 : Int32), oI (1 : Int32), oR b353, oI (1 : Int32), oI (2 : Int32)] [(.int (0 : Int32)), (.int (2 : Int32)), (.ref b353), (.ref r_215)])) rfl (by rw [hml]; rfl) (argsL := [(.ref r_215), (.ref b353), (.int (2 : Int32)), (.int (0 : Int32))]) (rest := []) (lenOf own_pd26 rfl) rfl (own_hW rfl) (hb hby at_228) (fun _ _ => ⟨rfl, eq364, (by decide : 10 + 0 ≤ _), (by decide : 143 + 0 ≤ _)⟩)
    dsimp only [Pt.U, Pt.locs, Pt.cells, Pt.slots] at X365 l365 y365 z365 st365 hQ365
    subst y365 z365
    obtain ⟨rfl, N365q, eq365⟩ := hQ365
    have N365 : Fr n0 L365 := by rw [l365]; exact Fr.app N364 N365q
    refine own_st (st365) ?_
    refine own_st (fun t_ k_ => XS.ifNo X365.here hx rfl (hb hby at_231) rfl ((if0 _ _).trans (feq (by decide : ¬ ((1 : Int32) = (0 : Int32)))).1) (XS.aloadN X365.here hx rfl (hb hby at_234) rfl rfl (XS.aload X365.here hx rfl (hb hby at_235) rfl rfl (XS.iload X365.here hx rfl (hb hby at_237) rfl (XS.iconst X365.here hx rfl (hb hby at_239) k_))))) ?_
    show own_at p e below _ T365 m 240 #[oI p0, oR r_215, oJ vv, oS, oI (0 : Int32), oI (1 : Int32), oR b353, oI (1 : Int32), oI (2 : Int32)] [(.int (1 : Int32)), (.int (2 : Int32)), (.ref b353), (.ref r_215)]
    obtain ⟨_, _, ⟨T366, L366, k366, n366⟩, -, X366, ⟨Lc366, hQ366, l366, y366, z366⟩, st366⟩ := Jvm.LawKit.callS X365 hx (y := own_n32) hown (mvT hZ (own_w hw 160 rfl)) (mvT hZ (own_w hw 161 rfl)) (mvT hZ (own_w hw 148 rfl)) (mvT hZ (own_w hw 162 rfl)) (by decide) (backOf (W := 0) (own_rm29y l Z a0 hw [] r_215 b353 (2 : Int32) (1 : Int32) t_215 kt_215 2 (own_ws 0 1 V) k353 gg 1 G1 G3 T355.heap n0 (Nat.le_trans Z0 K355.1) (((P215_1.ext E353).wr W354).keep Kq355) f361 f362 f363 hcd rfl ((((q0.keep Kq215 all0).ext E353).wr W354 ge353).keep Kq355 (allS ge353 all0)) q1 hG1 q3 rG3 Agg (by decide) (by decide) (by decide) ⟨(own_ws7 _ _ _ _).1, Int.le_trans (own_ws7 _ _ _ _).2 (by decide)⟩ eg1) hZ (own_w hw 162 rfl) (own_w hw 148 rfl) (by decide) (by decide)) (g := (mkF m 240 #[oI p0, oR r_215, oJ vv, oS, oI (0 : Int32), oI (1 : Int32), oR b353, oI (1 : Int32), oI (2 : Int32)] [(.int (1 : Int32)), (.int (2 : Int32)), (.ref b353), (.ref r_215)])) rfl (by rw [hml]; rfl) (argsL := [(.ref r_215), (.ref b353), (.int (2 : Int32)), (.int (1 : Int32))]) (rest := []) (lenOf own_pd26 rfl) rfl (own_hW rfl) (hb hby at_240) (fun _ _ => ⟨rfl, eq365, (by decide : 10 + 0 ≤ _), (by decide : 143 + 0 ≤ _)⟩)
    dsimp only [Pt.U, Pt.locs, Pt.cells, Pt.slots] at X366 l366 y366 z366 st366 hQ366
    subst y366 z366
    obtain ⟨rfl, N366q, eq366⟩ := hQ366
    have N366 : Fr n0 L366 := by rw [l366]; exact Fr.app N365 N366q
    refine own_st (st366) ?_
    refine own_st (fun t_ k_ => XS.ifNo X366.here hx rfl (hb hby at_243) rfl ((if0 _ _).trans (feq (by decide : ¬ ((1 : Int32) = (0 : Int32)))).1) (XS.aloadN X366.here hx rfl (hb hby at_246) rfl rfl (XS.aload X366.here hx rfl (hb hby at_247) rfl rfl (XS.iload X366.here hx rfl (hb hby at_249) rfl (XS.iconst X366.here hx rfl (hb hby at_251) k_))))) ?_
    show own_at p e below _ T366 m 252 #[oI p0, oR r_215, oJ vv, oS, oI (0 : Int32), oI (1 : Int32), oR b353, oI (1 : Int32), oI (2 : Int32)] [(.int (2 : Int32)), (.int (2 : Int32)), (.ref b353), (.ref r_215)]
    obtain ⟨_, _, ⟨T367, L367, k367, n367⟩, -, X367, ⟨Lc367, hQ367, l367, y367, z367⟩, st367⟩ := Jvm.LawKit.callS X366 hx (y := own_n32) hown (mvT hZ (own_w hw 160 rfl)) (mvT hZ (own_w hw 161 rfl)) (mvT hZ (own_w hw 148 rfl)) (mvT hZ (own_w hw 162 rfl)) (by decide) (backOf (W := 0) (own_rm29n l Z a0 hw [] r_215 b353 (2 : Int32) (2 : Int32) T355.heap n0 (Nat.le_trans Z0 K355.1) (by decide)) hZ (own_w hw 162 rfl) (own_w hw 148 rfl) (by decide) (by decide)) (g := (mkF m 252 #[oI p0, oR r_215, oJ vv, oS, oI (0 : Int32), oI (1 : Int32), oR b353, oI (1 : Int32), oI (2 : Int32)] [(.int (2 : Int32)), (.int (2 : Int32)), (.ref b353), (.ref r_215)])) rfl (by rw [hml]; rfl) (argsL := [(.ref r_215), (.ref b353), (.int (2 : Int32)), (.int (2 : Int32))]) (rest := []) (lenOf own_pd26 rfl) rfl (own_hW rfl) (hb hby at_252) (fun _ _ => ⟨rfl, eq366, (by decide : 10 + 0 ≤ _), (by decide : 143 + 0 ≤ _)⟩)
    dsimp only [Pt.U, Pt.locs, Pt.cells, Pt.slots] at X367 l367 y367 z367 st367 hQ367
    subst y367 z367
    obtain ⟨rfl, N367q, eq367⟩ := hQ367
    have N367 : Fr n0 L367 := by rw [l367]; exact Fr.app N366 N367q
    refine own_st (st367) ?_
    refine own_st (fun t_ k_ => XS.ifNo X367.here hx rfl (hb hby at_255) rfl ((if0 _ _).trans (feq (by decide : ¬ ((1 : Int32) = (0 : Int32)))).1) (XS.aloadN X367.here hx rfl (hb hby at_258) rfl rfl (XS.aload X367.here hx rfl (hb hby at_259) rfl rfl (XS.iload X367.here hx rfl (hb hby at_261) rfl (XS.iconst X367.here hx rfl (hb hby at_263) k_))))) ?_
    show own_at p e below _ T367 m 264 #[oI p0, oR r_215, oJ vv, oS, oI (0 : Int32), oI (1 : Int32), oR b353, oI (1 : Int32), oI (2 : Int32)] [(.int (3 : Int32)), (.int (2 : Int32)), (.ref b353), (.ref r_215)]
    obtain ⟨_, _, ⟨T368, L368, k368, n368⟩, -, X368, ⟨Lc368, hQ368, l368, y368, z368⟩, st368⟩ := Jvm.LawKit.callS X367 hx (y := own_n32) hown (mvT hZ (own_w hw 160 rfl)) (mvT hZ (own_w hw 161 rfl)) (mvT hZ (own_w hw 148 rfl)) (mvT hZ (own_w hw 162 rfl)) (by decide) (backOf (W := 0) (own_rm29n l Z a0 hw [] r_215 b353 (2 : Int32) (3 : Int32) T355.heap n0 (Nat.le_trans Z0 K355.1) (by decide)) hZ (own_w hw 162 rfl) (own_w hw 148 rfl) (by decide) (by decide)) (g := (mkF m 264 #[oI p0, oR r_215, oJ vv, oS, oI (0 : Int32), oI (1 : Int32), oR b353, oI (1 : Int32), oI (2 : Int32)] [(.int (3 : Int32)), (.int (2 : Int32)), (.ref b353), (.ref r_215)])) rfl (by rw [hml]; rfl) (argsL := [(.ref r_215), (.ref b353), (.int (2 : Int32)), (.int (3 : Int32))]) (rest := []) (lenOf own_pd26 rfl) rfl (own_hW rfl) (hb hby at_264) (fun _ _ => ⟨rfl, eq367, (by decide : 10 + 0 ≤ _), (by decide : 143 + 0 ≤ _)⟩)
    dsimp only [Pt.U, Pt.locs, Pt.cells, Pt.slots] at X368 l368 y368 z368 st368 hQ368
    subst y368 z368
    obtain ⟨rfl, N368q, eq368⟩ := hQ368
    have N368 : Fr n0 L368 := by rw [l368]; exact Fr.app N367 N368q
    refine own_st (st368) ?_
    refine own_st (fun t_ k_ => XS.ifNo X368.here hx rfl (hb hby at_267) rfl ((if0 _ _).trans (feq (by decide : ¬ ((1 : Int32) = (0 : Int32)))).1) (XS.aloadN X368.here hx rfl (hb hby at_270) rfl rfl (XS.aload X368.here hx rfl (hb hby at_271) rfl rfl (XS.iload X368.here hx rfl (hb hby at_273) rfl (XS.iconst X368.here hx rfl (hb hby at_275) k_))))) ?_
    show own_at p e below _ T368 m 276 #[oI p0, oR r_215, oJ vv, oS, oI (0 : Int32), oI (1 : Int32), oR b353, oI (1 : Int32), oI (2 : Int32)] [(.int (4 : Int32)), (.int (2 : Int32)), (.ref b353), (.ref r_215)]
    obtain ⟨_, _, ⟨T369, L369, k369, n369⟩, -, X369, ⟨Lc369, hQ369, l369, y369, z369⟩, st369⟩ := Jvm.LawKit.callS X368 hx (y := own_n32) hown (mvT hZ (own_w hw 160 rfl)) (mvT hZ (own_w hw 161 rfl)) (mvT hZ (own_w hw 148 rfl)) (mvT hZ (own_w hw 162 rfl)) (by decide) (backOf (W := 0) (own_rm29n l Z a0 hw [] r_215 b353 (2 : Int32) (4 : Int32) T355.heap n0 (Nat.le_trans Z0 K355.1) (by decide)) hZ (own_w hw 162 rfl) (own_w hw 148 rfl) (by decide) (by decide)) (g := (mkF m 276 #[oI p0, oR r_215, oJ vv, oS, oI (0 : Int32), oI (1 : Int32), oR b353, oI (1 : Int32), oI (2 : Int32)] [(.int (4 : Int32)), (.int (2 : Int32)), (.ref b353), (.ref r_215)])) rfl (by rw [hml]; rfl) (argsL := [(.ref r_215), (.ref b353), (.int (2 : Int32)), (.int (4 : Int32))]) (rest := []) (lenOf own_pd26 rfl) rfl (own_hW rfl) (hb hby at_276) (fun _ _ => ⟨rfl, eq368, (by decide : 10 + 0 ≤ _), (by decide : 143 + 0 ≤ _)⟩)
    dsimp only [Pt.U, Pt.locs, Pt.cells, Pt.slots] at X369 l369 y369 z369 st369 hQ369
    subst y369 z369
    obtain ⟨rfl, N369q, eq369⟩ := hQ369
    have N369 : Fr n0 L369 := by rw [l369]; exact Fr.app N368 N369q
    refine own_st (st369) ?_
    refine own_st (fun t_ k_ => XS.ifNo X369.here hx rfl (hb hby at_279) rfl ((if0 _ _).trans (feq (by decide : ¬ ((1 : Int32) = (0 : Int32)))).1) (XS.aloadN X369.here hx rfl (hb hby at_282) rfl rfl (XS.aload X369.here hx rfl (hb hby at_283) rfl rfl (XS.iload X369.here hx rfl (hb hby at_285) rfl (XS.iconst X369.here hx rfl (hb hby at_287) k_))))) ?_
    show own_at p e below _ T369 m 288 #[oI p0, oR r_215, oJ vv, oS, oI (0 : Int32), oI (1 : Int32), oR b353, oI (1 : Int32), oI (2 : Int32)] [(.int (5 : Int32)), (.int (2 : Int32)), (.ref b353), (.ref r_215)]
    obtain ⟨_, _, ⟨T370, L370, k370, n370⟩, -, X370, ⟨Lc370, hQ370, l370, y370, z370⟩, st370⟩ := Jvm.LawKit.callS X369 hx (y := own_n32) hown (mvT hZ (own_w hw 160 rfl)) (mvT hZ (own_w hw 161 rfl)) (mvT hZ (own_w hw 148 rfl)) (mvT hZ (own_w hw 162 rfl)) (by decide) (backOf (W := 0) (own_rm29n l Z a0 hw [] r_215 b353 (2 : Int32) (5 : Int32) T355.heap n0 (Nat.le_trans Z0 K355.1) (by decide)) hZ (own_w hw 162 rfl) (own_w hw 148 rfl) (by decide) (by decide)) (g := (mkF m 288 #[oI p0, oR r_215, oJ vv, oS, oI (0 : Int32), oI (1 : Int32), oR b353, oI (1 : Int32), oI (2 : Int32)] [(.int (5 : Int32)), (.int (2 : Int32)), (.ref b353), (.ref r_215)])) rfl (by rw [hml]; rfl) (argsL := [(.ref r_215), (.ref b353), (.int (2 : Int32)), (.int (5 : Int32))]) (rest := []) (lenOf own_pd26 rfl) rfl (own_hW rfl) (hb hby at_288) (fun _ _ => ⟨rfl, eq369, (by decide : 10 + 0 ≤ _), (by decide : 143 + 0 ≤ _)⟩)
    dsimp only [Pt.U, Pt.locs, Pt.cells, Pt.slots] at X370 l370 y370 z370 st370 hQ370
    subst y370 z370
    obtain ⟨rfl, N370q, eq370⟩ := hQ370
    have N370 : Fr n0 L370 := by rw [l370]; exact Fr.app N369 N370q
    refine own_st (st370) ?_
    refine own_st (fun t_ k_ => XS.ifNo X370.here hx rfl (hb hby at_291) rfl ((if0 _ _).trans (feq (by decide : ¬ ((1 : Int32) = (0 : Int32)))).1) (XS.aloadN X370.here hx rfl (hb hby at_294) rfl rfl (XS.aload X370.here hx rfl (hb hby at_295) rfl rfl (XS.iload X370.here hx rfl (hb hby at_297) rfl (XS.bipush X370.here hx rfl (hb hby at_299) k_))))) ?_
    show own_at p e below _ T370 m 301 #[oI p0, oR r_215, oJ vv, oS, oI (0 : Int32), oI (1 : Int32), oR b353, oI (1 : Int32), oI (2 : Int32)] [(.int (6 : Int32)), (.int (2 : Int32)), (.ref b353), (.ref r_215)]
    obtain ⟨_, _, ⟨T371, L371, k371, n371⟩, -, X371, ⟨Lc371, hQ371, l371, y371, z371⟩, st371⟩ := Jvm.LawKit.callS X370 hx (y := own_n32) hown (mvT hZ (own_w hw 160 rfl)) (mvT hZ (own_w hw 161 rfl)) (mvT hZ (own_w hw 148 rfl)) (mvT hZ (own_w hw 162 rfl)) (by decide) (backOf (W := 0) (own_rm29n l Z a0 hw [] r_215 b353 (2 : Int32) (6 : Int32) T355.heap n0 (Nat.le_trans Z0 K355.1) (by decide)) hZ (own_w hw 162 rfl) (own_w hw 148 rfl) (by decide) (by decide)) (g := (mkF m 301 #[oI p0, oR r_215, oJ vv, oS, oI (0 : Int32), oI (1 : Int32), oR b353, oI (1 : Int32), oI (2 : Int32)] [(.int (6 : Int32)), (.int (2 : Int32)), (.ref b353), (.ref r_215)])) rfl (by rw [hml]; rfl) (argsL := [(.ref r_215), (.ref b353), (.int (2 : Int32)), (.int (6 : Int32))]) (rest := []) (lenOf own_pd26 rfl) rfl (own_hW rfl) (hb hby at_301) (fun _ _ => ⟨rfl, eq370, (by decide : 10 + 0 ≤ _), (by decide : 143 + 0 ≤ _)⟩)
    dsimp only [Pt.U, Pt.locs, Pt.cells, Pt.slots] at X371 l371 y371 z371 st371 hQ371
    subst y371 z371
    obtain ⟨rfl, N371q, eq371⟩ := hQ371
    have N371 : Fr n0 L371 := by rw [l371]; exact Fr.app N370 N371q
    refine own_st (st371) ?_
    refine own_st (fun t_ k_ => XS.ifNo X371.here hx rfl (hb hby at_304) rfl ((if0 _ _).trans (feq (by decide : ¬ ((1 : Int32) = (0 : Int32)))).1) (XS.aloadN X371.here hx rfl (hb hby at_307) rfl rfl (XS.aload X371.here hx rfl (hb hby at_308) rfl rfl (XS.iload X371.here hx rfl (hb hby at_310) rfl (XS.bipush X371.here hx rfl (hb hby at_312) k_))))) ?_
    show own_at p e below _ T371 m 314 #[oI p0, oR r_215, oJ vv, oS, oI (0 : Int32), oI (1 : Int32), oR b353, oI (1 : Int32), oI (2 : Int32)] [(.int (7 : Int32)), (.int (2 : Int32)), (.ref b353), (.ref r_215)]
    obtain ⟨_, _, ⟨T372, L372, k372, n372⟩, -, X372, ⟨Lc372, hQ372, l372, y372, z372⟩, st372⟩ := Jvm.LawKit.callS X371 hx (y := own_n32) hown (mvT hZ (own_w hw 160 rfl)) (mvT hZ (own_w hw 161 rfl)) (mvT hZ (own_w hw 148 rfl)) (mvT hZ (own_w hw 162 rfl)) (by decide) (backOf (W := 0) (own_rm29n l Z a0 hw [] r_215 b353 (2 : Int32) (7 : Int32) T355.heap n0 (Nat.le_trans Z0 K355.1) (by decide)) hZ (own_w hw 162 rfl) (own_w hw 148 rfl) (by decide) (by decide)) (g := (mkF m 314 #[oI p0, oR r_215, oJ vv, oS, oI (0 : Int32), oI (1 : Int32), oR b353, oI (1 : Int32), oI (2 : Int32)] [(.int (7 : Int32)), (.int (2 : Int32)), (.ref b353), (.ref r_215)])) rfl (by rw [hml]; rfl) (argsL := [(.ref r_215), (.ref b353), (.int (2 : Int32)), (.int (7 : Int32))]) (rest := []) (lenOf own_pd26 rfl) rfl (own_hW rfl) (hb hby at_314) (fun _ _ => ⟨rfl, eq371, (by decide : 10 + 0 ≤ _), (by decide : 143 + 0 ≤ _)⟩)
    dsimp only [Pt.U, Pt.locs, Pt.cells, Pt.slots] at X372 l372 y372 z372 st372 hQ372
    subst y372 z372
    obtain ⟨rfl, N372q, eq372⟩ := hQ372
    have N372 : Fr n0 L372 := by rw [l372]; exact Fr.app N371 N372q
    refine own_st (st372) ?_
    refine own_st (fun t_ k_ => XS.ifNo X372.here hx rfl (hb hby at_317) rfl ((if0 _ _).trans (feq (by decide : ¬ ((1 : Int32) = (0 : Int32)))).1) (XS.iconst X372.here hx rfl (hb hby at_320) (XS.goto X372.here hx rfl (pc0 := 321) (pc' := 325) rfl (hb hby at_321) (by decide) (by decide) k_))) ?_
    show own_at p e below _ T372 m 325 #[oI p0, oR r_215, oJ vv, oS, oI (0 : Int32), oI (1 : Int32), oR b353, oI (1 : Int32), oI (2 : Int32)] [(.int (1 : Int32))]
    exact own_retW (w := (.int (1 : Int32))) X372 hx hnl hZ (own_hEL hw) S215 (by rw [eq372]; exact kk355) (by rw [eq372]; exact C355) Bd.returns rfl (Or.inl ⟨rfl, by decide, _, rfl⟩) (hb hby at_325) ⟨rfl, N372, (by rw [eq372]; exact K355)⟩ (by decide) (by decide)
  have z1 : (36 : Int64).toInt = 36 := by decide
  have hb1 := mt (lw_lt _ _).mpr c34_352
  rw [Int64.lt_iff_toInt_lt, hv, z1] at hb1
  refine own_st (fun t_ k_ => XS.ifYes X215.here hx rfl (pc0 := 34) (pc' := 41) rfl (hb hby at_34) rfl ((if0 _ _).trans (flt c34_352).2.1) (by decide) (by decide) (XS.lloadN X215.here hx rfl (hb hby at_41) rfl k_)) ?_
  show own_at p e below _ T215 m 42 #[oI p0, oR r_215, oJ vv, oS, oI (0 : Int32), oU, oU, oU, oU] [(.long vv)]
  refine own_st (X215.ldc2Long hx hown (mvT hZ (own_w hw 155 rfl)) (g := (mkF m 42 #[oI p0, oR r_215, oJ vv, oS, oI (0 : Int32), oU, oU, oU, oU] [(.long vv)])) rfl (hb hby at_42)) ?_
  refine own_st (fun t_ k_ => XS.lcmp X215.here hx rfl (hb hby at_45) rfl k_) ?_
  show own_at p e below _ T215 m 46 #[oI p0, oR r_215, oJ vv, oS, oI (0 : Int32), oU, oU, oU, oU] [(.int (lcmpW vv (1296 : Int64)))]
  by_cases c46_373 : (lcmpW vv (1296 : Int64)) < (0 : Int32)
  · skip
    have z2 : (1296 : Int64).toInt = 1296 := by decide
    have hb2 := (lw_lt _ _).mp c46_373
    rw [Int64.lt_iff_toInt_lt, hv, z2] at hb2
    refine own_st (fun t_ k_ => XS.ifNo X215.here hx rfl (hb hby at_46) rfl ((if0 _ _).trans (tlt c46_373).2.1) (XS.iconst X215.here hx rfl (hb hby at_49) (XS.goto X215.here hx rfl (pc0 := 50) (pc' := 91) rfl (hb hby at_50) (by decide) (by decide) (XS.istore X215.here hx rfl (hb hby at_91) rfl (l' := #[oI p0, oR r_215, oJ vv, oS, oI (0 : Int32), oI (2 : Int32), oU, oU, oU]) rfl k_)))) ?_
    show own_at p e below _ T215 m 93 #[oI p0, oR r_215, oJ vv, oS, oI (0 : Int32), oI (2 : Int32), oU, oU, oU] []
    have en : n_215 = 2 := own_nn6 hdn.1 hdn.2.2.1 hdn.2.2.2 (by decide) (by have q_ : 36 ^ 2 = 1296 := (by decide); omega) (by first | exact Or.inl rfl | exact Or.inr (by have q_ : 36 ^ (2 - 1) = 36 := (by decide); omega))
    have As : own_A Z T215.heap t_215 kt_215 .byte (own_bl (0 : Int32) 3) (fun i => .int ((own_by (0 : Int32) (own_ws 0 2 V)) i)) := by have z_ := P215_4; rw [en, hsg, ← hV] at z_; exact z_
    have hcd : ((0 : Int32) = 0 ∧ ∀ q : Nat, q < 3 → ¬ (255 : Int32) < (own_ws 0 2 V) q) ∨ (0 : Int32) = 1 := Or.inl ⟨rfl, fun q _ => own_lat7 (own_ws7 _ _ _ q)⟩
    refine own_st (fun t_ k_ => XS.bipush X215.here hx rfl (hb hby at_93) k_) ?_
    show own_at p e below _ T215 m 95 #[oI p0, oR r_215, oJ vv, oS, oI (0 : Int32), oI (2 : Int32), oU, oU, oU] [(.int (8 : Int32))]
    obtain ⟨T374, h374, k374, X374, e374, E374, A374, st374⟩ := newP X215 hx hZ (own_w hw 145 rfl) rfl (g := (mkF m 95 #[oI p0, oR r_215, oJ vv, oS, oI (0 : Int32), oI (2 : Int32), oU, oU, oU] [(.int (8 : Int32))])) rfl (hb hby at_95) rfl (by decide) (cap := 8) (by decide) (by decide) (by decide) (by decide)
    obtain ⟨b374, g374⟩ : ∃ z, z = T215.heap.size := ⟨_, rfl⟩
    rw [← g374] at A374 st374
    have fr374 : h0.size ≤ b374 := Nat.le_trans K215.1 (Nat.le_of_eq g374.symm)
    have ge374 : n0 ≤ b374 := Nat.le_trans Z0 fr374
    have K374 : Keep h0 h374 [] := K215.ext E374
    have c374 : CHr Z own_EL _ T215.heap _ h374 := CHr.ext E374 C215.1
    have C374 := C215.trans c374
    have kk374 := Nat.le_trans kk215 c374.2.1
    have Sf374_b374 : Safe Z own_EL _ h374 b374 := Safe.ext E374 C215.1 (Safe.new (Nat.le_of_eq g374.symm))
    have Ar374 : own_A Z h374 b374 k374 .char 8 (fun i => .int ((fun _ => (0 : Int32)) i)) := own_A.new A374 rfl (by decide)
    refine own_st (st374) ?_
    refine own_st (fun t_ k_ => XS.astore X374.here hx rfl (hb hby at_97) rfl rfl (l' := #[oI p0, oR r_215, oJ vv, oS, oI (0 : Int32), oI (2 : Int32), oR b374, oU, oU]) rfl (XS.aload X374.here hx rfl (hb hby at_99) rfl rfl (XS.iconst X374.here hx rfl (hb hby at_101) (XS.bipush X374.here hx rfl (hb hby at_102) k_)))) ?_
    show own_at p e below _ T374 m 104 #[oI p0, oR r_215, oJ vv, oS, oI (0 : Int32), oI (2 : Int32), oR b374, oU, oU] [(.int (119 : Int32)), (.int (0 : Int32)), (.ref b374)]
    obtain ⟨T375, h375, X375, e375, W375, Aw375, st375⟩ := own_castore X374 hx hZ e374 Ar374 (i := 0) (by decide) (by decide) rfl (v' := (119 : Int32)) (g := (mkF m 104 #[oI p0, oR r_215, oJ vv, oS, oI (0 : Int32), oI (2 : Int32), oR b374, oU, oU] [(.int (119 : Int32)), (.int (0 : Int32)), (.ref b374)])) rfl rfl (hb hby at_104)
    have N375 := Fr.snoc X375 N215 ge374
    have K375 : Keep h0 h375 [] := K374.wr W375 (Or.inr fr374)
    have c375 : CHr Z own_EL _ h374 _ h375 := CHr.wr W375 (own_safeA hZ.alike Ar374 (by decide)) C374.1
    have C375 := C374.trans c375
    have kk375 := Nat.le_trans kk374 c375.2.1
    refine own_st (st375) ?_
    refine own_st (fun t_ k_ => XS.iconst X375.here hx rfl (hb hby at_105) (XS.istore X375.here hx rfl (hb hby at_106) rfl (l' := #[oI p0, oR r_215, oJ vv, oS, oI (0 : Int32), oI (2 : Int32), oR b374, oI (1 : Int32), oU]) rfl (XS.iload X375.here hx rfl (hb hby at_108) rfl (XS.ifYes X375.here hx rfl (pc0 := 110) (pc' := 122) rfl (hb hby at_110) rfl ((if0 _ _).trans (teq (by decide : (0 : Int32) = (0 : Int32))).1) (by decide) (by decide) (XS.aload X375.here hx rfl (hb hby at_122) rfl rfl (XS.iload X375.here hx rfl (hb hby at_124) rfl k_)))))) ?_
    show own_at p e below _ T375 m 126 #[oI p0, oR r_215, oJ vv, oS, oI (0 : Int32), oI (2 : Int32), oR b374, oI (1 : Int32), oU] [(.int (1 : Int32)), (.ref b374)]
    refine own_st (fun t_ k_ => XS.iload X375.here hx rfl (hb hby at_126) rfl (XS.iconst X375.here hx rfl (hb hby at_128) (XS.lloadN X375.here hx rfl (hb hby at_129) rfl (XS.lconst X375.here hx rfl (hb hby at_130) k_)))) ?_
    show own_at p e below _ T375 m 131 #[oI p0, oR r_215, oJ vv, oS, oI (0 : Int32), oI (2 : Int32), oR b374, oI (1 : Int32), oU] [(.long (1 : Int64)), (.long vv), (.int (0 : Int32)), (.int (2 : Int32)), (.int (1 : Int32)), (.ref b374)]
    obtain ⟨_, _, ⟨T376, L376, k376, n376⟩, -, X376, ⟨Lc376, hQ376, l376, y376, z376⟩, st376⟩ := Jvm.LawKit.callS X375 hx (y := own_n31) hown (mvT hZ (own_w hw 146 rfl)) (mvT hZ (own_w hw 147 rfl)) (mvT hZ (own_w hw 148 rfl)) (mvT hZ (own_w hw 149 rfl)) (by decide) (backOf (W := 0) (own_rm27y l Z a0 hw [] b374 (1 : Int32) (2 : Int32) (0 : Int32) vv (1 : Int64) k374 (own_upd (fun _ => (0 : Int32)) 0 (119 : Int32)) 2 h375 n0 (Nat.le_trans Z0 K375.1) Aw375 ge374 (by decide) (by decide) (by decide)) hZ (own_w hw 149 rfl) (own_w hw 148 rfl) (by decide) (by decide)) (g := (mkF m 131 #[oI p0, oR r_215, oJ vv, oS, oI (0 : Int32), oI (2 : Int32), oR b374, oI (1 : Int32), oU] [(.long (1 : Int64)), (.long vv), (.int (0 : Int32)), (.int (2 : Int32)), (.int (1 : Int32)), (.ref b374)])) rfl (by rw [hml]; rfl) (argsL := [(.ref b374), (.int (1 : Int32)), (.int (2 : Int32)), (.int (0 : Int32)), (.long vv), (.long (1 : Int64))]) (rest := []) (lenOf own_pd25 rfl) rfl (own_hW rfl) (hb hby at_131) (fun _ _ => ⟨rfl, e375, (by decide : 10 + 0 ≤ _), (by decide : 143 + 0 ≤ _)⟩)
    dsimp only [Pt.U, Pt.locs, Pt.cells, Pt.slots] at X376 l376 y376 z376 st376 hQ376
    subst y376 z376
    obtain ⟨rfl, N376q, Kq376, P376_0⟩ := hQ376
    have N376 : Fr n0 L376 := by rw [l376]; exact Fr.app N375 N376q
    have K376 : Keep h0 T376.heap [] := K375.trans Kq376 (allS (P := fun x => x ∈ [] ∨ h0.size ≤ x) (Or.inr fr374) all0)
    have c376 : CHr Z own_EL _ h375 _ T376.heap := CHr.keep Kq376 (own_slS (own_safeA hZ.alike Aw375 (by decide)) own_sl0) C375.1
    have C376 := C375.trans c376
    have kk376 := Nat.le_trans kk375 c376.2.1
    refine own_st (st376) ?_
    refine own_st (fun t_ k_ => XS.aload X376.here hx rfl (hb hby at_134) rfl rfl (XS.iload X376.here hx rfl (hb hby at_136) rfl (XS.iload X376.here hx rfl (hb hby at_138) rfl (XS.iconst X376.here hx rfl (hb hby at_140) (XS.lloadN X376.here hx rfl (hb hby at_141) rfl k_))))) ?_
    show own_at p e below _ T376 m 142 #[oI p0, oR r_215, oJ vv, oS, oI (0 : Int32), oI (2 : Int32), oR b374, oI (1 : Int32), oU] [(.long vv), (.int (1 : Int32)), (.int (2 : Int32)), (.int (1 : Int32)), (.ref b374)]
    refine own_st (X376.ldc2Long hx hown (mvT hZ (own_w hw 144 rfl)) (g := (mkF m 142 #[oI p0, oR r_215, oJ vv, oS, oI (0 : Int32), oI (2 : Int32), oR b374, oI (1 : Int32), oU] [(.long vv), (.int (1 : Int32)), (.int (2 : Int32)), (.int (1 : Int32)), (.ref b374)])) rfl (hb hby at_142)) ?_
    show own_at p e below _ T376 m 145 #[oI p0, oR r_215, oJ vv, oS, oI (0 : Int32), oI (2 : Int32), oR b374, oI (1 : Int32), oU] [(.long (36 : Int64)), (.long vv), (.int (1 : Int32)), (.int (2 : Int32)), (.int (1 : Int32)), (.ref b374)]
    obtain ⟨_, _, ⟨T377, L377, k377, n377⟩, -, X377, ⟨Lc377, hQ377, l377, y377, z377⟩, st377⟩ := Jvm.LawKit.callS X376 hx (y := own_n31) hown (mvT hZ (own_w hw 146 rfl)) (mvT hZ (own_w hw 147 rfl)) (mvT hZ (own_w hw 148 rfl)) (mvT hZ (own_w hw 149 rfl)) (by decide) (backOf (W := 0) (own_rm27y l Z a0 hw [] b374 (1 : Int32) (2 : Int32) (1 : Int32) vv (36 : Int64) k374 (own_upd (own_upd (fun _ => (0 : Int32)) 0 (119 : Int32)) 2 (own_dig ((vv / (1 : Int64)) % (36 : Int64)))) 1 T376.heap n0 (Nat.le_trans Z0 K376.1) P376_0 ge374 (by decide) (by decide) (by decide)) hZ (own_w hw 149 rfl) (own_w hw 148 rfl) (by decide) (by decide)) (g := (mkF m 145 #[oI p0, oR r_215, oJ vv, oS, oI (0 : Int32), oI (2 : Int32), oR b374, oI (1 : Int32), oU] [(.long (36 : Int64)), (.long vv), (.int (1 : Int32)), (.int (2 : Int32)), (.int (1 : Int32)), (.ref b374)])) rfl (by rw [hml]; rfl) (argsL := [(.ref b374), (.int (1 : Int32)), (.int (2 : Int32)), (.int (1 : Int32)), (.long vv), (.long (36 : Int64))]) (rest := []) (lenOf own_pd25 rfl) rfl (own_hW rfl) (hb hby at_145) (fun _ _ => ⟨rfl, rfl, (by decide : 10 + 0 ≤ _), (by decide : 143 + 0 ≤ _)⟩)
    dsimp only [Pt.U, Pt.locs, Pt.cells, Pt.slots] at X377 l377 y377 z377 st377 hQ377
    subst y377 z377
    obtain ⟨rfl, N377q, Kq377, P377_0⟩ := hQ377
    have N377 : Fr n0 L377 := by rw [l377]; exact Fr.app N376 N377q
    have K377 : Keep h0 T377.heap [] := K376.trans Kq377 (allS (P := fun x => x ∈ [] ∨ h0.size ≤ x) (Or.inr fr374) all0)
    have c377 : CHr Z own_EL _ T376.heap _ T377.heap := CHr.keep Kq377 (own_slS (own_safeA hZ.alike P376_0 (by decide)) own_sl0) C376.1
    have C377 := C376.trans c377
    have kk377 := Nat.le_trans kk376 c377.2.1
    refine own_st (st377) ?_
    refine own_st (fun t_ k_ => XS.aload X377.here hx rfl (hb hby at_148) rfl rfl (XS.iload X377.here hx rfl (hb hby at_150) rfl (XS.iload X377.here hx rfl (hb hby at_152) rfl (XS.iconst X377.here hx rfl (hb hby at_154) (XS.lloadN X377.here hx rfl (hb hby at_155) rfl k_))))) ?_
    show own_at p e below _ T377 m 156 #[oI p0, oR r_215, oJ vv, oS, oI (0 : Int32), oI (2 : Int32), oR b374, oI (1 : Int32), oU] [(.long vv), (.int (2 : Int32)), (.int (2 : Int32)), (.int (1 : Int32)), (.ref b374)]
    refine own_st (X377.ldc2Long hx hown (mvT hZ (own_w hw 155 rfl)) (g := (mkF m 156 #[oI p0, oR r_215, oJ vv, oS, oI (0 : Int32), oI (2 : Int32), oR b374, oI (1 : Int32), oU] [(.long vv), (.int (2 : Int32)), (.int (2 : Int32)), (.int (1 : Int32)), (.ref b374)])) rfl (hb hby at_156)) ?_
    show own_at p e below _ T377 m 159 #[oI p0, oR r_215, oJ vv, oS, oI (0 : Int32), oI (2 : Int32), oR b374, oI (1 : Int32), oU] [(.long (1296 : Int64)), (.long vv), (.int (2 : Int32)), (.int (2 : Int32)), (.int (1 : Int32)), (.ref b374)]
    obtain ⟨_, _, ⟨T378, L378, k378, n378⟩, -, X378, ⟨Lc378, hQ378, l378, y378, z378⟩, st378⟩ := Jvm.LawKit.callS X377 hx (y := own_n31) hown (mvT hZ (own_w hw 146 rfl)) (mvT hZ (own_w hw 147 rfl)) (mvT hZ (own_w hw 148 rfl)) (mvT hZ (own_w hw 149 rfl)) (by decide) (backOf (W := 0) (own_rm27n l Z a0 hw [] b374 (1 : Int32) (2 : Int32) (2 : Int32) vv (1296 : Int64) T377.heap n0 (Nat.le_trans Z0 K377.1) (by decide)) hZ (own_w hw 149 rfl) (own_w hw 148 rfl) (by decide) (by decide)) (g := (mkF m 159 #[oI p0, oR r_215, oJ vv, oS, oI (0 : Int32), oI (2 : Int32), oR b374, oI (1 : Int32), oU] [(.long (1296 : Int64)), (.long vv), (.int (2 : Int32)), (.int (2 : Int32)), (.int (1 : Int32)), (.ref b374)])) rfl (by rw [hml]; rfl) (argsL := [(.ref b374), (.int (1 : Int32)), (.int (2 : Int32)), (.int (2 : Int32)), (.long vv), (.long (1296 : Int64))]) (rest := []) (lenOf own_pd25 rfl) rfl (own_hW rfl) (hb hby at_159) (fun _ _ => ⟨rfl, rfl, (by decide : 10 + 0 ≤ _), (by decide : 143 + 0 ≤ _)⟩)
    dsimp only [Pt.U, Pt.locs, Pt.cells, Pt.slots] at X378 l378 y378 z378 st378 hQ378
    subst y378 z378
    obtain ⟨rfl, N378q, eq378⟩ := hQ378
    have N378 : Fr n0 L378 := by rw [l378]; exact Fr.app N377 N378q
    refine own_st (st378) ?_
    refine own_st (fun t_ k_ => XS.aload X378.here hx rfl (hb hby at_162) rfl rfl (XS.iload X378.here hx rfl (hb hby at_164) rfl (XS.iload X378.here hx rfl (hb hby at_166) rfl (XS.iconst X378.here hx rfl (hb hby at_168) (XS.lloadN X378.here hx rfl (hb hby at_169) rfl k_))))) ?_
    show own_at p e below _ T378 m 170 #[oI p0, oR r_215, oJ vv, oS, oI (0 : Int32), oI (2 : Int32), oR b374, oI (1 : Int32), oU] [(.long vv), (.int (3 : Int32)), (.int (2 : Int32)), (.int (1 : Int32)), (.ref b374)]
    refine own_st (X378.ldc2Long hx hown (mvT hZ (own_w hw 156 rfl)) (g := (mkF m 170 #[oI p0, oR r_215, oJ vv, oS, oI (0 : Int32), oI (2 : Int32), oR b374, oI (1 : Int32), oU] [(.long vv), (.int (3 : Int32)), (.int (2 : Int32)), (.int (1 : Int32)), (.ref b374)])) rfl (hb hby at_170)) ?_
    show own_at p e below _ T378 m 173 #[oI p0, oR r_215, oJ vv, oS, oI (0 : Int32), oI (2 : Int32), oR b374, oI (1 : Int32), oU] [(.long (46656 : Int64)), (.long vv), (.int (3 : Int32)), (.int (2 : Int32)), (.int (1 : Int32)), (.ref b374)]
    obtain ⟨_, _, ⟨T379, L379, k379, n379⟩, -, X379, ⟨Lc379, hQ379, l379, y379, z379⟩, st379⟩ := Jvm.LawKit.callS X378 hx (y := own_n31) hown (mvT hZ (own_w hw 146 rfl)) (mvT hZ (own_w hw 147 rfl)) (mvT hZ (own_w hw 148 rfl)) (mvT hZ (own_w hw 149 rfl)) (by decide) (backOf (W := 0) (own_rm27n l Z a0 hw [] b374 (1 : Int32) (2 : Int32) (3 : Int32) vv (46656 : Int64) T377.heap n0 (Nat.le_trans Z0 K377.1) (by decide)) hZ (own_w hw 149 rfl) (own_w hw 148 rfl) (by decide) (by decide)) (g := (mkF m 173 #[oI p0, oR r_215, oJ vv, oS, oI (0 : Int32), oI (2 : Int32), oR b374, oI (1 : Int32), oU] [(.long (46656 : Int64)), (.long vv), (.int (3 : Int32)), (.int (2 : Int32)), (.int (1 : Int32)), (.ref b374)])) rfl (by rw [hml]; rfl) (argsL := [(.ref b374), (.int (1 : Int32)), (.int (2 : Int32)), (.int (3 : Int32)), (.long vv), (.long (46656 : Int64))]) (rest := []) (lenOf own_pd25 rfl) rfl (own_hW rfl) (hb hby at_173) (fun _ _ => ⟨rfl, eq378, (by decide : 10 + 0 ≤ _), (by decide : 143 + 0 ≤ _)⟩)
    dsimp only [Pt.U, Pt.locs, Pt.cells, Pt.slots] at X379 l379 y379 z379 st379 hQ379
    subst y379 z379
    obtain ⟨rfl, N379q, eq379⟩ := hQ379
    have N379 : Fr n0 L379 := by rw [l379]; exact Fr.app N378 N379q
    refine own_st (st379) ?_
    refine own_st (fun t_ k_ => XS.aload X379.here hx rfl (hb hby at_176) rfl rfl (XS.iload X379.here hx rfl (hb hby at_178) rfl (XS.iload X379.here hx rfl (hb hby at_180) rfl (XS.iconst X379.here hx rfl (hb hby at_182) (XS.lloadN X379.here hx rfl (hb hby at_183) rfl k_))))) ?_
    show own_at p e below _ T379 m 184 #[oI p0, oR r_215, oJ vv, oS, oI (0 : Int32), oI (2 : Int32), oR b374, oI (1 : Int32), oU] [(.long vv), (.int (4 : Int32)), (.int (2 : Int32)), (.int (1 : Int32)), (.ref b374)]
    refine own_st (X379.ldc2Long hx hown (mvT hZ (own_w hw 157 rfl)) (g := (mkF m 184 #[oI p0, oR r_215, oJ vv, oS, oI (0 : Int32), oI (2 : Int32), oR b374, oI (1 : Int32), oU] [(.long vv), (.int (4 : Int32)), (.int (2 : Int32)), (.int (1 : Int32)), (.ref b374)])) rfl (hb hby at_184)) ?_
    show own_at p e below _ T379 m 187 #[oI p0, oR r_215, oJ vv, oS, oI (0 : Int32), oI (2 : Int32), oR b374, oI (1 : Int32), oU] [(.long (1679616 : Int64)), (.long vv), (.int (4 : Int32)), (.int (2 : Int32)), (.int (1 : Int32)), (.ref b374)]
    obtain ⟨_, _, ⟨T380, L380, k380, n380⟩, -, X380, ⟨Lc380, hQ380, l380, y380, z380⟩, st380⟩ := Jvm.LawKit.callS X379 hx (y := own_n31) hown (mvT hZ (own_w hw 146 rfl)) (mvT hZ (own_w hw 147 rfl)) (mvT hZ (own_w hw 148 rfl)) (mvT hZ (own_w hw 149 rfl)) (by decide) (backOf (W := 0) (own_rm27n l Z a0 hw [] b374 (1 : Int32) (2 : Int32) (4 : Int32) vv (1679616 : Int64) T377.heap n0 (Nat.le_trans Z0 K377.1) (by decide)) hZ (own_w hw 149 rfl) (own_w hw 148 rfl) (by decide) (by decide)) (g := (mkF m 187 #[oI p0, oR r_215, oJ vv, oS, oI (0 : Int32), oI (2 : Int32), oR b374, oI (1 : Int32), oU] [(.long (1679616 : Int64)), (.long vv), (.int (4 : Int32)), (.int (2 : Int32)), (.int (1 : Int32)), (.ref b374)])) rfl (by rw [hml]; rfl) (argsL := [(.ref b374), (.int (1 : Int32)), (.int (2 : Int32)), (.int (4 : Int32)), (.long vv), (.long (1679616 : Int64))]) (rest := []) (lenOf own_pd25 rfl) rfl (own_hW rfl) (hb hby at_187) (fun _ _ => ⟨rfl, eq379, (by decide : 10 + 0 ≤ _), (by decide : 143 + 0 ≤ _)⟩)
    dsimp only [Pt.U, Pt.locs, Pt.cells, Pt.slots] at X380 l380 y380 z380 st380 hQ380
    subst y380 z380
    obtain ⟨rfl, N380q, eq380⟩ := hQ380
    have N380 : Fr n0 L380 := by rw [l380]; exact Fr.app N379 N380q
    refine own_st (st380) ?_
    refine own_st (fun t_ k_ => XS.aload X380.here hx rfl (hb hby at_190) rfl rfl (XS.iload X380.here hx rfl (hb hby at_192) rfl (XS.iload X380.here hx rfl (hb hby at_194) rfl (XS.iconst X380.here hx rfl (hb hby at_196) (XS.lloadN X380.here hx rfl (hb hby at_197) rfl k_))))) ?_
    show own_at p e below _ T380 m 198 #[oI p0, oR r_215, oJ vv, oS, oI (0 : Int32), oI (2 : Int32), oR b374, oI (1 : Int32), oU] [(.long vv), (.int (5 : Int32)), (.int (2 : Int32)), (.int (1 : Int32)), (.ref b374)]
    refine own_st (X380.ldc2Long hx hown (mvT hZ (own_w hw 158 rfl)) (g := (mkF m 198 #[oI p0, oR r_215, oJ vv, oS, oI (0 : Int32), oI (2 : Int32), oR b374, oI (1 : Int32), oU] [(.long vv), (.int (5 : Int32)), (.int (2 : Int32)), (.int (1 : Int32)), (.ref b374)])) rfl (hb hby at_198)) ?_
    show own_at p e below _ T380 m 201 #[oI p0, oR r_215, oJ vv, oS, oI (0 : Int32), oI (2 : Int32), oR b374, oI (1 : Int32), oU] [(.long (60466176 : Int64)), (.long vv), (.int (5 : Int32)), (.int (2 : Int32)), (.int (1 : Int32)), (.ref b374)]
    obtain ⟨_, _, ⟨T381, L381, k381, n381⟩, -, X381, ⟨Lc381, hQ381, l381, y381, z381⟩, st381⟩ := Jvm.LawKit.callS X380 hx (y := own_n31) hown (mvT hZ (own_w hw 146 rfl)) (mvT hZ (own_w hw 147 rfl)) (mvT hZ (own_w hw 148 rfl)) (mvT hZ (own_w hw 149 rfl)) (by decide) (backOf (W := 0) (own_rm27n l Z a0 hw [] b374 (1 : Int32) (2 : Int32) (5 : Int32) vv (60466176 : Int64) T377.heap n0 (Nat.le_trans Z0 K377.1) (by decide)) hZ (own_w hw 149 rfl) (own_w hw 148 rfl) (by decide) (by decide)) (g := (mkF m 201 #[oI p0, oR r_215, oJ vv, oS, oI (0 : Int32), oI (2 : Int32), oR b374, oI (1 : Int32), oU] [(.long (60466176 : Int64)), (.long vv), (.int (5 : Int32)), (.int (2 : Int32)), (.int (1 : Int32)), (.ref b374)])) rfl (by rw [hml]; rfl) (argsL := [(.ref b374), (.int (1 : Int32)), (.int (2 : Int32)), (.int (5 : Int32)), (.long vv), (.long (60466176 : Int64))]) (rest := []) (lenOf own_pd25 rfl) rfl (own_hW rfl) (hb hby at_201) (fun _ _ => ⟨rfl, eq380, (by decide : 10 + 0 ≤ _), (by decide : 143 + 0 ≤ _)⟩)
    dsimp only [Pt.U, Pt.locs, Pt.cells, Pt.slots] at X381 l381 y381 z381 st381 hQ381
    subst y381 z381
    obtain ⟨rfl, N381q, eq381⟩ := hQ381
    have N381 : Fr n0 L381 := by rw [l381]; exact Fr.app N380 N381q
    refine own_st (st381) ?_
    refine own_st (fun t_ k_ => XS.iload X381.here hx rfl (hb hby at_204) rfl (XS.iload X381.here hx rfl (hb hby at_206) rfl (XS.iadd X381.here hx rfl (hb hby at_208) rfl k_))) ?_
    show own_at p e below _ T381 m 209 #[oI p0, oR r_215, oJ vv, oS, oI (0 : Int32), oI (2 : Int32), oR b374, oI (1 : Int32), oU] [(.int ((1 : Int32) + (2 : Int32)))]
    rw [show ((1 : Int32) + (2 : Int32)) = (3 : Int32) from (by decide)]
    refine own_st (fun t_ k_ => XS.istore X381.here hx rfl (hb hby at_209) rfl (l' := #[oI p0, oR r_215, oJ vv, oS, oI (0 : Int32), oI (2 : Int32), oR b374, oI (1 : Int32), oI (3 : Int32)]) rfl (XS.aloadN X381.here hx rfl (hb hby at_211) rfl rfl k_)) ?_
    show own_at p e below _ T381 m 212 #[oI p0, oR r_215, oJ vv, oS, oI (0 : Int32), oI (2 : Int32), oR b374, oI (1 : Int32), oI (3 : Int32)] [(.ref r_215)]
    have f382 : Fld Z T377.heap r_215 "java/lang/String" "value" "[B" (.ref t_215) := ((((P215_2.ext E374).other W375 (Or.inl (Nat.ne_of_lt (Nat.lt_of_lt_of_le P215_1.lt (Nat.le_of_eq g374.symm))))).keep Kq376 (ninS (Nat.ne_of_lt (Nat.lt_of_lt_of_le P215_1.lt (Nat.le_of_eq g374.symm))) nin0)).keep Kq377 (ninS (Nat.ne_of_lt (Nat.lt_of_lt_of_le P215_1.lt (Nat.le_of_eq g374.symm))) nin0))
    have f383 : Fld Z T377.heap r_215 "java/lang/String" "coder" "B" (.int (0 : Int32)) := ((((P215_3.ext E374).other W375 (Or.inl (Nat.ne_of_lt (Nat.lt_of_lt_of_le P215_1.lt (Nat.le_of_eq g374.symm))))).keep Kq376 (ninS (Nat.ne_of_lt (Nat.lt_of_lt_of_le P215_1.lt (Nat.le_of_eq g374.symm))) nin0)).keep Kq377 (ninS (Nat.ne_of_lt (Nat.lt_of_lt_of_le P215_1.lt (Nat.le_of_eq g374.symm))) nin0))
    have f384 : own_A Z T377.heap t_215 kt_215 .byte (own_bl (0 : Int32) 3) (fun i => .int ((own_by (0 : Int32) (own_ws 0 2 V)) i)) := ((((As.ext E374).other W375 (Nat.ne_of_lt (Nat.lt_of_lt_of_le As.lt (Nat.le_of_eq g374.symm)))).keep Kq376 (ninS (Nat.ne_of_lt (Nat.lt_of_lt_of_le As.lt (Nat.le_of_eq g374.symm))) nin0)).keep Kq377 (ninS (Nat.ne_of_lt (Nat.lt_of_lt_of_le As.lt (Nat.le_of_eq g374.symm))) nin0))
    obtain ⟨cq385, kq385, q385a, q385b, q385c⟩ := isOf hZ eq381 ((((P215_1.ext E374).wr W375).keep Kq376).keep Kq377)
    obtain ⟨_, _, ⟨T385, L385, k385, n385⟩, -, X385, ⟨Lc385, hQ385, l385, y385, z385⟩, st385⟩ := X381.virtualBack hx (y := own_n6) (z := own_n6) hown (mvT hZ (own_w hw 159 rfl)) (mvT hZ (own_w hw 43 rfl)) (notFace_of_selects (args := #[]) (mvT hZ (own_w hw 45 rfl))) (mvT hZ (own_w hw 45 rfl)) (mvT hZ (own_w hw 44 rfl)) (by decide) (backOf (W := 0) (own_rm7 l Z a0 hw [] r_215 t_215 kt_215 (own_bl (0 : Int32) 3) (own_by (0 : Int32) (own_ws 0 2 V)) G1 T377.heap n0 (Nat.le_trans Z0 K377.1) ((((P215_1.ext E374).wr W375).keep Kq376).keep Kq377) f382 f383 f384 (((((q0.keep Kq215 all0).ext E374).wr W375 ge374).keep Kq376 (allS ge374 all0)).keep Kq377 (allS ge374 all0)) q1 hG1) hZ (own_w hw 46 rfl) (own_w hw 20 rfl) (by decide) (by decide)) q385a q385c (g := (mkF m 212 #[oI p0, oR r_215, oJ vv, oS, oI (0 : Int32), oI (2 : Int32), oR b374, oI (1 : Int32), oI (3 : Int32)] [(.ref r_215)])) rfl (by rw [hml]; rfl) (Steps.refl _) (argsL := []) (rest := []) (lenOf own_pd8 rfl) rfl (own_hW rfl) (hb hby at_212) (fun _ _ => ⟨rfl, eq381, (by decide : 10 + 0 ≤ _), (by decide : 143 + 0 ≤ _)⟩)
    dsimp only [Pt.U, Pt.locs, Pt.cells, Pt.slots] at X385 l385 y385 z385 st385 hQ385
    subst y385 z385
    obtain ⟨rfl, N385q, eq385⟩ := hQ385
    have N385 : Fr n0 L385 := by rw [l385]; exact Fr.app N381 N385q
    refine own_tr st385 ?_
    refine own_st (fun t_ k_ => XS.iload X385.here hx rfl (hb hby at_215) rfl (XS.icmpYes X385.here hx rfl (pc0 := 217) (pc' := 222) rfl (hb hby at_217) rfl (teq (by decide : (Int32.ofNat (own_bl (0 : Int32) 3)) = (3 : Int32))).1 (by decide) (by decide) k_)) ?_
    show own_at p e below _ T385 m 222 #[oI p0, oR r_215, oJ vv, oS, oI (0 : Int32), oI (2 : Int32), oR b374, oI (1 : Int32), oI (3 : Int32)] []
    obtain ⟨gg, hgg⟩ : ∃ f_ : Nat → Int32, f_ = (own_upd (own_upd (own_upd (fun _ => (0 : Int32)) 0 (119 : Int32)) 2 (own_dig ((vv / (1 : Int64)) % (36 : Int64)))) 1 (own_dig ((vv / (36 : Int64)) % (36 : Int64)))) := ⟨_, rfl⟩
    have Agg : own_A Z T377.heap b374 k374 .char 8 (fun i => .int (gg i)) := by rw [hgg]; exact P377_0
    have eg0 : own_ws 0 2 V 0 = gg 0 := by rw [hgg]; exact rfl.symm
    have eg1 : own_ws 0 2 V 1 = gg 1 := by rw [hgg]; exact (show own_dig ((vv / (36 : Int64)) % (36 : Int64)) = own_ws 0 2 V 1 from (own_dd hv (by decide : (36 : Int64).toInt = ((36 : Nat) : Int)) (by decide)).trans (by unfold own_ws own_tb; rw [if_neg (by decide), if_neg (by decide)])).symm
    have eg2 : own_ws 0 2 V 2 = gg 2 := by rw [hgg]; exact (show own_dig ((vv / (1 : Int64)) % (36 : Int64)) = own_ws 0 2 V 2 from (own_dd hv (by decide : (1 : Int64).toInt = ((1 : Nat) : Int)) (by decide)).trans (by unfold own_ws own_tb; rw [if_neg (by decide), if_neg (by decide)])).symm
    refine own_st (fun t_ k_ => XS.aloadN X385.here hx rfl (hb hby at_222) rfl rfl (XS.aload X385.here hx rfl (hb hby at_223) rfl rfl (XS.iload X385.here hx rfl (hb hby at_225) rfl (XS.iconst X385.here hx rfl (hb hby at_227) k_)))) ?_
    show own_at p e below _ T385 m 228 #[oI p0, oR r_215, oJ vv, oS, oI (0 : Int32), oI (2 : Int32), oR b374, oI (1 : Int32), oI (3 : Int32)] [(.int (0 : Int32)), (.int (3 : Int32)), (.ref b374), (.ref r_215)]
    obtain ⟨_, _, ⟨T386, L386, k386, n386⟩, -, X386, ⟨Lc386, hQ386, l386, y386, z386⟩, st386⟩ := Jvm.LawKit.callS X385 hx (y := own_n32) hown (mvT hZ (own_w hw 160 rfl)) (mvT hZ (own_w hw 161 rfl)) (mvT hZ (own_w hw 148 rfl)) (mvT hZ (own_w hw 162 rfl)) (by decide) (backOf (W := 0) (own_rm29y l Z a0 hw [] r_215 b374 (3 : Int32) (0 : Int32) t_215 kt_215 3 (own_ws 0 2 V) k374 gg 0 G1 G3 T377.heap n0 (Nat.le_trans Z0 K377.1) ((((P215_1.ext E374).wr W375).keep Kq376).keep Kq377) f382 f383 f384 hcd rfl (((((q0.keep Kq215 all0).ext E374).wr W375 ge374).keep Kq376 (allS ge374 all0)).keep Kq377 (allS ge374 all0)) q1 hG1 q3 rG3 Agg (by decide) (by decide) (by decide) ⟨(own_ws7 _ _ _ _).1, Int.le_trans (own_ws7 _ _ _ _).2 (by decide)⟩ eg0) hZ (own_w hw 162 rfl) (own_w hw 148 rfl) (by decide) (by decide)) (g := (mkF m 228 #[oI p0, oR r_215, oJ vv, oS, oI (0 : Int32), oI (2 : Int32), oR b374, oI (1 : Int32), oI (3 : Int32)] [(.int (0 : Int32)), (.int (3 : Int32)), (.ref b374), (.ref r_215)])) rfl (by rw [hml]; rfl) (argsL := [(.ref r_215), (.ref b374), (.int (3 : Int32)), (.int (0 : Int32))]) (rest := []) (lenOf own_pd26 rfl) rfl (own_hW rfl) (hb hby at_228) (fun _ _ => ⟨rfl, eq385, (by decide : 10 + 0 ≤ _), (by decide : 143 + 0 ≤ _)⟩)
    dsimp only [Pt.U, Pt.locs, Pt.cells, Pt.slots] at X386 l386 y386 z386 st386 hQ386
    subst y386 z386
    obtain ⟨rfl, N386q, eq386⟩ := hQ386
    have N386 : Fr n0 L386 := by rw [l386]; exact Fr.app N385 N386q
    refine own_st (st386) ?_
    refine own_st (fun t_ k_ => XS.ifNo X386.here hx rfl (hb hby at_231) rfl ((if0 _ _).trans (feq (by decide : ¬ ((1 : Int32) = (0 : Int32)))).1) (XS.aloadN X386.here hx rfl (hb hby at_234) rfl rfl (XS.aload X386.here hx rfl (hb hby at_235) rfl rfl (XS.iload X386.here hx rfl (hb hby at_237) rfl (XS.iconst X386.here hx rfl (hb hby at_239) k_))))) ?_
    show own_at p e below _ T386 m 240 #[oI p0, oR r_215, oJ vv, oS, oI (0 : Int32), oI (2 : Int32), oR b374, oI (1 : Int32), oI (3 : Int32)] [(.int (1 : Int32)), (.int (3 : Int32)), (.ref b374), (.ref r_215)]
    obtain ⟨_, _, ⟨T387, L387, k387, n387⟩, -, X387, ⟨Lc387, hQ387, l387, y387, z387⟩, st387⟩ := Jvm.LawKit.callS X386 hx (y := own_n32) hown (mvT hZ (own_w hw 160 rfl)) (mvT hZ (own_w hw 161 rfl)) (mvT hZ (own_w hw 148 rfl)) (mvT hZ (own_w hw 162 rfl)) (by decide) (backOf (W := 0) (own_rm29y l Z a0 hw [] r_215 b374 (3 : Int32) (1 : Int32) t_215 kt_215 3 (own_ws 0 2 V) k374 gg 1 G1 G3 T377.heap n0 (Nat.le_trans Z0 K377.1) ((((P215_1.ext E374).wr W375).keep Kq376).keep Kq377) f382 f383 f384 hcd rfl (((((q0.keep Kq215 all0).ext E374).wr W375 ge374).keep Kq376 (allS ge374 all0)).keep Kq377 (allS ge374 all0)) q1 hG1 q3 rG3 Agg (by decide) (by decide) (by decide) ⟨(own_ws7 _ _ _ _).1, Int.le_trans (own_ws7 _ _ _ _).2 (by decide)⟩ eg1) hZ (own_w hw 162 rfl) (own_w hw 148 rfl) (by decide) (by decide)) (g := (mkF m 240 #[oI p0, oR r_215, oJ vv, oS, oI (0 : Int32), oI (2 : Int32), oR b374, oI (1 : Int32), oI (3 : Int32)] [(.int (1 : Int32)), (.int (3 : Int32)), (.ref b374), (.ref r_215)])) rfl (by rw [hml]; rfl) (argsL := [(.ref r_215), (.ref b374), (.int (3 : Int32)), (.int (1 : Int32))]) (rest := []) (lenOf own_pd26 rfl) rfl (own_hW rfl) (hb hby at_240) (fun _ _ => ⟨rfl, eq386, (by decide : 10 + 0 ≤ _), (by decide : 143 + 0 ≤ _)⟩)
    dsimp only [Pt.U, Pt.locs, Pt.cells, Pt.slots] at X387 l387 y387 z387 st387 hQ387
    subst y387 z387
    obtain ⟨rfl, N387q, eq387⟩ := hQ387
    have N387 : Fr n0 L387 := by rw [l387]; exact Fr.app N386 N387q
    refine own_st (st387) ?_
    refine own_st (fun t_ k_ => XS.ifNo X387.here hx rfl (hb hby at_243) rfl ((if0 _ _).trans (feq (by decide : ¬ ((1 : Int32) = (0 : Int32)))).1) (XS.aloadN X387.here hx rfl (hb hby at_246) rfl rfl (XS.aload X387.here hx rfl (hb hby at_247) rfl rfl (XS.iload X387.here hx rfl (hb hby at_249) rfl (XS.iconst X387.here hx rfl (hb hby at_251) k_))))) ?_
    show own_at p e below _ T387 m 252 #[oI p0, oR r_215, oJ vv, oS, oI (0 : Int32), oI (2 : Int32), oR b374, oI (1 : Int32), oI (3 : Int32)] [(.int (2 : Int32)), (.int (3 : Int32)), (.ref b374), (.ref r_215)]
    obtain ⟨_, _, ⟨T388, L388, k388, n388⟩, -, X388, ⟨Lc388, hQ388, l388, y388, z388⟩, st388⟩ := Jvm.LawKit.callS X387 hx (y := own_n32) hown (mvT hZ (own_w hw 160 rfl)) (mvT hZ (own_w hw 161 rfl)) (mvT hZ (own_w hw 148 rfl)) (mvT hZ (own_w hw 162 rfl)) (by decide) (backOf (W := 0) (own_rm29y l Z a0 hw [] r_215 b374 (3 : Int32) (2 : Int32) t_215 kt_215 3 (own_ws 0 2 V) k374 gg 2 G1 G3 T377.heap n0 (Nat.le_trans Z0 K377.1) ((((P215_1.ext E374).wr W375).keep Kq376).keep Kq377) f382 f383 f384 hcd rfl (((((q0.keep Kq215 all0).ext E374).wr W375 ge374).keep Kq376 (allS ge374 all0)).keep Kq377 (allS ge374 all0)) q1 hG1 q3 rG3 Agg (by decide) (by decide) (by decide) ⟨(own_ws7 _ _ _ _).1, Int.le_trans (own_ws7 _ _ _ _).2 (by decide)⟩ eg2) hZ (own_w hw 162 rfl) (own_w hw 148 rfl) (by decide) (by decide)) (g := (mkF m 252 #[oI p0, oR r_215, oJ vv, oS, oI (0 : Int32), oI (2 : Int32), oR b374, oI (1 : Int32), oI (3 : Int32)] [(.int (2 : Int32)), (.int (3 : Int32)), (.ref b374), (.ref r_215)])) rfl (by rw [hml]; rfl) (argsL := [(.ref r_215), (.ref b374), (.int (3 : Int32)), (.int (2 : Int32))]) (rest := []) (lenOf own_pd26 rfl) rfl (own_hW rfl) (hb hby at_252) (fun _ _ => ⟨rfl, eq387, (by decide : 10 + 0 ≤ _), (by decide : 143 + 0 ≤ _)⟩)
    dsimp only [Pt.U, Pt.locs, Pt.cells, Pt.slots] at X388 l388 y388 z388 st388 hQ388
    subst y388 z388
    obtain ⟨rfl, N388q, eq388⟩ := hQ388
    have N388 : Fr n0 L388 := by rw [l388]; exact Fr.app N387 N388q
    refine own_st (st388) ?_
    refine own_st (fun t_ k_ => XS.ifNo X388.here hx rfl (hb hby at_255) rfl ((if0 _ _).trans (feq (by decide : ¬ ((1 : Int32) = (0 : Int32)))).1) (XS.aloadN X388.here hx rfl (hb hby at_258) rfl rfl (XS.aload X388.here hx rfl (hb hby at_259) rfl rfl (XS.iload X388.here hx rfl (hb hby at_261) rfl (XS.iconst X388.here hx rfl (hb hby at_263) k_))))) ?_
    show own_at p e below _ T388 m 264 #[oI p0, oR r_215, oJ vv, oS, oI (0 : Int32), oI (2 : Int32), oR b374, oI (1 : Int32), oI (3 : Int32)] [(.int (3 : Int32)), (.int (3 : Int32)), (.ref b374), (.ref r_215)]
    obtain ⟨_, _, ⟨T389, L389, k389, n389⟩, -, X389, ⟨Lc389, hQ389, l389, y389, z389⟩, st389⟩ := Jvm.LawKit.callS X388 hx (y := own_n32) hown (mvT hZ (own_w hw 160 rfl)) (mvT hZ (own_w hw 161 rfl)) (mvT hZ (own_w hw 148 rfl)) (mvT hZ (own_w hw 162 rfl)) (by decide) (backOf (W := 0) (own_rm29n l Z a0 hw [] r_215 b374 (3 : Int32) (3 : Int32) T377.heap n0 (Nat.le_trans Z0 K377.1) (by decide)) hZ (own_w hw 162 rfl) (own_w hw 148 rfl) (by decide) (by decide)) (g := (mkF m 264 #[oI p0, oR r_215, oJ vv, oS, oI (0 : Int32), oI (2 : Int32), oR b374, oI (1 : Int32), oI (3 : Int32)] [(.int (3 : Int32)), (.int (3 : Int32)), (.ref b374), (.ref r_215)])) rfl (by rw [hml]; rfl) (argsL := [(.ref r_215), (.ref b374), (.int (3 : Int32)), (.int (3 : Int32))]) (rest := []) (lenOf own_pd26 rfl) rfl (own_hW rfl) (hb hby at_264) (fun _ _ => ⟨rfl, eq388, (by decide : 10 + 0 ≤ _), (by decide : 143 + 0 ≤ _)⟩)
    dsimp only [Pt.U, Pt.locs, Pt.cells, Pt.slots] at X389 l389 y389 z389 st389 hQ389
    subst y389 z389
    obtain ⟨rfl, N389q, eq389⟩ := hQ389
    have N389 : Fr n0 L389 := by rw [l389]; exact Fr.app N388 N389q
    refine own_st (st389) ?_
    refine own_st (fun t_ k_ => XS.ifNo X389.here hx rfl (hb hby at_267) rfl ((if0 _ _).trans (feq (by decide : ¬ ((1 : Int32) = (0 : Int32)))).1) (XS.aloadN X389.here hx rfl (hb hby at_270) rfl rfl (XS.aload X389.here hx rfl (hb hby at_271) rfl rfl (XS.iload X389.here hx rfl (hb hby at_273) rfl (XS.iconst X389.here hx rfl (hb hby at_275) k_))))) ?_
    show own_at p e below _ T389 m 276 #[oI p0, oR r_215, oJ vv, oS, oI (0 : Int32), oI (2 : Int32), oR b374, oI (1 : Int32), oI (3 : Int32)] [(.int (4 : Int32)), (.int (3 : Int32)), (.ref b374), (.ref r_215)]
    obtain ⟨_, _, ⟨T390, L390, k390, n390⟩, -, X390, ⟨Lc390, hQ390, l390, y390, z390⟩, st390⟩ := Jvm.LawKit.callS X389 hx (y := own_n32) hown (mvT hZ (own_w hw 160 rfl)) (mvT hZ (own_w hw 161 rfl)) (mvT hZ (own_w hw 148 rfl)) (mvT hZ (own_w hw 162 rfl)) (by decide) (backOf (W := 0) (own_rm29n l Z a0 hw [] r_215 b374 (3 : Int32) (4 : Int32) T377.heap n0 (Nat.le_trans Z0 K377.1) (by decide)) hZ (own_w hw 162 rfl) (own_w hw 148 rfl) (by decide) (by decide)) (g := (mkF m 276 #[oI p0, oR r_215, oJ vv, oS, oI (0 : Int32), oI (2 : Int32), oR b374, oI (1 : Int32), oI (3 : Int32)] [(.int (4 : Int32)), (.int (3 : Int32)), (.ref b374), (.ref r_215)])) rfl (by rw [hml]; rfl) (argsL := [(.ref r_215), (.ref b374), (.int (3 : Int32)), (.int (4 : Int32))]) (rest := []) (lenOf own_pd26 rfl) rfl (own_hW rfl) (hb hby at_276) (fun _ _ => ⟨rfl, eq389, (by decide : 10 + 0 ≤ _), (by decide : 143 + 0 ≤ _)⟩)
    dsimp only [Pt.U, Pt.locs, Pt.cells, Pt.slots] at X390 l390 y390 z390 st390 hQ390
    subst y390 z390
    obtain ⟨rfl, N390q, eq390⟩ := hQ390
    have N390 : Fr n0 L390 := by rw [l390]; exact Fr.app N389 N390q
    refine own_st (st390) ?_
    refine own_st (fun t_ k_ => XS.ifNo X390.here hx rfl (hb hby at_279) rfl ((if0 _ _).trans (feq (by decide : ¬ ((1 : Int32) = (0 : Int32)))).1) (XS.aloadN X390.here hx rfl (hb hby at_282) rfl rfl (XS.aload X390.here hx rfl (hb hby at_283) rfl rfl (XS.iload X390.here hx rfl (hb hby at_285) rfl (XS.iconst X390.here hx rfl (hb hby at_287) k_))))) ?_
    show own_at p e below _ T390 m 288 #[oI p0, oR r_215, oJ vv, oS, oI (0 : Int32), oI (2 : Int32), oR b374, oI (1 : Int32), oI (3 : Int32)] [(.int (5 : Int32)), (.int (3 : Int32)), (.ref b374), (.ref r_215)]
    obtain ⟨_, _, ⟨T391, L391, k391, n391⟩, -, X391, ⟨Lc391, hQ391, l391, y391, z391⟩, st391⟩ := Jvm.LawKit.callS X390 hx (y := own_n32) hown (mvT hZ (own_w hw 160 rfl)) (mvT hZ (own_w hw 161 rfl)) (mvT hZ (own_w hw 148 rfl)) (mvT hZ (own_w hw 162 rfl)) (by decide) (backOf (W := 0) (own_rm29n l Z a0 hw [] r_215 b374 (3 : Int32) (5 : Int32) T377.heap n0 (Nat.le_trans Z0 K377.1) (by decide)) hZ (own_w hw 162 rfl) (own_w hw 148 rfl) (by decide) (by decide)) (g := (mkF m 288 #[oI p0, oR r_215, oJ vv, oS, oI (0 : Int32), oI (2 : Int32), oR b374, oI (1 : Int32), oI (3 : Int32)] [(.int (5 : Int32)), (.int (3 : Int32)), (.ref b374), (.ref r_215)])) rfl (by rw [hml]; rfl) (argsL := [(.ref r_215), (.ref b374), (.int (3 : Int32)), (.int (5 : Int32))]) (rest := []) (lenOf own_pd26 rfl) rfl (own_hW rfl) (hb hby at_288) (fun _ _ => ⟨rfl, eq390, (by decide : 10 + 0 ≤ _), (by decide : 143 + 0 ≤ _)⟩)
    dsimp only [Pt.U, Pt.locs, Pt.cells, Pt.slots] at X391 l391 y391 z391 st391 hQ391
    subst y391 z391
    obtain ⟨rfl, N391q, eq391⟩ := hQ391
    have N391 : Fr n0 L391 := by rw [l391]; exact Fr.app N390 N391q
    refine own_st (st391) ?_
    refine own_st (fun t_ k_ => XS.ifNo X391.here hx rfl (hb hby at_291) rfl ((if0 _ _).trans (feq (by decide : ¬ ((1 : Int32) = (0 : Int32)))).1) (XS.aloadN X391.here hx rfl (hb hby at_294) rfl rfl (XS.aload X391.here hx rfl (hb hby at_295) rfl rfl (XS.iload X391.here hx rfl (hb hby at_297) rfl (XS.bipush X391.here hx rfl (hb hby at_299) k_))))) ?_
    show own_at p e below _ T391 m 301 #[oI p0, oR r_215, oJ vv, oS, oI (0 : Int32), oI (2 : Int32), oR b374, oI (1 : Int32), oI (3 : Int32)] [(.int (6 : Int32)), (.int (3 : Int32)), (.ref b374), (.ref r_215)]
    obtain ⟨_, _, ⟨T392, L392, k392, n392⟩, -, X392, ⟨Lc392, hQ392, l392, y392, z392⟩, st392⟩ := Jvm.LawKit.callS X391 hx (y := own_n32) hown (mvT hZ (own_w hw 160 rfl)) (mvT hZ (own_w hw 161 rfl)) (mvT hZ (own_w hw 148 rfl)) (mvT hZ (own_w hw 162 rfl)) (by decide) (backOf (W := 0) (own_rm29n l Z a0 hw [] r_215 b374 (3 : Int32) (6 : Int32) T377.heap n0 (Nat.le_trans Z0 K377.1) (by decide)) hZ (own_w hw 162 rfl) (own_w hw 148 rfl) (by decide) (by decide)) (g := (mkF m 301 #[oI p0, oR r_215, oJ vv, oS, oI (0 : Int32), oI (2 : Int32), oR b374, oI (1 : Int32), oI (3 : Int32)] [(.int (6 : Int32)), (.int (3 : Int32)), (.ref b374), (.ref r_215)])) rfl (by rw [hml]; rfl) (argsL := [(.ref r_215), (.ref b374), (.int (3 : Int32)), (.int (6 : Int32))]) (rest := []) (lenOf own_pd26 rfl) rfl (own_hW rfl) (hb hby at_301) (fun _ _ => ⟨rfl, eq391, (by decide : 10 + 0 ≤ _), (by decide : 143 + 0 ≤ _)⟩)
    dsimp only [Pt.U, Pt.locs, Pt.cells, Pt.slots] at X392 l392 y392 z392 st392 hQ392
    subst y392 z392
    obtain ⟨rfl, N392q, eq392⟩ := hQ392
    have N392 : Fr n0 L392 := by rw [l392]; exact Fr.app N391 N392q
    refine own_st (st392) ?_
    refine own_st (fun t_ k_ => XS.ifNo X392.here hx rfl (hb hby at_304) rfl ((if0 _ _).trans (feq (by decide : ¬ ((1 : Int32) = (0 : Int32)))).1) (XS.aloadN X392.here hx rfl (hb hby at_307) rfl rfl (XS.aload X392.here hx rfl (hb hby at_308) rfl rfl (XS.iload X392.here hx rfl (hb hby at_310) rfl (XS.bipush X392.here hx rfl (hb hby at_312) k_))))) ?_
    show own_at p e below _ T392 m 314 #[oI p0, oR r_215, oJ vv, oS, oI (0 : Int32), oI (2 : Int32), oR b374, oI (1 : Int32), oI (3 : Int32)] [(.int (7 : Int32)), (.int (3 : Int32)), (.ref b374), (.ref r_215)]
    obtain ⟨_, _, ⟨T393, L393, k393, n393⟩, -, X393, ⟨Lc393, hQ393, l393, y393, z393⟩, st393⟩ := Jvm.LawKit.callS X392 hx (y := own_n32) hown (mvT hZ (own_w hw 160 rfl)) (mvT hZ (own_w hw 161 rfl)) (mvT hZ (own_w hw 148 rfl)) (mvT hZ (own_w hw 162 rfl)) (by decide) (backOf (W := 0) (own_rm29n l Z a0 hw [] r_215 b374 (3 : Int32) (7 : Int32) T377.heap n0 (Nat.le_trans Z0 K377.1) (by decide)) hZ (own_w hw 162 rfl) (own_w hw 148 rfl) (by decide) (by decide)) (g := (mkF m 314 #[oI p0, oR r_215, oJ vv, oS, oI (0 : Int32), oI (2 : Int32), oR b374, oI (1 : Int32), oI (3 : Int32)] [(.int (7 : Int32)), (.int (3 : Int32)), (.ref b374), (.ref r_215)])) rfl (by rw [hml]; rfl) (argsL := [(.ref r_215), (.ref b374), (.int (3 : Int32)), (.int (7 : Int32))]) (rest := []) (lenOf own_pd26 rfl) rfl (own_hW rfl) (hb hby at_314) (fun _ _ => ⟨rfl, eq392, (by decide : 10 + 0 ≤ _), (by decide : 143 + 0 ≤ _)⟩)
    dsimp only [Pt.U, Pt.locs, Pt.cells, Pt.slots] at X393 l393 y393 z393 st393 hQ393
    subst y393 z393
    obtain ⟨rfl, N393q, eq393⟩ := hQ393
    have N393 : Fr n0 L393 := by rw [l393]; exact Fr.app N392 N393q
    refine own_st (st393) ?_
    refine own_st (fun t_ k_ => XS.ifNo X393.here hx rfl (hb hby at_317) rfl ((if0 _ _).trans (feq (by decide : ¬ ((1 : Int32) = (0 : Int32)))).1) (XS.iconst X393.here hx rfl (hb hby at_320) (XS.goto X393.here hx rfl (pc0 := 321) (pc' := 325) rfl (hb hby at_321) (by decide) (by decide) k_))) ?_
    show own_at p e below _ T393 m 325 #[oI p0, oR r_215, oJ vv, oS, oI (0 : Int32), oI (2 : Int32), oR b374, oI (1 : Int32), oI (3 : Int32)] [(.int (1 : Int32))]
    exact own_retW (w := (.int (1 : Int32))) X393 hx hnl hZ (own_hEL hw) S215 (by rw [eq393]; exact kk377) (by rw [eq393]; exact C377) Bd.returns rfl (Or.inl ⟨rfl, by decide, _, rfl⟩) (hb hby at_325) ⟨rfl, N393, (by rw [eq393]; exact K377)⟩ (by decide) (by decide)
  have z2 : (1296 : Int64).toInt = 1296 := by decide
  have hb2 := mt (lw_lt _ _).mpr c46_373
  rw [Int64.lt_iff_toInt_lt, hv, z2] at hb2
  refine own_st (fun t_ k_ => XS.ifYes X215.here hx rfl (pc0 := 46) (pc' := 53) rfl (hb hby at_46) rfl ((if0 _ _).trans (flt c46_373).2.1) (by decide) (by decide) (XS.lloadN X215.here hx rfl (hb hby at_53) rfl k_)) ?_
  show own_at p e below _ T215 m 54 #[oI p0, oR r_215, oJ vv, oS, oI (0 : Int32), oU, oU, oU, oU] [(.long vv)]
  refine own_st (X215.ldc2Long hx hown (mvT hZ (own_w hw 156 rfl)) (g := (mkF m 54 #[oI p0, oR r_215, oJ vv, oS, oI (0 : Int32), oU, oU, oU, oU] [(.long vv)])) rfl (hb hby at_54)) ?_
  refine own_st (fun t_ k_ => XS.lcmp X215.here hx rfl (hb hby at_57) rfl k_) ?_
  show own_at p e below _ T215 m 58 #[oI p0, oR r_215, oJ vv, oS, oI (0 : Int32), oU, oU, oU, oU] [(.int (lcmpW vv (46656 : Int64)))]
  by_cases c58_394 : (lcmpW vv (46656 : Int64)) < (0 : Int32)
  · skip
    have z3 : (46656 : Int64).toInt = 46656 := by decide
    have hb3 := (lw_lt _ _).mp c58_394
    rw [Int64.lt_iff_toInt_lt, hv, z3] at hb3
    refine own_st (fun t_ k_ => XS.ifNo X215.here hx rfl (hb hby at_58) rfl ((if0 _ _).trans (tlt c58_394).2.1) (XS.iconst X215.here hx rfl (hb hby at_61) (XS.goto X215.here hx rfl (pc0 := 62) (pc' := 91) rfl (hb hby at_62) (by decide) (by decide) (XS.istore X215.here hx rfl (hb hby at_91) rfl (l' := #[oI p0, oR r_215, oJ vv, oS, oI (0 : Int32), oI (3 : Int32), oU, oU, oU]) rfl k_)))) ?_
    show own_at p e below _ T215 m 93 #[oI p0, oR r_215, oJ vv, oS, oI (0 : Int32), oI (3 : Int32), oU, oU, oU] []
    have en : n_215 = 3 := own_nn6 hdn.1 hdn.2.2.1 hdn.2.2.2 (by decide) (by have q_ : 36 ^ 3 = 46656 := (by decide); omega) (by first | exact Or.inl rfl | exact Or.inr (by have q_ : 36 ^ (3 - 1) = 1296 := (by decide); omega))
    have As : own_A Z T215.heap t_215 kt_215 .byte (own_bl (0 : Int32) 4) (fun i => .int ((own_by (0 : Int32) (own_ws 0 3 V)) i)) := by have z_ := P215_4; rw [en, hsg, ← hV] at z_; exact z_
    have hcd : ((0 : Int32) = 0 ∧ ∀ q : Nat, q < 4 → ¬ (255 : Int32) < (own_ws 0 3 V) q) ∨ (0 : Int32) = 1 := Or.inl ⟨rfl, fun q _ => own_lat7 (own_ws7 _ _ _ q)⟩
    refine own_st (fun t_ k_ => XS.bipush X215.here hx rfl (hb hby at_93) k_) ?_
    show own_at p e below _ T215 m 95 #[oI p0, oR r_215, oJ vv, oS, oI (0 : Int32), oI (3 : Int32), oU, oU, oU] [(.int (8 : Int32))]
    obtain ⟨T395, h395, k395, X395, e395, E395, A395, st395⟩ := newP X215 hx hZ (own_w hw 145 rfl) rfl (g := (mkF m 95 #[oI p0, oR r_215, oJ vv, oS, oI (0 : Int32), oI (3 : Int32), oU, oU, oU] [(.int (8 : Int32))])) rfl (hb hby at_95) rfl (by decide) (cap := 8) (by decide) (by decide) (by decide) (by decide)
    obtain ⟨b395, g395⟩ : ∃ z, z = T215.heap.size := ⟨_, rfl⟩
    rw [← g395] at A395 st395
    have fr395 : h0.size ≤ b395 := Nat.le_trans K215.1 (Nat.le_of_eq g395.symm)
    have ge395 : n0 ≤ b395 := Nat.le_trans Z0 fr395
    have K395 : Keep h0 h395 [] := K215.ext E395
    have c395 : CHr Z own_EL _ T215.heap _ h395 := CHr.ext E395 C215.1
    have C395 := C215.trans c395
    have kk395 := Nat.le_trans kk215 c395.2.1
    have Sf395_b395 : Safe Z own_EL _ h395 b395 := Safe.ext E395 C215.1 (Safe.new (Nat.le_of_eq g395.symm))
    have Ar395 : own_A Z h395 b395 k395 .char 8 (fun i => .int ((fun _ => (0 : Int32)) i)) := own_A.new A395 rfl (by decide)
    refine own_st (st395) ?_
    refine own_st (fun t_ k_ => XS.astore X395.here hx rfl (hb hby at_97) rfl rfl (l' := #[oI p0, oR r_215, oJ vv, oS, oI (0 : Int32), oI (3 : Int32), oR b395, oU, oU]) rfl (XS.aload X395.here hx rfl (hb hby at_99) rfl rfl (XS.iconst X395.here hx rfl (hb hby at_101) (XS.bipush X395.here hx rfl (hb hby at_102) k_)))) ?_
    show own_at p e below _ T395 m 104 #[oI p0, oR r_215, oJ vv, oS, oI (0 : Int32), oI (3 : Int32), oR b395, oU, oU] [(.int (119 : Int32)), (.int (0 : Int32)), (.ref b395)]
    obtain ⟨T396, h396, X396, e396, W396, Aw396, st396⟩ := own_castore X395 hx hZ e395 Ar395 (i := 0) (by decide) (by decide) rfl (v' := (119 : Int32)) (g := (mkF m 104 #[oI p0, oR r_215, oJ vv, oS, oI (0 : Int32), oI (3 : Int32), oR b395, oU, oU] [(.int (119 : Int32)), (.int (0 : Int32)), (.ref b395)])) rfl rfl (hb hby at_104)
    have N396 := Fr.snoc X396 N215 ge395
    have K396 : Keep h0 h396 [] := K395.wr W396 (Or.inr fr395)
    have c396 : CHr Z own_EL _ h395 _ h396 := CHr.wr W396 (own_safeA hZ.alike Ar395 (by decide)) C395.1
    have C396 := C395.trans c396
    have kk396 := Nat.le_trans kk395 c396.2.1
    refine own_st (st396) ?_
    refine own_st (fun t_ k_ => XS.iconst X396.here hx rfl (hb hby at_105) (XS.istore X396.here hx rfl (hb hby at_106) rfl (l' := #[oI p0, oR r_215, oJ vv, oS, oI (0 : Int32), oI (3 : Int32), oR b395, oI (1 : Int32), oU]) rfl (XS.iload X396.here hx rfl (hb hby at_108) rfl (XS.ifYes X396.here hx rfl (pc0 := 110) (pc' := 122) rfl (hb hby at_110) rfl ((if0 _ _).trans (teq (by decide : (0 : Int32) = (0 : Int32))).1) (by decide) (by decide) (XS.aload X396.here hx rfl (hb hby at_122) rfl rfl (XS.iload X396.here hx rfl (hb hby at_124) rfl k_)))))) ?_
    show own_at p e below _ T396 m 126 #[oI p0, oR r_215, oJ vv, oS, oI (0 : Int32), oI (3 : Int32), oR b395, oI (1 : Int32), oU] [(.int (1 : Int32)), (.ref b395)]
    refine own_st (fun t_ k_ => XS.iload X396.here hx rfl (hb hby at_126) rfl (XS.iconst X396.here hx rfl (hb hby at_128) (XS.lloadN X396.here hx rfl (hb hby at_129) rfl (XS.lconst X396.here hx rfl (hb hby at_130) k_)))) ?_
    show own_at p e below _ T396 m 131 #[oI p0, oR r_215, oJ vv, oS, oI (0 : Int32), oI (3 : Int32), oR b395, oI (1 : Int32), oU] [(.long (1 : Int64)), (.long vv), (.int (0 : Int32)), (.int (3 : Int32)), (.int (1 : Int32)), (.ref b395)]
    obtain ⟨_, _, ⟨T397, L397, k397, n397⟩, -, X397, ⟨Lc397, hQ397, l397, y397, z397⟩, st397⟩ := Jvm.LawKit.callS X396 hx (y := own_n31) hown (mvT hZ (own_w hw 146 rfl)) (mvT hZ (own_w hw 147 rfl)) (mvT hZ (own_w hw 148 rfl)) (mvT hZ (own_w hw 149 rfl)) (by decide) (backOf (W := 0) (own_rm27y l Z a0 hw [] b395 (1 : Int32) (3 : Int32) (0 : Int32) vv (1 : Int64) k395 (own_upd (fun _ => (0 : Int32)) 0 (119 : Int32)) 3 h396 n0 (Nat.le_trans Z0 K396.1) Aw396 ge395 (by decide) (by decide) (by decide)) hZ (own_w hw 149 rfl) (own_w hw 148 rfl) (by decide) (by decide)) (g := (mkF m 131 #[oI p0, oR r_215, oJ vv, oS, oI (0 : Int32), oI (3 : Int32), oR b395, oI (1 : Int32), oU] [(.long (1 : Int64)), (.long vv), (.int (0 : Int32)), (.int (3 : Int32)), (.int (1 : Int32)), (.ref b395)])) rfl (by rw [hml]; rfl) (argsL := [(.ref b395), (.int (1 : Int32)), (.int (3 : Int32)), (.int (0 : Int32)), (.long vv), (.long (1 : Int64))]) (rest := []) (lenOf own_pd25 rfl) rfl (own_hW rfl) (hb hby at_131) (fun _ _ => ⟨rfl, e396, (by decide : 10 + 0 ≤ _), (by decide : 143 + 0 ≤ _)⟩)
    dsimp only [Pt.U, Pt.locs, Pt.cells, Pt.slots] at X397 l397 y397 z397 st397 hQ397
    subst y397 z397
    obtain ⟨rfl, N397q, Kq397, P397_0⟩ := hQ397
    have N397 : Fr n0 L397 := by rw [l397]; exact Fr.app N396 N397q
    have K397 : Keep h0 T397.heap [] := K396.trans Kq397 (allS (P := fun x => x ∈ [] ∨ h0.size ≤ x) (Or.inr fr395) all0)
    have c397 : CHr Z own_EL _ h396 _ T397.heap := CHr.keep Kq397 (own_slS (own_safeA hZ.alike Aw396 (by decide)) own_sl0) C396.1
    have C397 := C396.trans c397
    have kk397 := Nat.le_trans kk396 c397.2.1
    refine own_st (st397) ?_
    refine own_st (fun t_ k_ => XS.aload X397.here hx rfl (hb hby at_134) rfl rfl (XS.iload X397.here hx rfl (hb hby at_136) rfl (XS.iload X397.here hx rfl (hb hby at_138) rfl (XS.iconst X397.here hx rfl (hb hby at_140) (XS.lloadN X397.here hx rfl (hb hby at_141) rfl k_))))) ?_
    show own_at p e below _ T397 m 142 #[oI p0, oR r_215, oJ vv, oS, oI (0 : Int32), oI (3 : Int32), oR b395, oI (1 : Int32), oU] [(.long vv), (.int (1 : Int32)), (.int (3 : Int32)), (.int (1 : Int32)), (.ref b395)]
    refine own_st (X397.ldc2Long hx hown (mvT hZ (own_w hw 144 rfl)) (g := (mkF m 142 #[oI p0, oR r_215, oJ vv, oS, oI (0 : Int32), oI (3 : Int32), oR b395, oI (1 : Int32), oU] [(.long vv), (.int (1 : Int32)), (.int (3 : Int32)), (.int (1 : Int32)), (.ref b395)])) rfl (hb hby at_142)) ?_
    show own_at p e below _ T397 m 145 #[oI p0, oR r_215, oJ vv, oS, oI (0 : Int32), oI (3 : Int32), oR b395, oI (1 : Int32), oU] [(.long (36 : Int64)), (.long vv), (.int (1 : Int32)), (.int (3 : Int32)), (.int (1 : Int32)), (.ref b395)]
    obtain ⟨_, _, ⟨T398, L398, k398, n398⟩, -, X398, ⟨Lc398, hQ398, l398, y398, z398⟩, st398⟩ := Jvm.LawKit.callS X397 hx (y := own_n31) hown (mvT hZ (own_w hw 146 rfl)) (mvT hZ (own_w hw 147 rfl)) (mvT hZ (own_w hw 148 rfl)) (mvT hZ (own_w hw 149 rfl)) (by decide) (backOf (W := 0) (own_rm27y l Z a0 hw [] b395 (1 : Int32) (3 : Int32) (1 : Int32) vv (36 : Int64) k395 (own_upd (own_upd (fun _ => (0 : Int32)) 0 (119 : Int32)) 3 (own_dig ((vv / (1 : Int64)) % (36 : Int64)))) 2 T397.heap n0 (Nat.le_trans Z0 K397.1) P397_0 ge395 (by decide) (by decide) (by decide)) hZ (own_w hw 149 rfl) (own_w hw 148 rfl) (by decide) (by decide)) (g := (mkF m 145 #[oI p0, oR r_215, oJ vv, oS, oI (0 : Int32), oI (3 : Int32), oR b395, oI (1 : Int32), oU] [(.long (36 : Int64)), (.long vv), (.int (1 : Int32)), (.int (3 : Int32)), (.int (1 : Int32)), (.ref b395)])) rfl (by rw [hml]; rfl) (argsL := [(.ref b395), (.int (1 : Int32)), (.int (3 : Int32)), (.int (1 : Int32)), (.long vv), (.long (36 : Int64))]) (rest := []) (lenOf own_pd25 rfl) rfl (own_hW rfl) (hb hby at_145) (fun _ _ => ⟨rfl, rfl, (by decide : 10 + 0 ≤ _), (by decide : 143 + 0 ≤ _)⟩)
    dsimp only [Pt.U, Pt.locs, Pt.cells, Pt.slots] at X398 l398 y398 z398 st398 hQ398
    subst y398 z398
    obtain ⟨rfl, N398q, Kq398, P398_0⟩ := hQ398
    have N398 : Fr n0 L398 := by rw [l398]; exact Fr.app N397 N398q
    have K398 : Keep h0 T398.heap [] := K397.trans Kq398 (allS (P := fun x => x ∈ [] ∨ h0.size ≤ x) (Or.inr fr395) all0)
    have c398 : CHr Z own_EL _ T397.heap _ T398.heap := CHr.keep Kq398 (own_slS (own_safeA hZ.alike P397_0 (by decide)) own_sl0) C397.1
    have C398 := C397.trans c398
    have kk398 := Nat.le_trans kk397 c398.2.1
    refine own_st (st398) ?_
    refine own_st (fun t_ k_ => XS.aload X398.here hx rfl (hb hby at_148) rfl rfl (XS.iload X398.here hx rfl (hb hby at_150) rfl (XS.iload X398.here hx rfl (hb hby at_152) rfl (XS.iconst X398.here hx rfl (hb hby at_154) (XS.lloadN X398.here hx rfl (hb hby at_155) rfl k_))))) ?_
    show own_at p e below _ T398 m 156 #[oI p0, oR r_215, oJ vv, oS, oI (0 : Int32), oI (3 : Int32), oR b395, oI (1 : Int32), oU] [(.long vv), (.int (2 : Int32)), (.int (3 : Int32)), (.int (1 : Int32)), (.ref b395)]
    refine own_st (X398.ldc2Long hx hown (mvT hZ (own_w hw 155 rfl)) (g := (mkF m 156 #[oI p0, oR r_215, oJ vv, oS, oI (0 : Int32), oI (3 : Int32), oR b395, oI (1 : Int32), oU] [(.long vv), (.int (2 : Int32)), (.int (3 : Int32)), (.int (1 : Int32)), (.ref b395)])) rfl (hb hby at_156)) ?_
    show own_at p e below _ T398 m 159 #[oI p0, oR r_215, oJ vv, oS, oI (0 : Int32), oI (3 : Int32), oR b395, oI (1 : Int32), oU] [(.long (1296 : Int64)), (.long vv), (.int (2 : Int32)), (.int (3 : Int32)), (.int (1 : Int32)), (.ref b395)]
    obtain ⟨_, _, ⟨T399, L399, k399, n399⟩, -, X399, ⟨Lc399, hQ399, l399, y399, z399⟩, st399⟩ := Jvm.LawKit.callS X398 hx (y := own_n31) hown (mvT hZ (own_w hw 146 rfl)) (mvT hZ (own_w hw 147 rfl)) (mvT hZ (own_w hw 148 rfl)) (mvT hZ (own_w hw 149 rfl)) (by decide) (backOf (W := 0) (own_rm27y l Z a0 hw [] b395 (1 : Int32) (3 : Int32) (2 : Int32) vv (1296 : Int64) k395 (own_upd (own_upd (own_upd (fun _ => (0 : Int32)) 0 (119 : Int32)) 3 (own_dig ((vv / (1 : Int64)) % (36 : Int64)))) 2 (own_dig ((vv / (36 : Int64)) % (36 : Int64)))) 1 T398.heap n0 (Nat.le_trans Z0 K398.1) P398_0 ge395 (by decide) (by decide) (by decide)) hZ (own_w hw 149 rfl) (own_w hw 148 rfl) (by decide) (by decide)) (g := (mkF m 159 #[oI p0, oR r_215, oJ vv, oS, oI (0 : Int32), oI (3 : Int32), oR b395, oI (1 : Int32), oU] [(.long (1296 : Int64)), (.long vv), (.int (2 : Int32)), (.int (3 : Int32)), (.int (1 : Int32)), (.ref b395)])) rfl (by rw [hml]; rfl) (argsL := [(.ref b395), (.int (1 : Int32)), (.int (3 : Int32)), (.int (2 : Int32)), (.long vv), (.long (1296 : Int64))]) (rest := []) (lenOf own_pd25 rfl) rfl (own_hW rfl) (hb hby at_159) (fun _ _ => ⟨rfl, rfl, (by decide : 10 + 0 ≤ _), (by decide : 143 + 0 ≤ _)⟩)
    dsimp only [Pt.U, Pt.locs, Pt.cells, Pt.slots] at X399 l399 y399 z399 st399 hQ399
    subst y399 z399
    obtain ⟨rfl, N399q, Kq399, P399_0⟩ := hQ399
    have N399 : Fr n0 L399 := by rw [l399]; exact Fr.app N398 N399q
    have K399 : Keep h0 T399.heap [] := K398.trans Kq399 (allS (P := fun x => x ∈ [] ∨ h0.size ≤ x) (Or.inr fr395) all0)
    have c399 : CHr Z own_EL _ T398.heap _ T399.heap := CHr.keep Kq399 (own_slS (own_safeA hZ.alike P398_0 (by decide)) own_sl0) C398.1
    have C399 := C398.trans c399
    have kk399 := Nat.le_trans kk398 c399.2.1
    refine own_st (st399) ?_
    refine own_st (fun t_ k_ => XS.aload X399.here hx rfl (hb hby at_162) rfl rfl (XS.iload X399.here hx rfl (hb hby at_164) rfl (XS.iload X399.here hx rfl (hb hby at_166) rfl (XS.iconst X399.here hx rfl (hb hby at_168) (XS.lloadN X399.here hx rfl (hb hby at_169) rfl k_))))) ?_
    show own_at p e below _ T399 m 170 #[oI p0, oR r_215, oJ vv, oS, oI (0 : Int32), oI (3 : Int32), oR b395, oI (1 : Int32), oU] [(.long vv), (.int (3 : Int32)), (.int (3 : Int32)), (.int (1 : Int32)), (.ref b395)]
    refine own_st (X399.ldc2Long hx hown (mvT hZ (own_w hw 156 rfl)) (g := (mkF m 170 #[oI p0, oR r_215, oJ vv, oS, oI (0 : Int32), oI (3 : Int32), oR b395, oI (1 : Int32), oU] [(.long vv), (.int (3 : Int32)), (.int (3 : Int32)), (.int (1 : Int32)), (.ref b395)])) rfl (hb hby at_170)) ?_
    show own_at p e below _ T399 m 173 #[oI p0, oR r_215, oJ vv, oS, oI (0 : Int32), oI (3 : Int32), oR b395, oI (1 : Int32), oU] [(.long (46656 : Int64)), (.long vv), (.int (3 : Int32)), (.int (3 : Int32)), (.int (1 : Int32)), (.ref b395)]
    obtain ⟨_, _, ⟨T400, L400, k400, n400⟩, -, X400, ⟨Lc400, hQ400, l400, y400, z400⟩, st400⟩ := Jvm.LawKit.callS X399 hx (y := own_n31) hown (mvT hZ (own_w hw 146 rfl)) (mvT hZ (own_w hw 147 rfl)) (mvT hZ (own_w hw 148 rfl)) (mvT hZ (own_w hw 149 rfl)) (by decide) (backOf (W := 0) (own_rm27n l Z a0 hw [] b395 (1 : Int32) (3 : Int32) (3 : Int32) vv (46656 : Int64) T399.heap n0 (Nat.le_trans Z0 K399.1) (by decide)) hZ (own_w hw 149 rfl) (own_w hw 148 rfl) (by decide) (by decide)) (g := (mkF m 173 #[oI p0, oR r_215, oJ vv, oS, oI (0 : Int32), oI (3 : Int32), oR b395, oI (1 : Int32), oU] [(.long (46656 : Int64)), (.long vv), (.int (3 : Int32)), (.int (3 : Int32)), (.int (1 : Int32)), (.ref b395)])) rfl (by rw [hml]; rfl) (argsL := [(.ref b395), (.int (1 : Int32)), (.int (3 : Int32)), (.int (3 : Int32)), (.long vv), (.long (46656 : Int64))]) (rest := []) (lenOf own_pd25 rfl) rfl (own_hW rfl) (hb hby at_173) (fun _ _ => ⟨rfl, rfl, (by decide : 10 + 0 ≤ _), (by decide : 143 + 0 ≤ _)⟩)
    dsimp only [Pt.U, Pt.locs, Pt.cells, Pt.slots] at X400 l400 y400 z400 st400 hQ400
    subst y400 z400
    obtain ⟨rfl, N400q, eq400⟩ := hQ400
    have N400 : Fr n0 L400 := by rw [l400]; exact Fr.app N399 N400q
    refine own_st (st400) ?_
    refine own_st (fun t_ k_ => XS.aload X400.here hx rfl (hb hby at_176) rfl rfl (XS.iload X400.here hx rfl (hb hby at_178) rfl (XS.iload X400.here hx rfl (hb hby at_180) rfl (XS.iconst X400.here hx rfl (hb hby at_182) (XS.lloadN X400.here hx rfl (hb hby at_183) rfl k_))))) ?_
    show own_at p e below _ T400 m 184 #[oI p0, oR r_215, oJ vv, oS, oI (0 : Int32), oI (3 : Int32), oR b395, oI (1 : Int32), oU] [(.long vv), (.int (4 : Int32)), (.int (3 : Int32)), (.int (1 : Int32)), (.ref b395)]
    refine own_st (X400.ldc2Long hx hown (mvT hZ (own_w hw 157 rfl)) (g := (mkF m 184 #[oI p0, oR r_215, oJ vv, oS, oI (0 : Int32), oI (3 : Int32), oR b395, oI (1 : Int32), oU] [(.long vv), (.int (4 : Int32)), (.int (3 : Int32)), (.int (1 : Int32)), (.ref b395)])) rfl (hb hby at_184)) ?_
    show own_at p e below _ T400 m 187 #[oI p0, oR r_215, oJ vv, oS, oI (0 : Int32), oI (3 : Int32), oR b395, oI (1 : Int32), oU] [(.long (1679616 : Int64)), (.long vv), (.int (4 : Int32)), (.int (3 : Int32)), (.int (1 : Int32)), (.ref b395)]
    obtain ⟨_, _, ⟨T401, L401, k401, n401⟩, -, X401, ⟨Lc401, hQ401, l401, y401, z401⟩, st401⟩ := Jvm.LawKit.callS X400 hx (y := own_n31) hown (mvT hZ (own_w hw 146 rfl)) (mvT hZ (own_w hw 147 rfl)) (mvT hZ (own_w hw 148 rfl)) (mvT hZ (own_w hw 149 rfl)) (by decide) (backOf (W := 0) (own_rm27n l Z a0 hw [] b395 (1 : Int32) (3 : Int32) (4 : Int32) vv (1679616 : Int64) T399.heap n0 (Nat.le_trans Z0 K399.1) (by decide)) hZ (own_w hw 149 rfl) (own_w hw 148 rfl) (by decide) (by decide)) (g := (mkF m 187 #[oI p0, oR r_215, oJ vv, oS, oI (0 : Int32), oI (3 : Int32), oR b395, oI (1 : Int32), oU] [(.long (1679616 : Int64)), (.long vv), (.int (4 : Int32)), (.int (3 : Int32)), (.int (1 : Int32)), (.ref b395)])) rfl (by rw [hml]; rfl) (argsL := [(.ref b395), (.int (1 : Int32)), (.int (3 : Int32)), (.int (4 : Int32)), (.long vv), (.long (1679616 : Int64))]) (rest := []) (lenOf own_pd25 rfl) rfl (own_hW rfl) (hb hby at_187) (fun _ _ => ⟨rfl, eq400, (by decide : 10 + 0 ≤ _), (by decide : 143 + 0 ≤ _)⟩)
    dsimp only [Pt.U, Pt.locs, Pt.cells, Pt.slots] at X401 l401 y401 z401 st401 hQ401
    subst y401 z401
    obtain ⟨rfl, N401q, eq401⟩ := hQ401
    have N401 : Fr n0 L401 := by rw [l401]; exact Fr.app N400 N401q
    refine own_st (st401) ?_
    refine own_st (fun t_ k_ => XS.aload X401.here hx rfl (hb hby at_190) rfl rfl (XS.iload X401.here hx rfl (hb hby at_192) rfl (XS.iload X401.here hx rfl (hb hby at_194) rfl (XS.iconst X401.here hx rfl (hb hby at_196) (XS.lloadN X401.here hx rfl (hb hby at_197) rfl k_))))) ?_
    show own_at p e below _ T401 m 198 #[oI p0, oR r_215, oJ vv, oS, oI (0 : Int32), oI (3 : Int32), oR b395, oI (1 : Int32), oU] [(.long vv), (.int (5 : Int32)), (.int (3 : Int32)), (.int (1 : Int32)), (.ref b395)]
    refine own_st (X401.ldc2Long hx hown (mvT hZ (own_w hw 158 rfl)) (g := (mkF m 198 #[oI p0, oR r_215, oJ vv, oS, oI (0 : Int32), oI (3 : Int32), oR b395, oI (1 : Int32), oU] [(.long vv), (.int (5 : Int32)), (.int (3 : Int32)), (.int (1 : Int32)), (.ref b395)])) rfl (hb hby at_198)) ?_
    show own_at p e below _ T401 m 201 #[oI p0, oR r_215, oJ vv, oS, oI (0 : Int32), oI (3 : Int32), oR b395, oI (1 : Int32), oU] [(.long (60466176 : Int64)), (.long vv), (.int (5 : Int32)), (.int (3 : Int32)), (.int (1 : Int32)), (.ref b395)]
    obtain ⟨_, _, ⟨T402, L402, k402, n402⟩, -, X402, ⟨Lc402, hQ402, l402, y402, z402⟩, st402⟩ := Jvm.LawKit.callS X401 hx (y := own_n31) hown (mvT hZ (own_w hw 146 rfl)) (mvT hZ (own_w hw 147 rfl)) (mvT hZ (own_w hw 148 rfl)) (mvT hZ (own_w hw 149 rfl)) (by decide) (backOf (W := 0) (own_rm27n l Z a0 hw [] b395 (1 : Int32) (3 : Int32) (5 : Int32) vv (60466176 : Int64) T399.heap n0 (Nat.le_trans Z0 K399.1) (by decide)) hZ (own_w hw 149 rfl) (own_w hw 148 rfl) (by decide) (by decide)) (g := (mkF m 201 #[oI p0, oR r_215, oJ vv, oS, oI (0 : Int32), oI (3 : Int32), oR b395, oI (1 : Int32), oU] [(.long (60466176 : Int64)), (.long vv), (.int (5 : Int32)), (.int (3 : Int32)), (.int (1 : Int32)), (.ref b395)])) rfl (by rw [hml]; rfl) (argsL := [(.ref b395), (.int (1 : Int32)), (.int (3 : Int32)), (.int (5 : Int32)), (.long vv), (.long (60466176 : Int64))]) (rest := []) (lenOf own_pd25 rfl) rfl (own_hW rfl) (hb hby at_201) (fun _ _ => ⟨rfl, eq401, (by decide : 10 + 0 ≤ _), (by decide : 143 + 0 ≤ _)⟩)
    dsimp only [Pt.U, Pt.locs, Pt.cells, Pt.slots] at X402 l402 y402 z402 st402 hQ402
    subst y402 z402
    obtain ⟨rfl, N402q, eq402⟩ := hQ402
    have N402 : Fr n0 L402 := by rw [l402]; exact Fr.app N401 N402q
    refine own_st (st402) ?_
    refine own_st (fun t_ k_ => XS.iload X402.here hx rfl (hb hby at_204) rfl (XS.iload X402.here hx rfl (hb hby at_206) rfl (XS.iadd X402.here hx rfl (hb hby at_208) rfl k_))) ?_
    show own_at p e below _ T402 m 209 #[oI p0, oR r_215, oJ vv, oS, oI (0 : Int32), oI (3 : Int32), oR b395, oI (1 : Int32), oU] [(.int ((1 : Int32) + (3 : Int32)))]
    rw [show ((1 : Int32) + (3 : Int32)) = (4 : Int32) from (by decide)]
    refine own_st (fun t_ k_ => XS.istore X402.here hx rfl (hb hby at_209) rfl (l' := #[oI p0, oR r_215, oJ vv, oS, oI (0 : Int32), oI (3 : Int32), oR b395, oI (1 : Int32), oI (4 : Int32)]) rfl (XS.aloadN X402.here hx rfl (hb hby at_211) rfl rfl k_)) ?_
    show own_at p e below _ T402 m 212 #[oI p0, oR r_215, oJ vv, oS, oI (0 : Int32), oI (3 : Int32), oR b395, oI (1 : Int32), oI (4 : Int32)] [(.ref r_215)]
    have f403 : Fld Z T399.heap r_215 "java/lang/String" "value" "[B" (.ref t_215) := (((((P215_2.ext E395).other W396 (Or.inl (Nat.ne_of_lt (Nat.lt_of_lt_of_le P215_1.lt (Nat.le_of_eq g395.symm))))).keep Kq397 (ninS (Nat.ne_of_lt (Nat.lt_of_lt_of_le P215_1.lt (Nat.le_of_eq g395.symm))) nin0)).keep Kq398 (ninS (Nat.ne_of_lt (Nat.lt_of_lt_of_le P215_1.lt (Nat.le_of_eq g395.symm))) nin0)).keep Kq399 (ninS (Nat.ne_of_lt (Nat.lt_of_lt_of_le P215_1.lt (Nat.le_of_eq g395.symm))) nin0))
    have f404 : Fld Z T399.heap r_215 "java/lang/String" "coder" "B" (.int (0 : Int32)) := (((((P215_3.ext E395).other W396 (Or.inl (Nat.ne_of_lt (Nat.lt_of_lt_of_le P215_1.lt (Nat.le_of_eq g395.symm))))).keep Kq397 (ninS (Nat.ne_of_lt (Nat.lt_of_lt_of_le P215_1.lt (Nat.le_of_eq g395.symm))) nin0)).keep Kq398 (ninS (Nat.ne_of_lt (Nat.lt_of_lt_of_le P215_1.lt (Nat.le_of_eq g395.symm))) nin0)).keep Kq399 (ninS (Nat.ne_of_lt (Nat.lt_of_lt_of_le P215_1.lt (Nat.le_of_eq g395.symm))) nin0))
    have f405 : own_A Z T399.heap t_215 kt_215 .byte (own_bl (0 : Int32) 4) (fun i => .int ((own_by (0 : Int32) (own_ws 0 3 V)) i)) := (((((As.ext E395).other W396 (Nat.ne_of_lt (Nat.lt_of_lt_of_le As.lt (Nat.le_of_eq g395.symm)))).keep Kq397 (ninS (Nat.ne_of_lt (Nat.lt_of_lt_of_le As.lt (Nat.le_of_eq g395.symm))) nin0)).keep Kq398 (ninS (Nat.ne_of_lt (Nat.lt_of_lt_of_le As.lt (Nat.le_of_eq g395.symm))) nin0)).keep Kq399 (ninS (Nat.ne_of_lt (Nat.lt_of_lt_of_le As.lt (Nat.le_of_eq g395.symm))) nin0))
    have f406 : Old Z n0 T399.heap := ((((((q0.keep Kq215 all0).ext E395).wr W396 ge395).keep Kq397 (allS ge395 all0)).keep Kq398 (allS ge395 all0)).keep Kq399 (allS ge395 all0))
    obtain ⟨cq407, kq407, q407a, q407b, q407c⟩ := isOf hZ eq402 (((((P215_1.ext E395).wr W396).keep Kq397).keep Kq398).keep Kq399)
    obtain ⟨_, _, ⟨T407, L407, k407, n407⟩, -, X407, ⟨Lc407, hQ407, l407, y407, z407⟩, st407⟩ := X402.virtualBack hx (y := own_n6) (z := own_n6) hown (mvT hZ (own_w hw 159 rfl)) (mvT hZ (own_w hw 43 rfl)) (notFace_of_selects (args := #[]) (mvT hZ (own_w hw 45 rfl))) (mvT hZ (own_w hw 45 rfl)) (mvT hZ (own_w hw 44 rfl)) (by decide) (backOf (W := 0) (own_rm7 l Z a0 hw [] r_215 t_215 kt_215 (own_bl (0 : Int32) 4) (own_by (0 : Int32) (own_ws 0 3 V)) G1 T399.heap n0 (Nat.le_trans Z0 K399.1) (((((P215_1.ext E395).wr W396).keep Kq397).keep Kq398).keep Kq399) f403 f404 f405 f406 q1 hG1) hZ (own_w hw 46 rfl) (own_w hw 20 rfl) (by decide) (by decide)) q407a q407c (g := (mkF m 212 #[oI p0, oR r_215, oJ vv, oS, oI (0 : Int32), oI (3 : Int32), oR b395, oI (1 : Int32), oI (4 : Int32)] [(.ref r_215)])) rfl (by rw [hml]; rfl) (Steps.refl _) (argsL := []) (rest := []) (lenOf own_pd8 rfl) rfl (own_hW rfl) (hb hby at_212) (fun _ _ => ⟨rfl, eq402, (by decide : 10 + 0 ≤ _), (by decide : 143 + 0 ≤ _)⟩)
    dsimp only [Pt.U, Pt.locs, Pt.cells, Pt.slots] at X407 l407 y407 z407 st407 hQ407
    subst y407 z407
    obtain ⟨rfl, N407q, eq407⟩ := hQ407
    have N407 : Fr n0 L407 := by rw [l407]; exact Fr.app N402 N407q
    refine own_tr st407 ?_
    refine own_st (fun t_ k_ => XS.iload X407.here hx rfl (hb hby at_215) rfl (XS.icmpYes X407.here hx rfl (pc0 := 217) (pc' := 222) rfl (hb hby at_217) rfl (teq (by decide : (Int32.ofNat (own_bl (0 : Int32) 4)) = (4 : Int32))).1 (by decide) (by decide) k_)) ?_
    show own_at p e below _ T407 m 222 #[oI p0, oR r_215, oJ vv, oS, oI (0 : Int32), oI (3 : Int32), oR b395, oI (1 : Int32), oI (4 : Int32)] []
    obtain ⟨gg, hgg⟩ : ∃ f_ : Nat → Int32, f_ = (own_upd (own_upd (own_upd (own_upd (fun _ => (0 : Int32)) 0 (119 : Int32)) 3 (own_dig ((vv / (1 : Int64)) % (36 : Int64)))) 2 (own_dig ((vv / (36 : Int64)) % (36 : Int64)))) 1 (own_dig ((vv / (1296 : Int64)) % (36 : Int64)))) := ⟨_, rfl⟩
    have Agg : own_A Z T399.heap b395 k395 .char 8 (fun i => .int (gg i)) := by rw [hgg]; exact P399_0
    have eg0 : own_ws 0 3 V 0 = gg 0 := by rw [hgg]; exact rfl.symm
    have eg1 : own_ws 0 3 V 1 = gg 1 := by rw [hgg]; exact (show own_dig ((vv / (1296 : Int64)) % (36 : Int64)) = own_ws 0 3 V 1 from (own_dd hv (by decide : (1296 : Int64).toInt = ((1296 : Nat) : Int)) (by decide)).trans (by unfold own_ws own_tb; rw [if_neg (by decide), if_neg (by decide)])).symm
    have eg2 : own_ws 0 3 V 2 = gg 2 := by rw [hgg]; exact (show own_dig ((vv / (36 : Int64)) % (36 : Int64)) = own_ws 0 3 V 2 from (own_dd hv (by decide : (36 : Int64).toInt = ((36 : Nat) : Int)) (by decide)).trans (by unfold own_ws own_tb; rw [if_neg (by decide), if_neg (by decide)])).symm
    have eg3 : own_ws 0 3 V 3 = gg 3 := by rw [hgg]; exact (show own_dig ((vv / (1 : Int64)) % (36 : Int64)) = own_ws 0 3 V 3 from (own_dd hv (by decide : (1 : Int64).toInt = ((1 : Nat) : Int)) (by decide)).trans (by unfold own_ws own_tb; rw [if_neg (by decide), if_neg (by decide)])).symm
    refine own_st (fun t_ k_ => XS.aloadN X407.here hx rfl (hb hby at_222) rfl rfl (XS.aload X407.here hx rfl (hb hby at_223) rfl rfl (XS.iload X407.here hx rfl (hb hby at_225) rfl (XS.iconst X407.here hx rfl (hb hby at_227) k_)))) ?_
    show own_at p e below _ T407 m 228 #[oI p0, oR r_215, oJ vv, oS, oI (0 : Int32), oI (3 : Int32), oR b395, oI (1 : Int32), oI (4 : Int32)] [(.int (0 : Int32)), (.int (4 : Int32)), (.ref b395), (.ref r_215)]
    obtain ⟨_, _, ⟨T408, L408, k408, n408⟩, -, X408, ⟨Lc408, hQ408, l408, y408, z408⟩, st408⟩ := Jvm.LawKit.callS X407 hx (y := own_n32) hown (mvT hZ (own_w hw 160 rfl)) (mvT hZ (own_w hw 161 rfl)) (mvT hZ (own_w hw 148 rfl)) (mvT hZ (own_w hw 162 rfl)) (by decide) (backOf (W := 0) (own_rm29y l Z a0 hw [] r_215 b395 (4 : Int32) (0 : Int32) t_215 kt_215 4 (own_ws 0 3 V) k395 gg 0 G1 G3 T399.heap n0 (Nat.le_trans Z0 K399.1) (((((P215_1.ext E395).wr W396).keep Kq397).keep Kq398).keep Kq399) f403 f404 f405 hcd rfl f406 q1 hG1 q3 rG3 Agg (by decide) (by decide) (by decide) ⟨(own_ws7 _ _ _ _).1, Int.le_trans (own_ws7 _ _ _ _).2 (by decide)⟩ eg0) hZ (own_w hw 162 rfl) (own_w hw 148 rfl) (by decide) (by decide)) (g := (mkF m 228 #[oI p0, oR r_215, oJ vv, oS, oI (0 : Int32), oI (3 : Int32), oR b395, oI (1 : Int32), oI (4 : Int32)] [(.int (0 : Int32)), (.int (4 : Int32)), (.ref b395), (.ref r_215)])) rfl (by rw [hml]; rfl) (argsL := [(.ref r_215), (.ref b395), (.int (4 : Int32)), (.int (0 : Int32))]) (rest := []) (lenOf own_pd26 rfl) rfl (own_hW rfl) (hb hby at_228) (fun _ _ => ⟨rfl, eq407, (by decide : 10 + 0 ≤ _), (by decide : 143 + 0 ≤ _)⟩)
    dsimp only [Pt.U, Pt.locs, Pt.cells, Pt.slots] at X408 l408 y408 z408 st408 hQ408
    subst y408 z408
    obtain ⟨rfl, N408q, eq408⟩ := hQ408
    have N408 : Fr n0 L408 := by rw [l408]; exact Fr.app N407 N408q
    refine own_st (st408) ?_
    refine own_st (fun t_ k_ => XS.ifNo X408.here hx rfl (hb hby at_231) rfl ((if0 _ _).trans (feq (by decide : ¬ ((1 : Int32) = (0 : Int32)))).1) (XS.aloadN X408.here hx rfl (hb hby at_234) rfl rfl (XS.aload X408.here hx rfl (hb hby at_235) rfl rfl (XS.iload X408.here hx rfl (hb hby at_237) rfl (XS.iconst X408.here hx rfl (hb hby at_239) k_))))) ?_
    show own_at p e below _ T408 m 240 #[oI p0, oR r_215, oJ vv, oS, oI (0 : Int32), oI (3 : Int32), oR b395, oI (1 : Int32), oI (4 : Int32)] [(.int (1 : Int32)), (.int (4 : Int32)), (.ref b395), (.ref r_215)]
    obtain ⟨_, _, ⟨T409, L409, k409, n409⟩, -, X409, ⟨Lc409, hQ409, l409, y409, z409⟩, st409⟩ := Jvm.LawKit.callS X408 hx (y := own_n32) hown (mvT hZ (own_w hw 160 rfl)) (mvT hZ (own_w hw 161 rfl)) (mvT hZ (own_w hw 148 rfl)) (mvT hZ (own_w hw 162 rfl)) (by decide) (backOf (W := 0) (own_rm29y l Z a0 hw [] r_215 b395 (4 : Int32) (1 : Int32) t_215 kt_215 4 (own_ws 0 3 V) k395 gg 1 G1 G3 T399.heap n0 (Nat.le_trans Z0 K399.1) (((((P215_1.ext E395).wr W396).keep Kq397).keep Kq398).keep Kq399) f403 f404 f405 hcd rfl f406 q1 hG1 q3 rG3 Agg (by decide) (by decide) (by decide) ⟨(own_ws7 _ _ _ _).1, Int.le_trans (own_ws7 _ _ _ _).2 (by decide)⟩ eg1) hZ (own_w hw 162 rfl) (own_w hw 148 rfl) (by decide) (by decide)) (g := (mkF m 240 #[oI p0, oR r_215, oJ vv, oS, oI (0 : Int32), oI (3 : Int32), oR b395, oI (1 : Int32), oI (4 : Int32)] [(.int (1 : Int32)), (.int (4 : Int32)), (.ref b395), (.ref r_215)])) rfl (by rw [hml]; rfl) (argsL := [(.ref r_215), (.ref b395), (.int (4 : Int32)), (.int (1 : Int32))]) (rest := []) (lenOf own_pd26 rfl) rfl (own_hW rfl) (hb hby at_240) (fun _ _ => ⟨rfl, eq408, (by decide : 10 + 0 ≤ _), (by decide : 143 + 0 ≤ _)⟩)
    dsimp only [Pt.U, Pt.locs, Pt.cells, Pt.slots] at X409 l409 y409 z409 st409 hQ409
    subst y409 z409
    obtain ⟨rfl, N409q, eq409⟩ := hQ409
    have N409 : Fr n0 L409 := by rw [l409]; exact Fr.app N408 N409q
    refine own_st (st409) ?_
    refine own_st (fun t_ k_ => XS.ifNo X409.here hx rfl (hb hby at_243) rfl ((if0 _ _).trans (feq (by decide : ¬ ((1 : Int32) = (0 : Int32)))).1) (XS.aloadN X409.here hx rfl (hb hby at_246) rfl rfl (XS.aload X409.here hx rfl (hb hby at_247) rfl rfl (XS.iload X409.here hx rfl (hb hby at_249) rfl (XS.iconst X409.here hx rfl (hb hby at_251) k_))))) ?_
    show own_at p e below _ T409 m 252 #[oI p0, oR r_215, oJ vv, oS, oI (0 : Int32), oI (3 : Int32), oR b395, oI (1 : Int32), oI (4 : Int32)] [(.int (2 : Int32)), (.int (4 : Int32)), (.ref b395), (.ref r_215)]
    obtain ⟨_, _, ⟨T410, L410, k410, n410⟩, -, X410, ⟨Lc410, hQ410, l410, y410, z410⟩, st410⟩ := Jvm.LawKit.callS X409 hx (y := own_n32) hown (mvT hZ (own_w hw 160 rfl)) (mvT hZ (own_w hw 161 rfl)) (mvT hZ (own_w hw 148 rfl)) (mvT hZ (own_w hw 162 rfl)) (by decide) (backOf (W := 0) (own_rm29y l Z a0 hw [] r_215 b395 (4 : Int32) (2 : Int32) t_215 kt_215 4 (own_ws 0 3 V) k395 gg 2 G1 G3 T399.heap n0 (Nat.le_trans Z0 K399.1) (((((P215_1.ext E395).wr W396).keep Kq397).keep Kq398).keep Kq399) f403 f404 f405 hcd rfl f406 q1 hG1 q3 rG3 Agg (by decide) (by decide) (by decide) ⟨(own_ws7 _ _ _ _).1, Int.le_trans (own_ws7 _ _ _ _).2 (by decide)⟩ eg2) hZ (own_w hw 162 rfl) (own_w hw 148 rfl) (by decide) (by decide)) (g := (mkF m 252 #[oI p0, oR r_215, oJ vv, oS, oI (0 : Int32), oI (3 : Int32), oR b395, oI (1 : Int32), oI (4 : Int32)] [(.int (2 : Int32)), (.int (4 : Int32)), (.ref b395), (.ref r_215)])) rfl (by rw [hml]; rfl) (argsL := [(.ref r_215), (.ref b395), (.int (4 : Int32)), (.int (2 : Int32))]) (rest := []) (lenOf own_pd26 rfl) rfl (own_hW rfl) (hb hby at_252) (fun _ _ => ⟨rfl, eq409, (by decide : 10 + 0 ≤ _), (by decide : 143 + 0 ≤ _)⟩)
    dsimp only [Pt.U, Pt.locs, Pt.cells, Pt.slots] at X410 l410 y410 z410 st410 hQ410
    subst y410 z410
    obtain ⟨rfl, N410q, eq410⟩ := hQ410
    have N410 : Fr n0 L410 := by rw [l410]; exact Fr.app N409 N410q
    refine own_st (st410) ?_
    refine own_st (fun t_ k_ => XS.ifNo X410.here hx rfl (hb hby at_255) rfl ((if0 _ _).trans (feq (by decide : ¬ ((1 : Int32) = (0 : Int32)))).1) (XS.aloadN X410.here hx rfl (hb hby at_258) rfl rfl (XS.aload X410.here hx rfl (hb hby at_259) rfl rfl (XS.iload X410.here hx rfl (hb hby at_261) rfl (XS.iconst X410.here hx rfl (hb hby at_263) k_))))) ?_
    show own_at p e below _ T410 m 264 #[oI p0, oR r_215, oJ vv, oS, oI (0 : Int32), oI (3 : Int32), oR b395, oI (1 : Int32), oI (4 : Int32)] [(.int (3 : Int32)), (.int (4 : Int32)), (.ref b395), (.ref r_215)]
    obtain ⟨_, _, ⟨T411, L411, k411, n411⟩, -, X411, ⟨Lc411, hQ411, l411, y411, z411⟩, st411⟩ := Jvm.LawKit.callS X410 hx (y := own_n32) hown (mvT hZ (own_w hw 160 rfl)) (mvT hZ (own_w hw 161 rfl)) (mvT hZ (own_w hw 148 rfl)) (mvT hZ (own_w hw 162 rfl)) (by decide) (backOf (W := 0) (own_rm29y l Z a0 hw [] r_215 b395 (4 : Int32) (3 : Int32) t_215 kt_215 4 (own_ws 0 3 V) k395 gg 3 G1 G3 T399.heap n0 (Nat.le_trans Z0 K399.1) (((((P215_1.ext E395).wr W396).keep Kq397).keep Kq398).keep Kq399) f403 f404 f405 hcd rfl f406 q1 hG1 q3 rG3 Agg (by decide) (by decide) (by decide) ⟨(own_ws7 _ _ _ _).1, Int.le_trans (own_ws7 _ _ _ _).2 (by decide)⟩ eg3) hZ (own_w hw 162 rfl) (own_w hw 148 rfl) (by decide) (by decide)) (g := (mkF m 264 #[oI p0, oR r_215, oJ vv, oS, oI (0 : Int32), oI (3 : Int32), oR b395, oI (1 : Int32), oI (4 : Int32)] [(.int (3 : Int32)), (.int (4 : Int32)), (.ref b395), (.ref r_215)])) rfl (by rw [hml]; rfl) (argsL := [(.ref r_215), (.ref b395), (.int (4 : Int32)), (.int (3 : Int32))]) (rest := []) (lenOf own_pd26 rfl) rfl (own_hW rfl) (hb hby at_264) (fun _ _ => ⟨rfl, eq410, (by decide : 10 + 0 ≤ _), (by decide : 143 + 0 ≤ _)⟩)
    dsimp only [Pt.U, Pt.locs, Pt.cells, Pt.slots] at X411 l411 y411 z411 st411 hQ411
    subst y411 z411
    obtain ⟨rfl, N411q, eq411⟩ := hQ411
    have N411 : Fr n0 L411 := by rw [l411]; exact Fr.app N410 N411q
    refine own_st (st411) ?_
    refine own_st (fun t_ k_ => XS.ifNo X411.here hx rfl (hb hby at_267) rfl ((if0 _ _).trans (feq (by decide : ¬ ((1 : Int32) = (0 : Int32)))).1) (XS.aloadN X411.here hx rfl (hb hby at_270) rfl rfl (XS.aload X411.here hx rfl (hb hby at_271) rfl rfl (XS.iload X411.here hx rfl (hb hby at_273) rfl (XS.iconst X411.here hx rfl (hb hby at_275) k_))))) ?_
    show own_at p e below _ T411 m 276 #[oI p0, oR r_215, oJ vv, oS, oI (0 : Int32), oI (3 : Int32), oR b395, oI (1 : Int32), oI (4 : Int32)] [(.int (4 : Int32)), (.int (4 : Int32)), (.ref b395), (.ref r_215)]
    obtain ⟨_, _, ⟨T412, L412, k412, n412⟩, -, X412, ⟨Lc412, hQ412, l412, y412, z412⟩, st412⟩ := Jvm.LawKit.callS X411 hx (y := own_n32) hown (mvT hZ (own_w hw 160 rfl)) (mvT hZ (own_w hw 161 rfl)) (mvT hZ (own_w hw 148 rfl)) (mvT hZ (own_w hw 162 rfl)) (by decide) (backOf (W := 0) (own_rm29n l Z a0 hw [] r_215 b395 (4 : Int32) (4 : Int32) T399.heap n0 (Nat.le_trans Z0 K399.1) (by decide)) hZ (own_w hw 162 rfl) (own_w hw 148 rfl) (by decide) (by decide)) (g := (mkF m 276 #[oI p0, oR r_215, oJ vv, oS, oI (0 : Int32), oI (3 : Int32), oR b395, oI (1 : Int32), oI (4 : Int32)] [(.int (4 : Int32)), (.int (4 : Int32)), (.ref b395), (.ref r_215)])) rfl (by rw [hml]; rfl) (argsL := [(.ref r_215), (.ref b395), (.int (4 : Int32)), (.int (4 : Int32))]) (rest := []) (lenOf own_pd26 rfl) rfl (own_hW rfl) (hb hby at_276) (fun _ _ => ⟨rfl, eq411, (by decide : 10 + 0 ≤ _), (by decide : 143 + 0 ≤ _)⟩)
    dsimp only [Pt.U, Pt.locs, Pt.cells, Pt.slots] at X412 l412 y412 z412 st412 hQ412
    subst y412 z412
    obtain ⟨rfl, N412q, eq412⟩ := hQ412
    have N412 : Fr n0 L412 := by rw [l412]; exact Fr.app N411 N412q
    refine own_st (st412) ?_
    refine own_st (fun t_ k_ => XS.ifNo X412.here hx rfl (hb hby at_279) rfl ((if0 _ _).trans (feq (by decide : ¬ ((1 : Int32) = (0 : Int32)))).1) (XS.aloadN X412.here hx rfl (hb hby at_282) rfl rfl (XS.aload X412.here hx rfl (hb hby at_283) rfl rfl (XS.iload X412.here hx rfl (hb hby at_285) rfl (XS.iconst X412.here hx rfl (hb hby at_287) k_))))) ?_
    show own_at p e below _ T412 m 288 #[oI p0, oR r_215, oJ vv, oS, oI (0 : Int32), oI (3 : Int32), oR b395, oI (1 : Int32), oI (4 : Int32)] [(.int (5 : Int32)), (.int (4 : Int32)), (.ref b395), (.ref r_215)]
    obtain ⟨_, _, ⟨T413, L413, k413, n413⟩, -, X413, ⟨Lc413, hQ413, l413, y413, z413⟩, st413⟩ := Jvm.LawKit.callS X412 hx (y := own_n32) hown (mvT hZ (own_w hw 160 rfl)) (mvT hZ (own_w hw 161 rfl)) (mvT hZ (own_w hw 148 rfl)) (mvT hZ (own_w hw 162 rfl)) (by decide) (backOf (W := 0) (own_rm29n l Z a0 hw [] r_215 b395 (4 : Int32) (5 : Int32) T399.heap n0 (Nat.le_trans Z0 K399.1) (by decide)) hZ (own_w hw 162 rfl) (own_w hw 148 rfl) (by decide) (by decide)) (g := (mkF m 288 #[oI p0, oR r_215, oJ vv, oS, oI (0 : Int32), oI (3 : Int32), oR b395, oI (1 : Int32), oI (4 : Int32)] [(.int (5 : Int32)), (.int (4 : Int32)), (.ref b395), (.ref r_215)])) rfl (by rw [hml]; rfl) (argsL := [(.ref r_215), (.ref b395), (.int (4 : Int32)), (.int (5 : Int32))]) (rest := []) (lenOf own_pd26 rfl) rfl (own_hW rfl) (hb hby at_288) (fun _ _ => ⟨rfl, eq412, (by decide : 10 + 0 ≤ _), (by decide : 143 + 0 ≤ _)⟩)
    dsimp only [Pt.U, Pt.locs, Pt.cells, Pt.slots] at X413 l413 y413 z413 st413 hQ413
    subst y413 z413
    obtain ⟨rfl, N413q, eq413⟩ := hQ413
    have N413 : Fr n0 L413 := by rw [l413]; exact Fr.app N412 N413q
    refine own_st (st413) ?_
    refine own_st (fun t_ k_ => XS.ifNo X413.here hx rfl (hb hby at_291) rfl ((if0 _ _).trans (feq (by decide : ¬ ((1 : Int32) = (0 : Int32)))).1) (XS.aloadN X413.here hx rfl (hb hby at_294) rfl rfl (XS.aload X413.here hx rfl (hb hby at_295) rfl rfl (XS.iload X413.here hx rfl (hb hby at_297) rfl (XS.bipush X413.here hx rfl (hb hby at_299) k_))))) ?_
    show own_at p e below _ T413 m 301 #[oI p0, oR r_215, oJ vv, oS, oI (0 : Int32), oI (3 : Int32), oR b395, oI (1 : Int32), oI (4 : Int32)] [(.int (6 : Int32)), (.int (4 : Int32)), (.ref b395), (.ref r_215)]
    obtain ⟨_, _, ⟨T414, L414, k414, n414⟩, -, X414, ⟨Lc414, hQ414, l414, y414, z414⟩, st414⟩ := Jvm.LawKit.callS X413 hx (y := own_n32) hown (mvT hZ (own_w hw 160 rfl)) (mvT hZ (own_w hw 161 rfl)) (mvT hZ (own_w hw 148 rfl)) (mvT hZ (own_w hw 162 rfl)) (by decide) (backOf (W := 0) (own_rm29n l Z a0 hw [] r_215 b395 (4 : Int32) (6 : Int32) T399.heap n0 (Nat.le_trans Z0 K399.1) (by decide)) hZ (own_w hw 162 rfl) (own_w hw 148 rfl) (by decide) (by decide)) (g := (mkF m 301 #[oI p0, oR r_215, oJ vv, oS, oI (0 : Int32), oI (3 : Int32), oR b395, oI (1 : Int32), oI (4 : Int32)] [(.int (6 : Int32)), (.int (4 : Int32)), (.ref b395), (.ref r_215)])) rfl (by rw [hml]; rfl) (argsL := [(.ref r_215), (.ref b395), (.int (4 : Int32)), (.int (6 : Int32))]) (rest := []) (lenOf own_pd26 rfl) rfl (own_hW rfl) (hb hby at_301) (fun _ _ => ⟨rfl, eq413, (by decide : 10 + 0 ≤ _), (by decide : 143 + 0 ≤ _)⟩)
    dsimp only [Pt.U, Pt.locs, Pt.cells, Pt.slots] at X414 l414 y414 z414 st414 hQ414
    subst y414 z414
    obtain ⟨rfl, N414q, eq414⟩ := hQ414
    have N414 : Fr n0 L414 := by rw [l414]; exact Fr.app N413 N414q
    refine own_st (st414) ?_
    refine own_st (fun t_ k_ => XS.ifNo X414.here hx rfl (hb hby at_304) rfl ((if0 _ _).trans (feq (by decide : ¬ ((1 : Int32) = (0 : Int32)))).1) (XS.aloadN X414.here hx rfl (hb hby at_307) rfl rfl (XS.aload X414.here hx rfl (hb hby at_308) rfl rfl (XS.iload X414.here hx rfl (hb hby at_310) rfl (XS.bipush X414.here hx rfl (hb hby at_312) k_))))) ?_
    show own_at p e below _ T414 m 314 #[oI p0, oR r_215, oJ vv, oS, oI (0 : Int32), oI (3 : Int32), oR b395, oI (1 : Int32), oI (4 : Int32)] [(.int (7 : Int32)), (.int (4 : Int32)), (.ref b395), (.ref r_215)]
    obtain ⟨_, _, ⟨T415, L415, k415, n415⟩, -, X415, ⟨Lc415, hQ415, l415, y415, z415⟩, st415⟩ := Jvm.LawKit.callS X414 hx (y := own_n32) hown (mvT hZ (own_w hw 160 rfl)) (mvT hZ (own_w hw 161 rfl)) (mvT hZ (own_w hw 148 rfl)) (mvT hZ (own_w hw 162 rfl)) (by decide) (backOf (W := 0) (own_rm29n l Z a0 hw [] r_215 b395 (4 : Int32) (7 : Int32) T399.heap n0 (Nat.le_trans Z0 K399.1) (by decide)) hZ (own_w hw 162 rfl) (own_w hw 148 rfl) (by decide) (by decide)) (g := (mkF m 314 #[oI p0, oR r_215, oJ vv, oS, oI (0 : Int32), oI (3 : Int32), oR b395, oI (1 : Int32), oI (4 : Int32)] [(.int (7 : Int32)), (.int (4 : Int32)), (.ref b395), (.ref r_215)])) rfl (by rw [hml]; rfl) (argsL := [(.ref r_215), (.ref b395), (.int (4 : Int32)), (.int (7 : Int32))]) (rest := []) (lenOf own_pd26 rfl) rfl (own_hW rfl) (hb hby at_314) (fun _ _ => ⟨rfl, eq414, (by decide : 10 + 0 ≤ _), (by decide : 143 + 0 ≤ _)⟩)
    dsimp only [Pt.U, Pt.locs, Pt.cells, Pt.slots] at X415 l415 y415 z415 st415 hQ415
    subst y415 z415
    obtain ⟨rfl, N415q, eq415⟩ := hQ415
    have N415 : Fr n0 L415 := by rw [l415]; exact Fr.app N414 N415q
    refine own_st (st415) ?_
    refine own_st (fun t_ k_ => XS.ifNo X415.here hx rfl (hb hby at_317) rfl ((if0 _ _).trans (feq (by decide : ¬ ((1 : Int32) = (0 : Int32)))).1) (XS.iconst X415.here hx rfl (hb hby at_320) (XS.goto X415.here hx rfl (pc0 := 321) (pc' := 325) rfl (hb hby at_321) (by decide) (by decide) k_))) ?_
    show own_at p e below _ T415 m 325 #[oI p0, oR r_215, oJ vv, oS, oI (0 : Int32), oI (3 : Int32), oR b395, oI (1 : Int32), oI (4 : Int32)] [(.int (1 : Int32))]
    exact own_retW (w := (.int (1 : Int32))) X415 hx hnl hZ (own_hEL hw) S215 (by rw [eq415]; exact kk399) (by rw [eq415]; exact C399) Bd.returns rfl (Or.inl ⟨rfl, by decide, _, rfl⟩) (hb hby at_325) ⟨rfl, N415, (by rw [eq415]; exact K399)⟩ (by decide) (by decide)
  have z3 : (46656 : Int64).toInt = 46656 := by decide
  have hb3 := mt (lw_lt _ _).mpr c58_394
  rw [Int64.lt_iff_toInt_lt, hv, z3] at hb3
  refine own_st (fun t_ k_ => XS.ifYes X215.here hx rfl (pc0 := 58) (pc' := 65) rfl (hb hby at_58) rfl ((if0 _ _).trans (flt c58_394).2.1) (by decide) (by decide) (XS.lloadN X215.here hx rfl (hb hby at_65) rfl k_)) ?_
  show own_at p e below _ T215 m 66 #[oI p0, oR r_215, oJ vv, oS, oI (0 : Int32), oU, oU, oU, oU] [(.long vv)]
  refine own_st (X215.ldc2Long hx hown (mvT hZ (own_w hw 157 rfl)) (g := (mkF m 66 #[oI p0, oR r_215, oJ vv, oS, oI (0 : Int32), oU, oU, oU, oU] [(.long vv)])) rfl (hb hby at_66)) ?_
  refine own_st (fun t_ k_ => XS.lcmp X215.here hx rfl (hb hby at_69) rfl k_) ?_
  show own_at p e below _ T215 m 70 #[oI p0, oR r_215, oJ vv, oS, oI (0 : Int32), oU, oU, oU, oU] [(.int (lcmpW vv (1679616 : Int64)))]
  by_cases c70_416 : (lcmpW vv (1679616 : Int64)) < (0 : Int32)
  · skip
    have z4 : (1679616 : Int64).toInt = 1679616 := by decide
    have hb4 := (lw_lt _ _).mp c70_416
    rw [Int64.lt_iff_toInt_lt, hv, z4] at hb4
    refine own_st (fun t_ k_ => XS.ifNo X215.here hx rfl (hb hby at_70) rfl ((if0 _ _).trans (tlt c70_416).2.1) (XS.iconst X215.here hx rfl (hb hby at_73) (XS.goto X215.here hx rfl (pc0 := 74) (pc' := 91) rfl (hb hby at_74) (by decide) (by decide) (XS.istore X215.here hx rfl (hb hby at_91) rfl (l' := #[oI p0, oR r_215, oJ vv, oS, oI (0 : Int32), oI (4 : Int32), oU, oU, oU]) rfl k_)))) ?_
    show own_at p e below _ T215 m 93 #[oI p0, oR r_215, oJ vv, oS, oI (0 : Int32), oI (4 : Int32), oU, oU, oU] []
    have en : n_215 = 4 := own_nn6 hdn.1 hdn.2.2.1 hdn.2.2.2 (by decide) (by have q_ : 36 ^ 4 = 1679616 := (by decide); omega) (by first | exact Or.inl rfl | exact Or.inr (by have q_ : 36 ^ (4 - 1) = 46656 := (by decide); omega))
    have As : own_A Z T215.heap t_215 kt_215 .byte (own_bl (0 : Int32) 5) (fun i => .int ((own_by (0 : Int32) (own_ws 0 4 V)) i)) := by have z_ := P215_4; rw [en, hsg, ← hV] at z_; exact z_
    have hcd : ((0 : Int32) = 0 ∧ ∀ q : Nat, q < 5 → ¬ (255 : Int32) < (own_ws 0 4 V) q) ∨ (0 : Int32) = 1 := Or.inl ⟨rfl, fun q _ => own_lat7 (own_ws7 _ _ _ q)⟩
    refine own_st (fun t_ k_ => XS.bipush X215.here hx rfl (hb hby at_93) k_) ?_
    show own_at p e below _ T215 m 95 #[oI p0, oR r_215, oJ vv, oS, oI (0 : Int32), oI (4 : Int32), oU, oU, oU] [(.int (8 : Int32))]
    obtain ⟨T417, h417, k417, X417, e417, E417, A417, st417⟩ := newP X215 hx hZ (own_w hw 145 rfl) rfl (g := (mkF m 95 #[oI p0, oR r_215, oJ vv, oS, oI (0 : Int32), oI (4 : Int32), oU, oU, oU] [(.int (8 : Int32))])) rfl (hb hby at_95) rfl (by decide) (cap := 8) (by decide) (by decide) (by decide) (by decide)
    obtain ⟨b417, g417⟩ : ∃ z, z = T215.heap.size := ⟨_, rfl⟩
    rw [← g417] at A417 st417
    have fr417 : h0.size ≤ b417 := Nat.le_trans K215.1 (Nat.le_of_eq g417.symm)
    have ge417 : n0 ≤ b417 := Nat.le_trans Z0 fr417
    have K417 : Keep h0 h417 [] := K215.ext E417
    have c417 : CHr Z own_EL _ T215.heap _ h417 := CHr.ext E417 C215.1
    have C417 := C215.trans c417
    have kk417 := Nat.le_trans kk215 c417.2.1
    have Sf417_b417 : Safe Z own_EL _ h417 b417 := Safe.ext E417 C215.1 (Safe.new (Nat.le_of_eq g417.symm))
    have Ar417 : own_A Z h417 b417 k417 .char 8 (fun i => .int ((fun _ => (0 : Int32)) i)) := own_A.new A417 rfl (by decide)
    refine own_st (st417) ?_
    refine own_st (fun t_ k_ => XS.astore X417.here hx rfl (hb hby at_97) rfl rfl (l' := #[oI p0, oR r_215, oJ vv, oS, oI (0 : Int32), oI (4 : Int32), oR b417, oU, oU]) rfl (XS.aload X417.here hx rfl (hb hby at_99) rfl rfl (XS.iconst X417.here hx rfl (hb hby at_101) (XS.bipush X417.here hx rfl (hb hby at_102) k_)))) ?_
    show own_at p e below _ T417 m 104 #[oI p0, oR r_215, oJ vv, oS, oI (0 : Int32), oI (4 : Int32), oR b417, oU, oU] [(.int (119 : Int32)), (.int (0 : Int32)), (.ref b417)]
    obtain ⟨T418, h418, X418, e418, W418, Aw418, st418⟩ := own_castore X417 hx hZ e417 Ar417 (i := 0) (by decide) (by decide) rfl (v' := (119 : Int32)) (g := (mkF m 104 #[oI p0, oR r_215, oJ vv, oS, oI (0 : Int32), oI (4 : Int32), oR b417, oU, oU] [(.int (119 : Int32)), (.int (0 : Int32)), (.ref b417)])) rfl rfl (hb hby at_104)
    have N418 := Fr.snoc X418 N215 ge417
    have K418 : Keep h0 h418 [] := K417.wr W418 (Or.inr fr417)
    have c418 : CHr Z own_EL _ h417 _ h418 := CHr.wr W418 (own_safeA hZ.alike Ar417 (by decide)) C417.1
    have C418 := C417.trans c418
    have kk418 := Nat.le_trans kk417 c418.2.1
    refine own_st (st418) ?_
    refine own_st (fun t_ k_ => XS.iconst X418.here hx rfl (hb hby at_105) (XS.istore X418.here hx rfl (hb hby at_106) rfl (l' := #[oI p0, oR r_215, oJ vv, oS, oI (0 : Int32), oI (4 : Int32), oR b417, oI (1 : Int32), oU]) rfl (XS.iload X418.here hx rfl (hb hby at_108) rfl (XS.ifYes X418.here hx rfl (pc0 := 110) (pc' := 122) rfl (hb hby at_110) rfl ((if0 _ _).trans (teq (by decide : (0 : Int32) = (0 : Int32))).1) (by decide) (by decide) (XS.aload X418.here hx rfl (hb hby at_122) rfl rfl (XS.iload X418.here hx rfl (hb hby at_124) rfl k_)))))) ?_
    show own_at p e below _ T418 m 126 #[oI p0, oR r_215, oJ vv, oS, oI (0 : Int32), oI (4 : Int32), oR b417, oI (1 : Int32), oU] [(.int (1 : Int32)), (.ref b417)]
    refine own_st (fun t_ k_ => XS.iload X418.here hx rfl (hb hby at_126) rfl (XS.iconst X418.here hx rfl (hb hby at_128) (XS.lloadN X418.here hx rfl (hb hby at_129) rfl (XS.lconst X418.here hx rfl (hb hby at_130) k_)))) ?_
    show own_at p e below _ T418 m 131 #[oI p0, oR r_215, oJ vv, oS, oI (0 : Int32), oI (4 : Int32), oR b417, oI (1 : Int32), oU] [(.long (1 : Int64)), (.long vv), (.int (0 : Int32)), (.int (4 : Int32)), (.int (1 : Int32)), (.ref b417)]
    obtain ⟨_, _, ⟨T419, L419, k419, n419⟩, -, X419, ⟨Lc419, hQ419, l419, y419, z419⟩, st419⟩ := Jvm.LawKit.callS X418 hx (y := own_n31) hown (mvT hZ (own_w hw 146 rfl)) (mvT hZ (own_w hw 147 rfl)) (mvT hZ (own_w hw 148 rfl)) (mvT hZ (own_w hw 149 rfl)) (by decide) (backOf (W := 0) (own_rm27y l Z a0 hw [] b417 (1 : Int32) (4 : Int32) (0 : Int32) vv (1 : Int64) k417 (own_upd (fun _ => (0 : Int32)) 0 (119 : Int32)) 4 h418 n0 (Nat.le_trans Z0 K418.1) Aw418 ge417 (by decide) (by decide) (by decide)) hZ (own_w hw 149 rfl) (own_w hw 148 rfl) (by decide) (by decide)) (g := (mkF m 131 #[oI p0, oR r_215, oJ vv, oS, oI (0 : Int32), oI (4 : Int32), oR b417, oI (1 : Int32), oU] [(.long (1 : Int64)), (.long vv), (.int (0 : Int32)), (.int (4 : Int32)), (.int (1 : Int32)), (.ref b417)])) rfl (by rw [hml]; rfl) (argsL := [(.ref b417), (.int (1 : Int32)), (.int (4 : Int32)), (.int (0 : Int32)), (.long vv), (.long (1 : Int64))]) (rest := []) (lenOf own_pd25 rfl) rfl (own_hW rfl) (hb hby at_131) (fun _ _ => ⟨rfl, e418, (by decide : 10 + 0 ≤ _), (by decide : 143 + 0 ≤ _)⟩)
    dsimp only [Pt.U, Pt.locs, Pt.cells, Pt.slots] at X419 l419 y419 z419 st419 hQ419
    subst y419 z419
    obtain ⟨rfl, N419q, Kq419, P419_0⟩ := hQ419
    have N419 : Fr n0 L419 := by rw [l419]; exact Fr.app N418 N419q
    have K419 : Keep h0 T419.heap [] := K418.trans Kq419 (allS (P := fun x => x ∈ [] ∨ h0.size ≤ x) (Or.inr fr417) all0)
    have c419 : CHr Z own_EL _ h418 _ T419.heap := CHr.keep Kq419 (own_slS (own_safeA hZ.alike Aw418 (by decide)) own_sl0) C418.1
    have C419 := C418.trans c419
    have kk419 := Nat.le_trans kk418 c419.2.1
    refine own_st (st419) ?_
    refine own_st (fun t_ k_ => XS.aload X419.here hx rfl (hb hby at_134) rfl rfl (XS.iload X419.here hx rfl (hb hby at_136) rfl (XS.iload X419.here hx rfl (hb hby at_138) rfl (XS.iconst X419.here hx rfl (hb hby at_140) (XS.lloadN X419.here hx rfl (hb hby at_141) rfl k_))))) ?_
    show own_at p e below _ T419 m 142 #[oI p0, oR r_215, oJ vv, oS, oI (0 : Int32), oI (4 : Int32), oR b417, oI (1 : Int32), oU] [(.long vv), (.int (1 : Int32)), (.int (4 : Int32)), (.int (1 : Int32)), (.ref b417)]
    refine own_st (X419.ldc2Long hx hown (mvT hZ (own_w hw 144 rfl)) (g := (mkF m 142 #[oI p0, oR r_215, oJ vv, oS, oI (0 : Int32), oI (4 : Int32), oR b417, oI (1 : Int32), oU] [(.long vv), (.int (1 : Int32)), (.int (4 : Int32)), (.int (1 : Int32)), (.ref b417)])) rfl (hb hby at_142)) ?_
    show own_at p e below _ T419 m 145 #[oI p0, oR r_215, oJ vv, oS, oI (0 : Int32), oI (4 : Int32), oR b417, oI (1 : Int32), oU] [(.long (36 : Int64)), (.long vv), (.int (1 : Int32)), (.int (4 : Int32)), (.int (1 : Int32)), (.ref b417)]
    obtain ⟨_, _, ⟨T420, L420, k420, n420⟩, -, X420, ⟨Lc420, hQ420, l420, y420, z420⟩, st420⟩ := Jvm.LawKit.callS X419 hx (y := own_n31) hown (mvT hZ (own_w hw 146 rfl)) (mvT hZ (own_w hw 147 rfl)) (mvT hZ (own_w hw 148 rfl)) (mvT hZ (own_w hw 149 rfl)) (by decide) (backOf (W := 0) (own_rm27y l Z a0 hw [] b417 (1 : Int32) (4 : Int32) (1 : Int32) vv (36 : Int64) k417 (own_upd (own_upd (fun _ => (0 : Int32)) 0 (119 : Int32)) 4 (own_dig ((vv / (1 : Int64)) % (36 : Int64)))) 3 T419.heap n0 (Nat.le_trans Z0 K419.1) P419_0 ge417 (by decide) (by decide) (by decide)) hZ (own_w hw 149 rfl) (own_w hw 148 rfl) (by decide) (by decide)) (g := (mkF m 145 #[oI p0, oR r_215, oJ vv, oS, oI (0 : Int32), oI (4 : Int32), oR b417, oI (1 : Int32), oU] [(.long (36 : Int64)), (.long vv), (.int (1 : Int32)), (.int (4 : Int32)), (.int (1 : Int32)), (.ref b417)])) rfl (by rw [hml]; rfl) (argsL := [(.ref b417), (.int (1 : Int32)), (.int (4 : Int32)), (.int (1 : Int32)), (.long vv), (.long (36 : Int64))]) (rest := []) (lenOf own_pd25 rfl) rfl (own_hW rfl) (hb hby at_145) (fun _ _ => ⟨rfl, rfl, (by decide : 10 + 0 ≤ _), (by decide : 143 + 0 ≤ _)⟩)
    dsimp only [Pt.U, Pt.locs, Pt.cells, Pt.slots] at X420 l420 y420 z420 st420 hQ420
    subst y420 z420
    obtain ⟨rfl, N420q, Kq420, P420_0⟩ := hQ420
    have N420 : Fr n0 L420 := by rw [l420]; exact Fr.app N419 N420q
    have K420 : Keep h0 T420.heap [] := K419.trans Kq420 (allS (P := fun x => x ∈ [] ∨ h0.size ≤ x) (Or.inr fr417) all0)
    have c420 : CHr Z own_EL _ T419.heap _ T420.heap := CHr.keep Kq420 (own_slS (own_safeA hZ.alike P419_0 (by decide)) own_sl0) C419.1
    have C420 := C419.trans c420
    have kk420 := Nat.le_trans kk419 c420.2.1
    refine own_st (st420) ?_
    refine own_st (fun t_ k_ => XS.aload X420.here hx rfl (hb hby at_148) rfl rfl (XS.iload X420.here hx rfl (hb hby at_150) rfl (XS.iload X420.here hx rfl (hb hby at_152) rfl (XS.iconst X420.here hx rfl (hb hby at_154) (XS.lloadN X420.here hx rfl (hb hby at_155) rfl k_))))) ?_
    show own_at p e below _ T420 m 156 #[oI p0, oR r_215, oJ vv, oS, oI (0 : Int32), oI (4 : Int32), oR b417, oI (1 : Int32), oU] [(.long vv), (.int (2 : Int32)), (.int (4 : Int32)), (.int (1 : Int32)), (.ref b417)]
    refine own_st (X420.ldc2Long hx hown (mvT hZ (own_w hw 155 rfl)) (g := (mkF m 156 #[oI p0, oR r_215, oJ vv, oS, oI (0 : Int32), oI (4 : Int32), oR b417, oI (1 : Int32), oU] [(.long vv), (.int (2 : Int32)), (.int (4 : Int32)), (.int (1 : Int32)), (.ref b417)])) rfl (hb hby at_156)) ?_
    show own_at p e below _ T420 m 159 #[oI p0, oR r_215, oJ vv, oS, oI (0 : Int32), oI (4 : Int32), oR b417, oI (1 : Int32), oU] [(.long (1296 : Int64)), (.long vv), (.int (2 : Int32)), (.int (4 : Int32)), (.int (1 : Int32)), (.ref b417)]
    obtain ⟨_, _, ⟨T421, L421, k421, n421⟩, -, X421, ⟨Lc421, hQ421, l421, y421, z421⟩, st421⟩ := Jvm.LawKit.callS X420 hx (y := own_n31) hown (mvT hZ (own_w hw 146 rfl)) (mvT hZ (own_w hw 147 rfl)) (mvT hZ (own_w hw 148 rfl)) (mvT hZ (own_w hw 149 rfl)) (by decide) (backOf (W := 0) (own_rm27y l Z a0 hw [] b417 (1 : Int32) (4 : Int32) (2 : Int32) vv (1296 : Int64) k417 (own_upd (own_upd (own_upd (fun _ => (0 : Int32)) 0 (119 : Int32)) 4 (own_dig ((vv / (1 : Int64)) % (36 : Int64)))) 3 (own_dig ((vv / (36 : Int64)) % (36 : Int64)))) 2 T420.heap n0 (Nat.le_trans Z0 K420.1) P420_0 ge417 (by decide) (by decide) (by decide)) hZ (own_w hw 149 rfl) (own_w hw 148 rfl) (by decide) (by decide)) (g := (mkF m 159 #[oI p0, oR r_215, oJ vv, oS, oI (0 : Int32), oI (4 : Int32), oR b417, oI (1 : Int32), oU] [(.long (1296 : Int64)), (.long vv), (.int (2 : Int32)), (.int (4 : Int32)), (.int (1 : Int32)), (.ref b417)])) rfl (by rw [hml]; rfl) (argsL := [(.ref b417), (.int (1 : Int32)), (.int (4 : Int32)), (.int (2 : Int32)), (.long vv), (.long (1296 : Int64))]) (rest := []) (lenOf own_pd25 rfl) rfl (own_hW rfl) (hb hby at_159) (fun _ _ => ⟨rfl, rfl, (by decide : 10 + 0 ≤ _), (by decide : 143 + 0 ≤ _)⟩)
    dsimp only [Pt.U, Pt.locs, Pt.cells, Pt.slots] at X421 l421 y421 z421 st421 hQ421
    subst y421 z421
    obtain ⟨rfl, N421q, Kq421, P421_0⟩ := hQ421
    have N421 : Fr n0 L421 := by rw [l421]; exact Fr.app N420 N421q
    have K421 : Keep h0 T421.heap [] := K420.trans Kq421 (allS (P := fun x => x ∈ [] ∨ h0.size ≤ x) (Or.inr fr417) all0)
    have c421 : CHr Z own_EL _ T420.heap _ T421.heap := CHr.keep Kq421 (own_slS (own_safeA hZ.alike P420_0 (by decide)) own_sl0) C420.1
    have C421 := C420.trans c421
    have kk421 := Nat.le_trans kk420 c421.2.1
    refine own_st (st421) ?_
    refine own_st (fun t_ k_ => XS.aload X421.here hx rfl (hb hby at_162) rfl rfl (XS.iload X421.here hx rfl (hb hby at_164) rfl (XS.iload X421.here hx rfl (hb hby at_166) rfl (XS.iconst X421.here hx rfl (hb hby at_168) (XS.lloadN X421.here hx rfl (hb hby at_169) rfl k_))))) ?_
    show own_at p e below _ T421 m 170 #[oI p0, oR r_215, oJ vv, oS, oI (0 : Int32), oI (4 : Int32), oR b417, oI (1 : Int32), oU] [(.long vv), (.int (3 : Int32)), (.int (4 : Int32)), (.int (1 : Int32)), (.ref b417)]
    refine own_st (X421.ldc2Long hx hown (mvT hZ (own_w hw 156 rfl)) (g := (mkF m 170 #[oI p0, oR r_215, oJ vv, oS, oI (0 : Int32), oI (4 : Int32), oR b417, oI (1 : Int32), oU] [(.long vv), (.int (3 : Int32)), (.int (4 : Int32)), (.int (1 : Int32)), (.ref b417)])) rfl (hb hby at_170)) ?_
    show own_at p e below _ T421 m 173 #[oI p0, oR r_215, oJ vv, oS, oI (0 : Int32), oI (4 : Int32), oR b417, oI (1 : Int32), oU] [(.long (46656 : Int64)), (.long vv), (.int (3 : Int32)), (.int (4 : Int32)), (.int (1 : Int32)), (.ref b417)]
    obtain ⟨_, _, ⟨T422, L422, k422, n422⟩, -, X422, ⟨Lc422, hQ422, l422, y422, z422⟩, st422⟩ := Jvm.LawKit.callS X421 hx (y := own_n31) hown (mvT hZ (own_w hw 146 rfl)) (mvT hZ (own_w hw 147 rfl)) (mvT hZ (own_w hw 148 rfl)) (mvT hZ (own_w hw 149 rfl)) (by decide) (backOf (W := 0) (own_rm27y l Z a0 hw [] b417 (1 : Int32) (4 : Int32) (3 : Int32) vv (46656 : Int64) k417 (own_upd (own_upd (own_upd (own_upd (fun _ => (0 : Int32)) 0 (119 : Int32)) 4 (own_dig ((vv / (1 : Int64)) % (36 : Int64)))) 3 (own_dig ((vv / (36 : Int64)) % (36 : Int64)))) 2 (own_dig ((vv / (1296 : Int64)) % (36 : Int64)))) 1 T421.heap n0 (Nat.le_trans Z0 K421.1) P421_0 ge417 (by decide) (by decide) (by decide)) hZ (own_w hw 149 rfl) (own_w hw 148 rfl) (by decide) (by decide)) (g := (mkF m 173 #[oI p0, oR r_215, oJ vv, oS, oI (0 : Int32), oI (4 : Int32), oR b417, oI (1 : Int32), oU] [(.long (46656 : Int64)), (.long vv), (.int (3 : Int32)), (.int (4 : Int32)), (.int (1 : Int32)), (.ref b417)])) rfl (by rw [hml]; rfl) (argsL := [(.ref b417), (.int (1 : Int32)), (.int (4 : Int32)), (.int (3 : Int32)), (.long vv), (.long (46656 : Int64))]) (rest := []) (lenOf own_pd25 rfl) rfl (own_hW rfl) (hb hby at_173) (fun _ _ => ⟨rfl, rfl, (by decide : 10 + 0 ≤ _), (by decide : 143 + 0 ≤ _)⟩)
    dsimp only [Pt.U, Pt.locs, Pt.cells, Pt.slots] at X422 l422 y422 z422 st422 hQ422
    subst y422 z422
    obtain ⟨rfl, N422q, Kq422, P422_0⟩ := hQ422
    have N422 : Fr n0 L422 := by rw [l422]; exact Fr.app N421 N422q
    have K422 : Keep h0 T422.heap [] := K421.trans Kq422 (allS (P := fun x => x ∈ [] ∨ h0.size ≤ x) (Or.inr fr417) all0)
    have c422 : CHr Z own_EL _ T421.heap _ T422.heap := CHr.keep Kq422 (own_slS (own_safeA hZ.alike P421_0 (by decide)) own_sl0) C421.1
    have C422 := C421.trans c422
    have kk422 := Nat.le_trans kk421 c422.2.1
    refine own_st (st422) ?_
    refine own_st (fun t_ k_ => XS.aload X422.here hx rfl (hb hby at_176) rfl rfl (XS.iload X422.here hx rfl (hb hby at_178) rfl (XS.iload X422.here hx rfl (hb hby at_180) rfl (XS.iconst X422.here hx rfl (hb hby at_182) (XS.lloadN X422.here hx rfl (hb hby at_183) rfl k_))))) ?_
    show own_at p e below _ T422 m 184 #[oI p0, oR r_215, oJ vv, oS, oI (0 : Int32), oI (4 : Int32), oR b417, oI (1 : Int32), oU] [(.long vv), (.int (4 : Int32)), (.int (4 : Int32)), (.int (1 : Int32)), (.ref b417)]
    refine own_st (X422.ldc2Long hx hown (mvT hZ (own_w hw 157 rfl)) (g := (mkF m 184 #[oI p0, oR r_215, oJ vv, oS, oI (0 : Int32), oI (4 : Int32), oR b417, oI (1 : Int32), oU] [(.long vv), (.int (4 : Int32)), (.int (4 : Int32)), (.int (1 : Int32)), (.ref b417)])) rfl (hb hby at_184)) ?_
    show own_at p e below _ T422 m 187 #[oI p0, oR r_215, oJ vv, oS, oI (0 : Int32), oI (4 : Int32), oR b417, oI (1 : Int32), oU] [(.long (1679616 : Int64)), (.long vv), (.int (4 : Int32)), (.int (4 : Int32)), (.int (1 : Int32)), (.ref b417)]
    obtain ⟨_, _, ⟨T423, L423, k423, n423⟩, -, X423, ⟨Lc423, hQ423, l423, y423, z423⟩, st423⟩ := Jvm.LawKit.callS X422 hx (y := own_n31) hown (mvT hZ (own_w hw 146 rfl)) (mvT hZ (own_w hw 147 rfl)) (mvT hZ (own_w hw 148 rfl)) (mvT hZ (own_w hw 149 rfl)) (by decide) (backOf (W := 0) (own_rm27n l Z a0 hw [] b417 (1 : Int32) (4 : Int32) (4 : Int32) vv (1679616 : Int64) T422.heap n0 (Nat.le_trans Z0 K422.1) (by decide)) hZ (own_w hw 149 rfl) (own_w hw 148 rfl) (by decide) (by decide)) (g := (mkF m 187 #[oI p0, oR r_215, oJ vv, oS, oI (0 : Int32), oI (4 : Int32), oR b417, oI (1 : Int32), oU] [(.long (1679616 : Int64)), (.long vv), (.int (4 : Int32)), (.int (4 : Int32)), (.int (1 : Int32)), (.ref b417)])) rfl (by rw [hml]; rfl) (argsL := [(.ref b417), (.int (1 : Int32)), (.int (4 : Int32)), (.int (4 : Int32)), (.long vv), (.long (1679616 : Int64))]) (rest := []) (lenOf own_pd25 rfl) rfl (own_hW rfl) (hb hby at_187) (fun _ _ => ⟨rfl, rfl, (by decide : 10 + 0 ≤ _), (by decide : 143 + 0 ≤ _)⟩)
    dsimp only [Pt.U, Pt.locs, Pt.cells, Pt.slots] at X423 l423 y423 z423 st423 hQ423
    subst y423 z423
    obtain ⟨rfl, N423q, eq423⟩ := hQ423
    have N423 : Fr n0 L423 := by rw [l423]; exact Fr.app N422 N423q
    refine own_st (st423) ?_
    refine own_st (fun t_ k_ => XS.aload X423.here hx rfl (hb hby at_190) rfl rfl (XS.iload X423.here hx rfl (hb hby at_192) rfl (XS.iload X423.here hx rfl (hb hby at_194) rfl (XS.iconst X423.here hx rfl (hb hby at_196) (XS.lloadN X423.here hx rfl (hb hby at_197) rfl k_))))) ?_
    show own_at p e below _ T423 m 198 #[oI p0, oR r_215, oJ vv, oS, oI (0 : Int32), oI (4 : Int32), oR b417, oI (1 : Int32), oU] [(.long vv), (.int (5 : Int32)), (.int (4 : Int32)), (.int (1 : Int32)), (.ref b417)]
    refine own_st (X423.ldc2Long hx hown (mvT hZ (own_w hw 158 rfl)) (g := (mkF m 198 #[oI p0, oR r_215, oJ vv, oS, oI (0 : Int32), oI (4 : Int32), oR b417, oI (1 : Int32), oU] [(.long vv), (.int (5 : Int32)), (.int (4 : Int32)), (.int (1 : Int32)), (.ref b417)])) rfl (hb hby at_198)) ?_
    show own_at p e below _ T423 m 201 #[oI p0, oR r_215, oJ vv, oS, oI (0 : Int32), oI (4 : Int32), oR b417, oI (1 : Int32), oU] [(.long (60466176 : Int64)), (.long vv), (.int (5 : Int32)), (.int (4 : Int32)), (.int (1 : Int32)), (.ref b417)]
    obtain ⟨_, _, ⟨T424, L424, k424, n424⟩, -, X424, ⟨Lc424, hQ424, l424, y424, z424⟩, st424⟩ := Jvm.LawKit.callS X423 hx (y := own_n31) hown (mvT hZ (own_w hw 146 rfl)) (mvT hZ (own_w hw 147 rfl)) (mvT hZ (own_w hw 148 rfl)) (mvT hZ (own_w hw 149 rfl)) (by decide) (backOf (W := 0) (own_rm27n l Z a0 hw [] b417 (1 : Int32) (4 : Int32) (5 : Int32) vv (60466176 : Int64) T422.heap n0 (Nat.le_trans Z0 K422.1) (by decide)) hZ (own_w hw 149 rfl) (own_w hw 148 rfl) (by decide) (by decide)) (g := (mkF m 201 #[oI p0, oR r_215, oJ vv, oS, oI (0 : Int32), oI (4 : Int32), oR b417, oI (1 : Int32), oU] [(.long (60466176 : Int64)), (.long vv), (.int (5 : Int32)), (.int (4 : Int32)), (.int (1 : Int32)), (.ref b417)])) rfl (by rw [hml]; rfl) (argsL := [(.ref b417), (.int (1 : Int32)), (.int (4 : Int32)), (.int (5 : Int32)), (.long vv), (.long (60466176 : Int64))]) (rest := []) (lenOf own_pd25 rfl) rfl (own_hW rfl) (hb hby at_201) (fun _ _ => ⟨rfl, eq423, (by decide : 10 + 0 ≤ _), (by decide : 143 + 0 ≤ _)⟩)
    dsimp only [Pt.U, Pt.locs, Pt.cells, Pt.slots] at X424 l424 y424 z424 st424 hQ424
    subst y424 z424
    obtain ⟨rfl, N424q, eq424⟩ := hQ424
    have N424 : Fr n0 L424 := by rw [l424]; exact Fr.app N423 N424q
    refine own_st (st424) ?_
    refine own_st (fun t_ k_ => XS.iload X424.here hx rfl (hb hby at_204) rfl (XS.iload X424.here hx rfl (hb hby at_206) rfl (XS.iadd X424.here hx rfl (hb hby at_208) rfl k_))) ?_
    show own_at p e below _ T424 m 209 #[oI p0, oR r_215, oJ vv, oS, oI (0 : Int32), oI (4 : Int32), oR b417, oI (1 : Int32), oU] [(.int ((1 : Int32) + (4 : Int32)))]
    rw [show ((1 : Int32) + (4 : Int32)) = (5 : Int32) from (by decide)]
    refine own_st (fun t_ k_ => XS.istore X424.here hx rfl (hb hby at_209) rfl (l' := #[oI p0, oR r_215, oJ vv, oS, oI (0 : Int32), oI (4 : Int32), oR b417, oI (1 : Int32), oI (5 : Int32)]) rfl (XS.aloadN X424.here hx rfl (hb hby at_211) rfl rfl k_)) ?_
    show own_at p e below _ T424 m 212 #[oI p0, oR r_215, oJ vv, oS, oI (0 : Int32), oI (4 : Int32), oR b417, oI (1 : Int32), oI (5 : Int32)] [(.ref r_215)]
    have f425 : Fld Z T422.heap r_215 "java/lang/String" "value" "[B" (.ref t_215) := ((((((P215_2.ext E417).other W418 (Or.inl (Nat.ne_of_lt (Nat.lt_of_lt_of_le P215_1.lt (Nat.le_of_eq g417.symm))))).keep Kq419 (ninS (Nat.ne_of_lt (Nat.lt_of_lt_of_le P215_1.lt (Nat.le_of_eq g417.symm))) nin0)).keep Kq420 (ninS (Nat.ne_of_lt (Nat.lt_of_lt_of_le P215_1.lt (Nat.le_of_eq g417.symm))) nin0)).keep Kq421 (ninS (Nat.ne_of_lt (Nat.lt_of_lt_of_le P215_1.lt (Nat.le_of_eq g417.symm))) nin0)).keep Kq422 (ninS (Nat.ne_of_lt (Nat.lt_of_lt_of_le P215_1.lt (Nat.le_of_eq g417.symm))) nin0))
    have f426 : Fld Z T422.heap r_215 "java/lang/String" "coder" "B" (.int (0 : Int32)) := ((((((P215_3.ext E417).other W418 (Or.inl (Nat.ne_of_lt (Nat.lt_of_lt_of_le P215_1.lt (Nat.le_of_eq g417.symm))))).keep Kq419 (ninS (Nat.ne_of_lt (Nat.lt_of_lt_of_le P215_1.lt (Nat.le_of_eq g417.symm))) nin0)).keep Kq420 (ninS (Nat.ne_of_lt (Nat.lt_of_lt_of_le P215_1.lt (Nat.le_of_eq g417.symm))) nin0)).keep Kq421 (ninS (Nat.ne_of_lt (Nat.lt_of_lt_of_le P215_1.lt (Nat.le_of_eq g417.symm))) nin0)).keep Kq422 (ninS (Nat.ne_of_lt (Nat.lt_of_lt_of_le P215_1.lt (Nat.le_of_eq g417.symm))) nin0))
    have f427 : own_A Z T422.heap t_215 kt_215 .byte (own_bl (0 : Int32) 5) (fun i => .int ((own_by (0 : Int32) (own_ws 0 4 V)) i)) := ((((((As.ext E417).other W418 (Nat.ne_of_lt (Nat.lt_of_lt_of_le As.lt (Nat.le_of_eq g417.symm)))).keep Kq419 (ninS (Nat.ne_of_lt (Nat.lt_of_lt_of_le As.lt (Nat.le_of_eq g417.symm))) nin0)).keep Kq420 (ninS (Nat.ne_of_lt (Nat.lt_of_lt_of_le As.lt (Nat.le_of_eq g417.symm))) nin0)).keep Kq421 (ninS (Nat.ne_of_lt (Nat.lt_of_lt_of_le As.lt (Nat.le_of_eq g417.symm))) nin0)).keep Kq422 (ninS (Nat.ne_of_lt (Nat.lt_of_lt_of_le As.lt (Nat.le_of_eq g417.symm))) nin0))
    have f428 : Old Z n0 T422.heap := (((((((q0.keep Kq215 all0).ext E417).wr W418 ge417).keep Kq419 (allS ge417 all0)).keep Kq420 (allS ge417 all0)).keep Kq421 (allS ge417 all0)).keep Kq422 (allS ge417 all0))
    obtain ⟨cq429, kq429, q429a, q429b, q429c⟩ := isOf hZ eq424 ((((((P215_1.ext E417).wr W418).keep Kq419).keep Kq420).keep Kq421).keep Kq422)
    obtain ⟨_, _, ⟨T429, L429, k429, n429⟩, -, X429, ⟨Lc429, hQ429, l429, y429, z429⟩, st429⟩ := X424.virtualBack hx (y := own_n6) (z := own_n6) hown (mvT hZ (own_w hw 159 rfl)) (mvT hZ (own_w hw 43 rfl)) (notFace_of_selects (args := #[]) (mvT hZ (own_w hw 45 rfl))) (mvT hZ (own_w hw 45 rfl)) (mvT hZ (own_w hw 44 rfl)) (by decide) (backOf (W := 0) (own_rm7 l Z a0 hw [] r_215 t_215 kt_215 (own_bl (0 : Int32) 5) (own_by (0 : Int32) (own_ws 0 4 V)) G1 T422.heap n0 (Nat.le_trans Z0 K422.1) ((((((P215_1.ext E417).wr W418).keep Kq419).keep Kq420).keep Kq421).keep Kq422) f425 f426 f427 f428 q1 hG1) hZ (own_w hw 46 rfl) (own_w hw 20 rfl) (by decide) (by decide)) q429a q429c (g := (mkF m 212 #[oI p0, oR r_215, oJ vv, oS, oI (0 : Int32), oI (4 : Int32), oR b417, oI (1 : Int32), oI (5 : Int32)] [(.ref r_215)])) rfl (by rw [hml]; rfl) (Steps.refl _) (argsL := []) (rest := []) (lenOf own_pd8 rfl) rfl (own_hW rfl) (hb hby at_212) (fun _ _ => ⟨rfl, eq424, (by decide : 10 + 0 ≤ _), (by decide : 143 + 0 ≤ _)⟩)
    dsimp only [Pt.U, Pt.locs, Pt.cells, Pt.slots] at X429 l429 y429 z429 st429 hQ429
    subst y429 z429
    obtain ⟨rfl, N429q, eq429⟩ := hQ429
    have N429 : Fr n0 L429 := by rw [l429]; exact Fr.app N424 N429q
    refine own_tr st429 ?_
    refine own_st (fun t_ k_ => XS.iload X429.here hx rfl (hb hby at_215) rfl (XS.icmpYes X429.here hx rfl (pc0 := 217) (pc' := 222) rfl (hb hby at_217) rfl (teq (by decide : (Int32.ofNat (own_bl (0 : Int32) 5)) = (5 : Int32))).1 (by decide) (by decide) k_)) ?_
    show own_at p e below _ T429 m 222 #[oI p0, oR r_215, oJ vv, oS, oI (0 : Int32), oI (4 : Int32), oR b417, oI (1 : Int32), oI (5 : Int32)] []
    obtain ⟨gg, hgg⟩ : ∃ f_ : Nat → Int32, f_ = (own_upd (own_upd (own_upd (own_upd (own_upd (fun _ => (0 : Int32)) 0 (119 : Int32)) 4 (own_dig ((vv / (1 : Int64)) % (36 : Int64)))) 3 (own_dig ((vv / (36 : Int64)) % (36 : Int64)))) 2 (own_dig ((vv / (1296 : Int64)) % (36 : Int64)))) 1 (own_dig ((vv / (46656 : Int64)) % (36 : Int64)))) := ⟨_, rfl⟩
    have Agg : own_A Z T422.heap b417 k417 .char 8 (fun i => .int (gg i)) := by rw [hgg]; exact P422_0
    have eg0 : own_ws 0 4 V 0 = gg 0 := by rw [hgg]; exact rfl.symm
    have eg1 : own_ws 0 4 V 1 = gg 1 := by rw [hgg]; exact (show own_dig ((vv / (46656 : Int64)) % (36 : Int64)) = own_ws 0 4 V 1 from (own_dd hv (by decide : (46656 : Int64).toInt = ((46656 : Nat) : Int)) (by decide)).trans (by unfold own_ws own_tb; rw [if_neg (by decide), if_neg (by decide)])).symm
    have eg2 : own_ws 0 4 V 2 = gg 2 := by rw [hgg]; exact (show own_dig ((vv / (1296 : Int64)) % (36 : Int64)) = own_ws 0 4 V 2 from (own_dd hv (by decide : (1296 : Int64).toInt = ((1296 : Nat) : Int)) (by decide)).trans (by unfold own_ws own_tb; rw [if_neg (by decide), if_neg (by decide)])).symm
    have eg3 : own_ws 0 4 V 3 = gg 3 := by rw [hgg]; exact (show own_dig ((vv / (36 : Int64)) % (36 : Int64)) = own_ws 0 4 V 3 from (own_dd hv (by decide : (36 : Int64).toInt = ((36 : Nat) : Int)) (by decide)).trans (by unfold own_ws own_tb; rw [if_neg (by decide), if_neg (by decide)])).symm
    have eg4 : own_ws 0 4 V 4 = gg 4 := by rw [hgg]; exact (show own_dig ((vv / (1 : Int64)) % (36 : Int64)) = own_ws 0 4 V 4 from (own_dd hv (by decide : (1 : Int64).toInt = ((1 : Nat) : Int)) (by decide)).trans (by unfold own_ws own_tb; rw [if_neg (by decide), if_neg (by decide)])).symm
    refine own_st (fun t_ k_ => XS.aloadN X429.here hx rfl (hb hby at_222) rfl rfl (XS.aload X429.here hx rfl (hb hby at_223) rfl rfl (XS.iload X429.here hx rfl (hb hby at_225) rfl (XS.iconst X429.here hx rfl (hb hby at_227) k_)))) ?_
    show own_at p e below _ T429 m 228 #[oI p0, oR r_215, oJ vv, oS, oI (0 : Int32), oI (4 : Int32), oR b417, oI (1 : Int32), oI (5 : Int32)] [(.int (0 : Int32)), (.int (5 : Int32)), (.ref b417), (.ref r_215)]
    obtain ⟨_, _, ⟨T430, L430, k430, n430⟩, -, X430, ⟨Lc430, hQ430, l430, y430, z430⟩, st430⟩ := Jvm.LawKit.callS X429 hx (y := own_n32) hown (mvT hZ (own_w hw 160 rfl)) (mvT hZ (own_w hw 161 rfl)) (mvT hZ (own_w hw 148 rfl)) (mvT hZ (own_w hw 162 rfl)) (by decide) (backOf (W := 0) (own_rm29y l Z a0 hw [] r_215 b417 (5 : Int32) (0 : Int32) t_215 kt_215 5 (own_ws 0 4 V) k417 gg 0 G1 G3 T422.heap n0 (Nat.le_trans Z0 K422.1) ((((((P215_1.ext E417).wr W418).keep Kq419).keep Kq420).keep Kq421).keep Kq422) f425 f426 f427 hcd rfl f428 q1 hG1 q3 rG3 Agg (by decide) (by decide) (by decide) ⟨(own_ws7 _ _ _ _).1, Int.le_trans (own_ws7 _ _ _ _).2 (by decide)⟩ eg0) hZ (own_w hw 162 rfl) (own_w hw 148 rfl) (by decide) (by decide)) (g := (mkF m 228 #[oI p0, oR r_215, oJ vv, oS, oI (0 : Int32), oI (4 : Int32), oR b417, oI (1 : Int32), oI (5 : Int32)] [(.int (0 : Int32)), (.int (5 : Int32)), (.ref b417), (.ref r_215)])) rfl (by rw [hml]; rfl) (argsL := [(.ref r_215), (.ref b417), (.int (5 : Int32)), (.int (0 : Int32))]) (rest := []) (lenOf own_pd26 rfl) rfl (own_hW rfl) (hb hby at_228) (fun _ _ => ⟨rfl, eq429, (by decide : 10 + 0 ≤ _), (by decide : 143 + 0 ≤ _)⟩)
    dsimp only [Pt.U, Pt.locs, Pt.cells, Pt.slots] at X430 l430 y430 z430 st430 hQ430
    subst y430 z430
    obtain ⟨rfl, N430q, eq430⟩ := hQ430
    have N430 : Fr n0 L430 := by rw [l430]; exact Fr.app N429 N430q
    refine own_st (st430) ?_
    refine own_st (fun t_ k_ => XS.ifNo X430.here hx rfl (hb hby at_231) rfl ((if0 _ _).trans (feq (by decide : ¬ ((1 : Int32) = (0 : Int32)))).1) (XS.aloadN X430.here hx rfl (hb hby at_234) rfl rfl (XS.aload X430.here hx rfl (hb hby at_235) rfl rfl (XS.iload X430.here hx rfl (hb hby at_237) rfl (XS.iconst X430.here hx rfl (hb hby at_239) k_))))) ?_
    show own_at p e below _ T430 m 240 #[oI p0, oR r_215, oJ vv, oS, oI (0 : Int32), oI (4 : Int32), oR b417, oI (1 : Int32), oI (5 : Int32)] [(.int (1 : Int32)), (.int (5 : Int32)), (.ref b417), (.ref r_215)]
    obtain ⟨_, _, ⟨T431, L431, k431, n431⟩, -, X431, ⟨Lc431, hQ431, l431, y431, z431⟩, st431⟩ := Jvm.LawKit.callS X430 hx (y := own_n32) hown (mvT hZ (own_w hw 160 rfl)) (mvT hZ (own_w hw 161 rfl)) (mvT hZ (own_w hw 148 rfl)) (mvT hZ (own_w hw 162 rfl)) (by decide) (backOf (W := 0) (own_rm29y l Z a0 hw [] r_215 b417 (5 : Int32) (1 : Int32) t_215 kt_215 5 (own_ws 0 4 V) k417 gg 1 G1 G3 T422.heap n0 (Nat.le_trans Z0 K422.1) ((((((P215_1.ext E417).wr W418).keep Kq419).keep Kq420).keep Kq421).keep Kq422) f425 f426 f427 hcd rfl f428 q1 hG1 q3 rG3 Agg (by decide) (by decide) (by decide) ⟨(own_ws7 _ _ _ _).1, Int.le_trans (own_ws7 _ _ _ _).2 (by decide)⟩ eg1) hZ (own_w hw 162 rfl) (own_w hw 148 rfl) (by decide) (by decide)) (g := (mkF m 240 #[oI p0, oR r_215, oJ vv, oS, oI (0 : Int32), oI (4 : Int32), oR b417, oI (1 : Int32), oI (5 : Int32)] [(.int (1 : Int32)), (.int (5 : Int32)), (.ref b417), (.ref r_215)])) rfl (by rw [hml]; rfl) (argsL := [(.ref r_215), (.ref b417), (.int (5 : Int32)), (.int (1 : Int32))]) (rest := []) (lenOf own_pd26 rfl) rfl (own_hW rfl) (hb hby at_240) (fun _ _ => ⟨rfl, eq430, (by decide : 10 + 0 ≤ _), (by decide : 143 + 0 ≤ _)⟩)
    dsimp only [Pt.U, Pt.locs, Pt.cells, Pt.slots] at X431 l431 y431 z431 st431 hQ431
    subst y431 z431
    obtain ⟨rfl, N431q, eq431⟩ := hQ431
    have N431 : Fr n0 L431 := by rw [l431]; exact Fr.app N430 N431q
    refine own_st (st431) ?_
    refine own_st (fun t_ k_ => XS.ifNo X431.here hx rfl (hb hby at_243) rfl ((if0 _ _).trans (feq (by decide : ¬ ((1 : Int32) = (0 : Int32)))).1) (XS.aloadN X431.here hx rfl (hb hby at_246) rfl rfl (XS.aload X431.here hx rfl (hb hby at_247) rfl rfl (XS.iload X431.here hx rfl (hb hby at_249) rfl (XS.iconst X431.here hx rfl (hb hby at_251) k_))))) ?_
    show own_at p e below _ T431 m 252 #[oI p0, oR r_215, oJ vv, oS, oI (0 : Int32), oI (4 : Int32), oR b417, oI (1 : Int32), oI (5 : Int32)] [(.int (2 : Int32)), (.int (5 : Int32)), (.ref b417), (.ref r_215)]
    obtain ⟨_, _, ⟨T432, L432, k432, n432⟩, -, X432, ⟨Lc432, hQ432, l432, y432, z432⟩, st432⟩ := Jvm.LawKit.callS X431 hx (y := own_n32) hown (mvT hZ (own_w hw 160 rfl)) (mvT hZ (own_w hw 161 rfl)) (mvT hZ (own_w hw 148 rfl)) (mvT hZ (own_w hw 162 rfl)) (by decide) (backOf (W := 0) (own_rm29y l Z a0 hw [] r_215 b417 (5 : Int32) (2 : Int32) t_215 kt_215 5 (own_ws 0 4 V) k417 gg 2 G1 G3 T422.heap n0 (Nat.le_trans Z0 K422.1) ((((((P215_1.ext E417).wr W418).keep Kq419).keep Kq420).keep Kq421).keep Kq422) f425 f426 f427 hcd rfl f428 q1 hG1 q3 rG3 Agg (by decide) (by decide) (by decide) ⟨(own_ws7 _ _ _ _).1, Int.le_trans (own_ws7 _ _ _ _).2 (by decide)⟩ eg2) hZ (own_w hw 162 rfl) (own_w hw 148 rfl) (by decide) (by decide)) (g := (mkF m 252 #[oI p0, oR r_215, oJ vv, oS, oI (0 : Int32), oI (4 : Int32), oR b417, oI (1 : Int32), oI (5 : Int32)] [(.int (2 : Int32)), (.int (5 : Int32)), (.ref b417), (.ref r_215)])) rfl (by rw [hml]; rfl) (argsL := [(.ref r_215), (.ref b417), (.int (5 : Int32)), (.int (2 : Int32))]) (rest := []) (lenOf own_pd26 rfl) rfl (own_hW rfl) (hb hby at_252) (fun _ _ => ⟨rfl, eq431, (by decide : 10 + 0 ≤ _), (by decide : 143 + 0 ≤ _)⟩)
    dsimp only [Pt.U, Pt.locs, Pt.cells, Pt.slots] at X432 l432 y432 z432 st432 hQ432
    subst y432 z432
    obtain ⟨rfl, N432q, eq432⟩ := hQ432
    have N432 : Fr n0 L432 := by rw [l432]; exact Fr.app N431 N432q
    refine own_st (st432) ?_
    refine own_st (fun t_ k_ => XS.ifNo X432.here hx rfl (hb hby at_255) rfl ((if0 _ _).trans (feq (by decide : ¬ ((1 : Int32) = (0 : Int32)))).1) (XS.aloadN X432.here hx rfl (hb hby at_258) rfl rfl (XS.aload X432.here hx rfl (hb hby at_259) rfl rfl (XS.iload X432.here hx rfl (hb hby at_261) rfl (XS.iconst X432.here hx rfl (hb hby at_263) k_))))) ?_
    show own_at p e below _ T432 m 264 #[oI p0, oR r_215, oJ vv, oS, oI (0 : Int32), oI (4 : Int32), oR b417, oI (1 : Int32), oI (5 : Int32)] [(.int (3 : Int32)), (.int (5 : Int32)), (.ref b417), (.ref r_215)]
    obtain ⟨_, _, ⟨T433, L433, k433, n433⟩, -, X433, ⟨Lc433, hQ433, l433, y433, z433⟩, st433⟩ := Jvm.LawKit.callS X432 hx (y := own_n32) hown (mvT hZ (own_w hw 160 rfl)) (mvT hZ (own_w hw 161 rfl)) (mvT hZ (own_w hw 148 rfl)) (mvT hZ (own_w hw 162 rfl)) (by decide) (backOf (W := 0) (own_rm29y l Z a0 hw [] r_215 b417 (5 : Int32) (3 : Int32) t_215 kt_215 5 (own_ws 0 4 V) k417 gg 3 G1 G3 T422.heap n0 (Nat.le_trans Z0 K422.1) ((((((P215_1.ext E417).wr W418).keep Kq419).keep Kq420).keep Kq421).keep Kq422) f425 f426 f427 hcd rfl f428 q1 hG1 q3 rG3 Agg (by decide) (by decide) (by decide) ⟨(own_ws7 _ _ _ _).1, Int.le_trans (own_ws7 _ _ _ _).2 (by decide)⟩ eg3) hZ (own_w hw 162 rfl) (own_w hw 148 rfl) (by decide) (by decide)) (g := (mkF m 264 #[oI p0, oR r_215, oJ vv, oS, oI (0 : Int32), oI (4 : Int32), oR b417, oI (1 : Int32), oI (5 : Int32)] [(.int (3 : Int32)), (.int (5 : Int32)), (.ref b417), (.ref r_215)])) rfl (by rw [hml]; rfl) (argsL := [(.ref r_215), (.ref b417), (.int (5 : Int32)), (.int (3 : Int32))]) (rest := []) (lenOf own_pd26 rfl) rfl (own_hW rfl) (hb hby at_264) (fun _ _ => ⟨rfl, eq432, (by decide : 10 + 0 ≤ _), (by decide : 143 + 0 ≤ _)⟩)
    dsimp only [Pt.U, Pt.locs, Pt.cells, Pt.slots] at X433 l433 y433 z433 st433 hQ433
    subst y433 z433
    obtain ⟨rfl, N433q, eq433⟩ := hQ433
    have N433 : Fr n0 L433 := by rw [l433]; exact Fr.app N432 N433q
    refine own_st (st433) ?_
    refine own_st (fun t_ k_ => XS.ifNo X433.here hx rfl (hb hby at_267) rfl ((if0 _ _).trans (feq (by decide : ¬ ((1 : Int32) = (0 : Int32)))).1) (XS.aloadN X433.here hx rfl (hb hby at_270) rfl rfl (XS.aload X433.here hx rfl (hb hby at_271) rfl rfl (XS.iload X433.here hx rfl (hb hby at_273) rfl (XS.iconst X433.here hx rfl (hb hby at_275) k_))))) ?_
    show own_at p e below _ T433 m 276 #[oI p0, oR r_215, oJ vv, oS, oI (0 : Int32), oI (4 : Int32), oR b417, oI (1 : Int32), oI (5 : Int32)] [(.int (4 : Int32)), (.int (5 : Int32)), (.ref b417), (.ref r_215)]
    obtain ⟨_, _, ⟨T434, L434, k434, n434⟩, -, X434, ⟨Lc434, hQ434, l434, y434, z434⟩, st434⟩ := Jvm.LawKit.callS X433 hx (y := own_n32) hown (mvT hZ (own_w hw 160 rfl)) (mvT hZ (own_w hw 161 rfl)) (mvT hZ (own_w hw 148 rfl)) (mvT hZ (own_w hw 162 rfl)) (by decide) (backOf (W := 0) (own_rm29y l Z a0 hw [] r_215 b417 (5 : Int32) (4 : Int32) t_215 kt_215 5 (own_ws 0 4 V) k417 gg 4 G1 G3 T422.heap n0 (Nat.le_trans Z0 K422.1) ((((((P215_1.ext E417).wr W418).keep Kq419).keep Kq420).keep Kq421).keep Kq422) f425 f426 f427 hcd rfl f428 q1 hG1 q3 rG3 Agg (by decide) (by decide) (by decide) ⟨(own_ws7 _ _ _ _).1, Int.le_trans (own_ws7 _ _ _ _).2 (by decide)⟩ eg4) hZ (own_w hw 162 rfl) (own_w hw 148 rfl) (by decide) (by decide)) (g := (mkF m 276 #[oI p0, oR r_215, oJ vv, oS, oI (0 : Int32), oI (4 : Int32), oR b417, oI (1 : Int32), oI (5 : Int32)] [(.int (4 : Int32)), (.int (5 : Int32)), (.ref b417), (.ref r_215)])) rfl (by rw [hml]; rfl) (argsL := [(.ref r_215), (.ref b417), (.int (5 : Int32)), (.int (4 : Int32))]) (rest := []) (lenOf own_pd26 rfl) rfl (own_hW rfl) (hb hby at_276) (fun _ _ => ⟨rfl, eq433, (by decide : 10 + 0 ≤ _), (by decide : 143 + 0 ≤ _)⟩)
    dsimp only [Pt.U, Pt.locs, Pt.cells, Pt.slots] at X434 l434 y434 z434 st434 hQ434
    subst y434 z434
    obtain ⟨rfl, N434q, eq434⟩ := hQ434
    have N434 : Fr n0 L434 := by rw [l434]; exact Fr.app N433 N434q
    refine own_st (st434) ?_
    refine own_st (fun t_ k_ => XS.ifNo X434.here hx rfl (hb hby at_279) rfl ((if0 _ _).trans (feq (by decide : ¬ ((1 : Int32) = (0 : Int32)))).1) (XS.aloadN X434.here hx rfl (hb hby at_282) rfl rfl (XS.aload X434.here hx rfl (hb hby at_283) rfl rfl (XS.iload X434.here hx rfl (hb hby at_285) rfl (XS.iconst X434.here hx rfl (hb hby at_287) k_))))) ?_
    show own_at p e below _ T434 m 288 #[oI p0, oR r_215, oJ vv, oS, oI (0 : Int32), oI (4 : Int32), oR b417, oI (1 : Int32), oI (5 : Int32)] [(.int (5 : Int32)), (.int (5 : Int32)), (.ref b417), (.ref r_215)]
    obtain ⟨_, _, ⟨T435, L435, k435, n435⟩, -, X435, ⟨Lc435, hQ435, l435, y435, z435⟩, st435⟩ := Jvm.LawKit.callS X434 hx (y := own_n32) hown (mvT hZ (own_w hw 160 rfl)) (mvT hZ (own_w hw 161 rfl)) (mvT hZ (own_w hw 148 rfl)) (mvT hZ (own_w hw 162 rfl)) (by decide) (backOf (W := 0) (own_rm29n l Z a0 hw [] r_215 b417 (5 : Int32) (5 : Int32) T422.heap n0 (Nat.le_trans Z0 K422.1) (by decide)) hZ (own_w hw 162 rfl) (own_w hw 148 rfl) (by decide) (by decide)) (g := (mkF m 288 #[oI p0, oR r_215, oJ vv, oS, oI (0 : Int32), oI (4 : Int32), oR b417, oI (1 : Int32), oI (5 : Int32)] [(.int (5 : Int32)), (.int (5 : Int32)), (.ref b417), (.ref r_215)])) rfl (by rw [hml]; rfl) (argsL := [(.ref r_215), (.ref b417), (.int (5 : Int32)), (.int (5 : Int32))]) (rest := []) (lenOf own_pd26 rfl) rfl (own_hW rfl) (hb hby at_288) (fun _ _ => ⟨rfl, eq434, (by decide : 10 + 0 ≤ _), (by decide : 143 + 0 ≤ _)⟩)
    dsimp only [Pt.U, Pt.locs, Pt.cells, Pt.slots] at X435 l435 y435 z435 st435 hQ435
    subst y435 z435
    obtain ⟨rfl, N435q, eq435⟩ := hQ435
    have N435 : Fr n0 L435 := by rw [l435]; exact Fr.app N434 N435q
    refine own_st (st435) ?_
    refine own_st (fun t_ k_ => XS.ifNo X435.here hx rfl (hb hby at_291) rfl ((if0 _ _).trans (feq (by decide : ¬ ((1 : Int32) = (0 : Int32)))).1) (XS.aloadN X435.here hx rfl (hb hby at_294) rfl rfl (XS.aload X435.here hx rfl (hb hby at_295) rfl rfl (XS.iload X435.here hx rfl (hb hby at_297) rfl (XS.bipush X435.here hx rfl (hb hby at_299) k_))))) ?_
    show own_at p e below _ T435 m 301 #[oI p0, oR r_215, oJ vv, oS, oI (0 : Int32), oI (4 : Int32), oR b417, oI (1 : Int32), oI (5 : Int32)] [(.int (6 : Int32)), (.int (5 : Int32)), (.ref b417), (.ref r_215)]
    obtain ⟨_, _, ⟨T436, L436, k436, n436⟩, -, X436, ⟨Lc436, hQ436, l436, y436, z436⟩, st436⟩ := Jvm.LawKit.callS X435 hx (y := own_n32) hown (mvT hZ (own_w hw 160 rfl)) (mvT hZ (own_w hw 161 rfl)) (mvT hZ (own_w hw 148 rfl)) (mvT hZ (own_w hw 162 rfl)) (by decide) (backOf (W := 0) (own_rm29n l Z a0 hw [] r_215 b417 (5 : Int32) (6 : Int32) T422.heap n0 (Nat.le_trans Z0 K422.1) (by decide)) hZ (own_w hw 162 rfl) (own_w hw 148 rfl) (by decide) (by decide)) (g := (mkF m 301 #[oI p0, oR r_215, oJ vv, oS, oI (0 : Int32), oI (4 : Int32), oR b417, oI (1 : Int32), oI (5 : Int32)] [(.int (6 : Int32)), (.int (5 : Int32)), (.ref b417), (.ref r_215)])) rfl (by rw [hml]; rfl) (argsL := [(.ref r_215), (.ref b417), (.int (5 : Int32)), (.int (6 : Int32))]) (rest := []) (lenOf own_pd26 rfl) rfl (own_hW rfl) (hb hby at_301) (fun _ _ => ⟨rfl, eq435, (by decide : 10 + 0 ≤ _), (by decide : 143 + 0 ≤ _)⟩)
    dsimp only [Pt.U, Pt.locs, Pt.cells, Pt.slots] at X436 l436 y436 z436 st436 hQ436
    subst y436 z436
    obtain ⟨rfl, N436q, eq436⟩ := hQ436
    have N436 : Fr n0 L436 := by rw [l436]; exact Fr.app N435 N436q
    refine own_st (st436) ?_
    refine own_st (fun t_ k_ => XS.ifNo X436.here hx rfl (hb hby at_304) rfl ((if0 _ _).trans (feq (by decide : ¬ ((1 : Int32) = (0 : Int32)))).1) (XS.aloadN X436.here hx rfl (hb hby at_307) rfl rfl (XS.aload X436.here hx rfl (hb hby at_308) rfl rfl (XS.iload X436.here hx rfl (hb hby at_310) rfl (XS.bipush X436.here hx rfl (hb hby at_312) k_))))) ?_
    show own_at p e below _ T436 m 314 #[oI p0, oR r_215, oJ vv, oS, oI (0 : Int32), oI (4 : Int32), oR b417, oI (1 : Int32), oI (5 : Int32)] [(.int (7 : Int32)), (.int (5 : Int32)), (.ref b417), (.ref r_215)]
    obtain ⟨_, _, ⟨T437, L437, k437, n437⟩, -, X437, ⟨Lc437, hQ437, l437, y437, z437⟩, st437⟩ := Jvm.LawKit.callS X436 hx (y := own_n32) hown (mvT hZ (own_w hw 160 rfl)) (mvT hZ (own_w hw 161 rfl)) (mvT hZ (own_w hw 148 rfl)) (mvT hZ (own_w hw 162 rfl)) (by decide) (backOf (W := 0) (own_rm29n l Z a0 hw [] r_215 b417 (5 : Int32) (7 : Int32) T422.heap n0 (Nat.le_trans Z0 K422.1) (by decide)) hZ (own_w hw 162 rfl) (own_w hw 148 rfl) (by decide) (by decide)) (g := (mkF m 314 #[oI p0, oR r_215, oJ vv, oS, oI (0 : Int32), oI (4 : Int32), oR b417, oI (1 : Int32), oI (5 : Int32)] [(.int (7 : Int32)), (.int (5 : Int32)), (.ref b417), (.ref r_215)])) rfl (by rw [hml]; rfl) (argsL := [(.ref r_215), (.ref b417), (.int (5 : Int32)), (.int (7 : Int32))]) (rest := []) (lenOf own_pd26 rfl) rfl (own_hW rfl) (hb hby at_314) (fun _ _ => ⟨rfl, eq436, (by decide : 10 + 0 ≤ _), (by decide : 143 + 0 ≤ _)⟩)
    dsimp only [Pt.U, Pt.locs, Pt.cells, Pt.slots] at X437 l437 y437 z437 st437 hQ437
    subst y437 z437
    obtain ⟨rfl, N437q, eq437⟩ := hQ437
    have N437 : Fr n0 L437 := by rw [l437]; exact Fr.app N436 N437q
    refine own_st (st437) ?_
    refine own_st (fun t_ k_ => XS.ifNo X437.here hx rfl (hb hby at_317) rfl ((if0 _ _).trans (feq (by decide : ¬ ((1 : Int32) = (0 : Int32)))).1) (XS.iconst X437.here hx rfl (hb hby at_320) (XS.goto X437.here hx rfl (pc0 := 321) (pc' := 325) rfl (hb hby at_321) (by decide) (by decide) k_))) ?_
    show own_at p e below _ T437 m 325 #[oI p0, oR r_215, oJ vv, oS, oI (0 : Int32), oI (4 : Int32), oR b417, oI (1 : Int32), oI (5 : Int32)] [(.int (1 : Int32))]
    exact own_retW (w := (.int (1 : Int32))) X437 hx hnl hZ (own_hEL hw) S215 (by rw [eq437]; exact kk422) (by rw [eq437]; exact C422) Bd.returns rfl (Or.inl ⟨rfl, by decide, _, rfl⟩) (hb hby at_325) ⟨rfl, N437, (by rw [eq437]; exact K422)⟩ (by decide) (by decide)
  have z4 : (1679616 : Int64).toInt = 1679616 := by decide
  have hb4 := mt (lw_lt _ _).mpr c70_416
  rw [Int64.lt_iff_toInt_lt, hv, z4] at hb4
  refine own_st (fun t_ k_ => XS.ifYes X215.here hx rfl (pc0 := 70) (pc' := 77) rfl (hb hby at_70) rfl ((if0 _ _).trans (flt c70_416).2.1) (by decide) (by decide) (XS.lloadN X215.here hx rfl (hb hby at_77) rfl k_)) ?_
  show own_at p e below _ T215 m 78 #[oI p0, oR r_215, oJ vv, oS, oI (0 : Int32), oU, oU, oU, oU] [(.long vv)]
  refine own_st (X215.ldc2Long hx hown (mvT hZ (own_w hw 158 rfl)) (g := (mkF m 78 #[oI p0, oR r_215, oJ vv, oS, oI (0 : Int32), oU, oU, oU, oU] [(.long vv)])) rfl (hb hby at_78)) ?_
  refine own_st (fun t_ k_ => XS.lcmp X215.here hx rfl (hb hby at_81) rfl k_) ?_
  show own_at p e below _ T215 m 82 #[oI p0, oR r_215, oJ vv, oS, oI (0 : Int32), oU, oU, oU, oU] [(.int (lcmpW vv (60466176 : Int64)))]
  by_cases c82_438 : (lcmpW vv (60466176 : Int64)) < (0 : Int32)
  · skip
    have z5 : (60466176 : Int64).toInt = 60466176 := by decide
    have hb5 := (lw_lt _ _).mp c82_438
    rw [Int64.lt_iff_toInt_lt, hv, z5] at hb5
    refine own_st (fun t_ k_ => XS.ifNo X215.here hx rfl (hb hby at_82) rfl ((if0 _ _).trans (tlt c82_438).2.1) (XS.iconst X215.here hx rfl (hb hby at_85) (XS.goto X215.here hx rfl (pc0 := 86) (pc' := 91) rfl (hb hby at_86) (by decide) (by decide) (XS.istore X215.here hx rfl (hb hby at_91) rfl (l' := #[oI p0, oR r_215, oJ vv, oS, oI (0 : Int32), oI (5 : Int32), oU, oU, oU]) rfl k_)))) ?_
    show own_at p e below _ T215 m 93 #[oI p0, oR r_215, oJ vv, oS, oI (0 : Int32), oI (5 : Int32), oU, oU, oU] []
    have en : n_215 = 5 := own_nn6 hdn.1 hdn.2.2.1 hdn.2.2.2 (by decide) (by have q_ : 36 ^ 5 = 60466176 := (by decide); omega) (by first | exact Or.inl rfl | exact Or.inr (by have q_ : 36 ^ (5 - 1) = 1679616 := (by decide); omega))
    have As : own_A Z T215.heap t_215 kt_215 .byte (own_bl (0 : Int32) 6) (fun i => .int ((own_by (0 : Int32) (own_ws 0 5 V)) i)) := by have z_ := P215_4; rw [en, hsg, ← hV] at z_; exact z_
    have hcd : ((0 : Int32) = 0 ∧ ∀ q : Nat, q < 6 → ¬ (255 : Int32) < (own_ws 0 5 V) q) ∨ (0 : Int32) = 1 := Or.inl ⟨rfl, fun q _ => own_lat7 (own_ws7 _ _ _ q)⟩
    refine own_st (fun t_ k_ => XS.bipush X215.here hx rfl (hb hby at_93) k_) ?_
    show own_at p e below _ T215 m 95 #[oI p0, oR r_215, oJ vv, oS, oI (0 : Int32), oI (5 : Int32), oU, oU, oU] [(.int (8 : Int32))]
    obtain ⟨T439, h439, k439, X439, e439, E439, A439, st439⟩ := newP X215 hx hZ (own_w hw 145 rfl) rfl (g := (mkF m 95 #[oI p0, oR r_215, oJ vv, oS, oI (0 : Int32), oI (5 : Int32), oU, oU, oU] [(.int (8 : Int32))])) rfl (hb hby at_95) rfl (by decide) (cap := 8) (by decide) (by decide) (by decide) (by decide)
    obtain ⟨b439, g439⟩ : ∃ z, z = T215.heap.size := ⟨_, rfl⟩
    rw [← g439] at A439 st439
    have fr439 : h0.size ≤ b439 := Nat.le_trans K215.1 (Nat.le_of_eq g439.symm)
    have ge439 : n0 ≤ b439 := Nat.le_trans Z0 fr439
    have K439 : Keep h0 h439 [] := K215.ext E439
    have c439 : CHr Z own_EL _ T215.heap _ h439 := CHr.ext E439 C215.1
    have C439 := C215.trans c439
    have kk439 := Nat.le_trans kk215 c439.2.1
    have Sf439_b439 : Safe Z own_EL _ h439 b439 := Safe.ext E439 C215.1 (Safe.new (Nat.le_of_eq g439.symm))
    have Ar439 : own_A Z h439 b439 k439 .char 8 (fun i => .int ((fun _ => (0 : Int32)) i)) := own_A.new A439 rfl (by decide)
    refine own_st (st439) ?_
    refine own_st (fun t_ k_ => XS.astore X439.here hx rfl (hb hby at_97) rfl rfl (l' := #[oI p0, oR r_215, oJ vv, oS, oI (0 : Int32), oI (5 : Int32), oR b439, oU, oU]) rfl (XS.aload X439.here hx rfl (hb hby at_99) rfl rfl (XS.iconst X439.here hx rfl (hb hby at_101) (XS.bipush X439.here hx rfl (hb hby at_102) k_)))) ?_
    show own_at p e below _ T439 m 104 #[oI p0, oR r_215, oJ vv, oS, oI (0 : Int32), oI (5 : Int32), oR b439, oU, oU] [(.int (119 : Int32)), (.int (0 : Int32)), (.ref b439)]
    obtain ⟨T440, h440, X440, e440, W440, Aw440, st440⟩ := own_castore X439 hx hZ e439 Ar439 (i := 0) (by decide) (by decide) rfl (v' := (119 : Int32)) (g := (mkF m 104 #[oI p0, oR r_215, oJ vv, oS, oI (0 : Int32), oI (5 : Int32), oR b439, oU, oU] [(.int (119 : Int32)), (.int (0 : Int32)), (.ref b439)])) rfl rfl (hb hby at_104)
    have N440 := Fr.snoc X440 N215 ge439
    have K440 : Keep h0 h440 [] := K439.wr W440 (Or.inr fr439)
    have c440 : CHr Z own_EL _ h439 _ h440 := CHr.wr W440 (own_safeA hZ.alike Ar439 (by decide)) C439.1
    have C440 := C439.trans c440
    have kk440 := Nat.le_trans kk439 c440.2.1
    refine own_st (st440) ?_
    refine own_st (fun t_ k_ => XS.iconst X440.here hx rfl (hb hby at_105) (XS.istore X440.here hx rfl (hb hby at_106) rfl (l' := #[oI p0, oR r_215, oJ vv, oS, oI (0 : Int32), oI (5 : Int32), oR b439, oI (1 : Int32), oU]) rfl (XS.iload X440.here hx rfl (hb hby at_108) rfl (XS.ifYes X440.here hx rfl (pc0 := 110) (pc' := 122) rfl (hb hby at_110) rfl ((if0 _ _).trans (teq (by decide : (0 : Int32) = (0 : Int32))).1) (by decide) (by decide) (XS.aload X440.here hx rfl (hb hby at_122) rfl rfl (XS.iload X440.here hx rfl (hb hby at_124) rfl k_)))))) ?_
    show own_at p e below _ T440 m 126 #[oI p0, oR r_215, oJ vv, oS, oI (0 : Int32), oI (5 : Int32), oR b439, oI (1 : Int32), oU] [(.int (1 : Int32)), (.ref b439)]
    refine own_st (fun t_ k_ => XS.iload X440.here hx rfl (hb hby at_126) rfl (XS.iconst X440.here hx rfl (hb hby at_128) (XS.lloadN X440.here hx rfl (hb hby at_129) rfl (XS.lconst X440.here hx rfl (hb hby at_130) k_)))) ?_
    show own_at p e below _ T440 m 131 #[oI p0, oR r_215, oJ vv, oS, oI (0 : Int32), oI (5 : Int32), oR b439, oI (1 : Int32), oU] [(.long (1 : Int64)), (.long vv), (.int (0 : Int32)), (.int (5 : Int32)), (.int (1 : Int32)), (.ref b439)]
    obtain ⟨_, _, ⟨T441, L441, k441, n441⟩, -, X441, ⟨Lc441, hQ441, l441, y441, z441⟩, st441⟩ := Jvm.LawKit.callS X440 hx (y := own_n31) hown (mvT hZ (own_w hw 146 rfl)) (mvT hZ (own_w hw 147 rfl)) (mvT hZ (own_w hw 148 rfl)) (mvT hZ (own_w hw 149 rfl)) (by decide) (backOf (W := 0) (own_rm27y l Z a0 hw [] b439 (1 : Int32) (5 : Int32) (0 : Int32) vv (1 : Int64) k439 (own_upd (fun _ => (0 : Int32)) 0 (119 : Int32)) 5 h440 n0 (Nat.le_trans Z0 K440.1) Aw440 ge439 (by decide) (by decide) (by decide)) hZ (own_w hw 149 rfl) (own_w hw 148 rfl) (by decide) (by decide)) (g := (mkF m 131 #[oI p0, oR r_215, oJ vv, oS, oI (0 : Int32), oI (5 : Int32), oR b439, oI (1 : Int32), oU] [(.long (1 : Int64)), (.long vv), (.int (0 : Int32)), (.int (5 : Int32)), (.int (1 : Int32)), (.ref b439)])) rfl (by rw [hml]; rfl) (argsL := [(.ref b439), (.int (1 : Int32)), (.int (5 : Int32)), (.int (0 : Int32)), (.long vv), (.long (1 : Int64))]) (rest := []) (lenOf own_pd25 rfl) rfl (own_hW rfl) (hb hby at_131) (fun _ _ => ⟨rfl, e440, (by decide : 10 + 0 ≤ _), (by decide : 143 + 0 ≤ _)⟩)
    dsimp only [Pt.U, Pt.locs, Pt.cells, Pt.slots] at X441 l441 y441 z441 st441 hQ441
    subst y441 z441
    obtain ⟨rfl, N441q, Kq441, P441_0⟩ := hQ441
    have N441 : Fr n0 L441 := by rw [l441]; exact Fr.app N440 N441q
    have K441 : Keep h0 T441.heap [] := K440.trans Kq441 (allS (P := fun x => x ∈ [] ∨ h0.size ≤ x) (Or.inr fr439) all0)
    have c441 : CHr Z own_EL _ h440 _ T441.heap := CHr.keep Kq441 (own_slS (own_safeA hZ.alike Aw440 (by decide)) own_sl0) C440.1
    have C441 := C440.trans c441
    have kk441 := Nat.le_trans kk440 c441.2.1
    refine own_st (st441) ?_
    refine own_st (fun t_ k_ => XS.aload X441.here hx rfl (hb hby at_134) rfl rfl (XS.iload X441.here hx rfl (hb hby at_136) rfl (XS.iload X441.here hx rfl (hb hby at_138) rfl (XS.iconst X441.here hx rfl (hb hby at_140) (XS.lloadN X441.here hx rfl (hb hby at_141) rfl k_))))) ?_
    show own_at p e below _ T441 m 142 #[oI p0, oR r_215, oJ vv, oS, oI (0 : Int32), oI (5 : Int32), oR b439, oI (1 : Int32), oU] [(.long vv), (.int (1 : Int32)), (.int (5 : Int32)), (.int (1 : Int32)), (.ref b439)]
    refine own_st (X441.ldc2Long hx hown (mvT hZ (own_w hw 144 rfl)) (g := (mkF m 142 #[oI p0, oR r_215, oJ vv, oS, oI (0 : Int32), oI (5 : Int32), oR b439, oI (1 : Int32), oU] [(.long vv), (.int (1 : Int32)), (.int (5 : Int32)), (.int (1 : Int32)), (.ref b439)])) rfl (hb hby at_142)) ?_
    show own_at p e below _ T441 m 145 #[oI p0, oR r_215, oJ vv, oS, oI (0 : Int32), oI (5 : Int32), oR b439, oI (1 : Int32), oU] [(.long (36 : Int64)), (.long vv), (.int (1 : Int32)), (.int (5 : Int32)), (.int (1 : Int32)), (.ref b439)]
    obtain ⟨_, _, ⟨T442, L442, k442, n442⟩, -, X442, ⟨Lc442, hQ442, l442, y442, z442⟩, st442⟩ := Jvm.LawKit.callS X441 hx (y := own_n31) hown (mvT hZ (own_w hw 146 rfl)) (mvT hZ (own_w hw 147 rfl)) (mvT hZ (own_w hw 148 rfl)) (mvT hZ (own_w hw 149 rfl)) (by decide) (backOf (W := 0) (own_rm27y l Z a0 hw [] b439 (1 : Int32) (5 : Int32) (1 : Int32) vv (36 : Int64) k439 (own_upd (own_upd (fun _ => (0 : Int32)) 0 (119 : Int32)) 5 (own_dig ((vv / (1 : Int64)) % (36 : Int64)))) 4 T441.heap n0 (Nat.le_trans Z0 K441.1) P441_0 ge439 (by decide) (by decide) (by decide)) hZ (own_w hw 149 rfl) (own_w hw 148 rfl) (by decide) (by decide)) (g := (mkF m 145 #[oI p0, oR r_215, oJ vv, oS, oI (0 : Int32), oI (5 : Int32), oR b439, oI (1 : Int32), oU] [(.long (36 : Int64)), (.long vv), (.int (1 : Int32)), (.int (5 : Int32)), (.int (1 : Int32)), (.ref b439)])) rfl (by rw [hml]; rfl) (argsL := [(.ref b439), (.int (1 : Int32)), (.int (5 : Int32)), (.int (1 : Int32)), (.long vv), (.long (36 : Int64))]) (rest := []) (lenOf own_pd25 rfl) rfl (own_hW rfl) (hb hby at_145) (fun _ _ => ⟨rfl, rfl, (by decide : 10 + 0 ≤ _), (by decide : 143 + 0 ≤ _)⟩)
    dsimp only [Pt.U, Pt.locs, Pt.cells, Pt.slots] at X442 l442 y442 z442 st442 hQ442
    subst y442 z442
    obtain ⟨rfl, N442q, Kq442, P442_0⟩ := hQ442
    have N442 : Fr n0 L442 := by rw [l442]; exact Fr.app N441 N442q
    have K442 : Keep h0 T442.heap [] := K441.trans Kq442 (allS (P := fun x => x ∈ [] ∨ h0.size ≤ x) (Or.inr fr439) all0)
    have c442 : CHr Z own_EL _ T441.heap _ T442.heap := CHr.keep Kq442 (own_slS (own_safeA hZ.alike P441_0 (by decide)) own_sl0) C441.1
    have C442 := C441.trans c442
    have kk442 := Nat.le_trans kk441 c442.2.1
    refine own_st (st442) ?_
    refine own_st (fun t_ k_ => XS.aload X442.here hx rfl (hb hby at_148) rfl rfl (XS.iload X442.here hx rfl (hb hby at_150) rfl (XS.iload X442.here hx rfl (hb hby at_152) rfl (XS.iconst X442.here hx rfl (hb hby at_154) (XS.lloadN X442.here hx rfl (hb hby at_155) rfl k_))))) ?_
    show own_at p e below _ T442 m 156 #[oI p0, oR r_215, oJ vv, oS, oI (0 : Int32), oI (5 : Int32), oR b439, oI (1 : Int32), oU] [(.long vv), (.int (2 : Int32)), (.int (5 : Int32)), (.int (1 : Int32)), (.ref b439)]
    refine own_st (X442.ldc2Long hx hown (mvT hZ (own_w hw 155 rfl)) (g := (mkF m 156 #[oI p0, oR r_215, oJ vv, oS, oI (0 : Int32), oI (5 : Int32), oR b439, oI (1 : Int32), oU] [(.long vv), (.int (2 : Int32)), (.int (5 : Int32)), (.int (1 : Int32)), (.ref b439)])) rfl (hb hby at_156)) ?_
    show own_at p e below _ T442 m 159 #[oI p0, oR r_215, oJ vv, oS, oI (0 : Int32), oI (5 : Int32), oR b439, oI (1 : Int32), oU] [(.long (1296 : Int64)), (.long vv), (.int (2 : Int32)), (.int (5 : Int32)), (.int (1 : Int32)), (.ref b439)]
    obtain ⟨_, _, ⟨T443, L443, k443, n443⟩, -, X443, ⟨Lc443, hQ443, l443, y443, z443⟩, st443⟩ := Jvm.LawKit.callS X442 hx (y := own_n31) hown (mvT hZ (own_w hw 146 rfl)) (mvT hZ (own_w hw 147 rfl)) (mvT hZ (own_w hw 148 rfl)) (mvT hZ (own_w hw 149 rfl)) (by decide) (backOf (W := 0) (own_rm27y l Z a0 hw [] b439 (1 : Int32) (5 : Int32) (2 : Int32) vv (1296 : Int64) k439 (own_upd (own_upd (own_upd (fun _ => (0 : Int32)) 0 (119 : Int32)) 5 (own_dig ((vv / (1 : Int64)) % (36 : Int64)))) 4 (own_dig ((vv / (36 : Int64)) % (36 : Int64)))) 3 T442.heap n0 (Nat.le_trans Z0 K442.1) P442_0 ge439 (by decide) (by decide) (by decide)) hZ (own_w hw 149 rfl) (own_w hw 148 rfl) (by decide) (by decide)) (g := (mkF m 159 #[oI p0, oR r_215, oJ vv, oS, oI (0 : Int32), oI (5 : Int32), oR b439, oI (1 : Int32), oU] [(.long (1296 : Int64)), (.long vv), (.int (2 : Int32)), (.int (5 : Int32)), (.int (1 : Int32)), (.ref b439)])) rfl (by rw [hml]; rfl) (argsL := [(.ref b439), (.int (1 : Int32)), (.int (5 : Int32)), (.int (2 : Int32)), (.long vv), (.long (1296 : Int64))]) (rest := []) (lenOf own_pd25 rfl) rfl (own_hW rfl) (hb hby at_159) (fun _ _ => ⟨rfl, rfl, (by decide : 10 + 0 ≤ _), (by decide : 143 + 0 ≤ _)⟩)
    dsimp only [Pt.U, Pt.locs, Pt.cells, Pt.slots] at X443 l443 y443 z443 st443 hQ443
    subst y443 z443
    obtain ⟨rfl, N443q, Kq443, P443_0⟩ := hQ443
    have N443 : Fr n0 L443 := by rw [l443]; exact Fr.app N442 N443q
    have K443 : Keep h0 T443.heap [] := K442.trans Kq443 (allS (P := fun x => x ∈ [] ∨ h0.size ≤ x) (Or.inr fr439) all0)
    have c443 : CHr Z own_EL _ T442.heap _ T443.heap := CHr.keep Kq443 (own_slS (own_safeA hZ.alike P442_0 (by decide)) own_sl0) C442.1
    have C443 := C442.trans c443
    have kk443 := Nat.le_trans kk442 c443.2.1
    refine own_st (st443) ?_
    refine own_st (fun t_ k_ => XS.aload X443.here hx rfl (hb hby at_162) rfl rfl (XS.iload X443.here hx rfl (hb hby at_164) rfl (XS.iload X443.here hx rfl (hb hby at_166) rfl (XS.iconst X443.here hx rfl (hb hby at_168) (XS.lloadN X443.here hx rfl (hb hby at_169) rfl k_))))) ?_
    show own_at p e below _ T443 m 170 #[oI p0, oR r_215, oJ vv, oS, oI (0 : Int32), oI (5 : Int32), oR b439, oI (1 : Int32), oU] [(.long vv), (.int (3 : Int32)), (.int (5 : Int32)), (.int (1 : Int32)), (.ref b439)]
    refine own_st (X443.ldc2Long hx hown (mvT hZ (own_w hw 156 rfl)) (g := (mkF m 170 #[oI p0, oR r_215, oJ vv, oS, oI (0 : Int32), oI (5 : Int32), oR b439, oI (1 : Int32), oU] [(.long vv), (.int (3 : Int32)), (.int (5 : Int32)), (.int (1 : Int32)), (.ref b439)])) rfl (hb hby at_170)) ?_
    show own_at p e below _ T443 m 173 #[oI p0, oR r_215, oJ vv, oS, oI (0 : Int32), oI (5 : Int32), oR b439, oI (1 : Int32), oU] [(.long (46656 : Int64)), (.long vv), (.int (3 : Int32)), (.int (5 : Int32)), (.int (1 : Int32)), (.ref b439)]
    obtain ⟨_, _, ⟨T444, L444, k444, n444⟩, -, X444, ⟨Lc444, hQ444, l444, y444, z444⟩, st444⟩ := Jvm.LawKit.callS X443 hx (y := own_n31) hown (mvT hZ (own_w hw 146 rfl)) (mvT hZ (own_w hw 147 rfl)) (mvT hZ (own_w hw 148 rfl)) (mvT hZ (own_w hw 149 rfl)) (by decide) (backOf (W := 0) (own_rm27y l Z a0 hw [] b439 (1 : Int32) (5 : Int32) (3 : Int32) vv (46656 : Int64) k439 (own_upd (own_upd (own_upd (own_upd (fun _ => (0 : Int32)) 0 (119 : Int32)) 5 (own_dig ((vv / (1 : Int64)) % (36 : Int64)))) 4 (own_dig ((vv / (36 : Int64)) % (36 : Int64)))) 3 (own_dig ((vv / (1296 : Int64)) % (36 : Int64)))) 2 T443.heap n0 (Nat.le_trans Z0 K443.1) P443_0 ge439 (by decide) (by decide) (by decide)) hZ (own_w hw 149 rfl) (own_w hw 148 rfl) (by decide) (by decide)) (g := (mkF m 173 #[oI p0, oR r_215, oJ vv, oS, oI (0 : Int32), oI (5 : Int32), oR b439, oI (1 : Int32), oU] [(.long (46656 : Int64)), (.long vv), (.int (3 : Int32)), (.int (5 : Int32)), (.int (1 : Int32)), (.ref b439)])) rfl (by rw [hml]; rfl) (argsL := [(.ref b439), (.int (1 : Int32)), (.int (5 : Int32)), (.int (3 : Int32)), (.long vv), (.long (46656 : Int64))]) (rest := []) (lenOf own_pd25 rfl) rfl (own_hW rfl) (hb hby at_173) (fun _ _ => ⟨rfl, rfl, (by decide : 10 + 0 ≤ _), (by decide : 143 + 0 ≤ _)⟩)
    dsimp only [Pt.U, Pt.locs, Pt.cells, Pt.slots] at X444 l444 y444 z444 st444 hQ444
    subst y444 z444
    obtain ⟨rfl, N444q, Kq444, P444_0⟩ := hQ444
    have N444 : Fr n0 L444 := by rw [l444]; exact Fr.app N443 N444q
    have K444 : Keep h0 T444.heap [] := K443.trans Kq444 (allS (P := fun x => x ∈ [] ∨ h0.size ≤ x) (Or.inr fr439) all0)
    have c444 : CHr Z own_EL _ T443.heap _ T444.heap := CHr.keep Kq444 (own_slS (own_safeA hZ.alike P443_0 (by decide)) own_sl0) C443.1
    have C444 := C443.trans c444
    have kk444 := Nat.le_trans kk443 c444.2.1
    refine own_st (st444) ?_
    refine own_st (fun t_ k_ => XS.aload X444.here hx rfl (hb hby at_176) rfl rfl (XS.iload X444.here hx rfl (hb hby at_178) rfl (XS.iload X444.here hx rfl (hb hby at_180) rfl (XS.iconst X444.here hx rfl (hb hby at_182) (XS.lloadN X444.here hx rfl (hb hby at_183) rfl k_))))) ?_
    show own_at p e below _ T444 m 184 #[oI p0, oR r_215, oJ vv, oS, oI (0 : Int32), oI (5 : Int32), oR b439, oI (1 : Int32), oU] [(.long vv), (.int (4 : Int32)), (.int (5 : Int32)), (.int (1 : Int32)), (.ref b439)]
    refine own_st (X444.ldc2Long hx hown (mvT hZ (own_w hw 157 rfl)) (g := (mkF m 184 #[oI p0, oR r_215, oJ vv, oS, oI (0 : Int32), oI (5 : Int32), oR b439, oI (1 : Int32), oU] [(.long vv), (.int (4 : Int32)), (.int (5 : Int32)), (.int (1 : Int32)), (.ref b439)])) rfl (hb hby at_184)) ?_
    show own_at p e below _ T444 m 187 #[oI p0, oR r_215, oJ vv, oS, oI (0 : Int32), oI (5 : Int32), oR b439, oI (1 : Int32), oU] [(.long (1679616 : Int64)), (.long vv), (.int (4 : Int32)), (.int (5 : Int32)), (.int (1 : Int32)), (.ref b439)]
    obtain ⟨_, _, ⟨T445, L445, k445, n445⟩, -, X445, ⟨Lc445, hQ445, l445, y445, z445⟩, st445⟩ := Jvm.LawKit.callS X444 hx (y := own_n31) hown (mvT hZ (own_w hw 146 rfl)) (mvT hZ (own_w hw 147 rfl)) (mvT hZ (own_w hw 148 rfl)) (mvT hZ (own_w hw 149 rfl)) (by decide) (backOf (W := 0) (own_rm27y l Z a0 hw [] b439 (1 : Int32) (5 : Int32) (4 : Int32) vv (1679616 : Int64) k439 (own_upd (own_upd (own_upd (own_upd (own_upd (fun _ => (0 : Int32)) 0 (119 : Int32)) 5 (own_dig ((vv / (1 : Int64)) % (36 : Int64)))) 4 (own_dig ((vv / (36 : Int64)) % (36 : Int64)))) 3 (own_dig ((vv / (1296 : Int64)) % (36 : Int64)))) 2 (own_dig ((vv / (46656 : Int64)) % (36 : Int64)))) 1 T444.heap n0 (Nat.le_trans Z0 K444.1) P444_0 ge439 (by decide) (by decide) (by decide)) hZ (own_w hw 149 rfl) (own_w hw 148 rfl) (by decide) (by decide)) (g := (mkF m 187 #[oI p0, oR r_215, oJ vv, oS, oI (0 : Int32), oI (5 : Int32), oR b439, oI (1 : Int32), oU] [(.long (1679616 : Int64)), (.long vv), (.int (4 : Int32)), (.int (5 : Int32)), (.int (1 : Int32)), (.ref b439)])) rfl (by rw [hml]; rfl) (argsL := [(.ref b439), (.int (1 : Int32)), (.int (5 : Int32)), (.int (4 : Int32)), (.long vv), (.long (1679616 : Int64))]) (rest := []) (lenOf own_pd25 rfl) rfl (own_hW rfl) (hb hby at_187) (fun _ _ => ⟨rfl, rfl, (by decide : 10 + 0 ≤ _), (by decide : 143 + 0 ≤ _)⟩)
    dsimp only [Pt.U, Pt.locs, Pt.cells, Pt.slots] at X445 l445 y445 z445 st445 hQ445
    subst y445 z445
    obtain ⟨rfl, N445q, Kq445, P445_0⟩ := hQ445
    have N445 : Fr n0 L445 := by rw [l445]; exact Fr.app N444 N445q
    have K445 : Keep h0 T445.heap [] := K444.trans Kq445 (allS (P := fun x => x ∈ [] ∨ h0.size ≤ x) (Or.inr fr439) all0)
    have c445 : CHr Z own_EL _ T444.heap _ T445.heap := CHr.keep Kq445 (own_slS (own_safeA hZ.alike P444_0 (by decide)) own_sl0) C444.1
    have C445 := C444.trans c445
    have kk445 := Nat.le_trans kk444 c445.2.1
    refine own_st (st445) ?_
    refine own_st (fun t_ k_ => XS.aload X445.here hx rfl (hb hby at_190) rfl rfl (XS.iload X445.here hx rfl (hb hby at_192) rfl (XS.iload X445.here hx rfl (hb hby at_194) rfl (XS.iconst X445.here hx rfl (hb hby at_196) (XS.lloadN X445.here hx rfl (hb hby at_197) rfl k_))))) ?_
    show own_at p e below _ T445 m 198 #[oI p0, oR r_215, oJ vv, oS, oI (0 : Int32), oI (5 : Int32), oR b439, oI (1 : Int32), oU] [(.long vv), (.int (5 : Int32)), (.int (5 : Int32)), (.int (1 : Int32)), (.ref b439)]
    refine own_st (X445.ldc2Long hx hown (mvT hZ (own_w hw 158 rfl)) (g := (mkF m 198 #[oI p0, oR r_215, oJ vv, oS, oI (0 : Int32), oI (5 : Int32), oR b439, oI (1 : Int32), oU] [(.long vv), (.int (5 : Int32)), (.int (5 : Int32)), (.int (1 : Int32)), (.ref b439)])) rfl (hb hby at_198)) ?_
    show own_at p e below _ T445 m 201 #[oI p0, oR r_215, oJ vv, oS, oI (0 : Int32), oI (5 : Int32), oR b439, oI (1 : Int32), oU] [(.long (60466176 : Int64)), (.long vv), (.int (5 : Int32)), (.int (5 : Int32)), (.int (1 : Int32)), (.ref b439)]
    obtain ⟨_, _, ⟨T446, L446, k446, n446⟩, -, X446, ⟨Lc446, hQ446, l446, y446, z446⟩, st446⟩ := Jvm.LawKit.callS X445 hx (y := own_n31) hown (mvT hZ (own_w hw 146 rfl)) (mvT hZ (own_w hw 147 rfl)) (mvT hZ (own_w hw 148 rfl)) (mvT hZ (own_w hw 149 rfl)) (by decide) (backOf (W := 0) (own_rm27n l Z a0 hw [] b439 (1 : Int32) (5 : Int32) (5 : Int32) vv (60466176 : Int64) T445.heap n0 (Nat.le_trans Z0 K445.1) (by decide)) hZ (own_w hw 149 rfl) (own_w hw 148 rfl) (by decide) (by decide)) (g := (mkF m 201 #[oI p0, oR r_215, oJ vv, oS, oI (0 : Int32), oI (5 : Int32), oR b439, oI (1 : Int32), oU] [(.long (60466176 : Int64)), (.long vv), (.int (5 : Int32)), (.int (5 : Int32)), (.int (1 : Int32)), (.ref b439)])) rfl (by rw [hml]; rfl) (argsL := [(.ref b439), (.int (1 : Int32)), (.int (5 : Int32)), (.int (5 : Int32)), (.long vv), (.long (60466176 : Int64))]) (rest := []) (lenOf own_pd25 rfl) rfl (own_hW rfl) (hb hby at_201) (fun _ _ => ⟨rfl, rfl, (by decide : 10 + 0 ≤ _), (by decide : 143 + 0 ≤ _)⟩)
    dsimp only [Pt.U, Pt.locs, Pt.cells, Pt.slots] at X446 l446 y446 z446 st446 hQ446
    subst y446 z446
    obtain ⟨rfl, N446q, eq446⟩ := hQ446
    have N446 : Fr n0 L446 := by rw [l446]; exact Fr.app N445 N446q
    refine own_st (st446) ?_
    refine own_st (fun t_ k_ => XS.iload X446.here hx rfl (hb hby at_204) rfl (XS.iload X446.here hx rfl (hb hby at_206) rfl (XS.iadd X446.here hx rfl (hb hby at_208) rfl k_))) ?_
    show own_at p e below _ T446 m 209 #[oI p0, oR r_215, oJ vv, oS, oI (0 : Int32), oI (5 : Int32), oR b439, oI (1 : Int32), oU] [(.int ((1 : Int32) + (5 : Int32)))]
    rw [show ((1 : Int32) + (5 : Int32)) = (6 : Int32) from (by decide)]
    refine own_st (fun t_ k_ => XS.istore X446.here hx rfl (hb hby at_209) rfl (l' := #[oI p0, oR r_215, oJ vv, oS, oI (0 : Int32), oI (5 : Int32), oR b439, oI (1 : Int32), oI (6 : Int32)]) rfl (XS.aloadN X446.here hx rfl (hb hby at_211) rfl rfl k_)) ?_
    show own_at p e below _ T446 m 212 #[oI p0, oR r_215, oJ vv, oS, oI (0 : Int32), oI (5 : Int32), oR b439, oI (1 : Int32), oI (6 : Int32)] [(.ref r_215)]
    have f447 : Fld Z T445.heap r_215 "java/lang/String" "value" "[B" (.ref t_215) := (((((((P215_2.ext E439).other W440 (Or.inl (Nat.ne_of_lt (Nat.lt_of_lt_of_le P215_1.lt (Nat.le_of_eq g439.symm))))).keep Kq441 (ninS (Nat.ne_of_lt (Nat.lt_of_lt_of_le P215_1.lt (Nat.le_of_eq g439.symm))) nin0)).keep Kq442 (ninS (Nat.ne_of_lt (Nat.lt_of_lt_of_le P215_1.lt (Nat.le_of_eq g439.symm))) nin0)).keep Kq443 (ninS (Nat.ne_of_lt (Nat.lt_of_lt_of_le P215_1.lt (Nat.le_of_eq g439.symm))) nin0)).keep Kq444 (ninS (Nat.ne_of_lt (Nat.lt_of_lt_of_le P215_1.lt (Nat.le_of_eq g439.symm))) nin0)).keep Kq445 (ninS (Nat.ne_of_lt (Nat.lt_of_lt_of_le P215_1.lt (Nat.le_of_eq g439.symm))) nin0))
    have f448 : Fld Z T445.heap r_215 "java/lang/String" "coder" "B" (.int (0 : Int32)) := (((((((P215_3.ext E439).other W440 (Or.inl (Nat.ne_of_lt (Nat.lt_of_lt_of_le P215_1.lt (Nat.le_of_eq g439.symm))))).keep Kq441 (ninS (Nat.ne_of_lt (Nat.lt_of_lt_of_le P215_1.lt (Nat.le_of_eq g439.symm))) nin0)).keep Kq442 (ninS (Nat.ne_of_lt (Nat.lt_of_lt_of_le P215_1.lt (Nat.le_of_eq g439.symm))) nin0)).keep Kq443 (ninS (Nat.ne_of_lt (Nat.lt_of_lt_of_le P215_1.lt (Nat.le_of_eq g439.symm))) nin0)).keep Kq444 (ninS (Nat.ne_of_lt (Nat.lt_of_lt_of_le P215_1.lt (Nat.le_of_eq g439.symm))) nin0)).keep Kq445 (ninS (Nat.ne_of_lt (Nat.lt_of_lt_of_le P215_1.lt (Nat.le_of_eq g439.symm))) nin0))
    have f449 : own_A Z T445.heap t_215 kt_215 .byte (own_bl (0 : Int32) 6) (fun i => .int ((own_by (0 : Int32) (own_ws 0 5 V)) i)) := (((((((As.ext E439).other W440 (Nat.ne_of_lt (Nat.lt_of_lt_of_le As.lt (Nat.le_of_eq g439.symm)))).keep Kq441 (ninS (Nat.ne_of_lt (Nat.lt_of_lt_of_le As.lt (Nat.le_of_eq g439.symm))) nin0)).keep Kq442 (ninS (Nat.ne_of_lt (Nat.lt_of_lt_of_le As.lt (Nat.le_of_eq g439.symm))) nin0)).keep Kq443 (ninS (Nat.ne_of_lt (Nat.lt_of_lt_of_le As.lt (Nat.le_of_eq g439.symm))) nin0)).keep Kq444 (ninS (Nat.ne_of_lt (Nat.lt_of_lt_of_le As.lt (Nat.le_of_eq g439.symm))) nin0)).keep Kq445 (ninS (Nat.ne_of_lt (Nat.lt_of_lt_of_le As.lt (Nat.le_of_eq g439.symm))) nin0))
    have f450 : Old Z n0 T445.heap := ((((((((q0.keep Kq215 all0).ext E439).wr W440 ge439).keep Kq441 (allS ge439 all0)).keep Kq442 (allS ge439 all0)).keep Kq443 (allS ge439 all0)).keep Kq444 (allS ge439 all0)).keep Kq445 (allS ge439 all0))
    obtain ⟨cq451, kq451, q451a, q451b, q451c⟩ := isOf hZ eq446 (((((((P215_1.ext E439).wr W440).keep Kq441).keep Kq442).keep Kq443).keep Kq444).keep Kq445)
    obtain ⟨_, _, ⟨T451, L451, k451, n451⟩, -, X451, ⟨Lc451, hQ451, l451, y451, z451⟩, st451⟩ := X446.virtualBack hx (y := own_n6) (z := own_n6) hown (mvT hZ (own_w hw 159 rfl)) (mvT hZ (own_w hw 43 rfl)) (notFace_of_selects (args := #[]) (mvT hZ (own_w hw 45 rfl))) (mvT hZ (own_w hw 45 rfl)) (mvT hZ (own_w hw 44 rfl)) (by decide) (backOf (W := 0) (own_rm7 l Z a0 hw [] r_215 t_215 kt_215 (own_bl (0 : Int32) 6) (own_by (0 : Int32) (own_ws 0 5 V)) G1 T445.heap n0 (Nat.le_trans Z0 K445.1) (((((((P215_1.ext E439).wr W440).keep Kq441).keep Kq442).keep Kq443).keep Kq444).keep Kq445) f447 f448 f449 f450 q1 hG1) hZ (own_w hw 46 rfl) (own_w hw 20 rfl) (by decide) (by decide)) q451a q451c (g := (mkF m 212 #[oI p0, oR r_215, oJ vv, oS, oI (0 : Int32), oI (5 : Int32), oR b439, oI (1 : Int32), oI (6 : Int32)] [(.ref r_215)])) rfl (by rw [hml]; rfl) (Steps.refl _) (argsL := []) (rest := []) (lenOf own_pd8 rfl) rfl (own_hW rfl) (hb hby at_212) (fun _ _ => ⟨rfl, eq446, (by decide : 10 + 0 ≤ _), (by decide : 143 + 0 ≤ _)⟩)
    dsimp only [Pt.U, Pt.locs, Pt.cells, Pt.slots] at X451 l451 y451 z451 st451 hQ451
    subst y451 z451
    obtain ⟨rfl, N451q, eq451⟩ := hQ451
    have N451 : Fr n0 L451 := by rw [l451]; exact Fr.app N446 N451q
    refine own_tr st451 ?_
    refine own_st (fun t_ k_ => XS.iload X451.here hx rfl (hb hby at_215) rfl (XS.icmpYes X451.here hx rfl (pc0 := 217) (pc' := 222) rfl (hb hby at_217) rfl (teq (by decide : (Int32.ofNat (own_bl (0 : Int32) 6)) = (6 : Int32))).1 (by decide) (by decide) k_)) ?_
    show own_at p e below _ T451 m 222 #[oI p0, oR r_215, oJ vv, oS, oI (0 : Int32), oI (5 : Int32), oR b439, oI (1 : Int32), oI (6 : Int32)] []
    obtain ⟨gg, hgg⟩ : ∃ f_ : Nat → Int32, f_ = (own_upd (own_upd (own_upd (own_upd (own_upd (own_upd (fun _ => (0 : Int32)) 0 (119 : Int32)) 5 (own_dig ((vv / (1 : Int64)) % (36 : Int64)))) 4 (own_dig ((vv / (36 : Int64)) % (36 : Int64)))) 3 (own_dig ((vv / (1296 : Int64)) % (36 : Int64)))) 2 (own_dig ((vv / (46656 : Int64)) % (36 : Int64)))) 1 (own_dig ((vv / (1679616 : Int64)) % (36 : Int64)))) := ⟨_, rfl⟩
    have Agg : own_A Z T445.heap b439 k439 .char 8 (fun i => .int (gg i)) := by rw [hgg]; exact P445_0
    have eg0 : own_ws 0 5 V 0 = gg 0 := by rw [hgg]; exact rfl.symm
    have eg1 : own_ws 0 5 V 1 = gg 1 := by rw [hgg]; exact (show own_dig ((vv / (1679616 : Int64)) % (36 : Int64)) = own_ws 0 5 V 1 from (own_dd hv (by decide : (1679616 : Int64).toInt = ((1679616 : Nat) : Int)) (by decide)).trans (by unfold own_ws own_tb; rw [if_neg (by decide), if_neg (by decide)])).symm
    have eg2 : own_ws 0 5 V 2 = gg 2 := by rw [hgg]; exact (show own_dig ((vv / (46656 : Int64)) % (36 : Int64)) = own_ws 0 5 V 2 from (own_dd hv (by decide : (46656 : Int64).toInt = ((46656 : Nat) : Int)) (by decide)).trans (by unfold own_ws own_tb; rw [if_neg (by decide), if_neg (by decide)])).symm
    have eg3 : own_ws 0 5 V 3 = gg 3 := by rw [hgg]; exact (show own_dig ((vv / (1296 : Int64)) % (36 : Int64)) = own_ws 0 5 V 3 from (own_dd hv (by decide : (1296 : Int64).toInt = ((1296 : Nat) : Int)) (by decide)).trans (by unfold own_ws own_tb; rw [if_neg (by decide), if_neg (by decide)])).symm
    have eg4 : own_ws 0 5 V 4 = gg 4 := by rw [hgg]; exact (show own_dig ((vv / (36 : Int64)) % (36 : Int64)) = own_ws 0 5 V 4 from (own_dd hv (by decide : (36 : Int64).toInt = ((36 : Nat) : Int)) (by decide)).trans (by unfold own_ws own_tb; rw [if_neg (by decide), if_neg (by decide)])).symm
    have eg5 : own_ws 0 5 V 5 = gg 5 := by rw [hgg]; exact (show own_dig ((vv / (1 : Int64)) % (36 : Int64)) = own_ws 0 5 V 5 from (own_dd hv (by decide : (1 : Int64).toInt = ((1 : Nat) : Int)) (by decide)).trans (by unfold own_ws own_tb; rw [if_neg (by decide), if_neg (by decide)])).symm
    refine own_st (fun t_ k_ => XS.aloadN X451.here hx rfl (hb hby at_222) rfl rfl (XS.aload X451.here hx rfl (hb hby at_223) rfl rfl (XS.iload X451.here hx rfl (hb hby at_225) rfl (XS.iconst X451.here hx rfl (hb hby at_227) k_)))) ?_
    show own_at p e below _ T451 m 228 #[oI p0, oR r_215, oJ vv, oS, oI (0 : Int32), oI (5 : Int32), oR b439, oI (1 : Int32), oI (6 : Int32)] [(.int (0 : Int32)), (.int (6 : Int32)), (.ref b439), (.ref r_215)]
    obtain ⟨_, _, ⟨T452, L452, k452, n452⟩, -, X452, ⟨Lc452, hQ452, l452, y452, z452⟩, st452⟩ := Jvm.LawKit.callS X451 hx (y := own_n32) hown (mvT hZ (own_w hw 160 rfl)) (mvT hZ (own_w hw 161 rfl)) (mvT hZ (own_w hw 148 rfl)) (mvT hZ (own_w hw 162 rfl)) (by decide) (backOf (W := 0) (own_rm29y l Z a0 hw [] r_215 b439 (6 : Int32) (0 : Int32) t_215 kt_215 6 (own_ws 0 5 V) k439 gg 0 G1 G3 T445.heap n0 (Nat.le_trans Z0 K445.1) (((((((P215_1.ext E439).wr W440).keep Kq441).keep Kq442).keep Kq443).keep Kq444).keep Kq445) f447 f448 f449 hcd rfl f450 q1 hG1 q3 rG3 Agg (by decide) (by decide) (by decide) ⟨(own_ws7 _ _ _ _).1, Int.le_trans (own_ws7 _ _ _ _).2 (by decide)⟩ eg0) hZ (own_w hw 162 rfl) (own_w hw 148 rfl) (by decide) (by decide)) (g := (mkF m 228 #[oI p0, oR r_215, oJ vv, oS, oI (0 : Int32), oI (5 : Int32), oR b439, oI (1 : Int32), oI (6 : Int32)] [(.int (0 : Int32)), (.int (6 : Int32)), (.ref b439), (.ref r_215)])) rfl (by rw [hml]; rfl) (argsL := [(.ref r_215), (.ref b439), (.int (6 : Int32)), (.int (0 : Int32))]) (rest := []) (lenOf own_pd26 rfl) rfl (own_hW rfl) (hb hby at_228) (fun _ _ => ⟨rfl, eq451, (by decide : 10 + 0 ≤ _), (by decide : 143 + 0 ≤ _)⟩)
    dsimp only [Pt.U, Pt.locs, Pt.cells, Pt.slots] at X452 l452 y452 z452 st452 hQ452
    subst y452 z452
    obtain ⟨rfl, N452q, eq452⟩ := hQ452
    have N452 : Fr n0 L452 := by rw [l452]; exact Fr.app N451 N452q
    refine own_st (st452) ?_
    refine own_st (fun t_ k_ => XS.ifNo X452.here hx rfl (hb hby at_231) rfl ((if0 _ _).trans (feq (by decide : ¬ ((1 : Int32) = (0 : Int32)))).1) (XS.aloadN X452.here hx rfl (hb hby at_234) rfl rfl (XS.aload X452.here hx rfl (hb hby at_235) rfl rfl (XS.iload X452.here hx rfl (hb hby at_237) rfl (XS.iconst X452.here hx rfl (hb hby at_239) k_))))) ?_
    show own_at p e below _ T452 m 240 #[oI p0, oR r_215, oJ vv, oS, oI (0 : Int32), oI (5 : Int32), oR b439, oI (1 : Int32), oI (6 : Int32)] [(.int (1 : Int32)), (.int (6 : Int32)), (.ref b439), (.ref r_215)]
    obtain ⟨_, _, ⟨T453, L453, k453, n453⟩, -, X453, ⟨Lc453, hQ453, l453, y453, z453⟩, st453⟩ := Jvm.LawKit.callS X452 hx (y := own_n32) hown (mvT hZ (own_w hw 160 rfl)) (mvT hZ (own_w hw 161 rfl)) (mvT hZ (own_w hw 148 rfl)) (mvT hZ (own_w hw 162 rfl)) (by decide) (backOf (W := 0) (own_rm29y l Z a0 hw [] r_215 b439 (6 : Int32) (1 : Int32) t_215 kt_215 6 (own_ws 0 5 V) k439 gg 1 G1 G3 T445.heap n0 (Nat.le_trans Z0 K445.1) (((((((P215_1.ext E439).wr W440).keep Kq441).keep Kq442).keep Kq443).keep Kq444).keep Kq445) f447 f448 f449 hcd rfl f450 q1 hG1 q3 rG3 Agg (by decide) (by decide) (by decide) ⟨(own_ws7 _ _ _ _).1, Int.le_trans (own_ws7 _ _ _ _).2 (by decide)⟩ eg1) hZ (own_w hw 162 rfl) (own_w hw 148 rfl) (by decide) (by decide)) (g := (mkF m 240 #[oI p0, oR r_215, oJ vv, oS, oI (0 : Int32), oI (5 : Int32), oR b439, oI (1 : Int32), oI (6 : Int32)] [(.int (1 : Int32)), (.int (6 : Int32)), (.ref b439), (.ref r_215)])) rfl (by rw [hml]; rfl) (argsL := [(.ref r_215), (.ref b439), (.int (6 : Int32)), (.int (1 : Int32))]) (rest := []) (lenOf own_pd26 rfl) rfl (own_hW rfl) (hb hby at_240) (fun _ _ => ⟨rfl, eq452, (by decide : 10 + 0 ≤ _), (by decide : 143 + 0 ≤ _)⟩)
    dsimp only [Pt.U, Pt.locs, Pt.cells, Pt.slots] at X453 l453 y453 z453 st453 hQ453
    subst y453 z453
    obtain ⟨rfl, N453q, eq453⟩ := hQ453
    have N453 : Fr n0 L453 := by rw [l453]; exact Fr.app N452 N453q
    refine own_st (st453) ?_
    refine own_st (fun t_ k_ => XS.ifNo X453.here hx rfl (hb hby at_243) rfl ((if0 _ _).trans (feq (by decide : ¬ ((1 : Int32) = (0 : Int32)))).1) (XS.aloadN X453.here hx rfl (hb hby at_246) rfl rfl (XS.aload X453.here hx rfl (hb hby at_247) rfl rfl (XS.iload X453.here hx rfl (hb hby at_249) rfl (XS.iconst X453.here hx rfl (hb hby at_251) k_))))) ?_
    show own_at p e below _ T453 m 252 #[oI p0, oR r_215, oJ vv, oS, oI (0 : Int32), oI (5 : Int32), oR b439, oI (1 : Int32), oI (6 : Int32)] [(.int (2 : Int32)), (.int (6 : Int32)), (.ref b439), (.ref r_215)]
    obtain ⟨_, _, ⟨T454, L454, k454, n454⟩, -, X454, ⟨Lc454, hQ454, l454, y454, z454⟩, st454⟩ := Jvm.LawKit.callS X453 hx (y := own_n32) hown (mvT hZ (own_w hw 160 rfl)) (mvT hZ (own_w hw 161 rfl)) (mvT hZ (own_w hw 148 rfl)) (mvT hZ (own_w hw 162 rfl)) (by decide) (backOf (W := 0) (own_rm29y l Z a0 hw [] r_215 b439 (6 : Int32) (2 : Int32) t_215 kt_215 6 (own_ws 0 5 V) k439 gg 2 G1 G3 T445.heap n0 (Nat.le_trans Z0 K445.1) (((((((P215_1.ext E439).wr W440).keep Kq441).keep Kq442).keep Kq443).keep Kq444).keep Kq445) f447 f448 f449 hcd rfl f450 q1 hG1 q3 rG3 Agg (by decide) (by decide) (by decide) ⟨(own_ws7 _ _ _ _).1, Int.le_trans (own_ws7 _ _ _ _).2 (by decide)⟩ eg2) hZ (own_w hw 162 rfl) (own_w hw 148 rfl) (by decide) (by decide)) (g := (mkF m 252 #[oI p0, oR r_215, oJ vv, oS, oI (0 : Int32), oI (5 : Int32), oR b439, oI (1 : Int32), oI (6 : Int32)] [(.int (2 : Int32)), (.int (6 : Int32)), (.ref b439), (.ref r_215)])) rfl (by rw [hml]; rfl) (argsL := [(.ref r_215), (.ref b439), (.int (6 : Int32)), (.int (2 : Int32))]) (rest := []) (lenOf own_pd26 rfl) rfl (own_hW rfl) (hb hby at_252) (fun _ _ => ⟨rfl, eq453, (by decide : 10 + 0 ≤ _), (by decide : 143 + 0 ≤ _)⟩)
    dsimp only [Pt.U, Pt.locs, Pt.cells, Pt.slots] at X454 l454 y454 z454 st454 hQ454
    subst y454 z454
    obtain ⟨rfl, N454q, eq454⟩ := hQ454
    have N454 : Fr n0 L454 := by rw [l454]; exact Fr.app N453 N454q
    refine own_st (st454) ?_
    refine own_st (fun t_ k_ => XS.ifNo X454.here hx rfl (hb hby at_255) rfl ((if0 _ _).trans (feq (by decide : ¬ ((1 : Int32) = (0 : Int32)))).1) (XS.aloadN X454.here hx rfl (hb hby at_258) rfl rfl (XS.aload X454.here hx rfl (hb hby at_259) rfl rfl (XS.iload X454.here hx rfl (hb hby at_261) rfl (XS.iconst X454.here hx rfl (hb hby at_263) k_))))) ?_
    show own_at p e below _ T454 m 264 #[oI p0, oR r_215, oJ vv, oS, oI (0 : Int32), oI (5 : Int32), oR b439, oI (1 : Int32), oI (6 : Int32)] [(.int (3 : Int32)), (.int (6 : Int32)), (.ref b439), (.ref r_215)]
    obtain ⟨_, _, ⟨T455, L455, k455, n455⟩, -, X455, ⟨Lc455, hQ455, l455, y455, z455⟩, st455⟩ := Jvm.LawKit.callS X454 hx (y := own_n32) hown (mvT hZ (own_w hw 160 rfl)) (mvT hZ (own_w hw 161 rfl)) (mvT hZ (own_w hw 148 rfl)) (mvT hZ (own_w hw 162 rfl)) (by decide) (backOf (W := 0) (own_rm29y l Z a0 hw [] r_215 b439 (6 : Int32) (3 : Int32) t_215 kt_215 6 (own_ws 0 5 V) k439 gg 3 G1 G3 T445.heap n0 (Nat.le_trans Z0 K445.1) (((((((P215_1.ext E439).wr W440).keep Kq441).keep Kq442).keep Kq443).keep Kq444).keep Kq445) f447 f448 f449 hcd rfl f450 q1 hG1 q3 rG3 Agg (by decide) (by decide) (by decide) ⟨(own_ws7 _ _ _ _).1, Int.le_trans (own_ws7 _ _ _ _).2 (by decide)⟩ eg3) hZ (own_w hw 162 rfl) (own_w hw 148 rfl) (by decide) (by decide)) (g := (mkF m 264 #[oI p0, oR r_215, oJ vv, oS, oI (0 : Int32), oI (5 : Int32), oR b439, oI (1 : Int32), oI (6 : Int32)] [(.int (3 : Int32)), (.int (6 : Int32)), (.ref b439), (.ref r_215)])) rfl (by rw [hml]; rfl) (argsL := [(.ref r_215), (.ref b439), (.int (6 : Int32)), (.int (3 : Int32))]) (rest := []) (lenOf own_pd26 rfl) rfl (own_hW rfl) (hb hby at_264) (fun _ _ => ⟨rfl, eq454, (by decide : 10 + 0 ≤ _), (by decide : 143 + 0 ≤ _)⟩)
    dsimp only [Pt.U, Pt.locs, Pt.cells, Pt.slots] at X455 l455 y455 z455 st455 hQ455
    subst y455 z455
    obtain ⟨rfl, N455q, eq455⟩ := hQ455
    have N455 : Fr n0 L455 := by rw [l455]; exact Fr.app N454 N455q
    refine own_st (st455) ?_
    refine own_st (fun t_ k_ => XS.ifNo X455.here hx rfl (hb hby at_267) rfl ((if0 _ _).trans (feq (by decide : ¬ ((1 : Int32) = (0 : Int32)))).1) (XS.aloadN X455.here hx rfl (hb hby at_270) rfl rfl (XS.aload X455.here hx rfl (hb hby at_271) rfl rfl (XS.iload X455.here hx rfl (hb hby at_273) rfl (XS.iconst X455.here hx rfl (hb hby at_275) k_))))) ?_
    show own_at p e below _ T455 m 276 #[oI p0, oR r_215, oJ vv, oS, oI (0 : Int32), oI (5 : Int32), oR b439, oI (1 : Int32), oI (6 : Int32)] [(.int (4 : Int32)), (.int (6 : Int32)), (.ref b439), (.ref r_215)]
    obtain ⟨_, _, ⟨T456, L456, k456, n456⟩, -, X456, ⟨Lc456, hQ456, l456, y456, z456⟩, st456⟩ := Jvm.LawKit.callS X455 hx (y := own_n32) hown (mvT hZ (own_w hw 160 rfl)) (mvT hZ (own_w hw 161 rfl)) (mvT hZ (own_w hw 148 rfl)) (mvT hZ (own_w hw 162 rfl)) (by decide) (backOf (W := 0) (own_rm29y l Z a0 hw [] r_215 b439 (6 : Int32) (4 : Int32) t_215 kt_215 6 (own_ws 0 5 V) k439 gg 4 G1 G3 T445.heap n0 (Nat.le_trans Z0 K445.1) (((((((P215_1.ext E439).wr W440).keep Kq441).keep Kq442).keep Kq443).keep Kq444).keep Kq445) f447 f448 f449 hcd rfl f450 q1 hG1 q3 rG3 Agg (by decide) (by decide) (by decide) ⟨(own_ws7 _ _ _ _).1, Int.le_trans (own_ws7 _ _ _ _).2 (by decide)⟩ eg4) hZ (own_w hw 162 rfl) (own_w hw 148 rfl) (by decide) (by decide)) (g := (mkF m 276 #[oI p0, oR r_215, oJ vv, oS, oI (0 : Int32), oI (5 : Int32), oR b439, oI (1 : Int32), oI (6 : Int32)] [(.int (4 : Int32)), (.int (6 : Int32)), (.ref b439), (.ref r_215)])) rfl (by rw [hml]; rfl) (argsL := [(.ref r_215), (.ref b439), (.int (6 : Int32)), (.int (4 : Int32))]) (rest := []) (lenOf own_pd26 rfl) rfl (own_hW rfl) (hb hby at_276) (fun _ _ => ⟨rfl, eq455, (by decide : 10 + 0 ≤ _), (by decide : 143 + 0 ≤ _)⟩)
    dsimp only [Pt.U, Pt.locs, Pt.cells, Pt.slots] at X456 l456 y456 z456 st456 hQ456
    subst y456 z456
    obtain ⟨rfl, N456q, eq456⟩ := hQ456
    have N456 : Fr n0 L456 := by rw [l456]; exact Fr.app N455 N456q
    refine own_st (st456) ?_
    refine own_st (fun t_ k_ => XS.ifNo X456.here hx rfl (hb hby at_279) rfl ((if0 _ _).trans (feq (by decide : ¬ ((1 : Int32) = (0 : Int32)))).1) (XS.aloadN X456.here hx rfl (hb hby at_282) rfl rfl (XS.aload X456.here hx rfl (hb hby at_283) rfl rfl (XS.iload X456.here hx rfl (hb hby at_285) rfl (XS.iconst X456.here hx rfl (hb hby at_287) k_))))) ?_
    show own_at p e below _ T456 m 288 #[oI p0, oR r_215, oJ vv, oS, oI (0 : Int32), oI (5 : Int32), oR b439, oI (1 : Int32), oI (6 : Int32)] [(.int (5 : Int32)), (.int (6 : Int32)), (.ref b439), (.ref r_215)]
    obtain ⟨_, _, ⟨T457, L457, k457, n457⟩, -, X457, ⟨Lc457, hQ457, l457, y457, z457⟩, st457⟩ := Jvm.LawKit.callS X456 hx (y := own_n32) hown (mvT hZ (own_w hw 160 rfl)) (mvT hZ (own_w hw 161 rfl)) (mvT hZ (own_w hw 148 rfl)) (mvT hZ (own_w hw 162 rfl)) (by decide) (backOf (W := 0) (own_rm29y l Z a0 hw [] r_215 b439 (6 : Int32) (5 : Int32) t_215 kt_215 6 (own_ws 0 5 V) k439 gg 5 G1 G3 T445.heap n0 (Nat.le_trans Z0 K445.1) (((((((P215_1.ext E439).wr W440).keep Kq441).keep Kq442).keep Kq443).keep Kq444).keep Kq445) f447 f448 f449 hcd rfl f450 q1 hG1 q3 rG3 Agg (by decide) (by decide) (by decide) ⟨(own_ws7 _ _ _ _).1, Int.le_trans (own_ws7 _ _ _ _).2 (by decide)⟩ eg5) hZ (own_w hw 162 rfl) (own_w hw 148 rfl) (by decide) (by decide)) (g := (mkF m 288 #[oI p0, oR r_215, oJ vv, oS, oI (0 : Int32), oI (5 : Int32), oR b439, oI (1 : Int32), oI (6 : Int32)] [(.int (5 : Int32)), (.int (6 : Int32)), (.ref b439), (.ref r_215)])) rfl (by rw [hml]; rfl) (argsL := [(.ref r_215), (.ref b439), (.int (6 : Int32)), (.int (5 : Int32))]) (rest := []) (lenOf own_pd26 rfl) rfl (own_hW rfl) (hb hby at_288) (fun _ _ => ⟨rfl, eq456, (by decide : 10 + 0 ≤ _), (by decide : 143 + 0 ≤ _)⟩)
    dsimp only [Pt.U, Pt.locs, Pt.cells, Pt.slots] at X457 l457 y457 z457 st457 hQ457
    subst y457 z457
    obtain ⟨rfl, N457q, eq457⟩ := hQ457
    have N457 : Fr n0 L457 := by rw [l457]; exact Fr.app N456 N457q
    refine own_st (st457) ?_
    refine own_st (fun t_ k_ => XS.ifNo X457.here hx rfl (hb hby at_291) rfl ((if0 _ _).trans (feq (by decide : ¬ ((1 : Int32) = (0 : Int32)))).1) (XS.aloadN X457.here hx rfl (hb hby at_294) rfl rfl (XS.aload X457.here hx rfl (hb hby at_295) rfl rfl (XS.iload X457.here hx rfl (hb hby at_297) rfl (XS.bipush X457.here hx rfl (hb hby at_299) k_))))) ?_
    show own_at p e below _ T457 m 301 #[oI p0, oR r_215, oJ vv, oS, oI (0 : Int32), oI (5 : Int32), oR b439, oI (1 : Int32), oI (6 : Int32)] [(.int (6 : Int32)), (.int (6 : Int32)), (.ref b439), (.ref r_215)]
    obtain ⟨_, _, ⟨T458, L458, k458, n458⟩, -, X458, ⟨Lc458, hQ458, l458, y458, z458⟩, st458⟩ := Jvm.LawKit.callS X457 hx (y := own_n32) hown (mvT hZ (own_w hw 160 rfl)) (mvT hZ (own_w hw 161 rfl)) (mvT hZ (own_w hw 148 rfl)) (mvT hZ (own_w hw 162 rfl)) (by decide) (backOf (W := 0) (own_rm29n l Z a0 hw [] r_215 b439 (6 : Int32) (6 : Int32) T445.heap n0 (Nat.le_trans Z0 K445.1) (by decide)) hZ (own_w hw 162 rfl) (own_w hw 148 rfl) (by decide) (by decide)) (g := (mkF m 301 #[oI p0, oR r_215, oJ vv, oS, oI (0 : Int32), oI (5 : Int32), oR b439, oI (1 : Int32), oI (6 : Int32)] [(.int (6 : Int32)), (.int (6 : Int32)), (.ref b439), (.ref r_215)])) rfl (by rw [hml]; rfl) (argsL := [(.ref r_215), (.ref b439), (.int (6 : Int32)), (.int (6 : Int32))]) (rest := []) (lenOf own_pd26 rfl) rfl (own_hW rfl) (hb hby at_301) (fun _ _ => ⟨rfl, eq457, (by decide : 10 + 0 ≤ _), (by decide : 143 + 0 ≤ _)⟩)
    dsimp only [Pt.U, Pt.locs, Pt.cells, Pt.slots] at X458 l458 y458 z458 st458 hQ458
    subst y458 z458
    obtain ⟨rfl, N458q, eq458⟩ := hQ458
    have N458 : Fr n0 L458 := by rw [l458]; exact Fr.app N457 N458q
    refine own_st (st458) ?_
    refine own_st (fun t_ k_ => XS.ifNo X458.here hx rfl (hb hby at_304) rfl ((if0 _ _).trans (feq (by decide : ¬ ((1 : Int32) = (0 : Int32)))).1) (XS.aloadN X458.here hx rfl (hb hby at_307) rfl rfl (XS.aload X458.here hx rfl (hb hby at_308) rfl rfl (XS.iload X458.here hx rfl (hb hby at_310) rfl (XS.bipush X458.here hx rfl (hb hby at_312) k_))))) ?_
    show own_at p e below _ T458 m 314 #[oI p0, oR r_215, oJ vv, oS, oI (0 : Int32), oI (5 : Int32), oR b439, oI (1 : Int32), oI (6 : Int32)] [(.int (7 : Int32)), (.int (6 : Int32)), (.ref b439), (.ref r_215)]
    obtain ⟨_, _, ⟨T459, L459, k459, n459⟩, -, X459, ⟨Lc459, hQ459, l459, y459, z459⟩, st459⟩ := Jvm.LawKit.callS X458 hx (y := own_n32) hown (mvT hZ (own_w hw 160 rfl)) (mvT hZ (own_w hw 161 rfl)) (mvT hZ (own_w hw 148 rfl)) (mvT hZ (own_w hw 162 rfl)) (by decide) (backOf (W := 0) (own_rm29n l Z a0 hw [] r_215 b439 (6 : Int32) (7 : Int32) T445.heap n0 (Nat.le_trans Z0 K445.1) (by decide)) hZ (own_w hw 162 rfl) (own_w hw 148 rfl) (by decide) (by decide)) (g := (mkF m 314 #[oI p0, oR r_215, oJ vv, oS, oI (0 : Int32), oI (5 : Int32), oR b439, oI (1 : Int32), oI (6 : Int32)] [(.int (7 : Int32)), (.int (6 : Int32)), (.ref b439), (.ref r_215)])) rfl (by rw [hml]; rfl) (argsL := [(.ref r_215), (.ref b439), (.int (6 : Int32)), (.int (7 : Int32))]) (rest := []) (lenOf own_pd26 rfl) rfl (own_hW rfl) (hb hby at_314) (fun _ _ => ⟨rfl, eq458, (by decide : 10 + 0 ≤ _), (by decide : 143 + 0 ≤ _)⟩)
    dsimp only [Pt.U, Pt.locs, Pt.cells, Pt.slots] at X459 l459 y459 z459 st459 hQ459
    subst y459 z459
    obtain ⟨rfl, N459q, eq459⟩ := hQ459
    have N459 : Fr n0 L459 := by rw [l459]; exact Fr.app N458 N459q
    refine own_st (st459) ?_
    refine own_st (fun t_ k_ => XS.ifNo X459.here hx rfl (hb hby at_317) rfl ((if0 _ _).trans (feq (by decide : ¬ ((1 : Int32) = (0 : Int32)))).1) (XS.iconst X459.here hx rfl (hb hby at_320) (XS.goto X459.here hx rfl (pc0 := 321) (pc' := 325) rfl (hb hby at_321) (by decide) (by decide) k_))) ?_
    show own_at p e below _ T459 m 325 #[oI p0, oR r_215, oJ vv, oS, oI (0 : Int32), oI (5 : Int32), oR b439, oI (1 : Int32), oI (6 : Int32)] [(.int (1 : Int32))]
    exact own_retW (w := (.int (1 : Int32))) X459 hx hnl hZ (own_hEL hw) S215 (by rw [eq459]; exact kk445) (by rw [eq459]; exact C445) Bd.returns rfl (Or.inl ⟨rfl, by decide, _, rfl⟩) (hb hby at_325) ⟨rfl, N459, (by rw [eq459]; exact K445)⟩ (by decide) (by decide)
  have z5 : (60466176 : Int64).toInt = 60466176 := by decide
  have hb5 := mt (lw_lt _ _).mpr c82_438
  rw [Int64.lt_iff_toInt_lt, hv, z5] at hb5
  refine own_st (fun t_ k_ => XS.ifYes X215.here hx rfl (pc0 := 82) (pc' := 89) rfl (hb hby at_82) rfl ((if0 _ _).trans (flt c82_438).2.1) (by decide) (by decide) (XS.bipush X215.here hx rfl (hb hby at_89) (XS.istore X215.here hx rfl (hb hby at_91) rfl (l' := #[oI p0, oR r_215, oJ vv, oS, oI (0 : Int32), oI (6 : Int32), oU, oU, oU]) rfl k_))) ?_
  show own_at p e below _ T215 m 93 #[oI p0, oR r_215, oJ vv, oS, oI (0 : Int32), oI (6 : Int32), oU, oU, oU] []
  have en : n_215 = 6 := own_nn6 hdn.1 hdn.2.2.1 hdn.2.2.2 (by decide) (by have q_ : 36 ^ 6 = 2176782336 := (by decide); omega) (by first | exact Or.inl rfl | exact Or.inr (by have q_ : 36 ^ (6 - 1) = 60466176 := (by decide); omega))
  have As : own_A Z T215.heap t_215 kt_215 .byte (own_bl (0 : Int32) 7) (fun i => .int ((own_by (0 : Int32) (own_ws 0 6 V)) i)) := by have z_ := P215_4; rw [en, hsg, ← hV] at z_; exact z_
  have hcd : ((0 : Int32) = 0 ∧ ∀ q : Nat, q < 7 → ¬ (255 : Int32) < (own_ws 0 6 V) q) ∨ (0 : Int32) = 1 := Or.inl ⟨rfl, fun q _ => own_lat7 (own_ws7 _ _ _ q)⟩
  refine own_st (fun t_ k_ => XS.bipush X215.here hx rfl (hb hby at_93) k_) ?_
  show own_at p e below _ T215 m 95 #[oI p0, oR r_215, oJ vv, oS, oI (0 : Int32), oI (6 : Int32), oU, oU, oU] [(.int (8 : Int32))]
  obtain ⟨T460, h460, k460, X460, e460, E460, A460, st460⟩ := newP X215 hx hZ (own_w hw 145 rfl) rfl (g := (mkF m 95 #[oI p0, oR r_215, oJ vv, oS, oI (0 : Int32), oI (6 : Int32), oU, oU, oU] [(.int (8 : Int32))])) rfl (hb hby at_95) rfl (by decide) (cap := 8) (by decide) (by decide) (by decide) (by decide)
  obtain ⟨b460, g460⟩ : ∃ z, z = T215.heap.size := ⟨_, rfl⟩
  rw [← g460] at A460 st460
  have fr460 : h0.size ≤ b460 := Nat.le_trans K215.1 (Nat.le_of_eq g460.symm)
  have ge460 : n0 ≤ b460 := Nat.le_trans Z0 fr460
  have K460 : Keep h0 h460 [] := K215.ext E460
  have c460 : CHr Z own_EL _ T215.heap _ h460 := CHr.ext E460 C215.1
  have C460 := C215.trans c460
  have kk460 := Nat.le_trans kk215 c460.2.1
  have Sf460_b460 : Safe Z own_EL _ h460 b460 := Safe.ext E460 C215.1 (Safe.new (Nat.le_of_eq g460.symm))
  have Ar460 : own_A Z h460 b460 k460 .char 8 (fun i => .int ((fun _ => (0 : Int32)) i)) := own_A.new A460 rfl (by decide)
  refine own_st (st460) ?_
  refine own_st (fun t_ k_ => XS.astore X460.here hx rfl (hb hby at_97) rfl rfl (l' := #[oI p0, oR r_215, oJ vv, oS, oI (0 : Int32), oI (6 : Int32), oR b460, oU, oU]) rfl (XS.aload X460.here hx rfl (hb hby at_99) rfl rfl (XS.iconst X460.here hx rfl (hb hby at_101) (XS.bipush X460.here hx rfl (hb hby at_102) k_)))) ?_
  show own_at p e below _ T460 m 104 #[oI p0, oR r_215, oJ vv, oS, oI (0 : Int32), oI (6 : Int32), oR b460, oU, oU] [(.int (119 : Int32)), (.int (0 : Int32)), (.ref b460)]
  obtain ⟨T461, h461, X461, e461, W461, Aw461, st461⟩ := own_castore X460 hx hZ e460 Ar460 (i := 0) (by decide) (by decide) rfl (v' := (119 : Int32)) (g := (mkF m 104 #[oI p0, oR r_215, oJ vv, oS, oI (0 : Int32), oI (6 : Int32), oR b460, oU, oU] [(.int (119 : Int32)), (.int (0 : Int32)), (.ref b460)])) rfl rfl (hb hby at_104)
  have N461 := Fr.snoc X461 N215 ge460
  have K461 : Keep h0 h461 [] := K460.wr W461 (Or.inr fr460)
  have c461 : CHr Z own_EL _ h460 _ h461 := CHr.wr W461 (own_safeA hZ.alike Ar460 (by decide)) C460.1
  have C461 := C460.trans c461
  have kk461 := Nat.le_trans kk460 c461.2.1
  refine own_st (st461) ?_
  refine own_st (fun t_ k_ => XS.iconst X461.here hx rfl (hb hby at_105) (XS.istore X461.here hx rfl (hb hby at_106) rfl (l' := #[oI p0, oR r_215, oJ vv, oS, oI (0 : Int32), oI (6 : Int32), oR b460, oI (1 : Int32), oU]) rfl (XS.iload X461.here hx rfl (hb hby at_108) rfl (XS.ifYes X461.here hx rfl (pc0 := 110) (pc' := 122) rfl (hb hby at_110) rfl ((if0 _ _).trans (teq (by decide : (0 : Int32) = (0 : Int32))).1) (by decide) (by decide) (XS.aload X461.here hx rfl (hb hby at_122) rfl rfl (XS.iload X461.here hx rfl (hb hby at_124) rfl k_)))))) ?_
  show own_at p e below _ T461 m 126 #[oI p0, oR r_215, oJ vv, oS, oI (0 : Int32), oI (6 : Int32), oR b460, oI (1 : Int32), oU] [(.int (1 : Int32)), (.ref b460)]
  refine own_st (fun t_ k_ => XS.iload X461.here hx rfl (hb hby at_126) rfl (XS.iconst X461.here hx rfl (hb hby at_128) (XS.lloadN X461.here hx rfl (hb hby at_129) rfl (XS.lconst X461.here hx rfl (hb hby at_130) k_)))) ?_
  show own_at p e below _ T461 m 131 #[oI p0, oR r_215, oJ vv, oS, oI (0 : Int32), oI (6 : Int32), oR b460, oI (1 : Int32), oU] [(.long (1 : Int64)), (.long vv), (.int (0 : Int32)), (.int (6 : Int32)), (.int (1 : Int32)), (.ref b460)]
  obtain ⟨_, _, ⟨T462, L462, k462, n462⟩, -, X462, ⟨Lc462, hQ462, l462, y462, z462⟩, st462⟩ := Jvm.LawKit.callS X461 hx (y := own_n31) hown (mvT hZ (own_w hw 146 rfl)) (mvT hZ (own_w hw 147 rfl)) (mvT hZ (own_w hw 148 rfl)) (mvT hZ (own_w hw 149 rfl)) (by decide) (backOf (W := 0) (own_rm27y l Z a0 hw [] b460 (1 : Int32) (6 : Int32) (0 : Int32) vv (1 : Int64) k460 (own_upd (fun _ => (0 : Int32)) 0 (119 : Int32)) 6 h461 n0 (Nat.le_trans Z0 K461.1) Aw461 ge460 (by decide) (by decide) (by decide)) hZ (own_w hw 149 rfl) (own_w hw 148 rfl) (by decide) (by decide)) (g := (mkF m 131 #[oI p0, oR r_215, oJ vv, oS, oI (0 : Int32), oI (6 : Int32), oR b460, oI (1 : Int32), oU] [(.long (1 : Int64)), (.long vv), (.int (0 : Int32)), (.int (6 : Int32)), (.int (1 : Int32)), (.ref b460)])) rfl (by rw [hml]; rfl) (argsL := [(.ref b460), (.int (1 : Int32)), (.int (6 : Int32)), (.int (0 : Int32)), (.long vv), (.long (1 : Int64))]) (rest := []) (lenOf own_pd25 rfl) rfl (own_hW rfl) (hb hby at_131) (fun _ _ => ⟨rfl, e461, (by decide : 10 + 0 ≤ _), (by decide : 143 + 0 ≤ _)⟩)
  dsimp only [Pt.U, Pt.locs, Pt.cells, Pt.slots] at X462 l462 y462 z462 st462 hQ462
  subst y462 z462
  obtain ⟨rfl, N462q, Kq462, P462_0⟩ := hQ462
  have N462 : Fr n0 L462 := by rw [l462]; exact Fr.app N461 N462q
  have K462 : Keep h0 T462.heap [] := K461.trans Kq462 (allS (P := fun x => x ∈ [] ∨ h0.size ≤ x) (Or.inr fr460) all0)
  have c462 : CHr Z own_EL _ h461 _ T462.heap := CHr.keep Kq462 (own_slS (own_safeA hZ.alike Aw461 (by decide)) own_sl0) C461.1
  have C462 := C461.trans c462
  have kk462 := Nat.le_trans kk461 c462.2.1
  refine own_st (st462) ?_
  refine own_st (fun t_ k_ => XS.aload X462.here hx rfl (hb hby at_134) rfl rfl (XS.iload X462.here hx rfl (hb hby at_136) rfl (XS.iload X462.here hx rfl (hb hby at_138) rfl (XS.iconst X462.here hx rfl (hb hby at_140) (XS.lloadN X462.here hx rfl (hb hby at_141) rfl k_))))) ?_
  show own_at p e below _ T462 m 142 #[oI p0, oR r_215, oJ vv, oS, oI (0 : Int32), oI (6 : Int32), oR b460, oI (1 : Int32), oU] [(.long vv), (.int (1 : Int32)), (.int (6 : Int32)), (.int (1 : Int32)), (.ref b460)]
  refine own_st (X462.ldc2Long hx hown (mvT hZ (own_w hw 144 rfl)) (g := (mkF m 142 #[oI p0, oR r_215, oJ vv, oS, oI (0 : Int32), oI (6 : Int32), oR b460, oI (1 : Int32), oU] [(.long vv), (.int (1 : Int32)), (.int (6 : Int32)), (.int (1 : Int32)), (.ref b460)])) rfl (hb hby at_142)) ?_
  show own_at p e below _ T462 m 145 #[oI p0, oR r_215, oJ vv, oS, oI (0 : Int32), oI (6 : Int32), oR b460, oI (1 : Int32), oU] [(.long (36 : Int64)), (.long vv), (.int (1 : Int32)), (.int (6 : Int32)), (.int (1 : Int32)), (.ref b460)]
  obtain ⟨_, _, ⟨T463, L463, k463, n463⟩, -, X463, ⟨Lc463, hQ463, l463, y463, z463⟩, st463⟩ := Jvm.LawKit.callS X462 hx (y := own_n31) hown (mvT hZ (own_w hw 146 rfl)) (mvT hZ (own_w hw 147 rfl)) (mvT hZ (own_w hw 148 rfl)) (mvT hZ (own_w hw 149 rfl)) (by decide) (backOf (W := 0) (own_rm27y l Z a0 hw [] b460 (1 : Int32) (6 : Int32) (1 : Int32) vv (36 : Int64) k460 (own_upd (own_upd (fun _ => (0 : Int32)) 0 (119 : Int32)) 6 (own_dig ((vv / (1 : Int64)) % (36 : Int64)))) 5 T462.heap n0 (Nat.le_trans Z0 K462.1) P462_0 ge460 (by decide) (by decide) (by decide)) hZ (own_w hw 149 rfl) (own_w hw 148 rfl) (by decide) (by decide)) (g := (mkF m 145 #[oI p0, oR r_215, oJ vv, oS, oI (0 : Int32), oI (6 : Int32), oR b460, oI (1 : Int32), oU] [(.long (36 : Int64)), (.long vv), (.int (1 : Int32)), (.int (6 : Int32)), (.int (1 : Int32)), (.ref b460)])) rfl (by rw [hml]; rfl) (argsL := [(.ref b460), (.int (1 : Int32)), (.int (6 : Int32)), (.int (1 : Int32)), (.long vv), (.long (36 : Int64))]) (rest := []) (lenOf own_pd25 rfl) rfl (own_hW rfl) (hb hby at_145) (fun _ _ => ⟨rfl, rfl, (by decide : 10 + 0 ≤ _), (by decide : 143 + 0 ≤ _)⟩)
  dsimp only [Pt.U, Pt.locs, Pt.cells, Pt.slots] at X463 l463 y463 z463 st463 hQ463
  subst y463 z463
  obtain ⟨rfl, N463q, Kq463, P463_0⟩ := hQ463
  have N463 : Fr n0 L463 := by rw [l463]; exact Fr.app N462 N463q
  have K463 : Keep h0 T463.heap [] := K462.trans Kq463 (allS (P := fun x => x ∈ [] ∨ h0.size ≤ x) (Or.inr fr460) all0)
  have c463 : CHr Z own_EL _ T462.heap _ T463.heap := CHr.keep Kq463 (own_slS (own_safeA hZ.alike P462_0 (by decide)) own_sl0) C462.1
  have C463 := C462.trans c463
  have kk463 := Nat.le_trans kk462 c463.2.1
  refine own_st (st463) ?_
  refine own_st (fun t_ k_ => XS.aload X463.here hx rfl (hb hby at_148) rfl rfl (XS.iload X463.here hx rfl (hb hby at_150) rfl (XS.iload X463.here hx rfl (hb hby at_152) rfl (XS.iconst X463.here hx rfl (hb hby at_154) (XS.lloadN X463.here hx rfl (hb hby at_155) rfl k_))))) ?_
  show own_at p e below _ T463 m 156 #[oI p0, oR r_215, oJ vv, oS, oI (0 : Int32), oI (6 : Int32), oR b460, oI (1 : Int32), oU] [(.long vv), (.int (2 : Int32)), (.int (6 : Int32)), (.int (1 : Int32)), (.ref b460)]
  refine own_st (X463.ldc2Long hx hown (mvT hZ (own_w hw 155 rfl)) (g := (mkF m 156 #[oI p0, oR r_215, oJ vv, oS, oI (0 : Int32), oI (6 : Int32), oR b460, oI (1 : Int32), oU] [(.long vv), (.int (2 : Int32)), (.int (6 : Int32)), (.int (1 : Int32)), (.ref b460)])) rfl (hb hby at_156)) ?_
  show own_at p e below _ T463 m 159 #[oI p0, oR r_215, oJ vv, oS, oI (0 : Int32), oI (6 : Int32), oR b460, oI (1 : Int32), oU] [(.long (1296 : Int64)), (.long vv), (.int (2 : Int32)), (.int (6 : Int32)), (.int (1 : Int32)), (.ref b460)]
  obtain ⟨_, _, ⟨T464, L464, k464, n464⟩, -, X464, ⟨Lc464, hQ464, l464, y464, z464⟩, st464⟩ := Jvm.LawKit.callS X463 hx (y := own_n31) hown (mvT hZ (own_w hw 146 rfl)) (mvT hZ (own_w hw 147 rfl)) (mvT hZ (own_w hw 148 rfl)) (mvT hZ (own_w hw 149 rfl)) (by decide) (backOf (W := 0) (own_rm27y l Z a0 hw [] b460 (1 : Int32) (6 : Int32) (2 : Int32) vv (1296 : Int64) k460 (own_upd (own_upd (own_upd (fun _ => (0 : Int32)) 0 (119 : Int32)) 6 (own_dig ((vv / (1 : Int64)) % (36 : Int64)))) 5 (own_dig ((vv / (36 : Int64)) % (36 : Int64)))) 4 T463.heap n0 (Nat.le_trans Z0 K463.1) P463_0 ge460 (by decide) (by decide) (by decide)) hZ (own_w hw 149 rfl) (own_w hw 148 rfl) (by decide) (by decide)) (g := (mkF m 159 #[oI p0, oR r_215, oJ vv, oS, oI (0 : Int32), oI (6 : Int32), oR b460, oI (1 : Int32), oU] [(.long (1296 : Int64)), (.long vv), (.int (2 : Int32)), (.int (6 : Int32)), (.int (1 : Int32)), (.ref b460)])) rfl (by rw [hml]; rfl) (argsL := [(.ref b460), (.int (1 : Int32)), (.int (6 : Int32)), (.int (2 : Int32)), (.long vv), (.long (1296 : Int64))]) (rest := []) (lenOf own_pd25 rfl) rfl (own_hW rfl) (hb hby at_159) (fun _ _ => ⟨rfl, rfl, (by decide : 10 + 0 ≤ _), (by decide : 143 + 0 ≤ _)⟩)
  dsimp only [Pt.U, Pt.locs, Pt.cells, Pt.slots] at X464 l464 y464 z464 st464 hQ464
  subst y464 z464
  obtain ⟨rfl, N464q, Kq464, P464_0⟩ := hQ464
  have N464 : Fr n0 L464 := by rw [l464]; exact Fr.app N463 N464q
  have K464 : Keep h0 T464.heap [] := K463.trans Kq464 (allS (P := fun x => x ∈ [] ∨ h0.size ≤ x) (Or.inr fr460) all0)
  have c464 : CHr Z own_EL _ T463.heap _ T464.heap := CHr.keep Kq464 (own_slS (own_safeA hZ.alike P463_0 (by decide)) own_sl0) C463.1
  have C464 := C463.trans c464
  have kk464 := Nat.le_trans kk463 c464.2.1
  refine own_st (st464) ?_
  refine own_st (fun t_ k_ => XS.aload X464.here hx rfl (hb hby at_162) rfl rfl (XS.iload X464.here hx rfl (hb hby at_164) rfl (XS.iload X464.here hx rfl (hb hby at_166) rfl (XS.iconst X464.here hx rfl (hb hby at_168) (XS.lloadN X464.here hx rfl (hb hby at_169) rfl k_))))) ?_
  show own_at p e below _ T464 m 170 #[oI p0, oR r_215, oJ vv, oS, oI (0 : Int32), oI (6 : Int32), oR b460, oI (1 : Int32), oU] [(.long vv), (.int (3 : Int32)), (.int (6 : Int32)), (.int (1 : Int32)), (.ref b460)]
  refine own_st (X464.ldc2Long hx hown (mvT hZ (own_w hw 156 rfl)) (g := (mkF m 170 #[oI p0, oR r_215, oJ vv, oS, oI (0 : Int32), oI (6 : Int32), oR b460, oI (1 : Int32), oU] [(.long vv), (.int (3 : Int32)), (.int (6 : Int32)), (.int (1 : Int32)), (.ref b460)])) rfl (hb hby at_170)) ?_
  show own_at p e below _ T464 m 173 #[oI p0, oR r_215, oJ vv, oS, oI (0 : Int32), oI (6 : Int32), oR b460, oI (1 : Int32), oU] [(.long (46656 : Int64)), (.long vv), (.int (3 : Int32)), (.int (6 : Int32)), (.int (1 : Int32)), (.ref b460)]
  obtain ⟨_, _, ⟨T465, L465, k465, n465⟩, -, X465, ⟨Lc465, hQ465, l465, y465, z465⟩, st465⟩ := Jvm.LawKit.callS X464 hx (y := own_n31) hown (mvT hZ (own_w hw 146 rfl)) (mvT hZ (own_w hw 147 rfl)) (mvT hZ (own_w hw 148 rfl)) (mvT hZ (own_w hw 149 rfl)) (by decide) (backOf (W := 0) (own_rm27y l Z a0 hw [] b460 (1 : Int32) (6 : Int32) (3 : Int32) vv (46656 : Int64) k460 (own_upd (own_upd (own_upd (own_upd (fun _ => (0 : Int32)) 0 (119 : Int32)) 6 (own_dig ((vv / (1 : Int64)) % (36 : Int64)))) 5 (own_dig ((vv / (36 : Int64)) % (36 : Int64)))) 4 (own_dig ((vv / (1296 : Int64)) % (36 : Int64)))) 3 T464.heap n0 (Nat.le_trans Z0 K464.1) P464_0 ge460 (by decide) (by decide) (by decide)) hZ (own_w hw 149 rfl) (own_w hw 148 rfl) (by decide) (by decide)) (g := (mkF m 173 #[oI p0, oR r_215, oJ vv, oS, oI (0 : Int32), oI (6 : Int32), oR b460, oI (1 : Int32), oU] [(.long (46656 : Int64)), (.long vv), (.int (3 : Int32)), (.int (6 : Int32)), (.int (1 : Int32)), (.ref b460)])) rfl (by rw [hml]; rfl) (argsL := [(.ref b460), (.int (1 : Int32)), (.int (6 : Int32)), (.int (3 : Int32)), (.long vv), (.long (46656 : Int64))]) (rest := []) (lenOf own_pd25 rfl) rfl (own_hW rfl) (hb hby at_173) (fun _ _ => ⟨rfl, rfl, (by decide : 10 + 0 ≤ _), (by decide : 143 + 0 ≤ _)⟩)
  dsimp only [Pt.U, Pt.locs, Pt.cells, Pt.slots] at X465 l465 y465 z465 st465 hQ465
  subst y465 z465
  obtain ⟨rfl, N465q, Kq465, P465_0⟩ := hQ465
  have N465 : Fr n0 L465 := by rw [l465]; exact Fr.app N464 N465q
  have K465 : Keep h0 T465.heap [] := K464.trans Kq465 (allS (P := fun x => x ∈ [] ∨ h0.size ≤ x) (Or.inr fr460) all0)
  have c465 : CHr Z own_EL _ T464.heap _ T465.heap := CHr.keep Kq465 (own_slS (own_safeA hZ.alike P464_0 (by decide)) own_sl0) C464.1
  have C465 := C464.trans c465
  have kk465 := Nat.le_trans kk464 c465.2.1
  refine own_st (st465) ?_
  refine own_st (fun t_ k_ => XS.aload X465.here hx rfl (hb hby at_176) rfl rfl (XS.iload X465.here hx rfl (hb hby at_178) rfl (XS.iload X465.here hx rfl (hb hby at_180) rfl (XS.iconst X465.here hx rfl (hb hby at_182) (XS.lloadN X465.here hx rfl (hb hby at_183) rfl k_))))) ?_
  show own_at p e below _ T465 m 184 #[oI p0, oR r_215, oJ vv, oS, oI (0 : Int32), oI (6 : Int32), oR b460, oI (1 : Int32), oU] [(.long vv), (.int (4 : Int32)), (.int (6 : Int32)), (.int (1 : Int32)), (.ref b460)]
  refine own_st (X465.ldc2Long hx hown (mvT hZ (own_w hw 157 rfl)) (g := (mkF m 184 #[oI p0, oR r_215, oJ vv, oS, oI (0 : Int32), oI (6 : Int32), oR b460, oI (1 : Int32), oU] [(.long vv), (.int (4 : Int32)), (.int (6 : Int32)), (.int (1 : Int32)), (.ref b460)])) rfl (hb hby at_184)) ?_
  show own_at p e below _ T465 m 187 #[oI p0, oR r_215, oJ vv, oS, oI (0 : Int32), oI (6 : Int32), oR b460, oI (1 : Int32), oU] [(.long (1679616 : Int64)), (.long vv), (.int (4 : Int32)), (.int (6 : Int32)), (.int (1 : Int32)), (.ref b460)]
  obtain ⟨_, _, ⟨T466, L466, k466, n466⟩, -, X466, ⟨Lc466, hQ466, l466, y466, z466⟩, st466⟩ := Jvm.LawKit.callS X465 hx (y := own_n31) hown (mvT hZ (own_w hw 146 rfl)) (mvT hZ (own_w hw 147 rfl)) (mvT hZ (own_w hw 148 rfl)) (mvT hZ (own_w hw 149 rfl)) (by decide) (backOf (W := 0) (own_rm27y l Z a0 hw [] b460 (1 : Int32) (6 : Int32) (4 : Int32) vv (1679616 : Int64) k460 (own_upd (own_upd (own_upd (own_upd (own_upd (fun _ => (0 : Int32)) 0 (119 : Int32)) 6 (own_dig ((vv / (1 : Int64)) % (36 : Int64)))) 5 (own_dig ((vv / (36 : Int64)) % (36 : Int64)))) 4 (own_dig ((vv / (1296 : Int64)) % (36 : Int64)))) 3 (own_dig ((vv / (46656 : Int64)) % (36 : Int64)))) 2 T465.heap n0 (Nat.le_trans Z0 K465.1) P465_0 ge460 (by decide) (by decide) (by decide)) hZ (own_w hw 149 rfl) (own_w hw 148 rfl) (by decide) (by decide)) (g := (mkF m 187 #[oI p0, oR r_215, oJ vv, oS, oI (0 : Int32), oI (6 : Int32), oR b460, oI (1 : Int32), oU] [(.long (1679616 : Int64)), (.long vv), (.int (4 : Int32)), (.int (6 : Int32)), (.int (1 : Int32)), (.ref b460)])) rfl (by rw [hml]; rfl) (argsL := [(.ref b460), (.int (1 : Int32)), (.int (6 : Int32)), (.int (4 : Int32)), (.long vv), (.long (1679616 : Int64))]) (rest := []) (lenOf own_pd25 rfl) rfl (own_hW rfl) (hb hby at_187) (fun _ _ => ⟨rfl, rfl, (by decide : 10 + 0 ≤ _), (by decide : 143 + 0 ≤ _)⟩)
  dsimp only [Pt.U, Pt.locs, Pt.cells, Pt.slots] at X466 l466 y466 z466 st466 hQ466
  subst y466 z466
  obtain ⟨rfl, N466q, Kq466, P466_0⟩ := hQ466
  have N466 : Fr n0 L466 := by rw [l466]; exact Fr.app N465 N466q
  have K466 : Keep h0 T466.heap [] := K465.trans Kq466 (allS (P := fun x => x ∈ [] ∨ h0.size ≤ x) (Or.inr fr460) all0)
  have c466 : CHr Z own_EL _ T465.heap _ T466.heap := CHr.keep Kq466 (own_slS (own_safeA hZ.alike P465_0 (by decide)) own_sl0) C465.1
  have C466 := C465.trans c466
  have kk466 := Nat.le_trans kk465 c466.2.1
  refine own_st (st466) ?_
  refine own_st (fun t_ k_ => XS.aload X466.here hx rfl (hb hby at_190) rfl rfl (XS.iload X466.here hx rfl (hb hby at_192) rfl (XS.iload X466.here hx rfl (hb hby at_194) rfl (XS.iconst X466.here hx rfl (hb hby at_196) (XS.lloadN X466.here hx rfl (hb hby at_197) rfl k_))))) ?_
  show own_at p e below _ T466 m 198 #[oI p0, oR r_215, oJ vv, oS, oI (0 : Int32), oI (6 : Int32), oR b460, oI (1 : Int32), oU] [(.long vv), (.int (5 : Int32)), (.int (6 : Int32)), (.int (1 : Int32)), (.ref b460)]
  refine own_st (X466.ldc2Long hx hown (mvT hZ (own_w hw 158 rfl)) (g := (mkF m 198 #[oI p0, oR r_215, oJ vv, oS, oI (0 : Int32), oI (6 : Int32), oR b460, oI (1 : Int32), oU] [(.long vv), (.int (5 : Int32)), (.int (6 : Int32)), (.int (1 : Int32)), (.ref b460)])) rfl (hb hby at_198)) ?_
  show own_at p e below _ T466 m 201 #[oI p0, oR r_215, oJ vv, oS, oI (0 : Int32), oI (6 : Int32), oR b460, oI (1 : Int32), oU] [(.long (60466176 : Int64)), (.long vv), (.int (5 : Int32)), (.int (6 : Int32)), (.int (1 : Int32)), (.ref b460)]
  obtain ⟨_, _, ⟨T467, L467, k467, n467⟩, -, X467, ⟨Lc467, hQ467, l467, y467, z467⟩, st467⟩ := Jvm.LawKit.callS X466 hx (y := own_n31) hown (mvT hZ (own_w hw 146 rfl)) (mvT hZ (own_w hw 147 rfl)) (mvT hZ (own_w hw 148 rfl)) (mvT hZ (own_w hw 149 rfl)) (by decide) (backOf (W := 0) (own_rm27y l Z a0 hw [] b460 (1 : Int32) (6 : Int32) (5 : Int32) vv (60466176 : Int64) k460 (own_upd (own_upd (own_upd (own_upd (own_upd (own_upd (fun _ => (0 : Int32)) 0 (119 : Int32)) 6 (own_dig ((vv / (1 : Int64)) % (36 : Int64)))) 5 (own_dig ((vv / (36 : Int64)) % (36 : Int64)))) 4 (own_dig ((vv / (1296 : Int64)) % (36 : Int64)))) 3 (own_dig ((vv / (46656 : Int64)) % (36 : Int64)))) 2 (own_dig ((vv / (1679616 : Int64)) % (36 : Int64)))) 1 T466.heap n0 (Nat.le_trans Z0 K466.1) P466_0 ge460 (by decide) (by decide) (by decide)) hZ (own_w hw 149 rfl) (own_w hw 148 rfl) (by decide) (by decide)) (g := (mkF m 201 #[oI p0, oR r_215, oJ vv, oS, oI (0 : Int32), oI (6 : Int32), oR b460, oI (1 : Int32), oU] [(.long (60466176 : Int64)), (.long vv), (.int (5 : Int32)), (.int (6 : Int32)), (.int (1 : Int32)), (.ref b460)])) rfl (by rw [hml]; rfl) (argsL := [(.ref b460), (.int (1 : Int32)), (.int (6 : Int32)), (.int (5 : Int32)), (.long vv), (.long (60466176 : Int64))]) (rest := []) (lenOf own_pd25 rfl) rfl (own_hW rfl) (hb hby at_201) (fun _ _ => ⟨rfl, rfl, (by decide : 10 + 0 ≤ _), (by decide : 143 + 0 ≤ _)⟩)
  dsimp only [Pt.U, Pt.locs, Pt.cells, Pt.slots] at X467 l467 y467 z467 st467 hQ467
  subst y467 z467
  obtain ⟨rfl, N467q, Kq467, P467_0⟩ := hQ467
  have N467 : Fr n0 L467 := by rw [l467]; exact Fr.app N466 N467q
  have K467 : Keep h0 T467.heap [] := K466.trans Kq467 (allS (P := fun x => x ∈ [] ∨ h0.size ≤ x) (Or.inr fr460) all0)
  have c467 : CHr Z own_EL _ T466.heap _ T467.heap := CHr.keep Kq467 (own_slS (own_safeA hZ.alike P466_0 (by decide)) own_sl0) C466.1
  have C467 := C466.trans c467
  have kk467 := Nat.le_trans kk466 c467.2.1
  refine own_st (st467) ?_
  refine own_st (fun t_ k_ => XS.iload X467.here hx rfl (hb hby at_204) rfl (XS.iload X467.here hx rfl (hb hby at_206) rfl (XS.iadd X467.here hx rfl (hb hby at_208) rfl k_))) ?_
  show own_at p e below _ T467 m 209 #[oI p0, oR r_215, oJ vv, oS, oI (0 : Int32), oI (6 : Int32), oR b460, oI (1 : Int32), oU] [(.int ((1 : Int32) + (6 : Int32)))]
  rw [show ((1 : Int32) + (6 : Int32)) = (7 : Int32) from (by decide)]
  refine own_st (fun t_ k_ => XS.istore X467.here hx rfl (hb hby at_209) rfl (l' := #[oI p0, oR r_215, oJ vv, oS, oI (0 : Int32), oI (6 : Int32), oR b460, oI (1 : Int32), oI (7 : Int32)]) rfl (XS.aloadN X467.here hx rfl (hb hby at_211) rfl rfl k_)) ?_
  show own_at p e below _ T467 m 212 #[oI p0, oR r_215, oJ vv, oS, oI (0 : Int32), oI (6 : Int32), oR b460, oI (1 : Int32), oI (7 : Int32)] [(.ref r_215)]
  have f468 : Fld Z T467.heap r_215 "java/lang/String" "value" "[B" (.ref t_215) := ((((((((P215_2.ext E460).other W461 (Or.inl (Nat.ne_of_lt (Nat.lt_of_lt_of_le P215_1.lt (Nat.le_of_eq g460.symm))))).keep Kq462 (ninS (Nat.ne_of_lt (Nat.lt_of_lt_of_le P215_1.lt (Nat.le_of_eq g460.symm))) nin0)).keep Kq463 (ninS (Nat.ne_of_lt (Nat.lt_of_lt_of_le P215_1.lt (Nat.le_of_eq g460.symm))) nin0)).keep Kq464 (ninS (Nat.ne_of_lt (Nat.lt_of_lt_of_le P215_1.lt (Nat.le_of_eq g460.symm))) nin0)).keep Kq465 (ninS (Nat.ne_of_lt (Nat.lt_of_lt_of_le P215_1.lt (Nat.le_of_eq g460.symm))) nin0)).keep Kq466 (ninS (Nat.ne_of_lt (Nat.lt_of_lt_of_le P215_1.lt (Nat.le_of_eq g460.symm))) nin0)).keep Kq467 (ninS (Nat.ne_of_lt (Nat.lt_of_lt_of_le P215_1.lt (Nat.le_of_eq g460.symm))) nin0))
  have f469 : Fld Z T467.heap r_215 "java/lang/String" "coder" "B" (.int (0 : Int32)) := ((((((((P215_3.ext E460).other W461 (Or.inl (Nat.ne_of_lt (Nat.lt_of_lt_of_le P215_1.lt (Nat.le_of_eq g460.symm))))).keep Kq462 (ninS (Nat.ne_of_lt (Nat.lt_of_lt_of_le P215_1.lt (Nat.le_of_eq g460.symm))) nin0)).keep Kq463 (ninS (Nat.ne_of_lt (Nat.lt_of_lt_of_le P215_1.lt (Nat.le_of_eq g460.symm))) nin0)).keep Kq464 (ninS (Nat.ne_of_lt (Nat.lt_of_lt_of_le P215_1.lt (Nat.le_of_eq g460.symm))) nin0)).keep Kq465 (ninS (Nat.ne_of_lt (Nat.lt_of_lt_of_le P215_1.lt (Nat.le_of_eq g460.symm))) nin0)).keep Kq466 (ninS (Nat.ne_of_lt (Nat.lt_of_lt_of_le P215_1.lt (Nat.le_of_eq g460.symm))) nin0)).keep Kq467 (ninS (Nat.ne_of_lt (Nat.lt_of_lt_of_le P215_1.lt (Nat.le_of_eq g460.symm))) nin0))
  have f470 : own_A Z T467.heap t_215 kt_215 .byte (own_bl (0 : Int32) 7) (fun i => .int ((own_by (0 : Int32) (own_ws 0 6 V)) i)) := ((((((((As.ext E460).other W461 (Nat.ne_of_lt (Nat.lt_of_lt_of_le As.lt (Nat.le_of_eq g460.symm)))).keep Kq462 (ninS (Nat.ne_of_lt (Nat.lt_of_lt_of_le As.lt (Nat.le_of_eq g460.symm))) nin0)).keep Kq463 (ninS (Nat.ne_of_lt (Nat.lt_of_lt_of_le As.lt (Nat.le_of_eq g460.symm))) nin0)).keep Kq464 (ninS (Nat.ne_of_lt (Nat.lt_of_lt_of_le As.lt (Nat.le_of_eq g460.symm))) nin0)).keep Kq465 (ninS (Nat.ne_of_lt (Nat.lt_of_lt_of_le As.lt (Nat.le_of_eq g460.symm))) nin0)).keep Kq466 (ninS (Nat.ne_of_lt (Nat.lt_of_lt_of_le As.lt (Nat.le_of_eq g460.symm))) nin0)).keep Kq467 (ninS (Nat.ne_of_lt (Nat.lt_of_lt_of_le As.lt (Nat.le_of_eq g460.symm))) nin0))
  have f471 : Old Z n0 T467.heap := (((((((((q0.keep Kq215 all0).ext E460).wr W461 ge460).keep Kq462 (allS ge460 all0)).keep Kq463 (allS ge460 all0)).keep Kq464 (allS ge460 all0)).keep Kq465 (allS ge460 all0)).keep Kq466 (allS ge460 all0)).keep Kq467 (allS ge460 all0))
  obtain ⟨cq472, kq472, q472a, q472b, q472c⟩ := isOf hZ rfl ((((((((P215_1.ext E460).wr W461).keep Kq462).keep Kq463).keep Kq464).keep Kq465).keep Kq466).keep Kq467)
  obtain ⟨_, _, ⟨T472, L472, k472, n472⟩, -, X472, ⟨Lc472, hQ472, l472, y472, z472⟩, st472⟩ := X467.virtualBack hx (y := own_n6) (z := own_n6) hown (mvT hZ (own_w hw 159 rfl)) (mvT hZ (own_w hw 43 rfl)) (notFace_of_selects (args := #[]) (mvT hZ (own_w hw 45 rfl))) (mvT hZ (own_w hw 45 rfl)) (mvT hZ (own_w hw 44 rfl)) (by decide) (backOf (W := 0) (own_rm7 l Z a0 hw [] r_215 t_215 kt_215 (own_bl (0 : Int32) 7) (own_by (0 : Int32) (own_ws 0 6 V)) G1 T467.heap n0 (Nat.le_trans Z0 K467.1) ((((((((P215_1.ext E460).wr W461).keep Kq462).keep Kq463).keep Kq464).keep Kq465).keep Kq466).keep Kq467) f468 f469 f470 f471 q1 hG1) hZ (own_w hw 46 rfl) (own_w hw 20 rfl) (by decide) (by decide)) q472a q472c (g := (mkF m 212 #[oI p0, oR r_215, oJ vv, oS, oI (0 : Int32), oI (6 : Int32), oR b460, oI (1 : Int32), oI (7 : Int32)] [(.ref r_215)])) rfl (by rw [hml]; rfl) (Steps.refl _) (argsL := []) (rest := []) (lenOf own_pd8 rfl) rfl (own_hW rfl) (hb hby at_212) (fun _ _ => ⟨rfl, rfl, (by decide : 10 + 0 ≤ _), (by decide : 143 + 0 ≤ _)⟩)
  dsimp only [Pt.U, Pt.locs, Pt.cells, Pt.slots] at X472 l472 y472 z472 st472 hQ472
  subst y472 z472
  obtain ⟨rfl, N472q, eq472⟩ := hQ472
  have N472 : Fr n0 L472 := by rw [l472]; exact Fr.app N467 N472q
  refine own_tr st472 ?_
  refine own_st (fun t_ k_ => XS.iload X472.here hx rfl (hb hby at_215) rfl (XS.icmpYes X472.here hx rfl (pc0 := 217) (pc' := 222) rfl (hb hby at_217) rfl (teq (by decide : (Int32.ofNat (own_bl (0 : Int32) 7)) = (7 : Int32))).1 (by decide) (by decide) k_)) ?_
  show own_at p e below _ T472 m 222 #[oI p0, oR r_215, oJ vv, oS, oI (0 : Int32), oI (6 : Int32), oR b460, oI (1 : Int32), oI (7 : Int32)] []
  obtain ⟨gg, hgg⟩ : ∃ f_ : Nat → Int32, f_ = (own_upd (own_upd (own_upd (own_upd (own_upd (own_upd (own_upd (fun _ => (0 : Int32)) 0 (119 : Int32)) 6 (own_dig ((vv / (1 : Int64)) % (36 : Int64)))) 5 (own_dig ((vv / (36 : Int64)) % (36 : Int64)))) 4 (own_dig ((vv / (1296 : Int64)) % (36 : Int64)))) 3 (own_dig ((vv / (46656 : Int64)) % (36 : Int64)))) 2 (own_dig ((vv / (1679616 : Int64)) % (36 : Int64)))) 1 (own_dig ((vv / (60466176 : Int64)) % (36 : Int64)))) := ⟨_, rfl⟩
  have Agg : own_A Z T467.heap b460 k460 .char 8 (fun i => .int (gg i)) := by rw [hgg]; exact P467_0
  have eg0 : own_ws 0 6 V 0 = gg 0 := by rw [hgg]; exact rfl.symm
  have eg1 : own_ws 0 6 V 1 = gg 1 := by rw [hgg]; exact (show own_dig ((vv / (60466176 : Int64)) % (36 : Int64)) = own_ws 0 6 V 1 from (own_dd hv (by decide : (60466176 : Int64).toInt = ((60466176 : Nat) : Int)) (by decide)).trans (by unfold own_ws own_tb; rw [if_neg (by decide), if_neg (by decide)])).symm
  have eg2 : own_ws 0 6 V 2 = gg 2 := by rw [hgg]; exact (show own_dig ((vv / (1679616 : Int64)) % (36 : Int64)) = own_ws 0 6 V 2 from (own_dd hv (by decide : (1679616 : Int64).toInt = ((1679616 : Nat) : Int)) (by decide)).trans (by unfold own_ws own_tb; rw [if_neg (by decide), if_neg (by decide)])).symm
  have eg3 : own_ws 0 6 V 3 = gg 3 := by rw [hgg]; exact (show own_dig ((vv / (46656 : Int64)) % (36 : Int64)) = own_ws 0 6 V 3 from (own_dd hv (by decide : (46656 : Int64).toInt = ((46656 : Nat) : Int)) (by decide)).trans (by unfold own_ws own_tb; rw [if_neg (by decide), if_neg (by decide)])).symm
  have eg4 : own_ws 0 6 V 4 = gg 4 := by rw [hgg]; exact (show own_dig ((vv / (1296 : Int64)) % (36 : Int64)) = own_ws 0 6 V 4 from (own_dd hv (by decide : (1296 : Int64).toInt = ((1296 : Nat) : Int)) (by decide)).trans (by unfold own_ws own_tb; rw [if_neg (by decide), if_neg (by decide)])).symm
  have eg5 : own_ws 0 6 V 5 = gg 5 := by rw [hgg]; exact (show own_dig ((vv / (36 : Int64)) % (36 : Int64)) = own_ws 0 6 V 5 from (own_dd hv (by decide : (36 : Int64).toInt = ((36 : Nat) : Int)) (by decide)).trans (by unfold own_ws own_tb; rw [if_neg (by decide), if_neg (by decide)])).symm
  have eg6 : own_ws 0 6 V 6 = gg 6 := by rw [hgg]; exact (show own_dig ((vv / (1 : Int64)) % (36 : Int64)) = own_ws 0 6 V 6 from (own_dd hv (by decide : (1 : Int64).toInt = ((1 : Nat) : Int)) (by decide)).trans (by unfold own_ws own_tb; rw [if_neg (by decide), if_neg (by decide)])).symm
  refine own_st (fun t_ k_ => XS.aloadN X472.here hx rfl (hb hby at_222) rfl rfl (XS.aload X472.here hx rfl (hb hby at_223) rfl rfl (XS.iload X472.here hx rfl (hb hby at_225) rfl (XS.iconst X472.here hx rfl (hb hby at_227) k_)))) ?_
  show own_at p e below _ T472 m 228 #[oI p0, oR r_215, oJ vv, oS, oI (0 : Int32), oI (6 : Int32), oR b460, oI (1 : Int32), oI (7 : Int32)] [(.int (0 : Int32)), (.int (7 : Int32)), (.ref b460), (.ref r_215)]
  obtain ⟨_, _, ⟨T473, L473, k473, n473⟩, -, X473, ⟨Lc473, hQ473, l473, y473, z473⟩, st473⟩ := Jvm.LawKit.callS X472 hx (y := own_n32) hown (mvT hZ (own_w hw 160 rfl)) (mvT hZ (own_w hw 161 rfl)) (mvT hZ (own_w hw 148 rfl)) (mvT hZ (own_w hw 162 rfl)) (by decide) (backOf (W := 0) (own_rm29y l Z a0 hw [] r_215 b460 (7 : Int32) (0 : Int32) t_215 kt_215 7 (own_ws 0 6 V) k460 gg 0 G1 G3 T467.heap n0 (Nat.le_trans Z0 K467.1) ((((((((P215_1.ext E460).wr W461).keep Kq462).keep Kq463).keep Kq464).keep Kq465).keep Kq466).keep Kq467) f468 f469 f470 hcd rfl f471 q1 hG1 q3 rG3 Agg (by decide) (by decide) (by decide) ⟨(own_ws7 _ _ _ _).1, Int.le_trans (own_ws7 _ _ _ _).2 (by decide)⟩ eg0) hZ (own_w hw 162 rfl) (own_w hw 148 rfl) (by decide) (by decide)) (g := (mkF m 228 #[oI p0, oR r_215, oJ vv, oS, oI (0 : Int32), oI (6 : Int32), oR b460, oI (1 : Int32), oI (7 : Int32)] [(.int (0 : Int32)), (.int (7 : Int32)), (.ref b460), (.ref r_215)])) rfl (by rw [hml]; rfl) (argsL := [(.ref r_215), (.ref b460), (.int (7 : Int32)), (.int (0 : Int32))]) (rest := []) (lenOf own_pd26 rfl) rfl (own_hW rfl) (hb hby at_228) (fun _ _ => ⟨rfl, eq472, (by decide : 10 + 0 ≤ _), (by decide : 143 + 0 ≤ _)⟩)
  dsimp only [Pt.U, Pt.locs, Pt.cells, Pt.slots] at X473 l473 y473 z473 st473 hQ473
  subst y473 z473
  obtain ⟨rfl, N473q, eq473⟩ := hQ473
  have N473 : Fr n0 L473 := by rw [l473]; exact Fr.app N472 N473q
  refine own_st (st473) ?_
  refine own_st (fun t_ k_ => XS.ifNo X473.here hx rfl (hb hby at_231) rfl ((if0 _ _).trans (feq (by decide : ¬ ((1 : Int32) = (0 : Int32)))).1) (XS.aloadN X473.here hx rfl (hb hby at_234) rfl rfl (XS.aload X473.here hx rfl (hb hby at_235) rfl rfl (XS.iload X473.here hx rfl (hb hby at_237) rfl (XS.iconst X473.here hx rfl (hb hby at_239) k_))))) ?_
  show own_at p e below _ T473 m 240 #[oI p0, oR r_215, oJ vv, oS, oI (0 : Int32), oI (6 : Int32), oR b460, oI (1 : Int32), oI (7 : Int32)] [(.int (1 : Int32)), (.int (7 : Int32)), (.ref b460), (.ref r_215)]
  obtain ⟨_, _, ⟨T474, L474, k474, n474⟩, -, X474, ⟨Lc474, hQ474, l474, y474, z474⟩, st474⟩ := Jvm.LawKit.callS X473 hx (y := own_n32) hown (mvT hZ (own_w hw 160 rfl)) (mvT hZ (own_w hw 161 rfl)) (mvT hZ (own_w hw 148 rfl)) (mvT hZ (own_w hw 162 rfl)) (by decide) (backOf (W := 0) (own_rm29y l Z a0 hw [] r_215 b460 (7 : Int32) (1 : Int32) t_215 kt_215 7 (own_ws 0 6 V) k460 gg 1 G1 G3 T467.heap n0 (Nat.le_trans Z0 K467.1) ((((((((P215_1.ext E460).wr W461).keep Kq462).keep Kq463).keep Kq464).keep Kq465).keep Kq466).keep Kq467) f468 f469 f470 hcd rfl f471 q1 hG1 q3 rG3 Agg (by decide) (by decide) (by decide) ⟨(own_ws7 _ _ _ _).1, Int.le_trans (own_ws7 _ _ _ _).2 (by decide)⟩ eg1) hZ (own_w hw 162 rfl) (own_w hw 148 rfl) (by decide) (by decide)) (g := (mkF m 240 #[oI p0, oR r_215, oJ vv, oS, oI (0 : Int32), oI (6 : Int32), oR b460, oI (1 : Int32), oI (7 : Int32)] [(.int (1 : Int32)), (.int (7 : Int32)), (.ref b460), (.ref r_215)])) rfl (by rw [hml]; rfl) (argsL := [(.ref r_215), (.ref b460), (.int (7 : Int32)), (.int (1 : Int32))]) (rest := []) (lenOf own_pd26 rfl) rfl (own_hW rfl) (hb hby at_240) (fun _ _ => ⟨rfl, eq473, (by decide : 10 + 0 ≤ _), (by decide : 143 + 0 ≤ _)⟩)
  dsimp only [Pt.U, Pt.locs, Pt.cells, Pt.slots] at X474 l474 y474 z474 st474 hQ474
  subst y474 z474
  obtain ⟨rfl, N474q, eq474⟩ := hQ474
  have N474 : Fr n0 L474 := by rw [l474]; exact Fr.app N473 N474q
  refine own_st (st474) ?_
  refine own_st (fun t_ k_ => XS.ifNo X474.here hx rfl (hb hby at_243) rfl ((if0 _ _).trans (feq (by decide : ¬ ((1 : Int32) = (0 : Int32)))).1) (XS.aloadN X474.here hx rfl (hb hby at_246) rfl rfl (XS.aload X474.here hx rfl (hb hby at_247) rfl rfl (XS.iload X474.here hx rfl (hb hby at_249) rfl (XS.iconst X474.here hx rfl (hb hby at_251) k_))))) ?_
  show own_at p e below _ T474 m 252 #[oI p0, oR r_215, oJ vv, oS, oI (0 : Int32), oI (6 : Int32), oR b460, oI (1 : Int32), oI (7 : Int32)] [(.int (2 : Int32)), (.int (7 : Int32)), (.ref b460), (.ref r_215)]
  obtain ⟨_, _, ⟨T475, L475, k475, n475⟩, -, X475, ⟨Lc475, hQ475, l475, y475, z475⟩, st475⟩ := Jvm.LawKit.callS X474 hx (y := own_n32) hown (mvT hZ (own_w hw 160 rfl)) (mvT hZ (own_w hw 161 rfl)) (mvT hZ (own_w hw 148 rfl)) (mvT hZ (own_w hw 162 rfl)) (by decide) (backOf (W := 0) (own_rm29y l Z a0 hw [] r_215 b460 (7 : Int32) (2 : Int32) t_215 kt_215 7 (own_ws 0 6 V) k460 gg 2 G1 G3 T467.heap n0 (Nat.le_trans Z0 K467.1) ((((((((P215_1.ext E460).wr W461).keep Kq462).keep Kq463).keep Kq464).keep Kq465).keep Kq466).keep Kq467) f468 f469 f470 hcd rfl f471 q1 hG1 q3 rG3 Agg (by decide) (by decide) (by decide) ⟨(own_ws7 _ _ _ _).1, Int.le_trans (own_ws7 _ _ _ _).2 (by decide)⟩ eg2) hZ (own_w hw 162 rfl) (own_w hw 148 rfl) (by decide) (by decide)) (g := (mkF m 252 #[oI p0, oR r_215, oJ vv, oS, oI (0 : Int32), oI (6 : Int32), oR b460, oI (1 : Int32), oI (7 : Int32)] [(.int (2 : Int32)), (.int (7 : Int32)), (.ref b460), (.ref r_215)])) rfl (by rw [hml]; rfl) (argsL := [(.ref r_215), (.ref b460), (.int (7 : Int32)), (.int (2 : Int32))]) (rest := []) (lenOf own_pd26 rfl) rfl (own_hW rfl) (hb hby at_252) (fun _ _ => ⟨rfl, eq474, (by decide : 10 + 0 ≤ _), (by decide : 143 + 0 ≤ _)⟩)
  dsimp only [Pt.U, Pt.locs, Pt.cells, Pt.slots] at X475 l475 y475 z475 st475 hQ475
  subst y475 z475
  obtain ⟨rfl, N475q, eq475⟩ := hQ475
  have N475 : Fr n0 L475 := by rw [l475]; exact Fr.app N474 N475q
  refine own_st (st475) ?_
  refine own_st (fun t_ k_ => XS.ifNo X475.here hx rfl (hb hby at_255) rfl ((if0 _ _).trans (feq (by decide : ¬ ((1 : Int32) = (0 : Int32)))).1) (XS.aloadN X475.here hx rfl (hb hby at_258) rfl rfl (XS.aload X475.here hx rfl (hb hby at_259) rfl rfl (XS.iload X475.here hx rfl (hb hby at_261) rfl (XS.iconst X475.here hx rfl (hb hby at_263) k_))))) ?_
  show own_at p e below _ T475 m 264 #[oI p0, oR r_215, oJ vv, oS, oI (0 : Int32), oI (6 : Int32), oR b460, oI (1 : Int32), oI (7 : Int32)] [(.int (3 : Int32)), (.int (7 : Int32)), (.ref b460), (.ref r_215)]
  obtain ⟨_, _, ⟨T476, L476, k476, n476⟩, -, X476, ⟨Lc476, hQ476, l476, y476, z476⟩, st476⟩ := Jvm.LawKit.callS X475 hx (y := own_n32) hown (mvT hZ (own_w hw 160 rfl)) (mvT hZ (own_w hw 161 rfl)) (mvT hZ (own_w hw 148 rfl)) (mvT hZ (own_w hw 162 rfl)) (by decide) (backOf (W := 0) (own_rm29y l Z a0 hw [] r_215 b460 (7 : Int32) (3 : Int32) t_215 kt_215 7 (own_ws 0 6 V) k460 gg 3 G1 G3 T467.heap n0 (Nat.le_trans Z0 K467.1) ((((((((P215_1.ext E460).wr W461).keep Kq462).keep Kq463).keep Kq464).keep Kq465).keep Kq466).keep Kq467) f468 f469 f470 hcd rfl f471 q1 hG1 q3 rG3 Agg (by decide) (by decide) (by decide) ⟨(own_ws7 _ _ _ _).1, Int.le_trans (own_ws7 _ _ _ _).2 (by decide)⟩ eg3) hZ (own_w hw 162 rfl) (own_w hw 148 rfl) (by decide) (by decide)) (g := (mkF m 264 #[oI p0, oR r_215, oJ vv, oS, oI (0 : Int32), oI (6 : Int32), oR b460, oI (1 : Int32), oI (7 : Int32)] [(.int (3 : Int32)), (.int (7 : Int32)), (.ref b460), (.ref r_215)])) rfl (by rw [hml]; rfl) (argsL := [(.ref r_215), (.ref b460), (.int (7 : Int32)), (.int (3 : Int32))]) (rest := []) (lenOf own_pd26 rfl) rfl (own_hW rfl) (hb hby at_264) (fun _ _ => ⟨rfl, eq475, (by decide : 10 + 0 ≤ _), (by decide : 143 + 0 ≤ _)⟩)
  dsimp only [Pt.U, Pt.locs, Pt.cells, Pt.slots] at X476 l476 y476 z476 st476 hQ476
  subst y476 z476
  obtain ⟨rfl, N476q, eq476⟩ := hQ476
  have N476 : Fr n0 L476 := by rw [l476]; exact Fr.app N475 N476q
  refine own_st (st476) ?_
  refine own_st (fun t_ k_ => XS.ifNo X476.here hx rfl (hb hby at_267) rfl ((if0 _ _).trans (feq (by decide : ¬ ((1 : Int32) = (0 : Int32)))).1) (XS.aloadN X476.here hx rfl (hb hby at_270) rfl rfl (XS.aload X476.here hx rfl (hb hby at_271) rfl rfl (XS.iload X476.here hx rfl (hb hby at_273) rfl (XS.iconst X476.here hx rfl (hb hby at_275) k_))))) ?_
  show own_at p e below _ T476 m 276 #[oI p0, oR r_215, oJ vv, oS, oI (0 : Int32), oI (6 : Int32), oR b460, oI (1 : Int32), oI (7 : Int32)] [(.int (4 : Int32)), (.int (7 : Int32)), (.ref b460), (.ref r_215)]
  obtain ⟨_, _, ⟨T477, L477, k477, n477⟩, -, X477, ⟨Lc477, hQ477, l477, y477, z477⟩, st477⟩ := Jvm.LawKit.callS X476 hx (y := own_n32) hown (mvT hZ (own_w hw 160 rfl)) (mvT hZ (own_w hw 161 rfl)) (mvT hZ (own_w hw 148 rfl)) (mvT hZ (own_w hw 162 rfl)) (by decide) (backOf (W := 0) (own_rm29y l Z a0 hw [] r_215 b460 (7 : Int32) (4 : Int32) t_215 kt_215 7 (own_ws 0 6 V) k460 gg 4 G1 G3 T467.heap n0 (Nat.le_trans Z0 K467.1) ((((((((P215_1.ext E460).wr W461).keep Kq462).keep Kq463).keep Kq464).keep Kq465).keep Kq466).keep Kq467) f468 f469 f470 hcd rfl f471 q1 hG1 q3 rG3 Agg (by decide) (by decide) (by decide) ⟨(own_ws7 _ _ _ _).1, Int.le_trans (own_ws7 _ _ _ _).2 (by decide)⟩ eg4) hZ (own_w hw 162 rfl) (own_w hw 148 rfl) (by decide) (by decide)) (g := (mkF m 276 #[oI p0, oR r_215, oJ vv, oS, oI (0 : Int32), oI (6 : Int32), oR b460, oI (1 : Int32), oI (7 : Int32)] [(.int (4 : Int32)), (.int (7 : Int32)), (.ref b460), (.ref r_215)])) rfl (by rw [hml]; rfl) (argsL := [(.ref r_215), (.ref b460), (.int (7 : Int32)), (.int (4 : Int32))]) (rest := []) (lenOf own_pd26 rfl) rfl (own_hW rfl) (hb hby at_276) (fun _ _ => ⟨rfl, eq476, (by decide : 10 + 0 ≤ _), (by decide : 143 + 0 ≤ _)⟩)
  dsimp only [Pt.U, Pt.locs, Pt.cells, Pt.slots] at X477 l477 y477 z477 st477 hQ477
  subst y477 z477
  obtain ⟨rfl, N477q, eq477⟩ := hQ477
  have N477 : Fr n0 L477 := by rw [l477]; exact Fr.app N476 N477q
  refine own_st (st477) ?_
  refine own_st (fun t_ k_ => XS.ifNo X477.here hx rfl (hb hby at_279) rfl ((if0 _ _).trans (feq (by decide : ¬ ((1 : Int32) = (0 : Int32)))).1) (XS.aloadN X477.here hx rfl (hb hby at_282) rfl rfl (XS.aload X477.here hx rfl (hb hby at_283) rfl rfl (XS.iload X477.here hx rfl (hb hby at_285) rfl (XS.iconst X477.here hx rfl (hb hby at_287) k_))))) ?_
  show own_at p e below _ T477 m 288 #[oI p0, oR r_215, oJ vv, oS, oI (0 : Int32), oI (6 : Int32), oR b460, oI (1 : Int32), oI (7 : Int32)] [(.int (5 : Int32)), (.int (7 : Int32)), (.ref b460), (.ref r_215)]
  obtain ⟨_, _, ⟨T478, L478, k478, n478⟩, -, X478, ⟨Lc478, hQ478, l478, y478, z478⟩, st478⟩ := Jvm.LawKit.callS X477 hx (y := own_n32) hown (mvT hZ (own_w hw 160 rfl)) (mvT hZ (own_w hw 161 rfl)) (mvT hZ (own_w hw 148 rfl)) (mvT hZ (own_w hw 162 rfl)) (by decide) (backOf (W := 0) (own_rm29y l Z a0 hw [] r_215 b460 (7 : Int32) (5 : Int32) t_215 kt_215 7 (own_ws 0 6 V) k460 gg 5 G1 G3 T467.heap n0 (Nat.le_trans Z0 K467.1) ((((((((P215_1.ext E460).wr W461).keep Kq462).keep Kq463).keep Kq464).keep Kq465).keep Kq466).keep Kq467) f468 f469 f470 hcd rfl f471 q1 hG1 q3 rG3 Agg (by decide) (by decide) (by decide) ⟨(own_ws7 _ _ _ _).1, Int.le_trans (own_ws7 _ _ _ _).2 (by decide)⟩ eg5) hZ (own_w hw 162 rfl) (own_w hw 148 rfl) (by decide) (by decide)) (g := (mkF m 288 #[oI p0, oR r_215, oJ vv, oS, oI (0 : Int32), oI (6 : Int32), oR b460, oI (1 : Int32), oI (7 : Int32)] [(.int (5 : Int32)), (.int (7 : Int32)), (.ref b460), (.ref r_215)])) rfl (by rw [hml]; rfl) (argsL := [(.ref r_215), (.ref b460), (.int (7 : Int32)), (.int (5 : Int32))]) (rest := []) (lenOf own_pd26 rfl) rfl (own_hW rfl) (hb hby at_288) (fun _ _ => ⟨rfl, eq477, (by decide : 10 + 0 ≤ _), (by decide : 143 + 0 ≤ _)⟩)
  dsimp only [Pt.U, Pt.locs, Pt.cells, Pt.slots] at X478 l478 y478 z478 st478 hQ478
  subst y478 z478
  obtain ⟨rfl, N478q, eq478⟩ := hQ478
  have N478 : Fr n0 L478 := by rw [l478]; exact Fr.app N477 N478q
  refine own_st (st478) ?_
  refine own_st (fun t_ k_ => XS.ifNo X478.here hx rfl (hb hby at_291) rfl ((if0 _ _).trans (feq (by decide : ¬ ((1 : Int32) = (0 : Int32)))).1) (XS.aloadN X478.here hx rfl (hb hby at_294) rfl rfl (XS.aload X478.here hx rfl (hb hby at_295) rfl rfl (XS.iload X478.here hx rfl (hb hby at_297) rfl (XS.bipush X478.here hx rfl (hb hby at_299) k_))))) ?_
  show own_at p e below _ T478 m 301 #[oI p0, oR r_215, oJ vv, oS, oI (0 : Int32), oI (6 : Int32), oR b460, oI (1 : Int32), oI (7 : Int32)] [(.int (6 : Int32)), (.int (7 : Int32)), (.ref b460), (.ref r_215)]
  obtain ⟨_, _, ⟨T479, L479, k479, n479⟩, -, X479, ⟨Lc479, hQ479, l479, y479, z479⟩, st479⟩ := Jvm.LawKit.callS X478 hx (y := own_n32) hown (mvT hZ (own_w hw 160 rfl)) (mvT hZ (own_w hw 161 rfl)) (mvT hZ (own_w hw 148 rfl)) (mvT hZ (own_w hw 162 rfl)) (by decide) (backOf (W := 0) (own_rm29y l Z a0 hw [] r_215 b460 (7 : Int32) (6 : Int32) t_215 kt_215 7 (own_ws 0 6 V) k460 gg 6 G1 G3 T467.heap n0 (Nat.le_trans Z0 K467.1) ((((((((P215_1.ext E460).wr W461).keep Kq462).keep Kq463).keep Kq464).keep Kq465).keep Kq466).keep Kq467) f468 f469 f470 hcd rfl f471 q1 hG1 q3 rG3 Agg (by decide) (by decide) (by decide) ⟨(own_ws7 _ _ _ _).1, Int.le_trans (own_ws7 _ _ _ _).2 (by decide)⟩ eg6) hZ (own_w hw 162 rfl) (own_w hw 148 rfl) (by decide) (by decide)) (g := (mkF m 301 #[oI p0, oR r_215, oJ vv, oS, oI (0 : Int32), oI (6 : Int32), oR b460, oI (1 : Int32), oI (7 : Int32)] [(.int (6 : Int32)), (.int (7 : Int32)), (.ref b460), (.ref r_215)])) rfl (by rw [hml]; rfl) (argsL := [(.ref r_215), (.ref b460), (.int (7 : Int32)), (.int (6 : Int32))]) (rest := []) (lenOf own_pd26 rfl) rfl (own_hW rfl) (hb hby at_301) (fun _ _ => ⟨rfl, eq478, (by decide : 10 + 0 ≤ _), (by decide : 143 + 0 ≤ _)⟩)
  dsimp only [Pt.U, Pt.locs, Pt.cells, Pt.slots] at X479 l479 y479 z479 st479 hQ479
  subst y479 z479
  obtain ⟨rfl, N479q, eq479⟩ := hQ479
  have N479 : Fr n0 L479 := by rw [l479]; exact Fr.app N478 N479q
  refine own_st (st479) ?_
  refine own_st (fun t_ k_ => XS.ifNo X479.here hx rfl (hb hby at_304) rfl ((if0 _ _).trans (feq (by decide : ¬ ((1 : Int32) = (0 : Int32)))).1) (XS.aloadN X479.here hx rfl (hb hby at_307) rfl rfl (XS.aload X479.here hx rfl (hb hby at_308) rfl rfl (XS.iload X479.here hx rfl (hb hby at_310) rfl (XS.bipush X479.here hx rfl (hb hby at_312) k_))))) ?_
  show own_at p e below _ T479 m 314 #[oI p0, oR r_215, oJ vv, oS, oI (0 : Int32), oI (6 : Int32), oR b460, oI (1 : Int32), oI (7 : Int32)] [(.int (7 : Int32)), (.int (7 : Int32)), (.ref b460), (.ref r_215)]
  obtain ⟨_, _, ⟨T480, L480, k480, n480⟩, -, X480, ⟨Lc480, hQ480, l480, y480, z480⟩, st480⟩ := Jvm.LawKit.callS X479 hx (y := own_n32) hown (mvT hZ (own_w hw 160 rfl)) (mvT hZ (own_w hw 161 rfl)) (mvT hZ (own_w hw 148 rfl)) (mvT hZ (own_w hw 162 rfl)) (by decide) (backOf (W := 0) (own_rm29n l Z a0 hw [] r_215 b460 (7 : Int32) (7 : Int32) T467.heap n0 (Nat.le_trans Z0 K467.1) (by decide)) hZ (own_w hw 162 rfl) (own_w hw 148 rfl) (by decide) (by decide)) (g := (mkF m 314 #[oI p0, oR r_215, oJ vv, oS, oI (0 : Int32), oI (6 : Int32), oR b460, oI (1 : Int32), oI (7 : Int32)] [(.int (7 : Int32)), (.int (7 : Int32)), (.ref b460), (.ref r_215)])) rfl (by rw [hml]; rfl) (argsL := [(.ref r_215), (.ref b460), (.int (7 : Int32)), (.int (7 : Int32))]) (rest := []) (lenOf own_pd26 rfl) rfl (own_hW rfl) (hb hby at_314) (fun _ _ => ⟨rfl, eq479, (by decide : 10 + 0 ≤ _), (by decide : 143 + 0 ≤ _)⟩)
  dsimp only [Pt.U, Pt.locs, Pt.cells, Pt.slots] at X480 l480 y480 z480 st480 hQ480
  subst y480 z480
  obtain ⟨rfl, N480q, eq480⟩ := hQ480
  have N480 : Fr n0 L480 := by rw [l480]; exact Fr.app N479 N480q
  refine own_st (st480) ?_
  refine own_st (fun t_ k_ => XS.ifNo X480.here hx rfl (hb hby at_317) rfl ((if0 _ _).trans (feq (by decide : ¬ ((1 : Int32) = (0 : Int32)))).1) (XS.iconst X480.here hx rfl (hb hby at_320) (XS.goto X480.here hx rfl (pc0 := 321) (pc' := 325) rfl (hb hby at_321) (by decide) (by decide) k_))) ?_
  show own_at p e below _ T480 m 325 #[oI p0, oR r_215, oJ vv, oS, oI (0 : Int32), oI (6 : Int32), oR b460, oI (1 : Int32), oI (7 : Int32)] [(.int (1 : Int32))]
  exact own_retW (w := (.int (1 : Int32))) X480 hx hnl hZ (own_hEL hw) S215 (by rw [eq480]; exact kk467) (by rw [eq480]; exact C467) Bd.returns rfl (Or.inl ⟨rfl, by decide, _, rfl⟩) (hb hby at_325) ⟨rfl, N480, (by rw [eq480]; exact K467)⟩ (by decide) (by decide)

set_option maxRecDepth 65536 in
set_option maxHeartbeats 40000000 in
theorem comes_1 {Post : Tables → Env → Array Value → State → Outcome → State → Prop} (hpost : ∀ tb e args s v u, (limb_1_1.after args s (.returned v) u = true ∧ limb_1_2.after args s (.returned v) u = true ∧ True) → ReturnedEndW s (.returned v) u (Jvm.fieldLocs frame_1_writes args s ++ Jvm.arrayLocs frame_1_arrays args s ++ Jvm.staticLocs frame_1_statics s) 32 1280 → Post tb e args s (.returned v) u) :
    ArmFor flags0 classFile x code maxLocals ret World_1 tables_1 room_1 Calls_1 rest_1 Pre_1 Post := by
  intro l hfl _ _ p e ha hc hk s m args below hf hA hF happ hP
  obtain ⟨hcalls, hrest, hpre⟩ := hP
  obtain ⟨-, -, -, hnamed, -, -, -, hat⟩ := (Spec.applies_iff hf).mp happ
  obtain ⟨hg, hn⟩ := and_e (Cond.before_iff.mp (show (Jvm.Cond.and given_1 narrow_1).before args s = true from hpre))
  obtain ⟨hcount, g0⟩ := and_e hg
  have v0 := g0
  obtain ⟨w0, rfl⟩ : ∃ w0 : Value, args = #[w0] := by
    have hs : args.size = 1 := by simpa [Cond.value, given_1] using hcount
    obtain ⟨L⟩ := args
    match L, hs with
    | [w0], _ => exact ⟨w0, rfl⟩
  have hw := fun d (hd : d ∈ tables_1) => atoms_spec (ws := Jvm.Cond.code x code maxLocals ret :: tables_1) hat d (List.mem_cons_of_mem _ hd)
  have hfit : Fit s := fun {y c} hc i hi => by
    obtain ⟨ha, rfl⟩ := Array.getElem?_eq_some_iff.mp hc
    have q := List.all_eq_true.mp ((Array.all_eq_true_iff_forall_mem.mp hF) _ (Array.getElem_mem ha)) i (List.mem_range.mpr hi)
    simpa [Array.getElem?_eq_getElem hi] using q
  obtain ⟨hsets, hown0⟩ := atoms_of _ (rest_1_c_eq ▸ (show rest_1_c.before _ s = true from hrest))
  have hr0 := Cond.before_iff.mp hown0
  obtain ⟨i0, ei0⟩ := is_v v0
  obtain rfl : w0 = (.int i0) := Option.some.inj ei0
  obtain ⟨G1, eG1⟩ := is_v (Cond.before_iff.mp (hsets _ (List.mem_of_getElem? (i := 1) rfl)))
  have SG1 := Sta.start eG1 (Or.inl (hsets _ (List.mem_of_getElem? (i := 0) rfl)))
  have hG1 := own_neq0 eG1 (Cond.before_iff.mp (hsets _ (List.mem_of_getElem? (i := 2) rfl)))
  obtain ⟨G3, eG3, rG3⟩ := isR_v (Cond.before_iff.mp (hsets _ (List.mem_of_getElem? (i := 8) rfl)))
  have SG3 := Sta.start eG3 (Or.inl (hsets _ (List.mem_of_getElem? (i := 7) rfl)))
  obtain ⟨ad, ead⟩ := exa_v (Cond.before_iff.mp (hsets _ (List.mem_of_getElem? (i := 12) rfl)))
  have Sad := Sta.start ead (Or.inl (hsets _ (List.mem_of_getElem? (i := 10) rfl)))
  obtain ⟨kd, Aad⟩ := own_A.start (n := 36) (vs := [.int 48, .int 49, .int 50, .int 51, .int 52, .int 53, .int 54, .int 55, .int 56, .int 57, .int 97, .int 98, .int 99, .int 100, .int 101, .int 102, .int 103, .int 104, .int 105, .int 106, .int 107, .int 108, .int 109, .int 110, .int 111, .int 112, .int 113, .int 114, .int 115, .int 116, .int 117, .int 118, .int 119, .int 120, .int 121, .int 122]) hfit ead (Cond.before_iff.mp (hsets _ (List.mem_of_getElem? (i := 11) rfl))) (own_eqI (Cond.before_iff.mp (hsets _ (List.mem_of_getElem? (i := 13) rfl)))) (by decide) (by decide) (fun i hi => by
    match i, hi with
    | 0, _ => exact own_eqI (Cond.before_iff.mp (hsets _ (List.mem_of_getElem? (i := 14) rfl)))
    | 1, _ => exact own_eqI (Cond.before_iff.mp (hsets _ (List.mem_of_getElem? (i := 15) rfl)))
    | 2, _ => exact own_eqI (Cond.before_iff.mp (hsets _ (List.mem_of_getElem? (i := 16) rfl)))
    | 3, _ => exact own_eqI (Cond.before_iff.mp (hsets _ (List.mem_of_getElem? (i := 17) rfl)))
    | 4, _ => exact own_eqI (Cond.before_iff.mp (hsets _ (List.mem_of_getElem? (i := 18) rfl)))
    | 5, _ => exact own_eqI (Cond.before_iff.mp (hsets _ (List.mem_of_getElem? (i := 19) rfl)))
    | 6, _ => exact own_eqI (Cond.before_iff.mp (hsets _ (List.mem_of_getElem? (i := 20) rfl)))
    | 7, _ => exact own_eqI (Cond.before_iff.mp (hsets _ (List.mem_of_getElem? (i := 21) rfl)))
    | 8, _ => exact own_eqI (Cond.before_iff.mp (hsets _ (List.mem_of_getElem? (i := 22) rfl)))
    | 9, _ => exact own_eqI (Cond.before_iff.mp (hsets _ (List.mem_of_getElem? (i := 23) rfl)))
    | 10, _ => exact own_eqI (Cond.before_iff.mp (hsets _ (List.mem_of_getElem? (i := 24) rfl)))
    | 11, _ => exact own_eqI (Cond.before_iff.mp (hsets _ (List.mem_of_getElem? (i := 25) rfl)))
    | 12, _ => exact own_eqI (Cond.before_iff.mp (hsets _ (List.mem_of_getElem? (i := 26) rfl)))
    | 13, _ => exact own_eqI (Cond.before_iff.mp (hsets _ (List.mem_of_getElem? (i := 27) rfl)))
    | 14, _ => exact own_eqI (Cond.before_iff.mp (hsets _ (List.mem_of_getElem? (i := 28) rfl)))
    | 15, _ => exact own_eqI (Cond.before_iff.mp (hsets _ (List.mem_of_getElem? (i := 29) rfl)))
    | 16, _ => exact own_eqI (Cond.before_iff.mp (hsets _ (List.mem_of_getElem? (i := 30) rfl)))
    | 17, _ => exact own_eqI (Cond.before_iff.mp (hsets _ (List.mem_of_getElem? (i := 31) rfl)))
    | 18, _ => exact own_eqI (Cond.before_iff.mp (hsets _ (List.mem_of_getElem? (i := 32) rfl)))
    | 19, _ => exact own_eqI (Cond.before_iff.mp (hsets _ (List.mem_of_getElem? (i := 33) rfl)))
    | 20, _ => exact own_eqI (Cond.before_iff.mp (hsets _ (List.mem_of_getElem? (i := 34) rfl)))
    | 21, _ => exact own_eqI (Cond.before_iff.mp (hsets _ (List.mem_of_getElem? (i := 35) rfl)))
    | 22, _ => exact own_eqI (Cond.before_iff.mp (hsets _ (List.mem_of_getElem? (i := 36) rfl)))
    | 23, _ => exact own_eqI (Cond.before_iff.mp (hsets _ (List.mem_of_getElem? (i := 37) rfl)))
    | 24, _ => exact own_eqI (Cond.before_iff.mp (hsets _ (List.mem_of_getElem? (i := 38) rfl)))
    | 25, _ => exact own_eqI (Cond.before_iff.mp (hsets _ (List.mem_of_getElem? (i := 39) rfl)))
    | 26, _ => exact own_eqI (Cond.before_iff.mp (hsets _ (List.mem_of_getElem? (i := 40) rfl)))
    | 27, _ => exact own_eqI (Cond.before_iff.mp (hsets _ (List.mem_of_getElem? (i := 41) rfl)))
    | 28, _ => exact own_eqI (Cond.before_iff.mp (hsets _ (List.mem_of_getElem? (i := 42) rfl)))
    | 29, _ => exact own_eqI (Cond.before_iff.mp (hsets _ (List.mem_of_getElem? (i := 43) rfl)))
    | 30, _ => exact own_eqI (Cond.before_iff.mp (hsets _ (List.mem_of_getElem? (i := 44) rfl)))
    | 31, _ => exact own_eqI (Cond.before_iff.mp (hsets _ (List.mem_of_getElem? (i := 45) rfl)))
    | 32, _ => exact own_eqI (Cond.before_iff.mp (hsets _ (List.mem_of_getElem? (i := 46) rfl)))
    | 33, _ => exact own_eqI (Cond.before_iff.mp (hsets _ (List.mem_of_getElem? (i := 47) rfl)))
    | 34, _ => exact own_eqI (Cond.before_iff.mp (hsets _ (List.mem_of_getElem? (i := 48) rfl)))
    | 35, _ => exact own_eqI (Cond.before_iff.mp (hsets _ (List.mem_of_getElem? (i := 49) rfl)))
    | j + 36, hj => exact absurd hj (by omega))
  have Aad : own_A s s.heap ad kd .char 36 (fun i => .int (own_dg i)) := Aad.congr (fun i hi => by
    match i, hi with
    | 0, _ => rfl
    | 1, _ => rfl
    | 2, _ => rfl
    | 3, _ => rfl
    | 4, _ => rfl
    | 5, _ => rfl
    | 6, _ => rfl
    | 7, _ => rfl
    | 8, _ => rfl
    | 9, _ => rfl
    | 10, _ => rfl
    | 11, _ => rfl
    | 12, _ => rfl
    | 13, _ => rfl
    | 14, _ => rfl
    | 15, _ => rfl
    | 16, _ => rfl
    | 17, _ => rfl
    | 18, _ => rfl
    | 19, _ => rfl
    | 20, _ => rfl
    | 21, _ => rfl
    | 22, _ => rfl
    | 23, _ => rfl
    | 24, _ => rfl
    | 25, _ => rfl
    | 26, _ => rfl
    | 27, _ => rfl
    | 28, _ => rfl
    | 29, _ => rfl
    | 30, _ => rfl
    | 31, _ => rfl
    | 32, _ => rfl
    | 33, _ => rfl
    | 34, _ => rfl
    | 35, _ => rfl
    | j + 36, hj => exact absurd hj (by omega))
  have hCH : CHv s own_EL s.vm s.heap := CHv.start (own_hEL hw) (fun p hp => hcalls.1 p hp) (hsets _ (List.mem_of_getElem? (i := 2) rfl)) (own_w hw 21 rfl) (own_w hw 27 rfl)
  obtain ⟨n, o, h1, h2, h3, _, L, rfl, ⟨rfl, N, -⟩, -, hq⟩ := own_rm0 l s _ hw tables_1 i0 G1 G3 ad kd s.heap s.heap.size (Nat.le_refl _) (Old.start s) SG1 hG1 SG3 rG3 Sad Aad p e ha hc hk s m _ below hf ((Spec.applies_iff_loose hf).mp happ).1 ⟨rfl, State.Warmed39.refl s, rfl, hCH, own_sl0⟩ trivial
  refine ⟨n, _, h1, h2, h3, hpost _ _ _ _ _ _ ⟨Cond.after_iff.mpr rfl, Cond.after_iff.mpr (eq_i res_at (Term.int_eval (1)) rfl), trivial⟩ ⟨hq.1, hq.2.1, hq.2.2.1, (hq.2.2.2.sift fun y hy => Or.inr (N y hy)).mono (by decide) (by decide)⟩⟩
theorem main_1_1 : Claimed_1_1 := comes_1 fun _ _ _ _ _ _ h hF => ⟨h.1, hF⟩
theorem main_1_2 : Claimed_1_2 := comes_1 fun _ _ _ _ _ _ h hF => ⟨h.2.1, hF⟩

end Jvm.Pilot.@@N@@
namespace Jvm.Pilot.@@N@@
open Jvm Jvm.ClassFile Sem Op Lib Jvm.Free Jvm.Stand Jvm.Pilot.@@N@@.Jvm.D
/-! MADE BY PROGRAM (witnessworld.py) out of the Statement's table words and the real class files: 27 classes; the members and pool entries that the words name. The judged class is class 1, her method 1. -/
namespace start1
open Jvm.ClassFile
def u (s : String) : CpInfo := .utf8 (stringToUtf16 s)
/-- a pool by its gaps: so many unusable entries, then the entry; so many at the end -/
def gap : Nat → List CpInfo → List CpInfo
  | 0, r => r
  | n + 1, r => .unusable :: gap n r
def poolList (es : List (Nat × CpInfo)) (last : Nat) : List CpInfo := es.foldr (fun e r => gap e.1 (e.2 :: r)) (gap last [])
def pool (es : List (Nat × CpInfo)) (last : Nat) : Array CpInfo := ⟨poolList es last⟩
def fileOf (pool : Array CpInfo) (this : Nat) (attrs : Array Attribute := #[]) (ms : Array MethodInfo := #[]) (fl : Nat := 33) (sup : Nat := 0) (ifs : Array Nat := #[]) (fds : Array FieldInfo := #[]) : ClassFile where
  minorVersion := 0
  majorVersion := 65
  constantPool := pool
  accessFlags := fl
  thisClass := this
  superClass := sup
  interfaces := ifs
  fields := fds
  methods := ms
  attributes := attrs
def plain (name : String) (sup : Option ClassId) : Class where
  name := name
  kind := .ordinary
  loader := none
  accessFlags := 33
  super := sup
  interfaces := #[]
  cf := none
  fields := #[]
  methods := #[]
  instanceTypes := #[]
  staticTypes := #[]
  resolved := #[]
  callSites := []
  init := .initialized
  statics := none
  mirror := none

def pool0 : Array CpInfo := pool [(5, u "<init>"), (0, u "()V"), (1, .class_ 10), (1, u "java/lang/Object")] 113

def k0c0 : Code := { maxStack := 0, maxLocals := 1, code := object_method_1_code, exceptionTable := #[], attributes := #[] }
def k0m0 : Method := { name := "<init>", desc := "()V", sig := { parameters := [], returnType := none }, accessFlags := 1, code := some k0c0 }
/-- java/lang/Object -/
def k0 : Class := { plain "java/lang/Object" none with
  accessFlags := 33
  interfaces := #[]
  cf := some (fileOf pool0 8 #[] #[{ accessFlags := 1, nameIndex := 5, descriptorIndex := 6, attributes := #[] }] 33 0 #[] #[])
  fields := #[]
  methods := #[k0m0]
  instanceTypes := #[]
  staticTypes := #[]
  resolved := Array.replicate 124 none
  statics := none }

def pool1 : Array CpInfo := pool [(2, .class_ 4), (1, u "java/lang/Object"), (0, u "<init>"), (0, u "()V"), (0, .methodref 8 9), (0, .class_ 10), (0, .nameAndType 11 12), (0, u "com/example/freshness/freshness/bench/MadeStream"), (0, u "word"), (0, u "(I)Ljava/lang/String;"), (0, .long 36), (1, .long 1296), (1, .long 46656), (1, .long 1679616), (1, .long 60466176), (1, .methodref 24 25), (0, .class_ 26), (0, .nameAndType 27 28), (0, u "com/example/freshness/freshness/bench/MadeStreamWordPinLaw"), (0, u "put"), (0, u "([CIIIJJ)V"), (0, .methodref 30 31), (0, .class_ 32), (0, .nameAndType 33 34), (0, u "java/lang/String"), (0, u "length"), (0, u "()I"), (0, .methodref 24 36), (0, .nameAndType 37 38), (0, u "same"), (0, u "(Ljava/lang/String;[CII)Z"), (0, .methodref 24 40), (0, .nameAndType 41 42), (0, u "digit"), (0, u "(J)C"), (0, .long 10), (1, .long 48), (1, .long 97), (1, .methodref 30 50), (0, .nameAndType 51 52), (0, u "charAt"), (0, u "(I)C"), (2, u "law"), (0, u "(I)Z")] 5

def k1m0 : Method := { name := "<init>", desc := "()V", sig := { parameters := [], returnType := none }, accessFlags := 1, code := none }
def k1c1 : Code := { maxStack := 8, maxLocals := 9, code := code, exceptionTable := #[], attributes := #[] }
def k1m1 : Method := { name := "law", desc := "(I)Z", sig := { parameters := [.int], returnType := some .boolean }, accessFlags := 9, code := some k1c1 }
def k1c2 : Code := { maxStack := 4, maxLocals := 10, code := method_3_code, exceptionTable := #[], attributes := #[] }
def k1m2 : Method := { name := "put", desc := "([CIIIJJ)V", sig := { parameters := [(.array .char), .int, .int, .int, .long, .long], returnType := none }, accessFlags := 10, code := some k1c2 }
def k1c3 : Code := { maxStack := 4, maxLocals := 2, code := method_4_code, exceptionTable := #[], attributes := #[] }
def k1m3 : Method := { name := "digit", desc := "(J)C", sig := { parameters := [.long], returnType := some .char }, accessFlags := 10, code := some k1c3 }
def k1c4 : Code := { maxStack := 3, maxLocals := 4, code := method_5_code, exceptionTable := #[], attributes := #[] }
def k1m4 : Method := { name := "same", desc := "(Ljava/lang/String;[CII)Z", sig := { parameters := [(.object "java/lang/String"), (.array .char), .int, .int], returnType := some .boolean }, accessFlags := 10, code := some k1c4 }
/-- com/example/freshness/freshness/bench/MadeStreamWordPinLaw -/
def k1 : Class := { plain "com/example/freshness/freshness/bench/MadeStreamWordPinLaw" (some 0) with
  accessFlags := 49
  interfaces := #[]
  cf := some (fileOf pool1 24 #[] #[{ accessFlags := 1, nameIndex := 5, descriptorIndex := 6, attributes := #[] }, { accessFlags := 9, nameIndex := 55, descriptorIndex := 56, attributes := #[] }, { accessFlags := 10, nameIndex := 27, descriptorIndex := 28, attributes := #[] }, { accessFlags := 10, nameIndex := 41, descriptorIndex := 42, attributes := #[] }, { accessFlags := 10, nameIndex := 37, descriptorIndex := 38, attributes := #[] }] 49 2 #[] #[])
  fields := #[]
  methods := #[k1m0, k1m1, k1m2, k1m3, k1m4]
  instanceTypes := #[]
  staticTypes := #[]
  resolved := Array.replicate 62 none
  statics := none }

def pool2 : Array CpInfo := pool [(2, .class_ 4), (0, .nameAndType 5 6), (0, u "java/lang/Object"), (0, u "<init>"), (0, u "()V"), (2, .class_ 10), (0, u "java/lang/StringBuilder"), (0, .methodref 9 3), (2, .methodref 9 15), (0, .nameAndType 16 17), (0, u "append"), (0, u "(Ljava/lang/String;)Ljava/lang/StringBuilder;"), (3, .methodref 9 22), (0, .nameAndType 23 24), (0, u "toString"), (0, u "()Ljava/lang/String;"), (9, .class_ 36), (1, u "com/example/freshness/freshness/bench/MadeStream"), (21, .string 59), (0, u "w"), (0, .methodref 61 62), (0, .class_ 63), (0, .nameAndType 23 64), (0, u "java/lang/Integer"), (0, u "(II)Ljava/lang/String;"), (75, u "word"), (0, u "(I)Ljava/lang/String;"), (16, u "START"), (0, u "J"), (29, u "MORE_WORDS"), (0, u "[D"), (57, u "DEFAULT_SEED"), (3, u "QUERIES"), (0, u "I"), (1, u "FIRST_ID"), (0, u "SPAN"), (0, u "MEAN_MORE_WORDS"), (0, u "D"), (0, u "MOST_MORE_WORDS"), (1, u "WORDS"), (0, u "LEAST_QUERY_RANK"), (1, u "MOST_QUERY_RANK")] 16

def k2m0 : Method := { name := "<init>", desc := "()V", sig := { parameters := [], returnType := none }, accessFlags := 2, code := none }
def k2c1 : Code := { maxStack := 3, maxLocals := 1, code := prog_1_method_3_code, exceptionTable := #[], attributes := #[] }
def k2m1 : Method := { name := "word", desc := "(I)Ljava/lang/String;", sig := { parameters := [.int], returnType := some (.object "java/lang/String") }, accessFlags := 8, code := some k2c1 }
/-- com/example/freshness/freshness/bench/MadeStream -/
def k2 : Class := { plain "com/example/freshness/freshness/bench/MadeStream" (some 0) with
  accessFlags := 49
  interfaces := #[]
  cf := some (fileOf pool2 34 #[] #[{ accessFlags := 2, nameIndex := 5, descriptorIndex := 6, attributes := #[] }, { accessFlags := 8, nameIndex := 140, descriptorIndex := 141, attributes := #[] }] 49 2 #[] #[{ accessFlags := 25, nameIndex := 248, descriptorIndex := 159, attributes := #[] }, { accessFlags := 25, nameIndex := 252, descriptorIndex := 253, attributes := #[] }, { accessFlags := 25, nameIndex := 255, descriptorIndex := 159, attributes := #[] }, { accessFlags := 26, nameIndex := 158, descriptorIndex := 159, attributes := #[] }, { accessFlags := 26, nameIndex := 256, descriptorIndex := 159, attributes := #[] }, { accessFlags := 26, nameIndex := 257, descriptorIndex := 258, attributes := #[] }, { accessFlags := 26, nameIndex := 259, descriptorIndex := 253, attributes := #[] }, { accessFlags := 26, nameIndex := 261, descriptorIndex := 253, attributes := #[] }, { accessFlags := 26, nameIndex := 262, descriptorIndex := 253, attributes := #[] }, { accessFlags := 26, nameIndex := 264, descriptorIndex := 253, attributes := #[] }, { accessFlags := 26, nameIndex := 189, descriptorIndex := 190, attributes := #[] }])
  fields := #[{ name := "DEFAULT_SEED", type := .long, accessFlags := 25, slot := 0, constantValue := 0 }, { name := "QUERIES", type := .int, accessFlags := 25, slot := 1, constantValue := 0 }, { name := "FIRST_ID", type := .long, accessFlags := 25, slot := 2, constantValue := 0 }, { name := "START", type := .long, accessFlags := 26, slot := 3, constantValue := 0 }, { name := "SPAN", type := .long, accessFlags := 26, slot := 4, constantValue := 0 }, { name := "MEAN_MORE_WORDS", type := .double, accessFlags := 26, slot := 5, constantValue := 0 }, { name := "MOST_MORE_WORDS", type := .int, accessFlags := 26, slot := 6, constantValue := 0 }, { name := "WORDS", type := .int, accessFlags := 26, slot := 7, constantValue := 0 }, { name := "LEAST_QUERY_RANK", type := .int, accessFlags := 26, slot := 8, constantValue := 0 }, { name := "MOST_QUERY_RANK", type := .int, accessFlags := 26, slot := 9, constantValue := 0 }, { name := "MORE_WORDS", type := (.array .double), accessFlags := 26, slot := 10, constantValue := 0 }]
  methods := #[k2m0, k2m1]
  instanceTypes := #[]
  staticTypes := #[.long, .int, .long, .long, .long, .double, .int, .int, .int, .int, (.array .double)]
  resolved := Array.replicate 281 none
  statics := none }

def pool3 : Array CpInfo := pool [(1, .class_ 2), (0, u "java/lang/Appendable"), (0, .class_ 4), (0, u "java/lang/Object")] 9

/-- java/lang/Appendable -/
def k3 : Class := { plain "java/lang/Appendable" (some 0) with
  accessFlags := 1537
  interfaces := #[]
  cf := some (fileOf pool3 1 #[] #[] 1537 3 #[] #[])
  fields := #[]
  methods := #[]
  instanceTypes := #[]
  staticTypes := #[]
  resolved := Array.replicate 14 none
  statics := none }

def pool4 : Array CpInfo := pool [(2, .class_ 4), (1, u "java/lang/CharSequence"), (42, .class_ 48), (0, u "java/lang/CharSequence$1CodePointIterator"), (10, .class_ 60), (0, u "java/lang/CharSequence$1CharIterator"), (5, .class_ 67), (0, u "java/lang/Object")] 63

/-- java/lang/CharSequence -/
def k4 : Class := { plain "java/lang/CharSequence" (some 0) with
  accessFlags := 1537
  interfaces := #[]
  cf := some (fileOf pool4 2 #[.nestMembers #[47, 59]] #[] 1537 66 #[] #[])
  fields := #[]
  methods := #[]
  instanceTypes := #[]
  staticTypes := #[]
  resolved := Array.replicate 131 none
  statics := none }

def pool5 : Array CpInfo := pool [(1, .class_ 2), (0, u "java/lang/String"), (0, .methodref 4 5), (0, .class_ 6), (0, .nameAndType 7 8), (0, u "java/lang/Object"), (0, u "<init>"), (0, u "()V"), (1, .class_ 12), (1, u "java/lang/AbstractStringBuilder"), (0, u "EMPTYVALUE"), (0, u "[B"), (0, .fieldref 10 16), (0, .nameAndType 17 14), (0, u "value"), (0, .fieldref 1 19), (0, .nameAndType 20 21), (0, u "COMPACT_STRINGS"), (0, u "Z"), (0, .fieldref 10 23), (0, .nameAndType 24 25), (0, u "coder"), (0, u "B"), (6, .methodref 1 33), (0, .nameAndType 34 35), (0, u "length"), (0, u "()I"), (4, .methodref 1 41), (0, .nameAndType 24 42), (0, u "()B"), (2, u "append"), (0, u "(Ljava/lang/String;)Ljava/lang/AbstractStringBuilder;"), (1, .class_ 49), (0, u "java/lang/CharSequence"), (19, u "(Ljava/lang/String;)V"), (5, u "maybeLatin1"), (3, .fieldref 10 80), (0, .nameAndType 81 82), (0, u "count"), (0, u "I"), (2, u "isLatin1"), (0, u "()Z"), (13, .methodref 10 101), (0, .nameAndType 102 103), (0, u "ensureCapacityInternal"), (0, u "(I)V"), (104, .methodref 10 209), (0, .nameAndType 210 211), (0, u "putStringAt"), (0, u "(ILjava/lang/String;)V"), (5, u "inflateIfNeededFor"), (2, .nameAndType 221 222), (0, u "getBytes"), (0, u "([BIB)V"), (174, .methodref 10 398), (0, .nameAndType 217 69), (0, .methodref 1 220), (3, u "()[B"), (40, .class_ 445), (0, u "java/lang/Appendable"), (106, u "getValue")] 56

def k5m0 : Method := { name := "<init>", desc := "()V", sig := { parameters := [], returnType := none }, accessFlags := 0, code := none }
def k5c1 : Code := { maxStack := 2, maxLocals := 2, code := jdk_68_method_2_code, exceptionTable := #[], attributes := #[] }
def k5m1 : Method := { name := "<init>", desc := "(I)V", sig := { parameters := [.int], returnType := none }, accessFlags := 0, code := some k5c1 }
def k5c2 : Code := { maxStack := 1, maxLocals := 1, code := jdk_68_method_6_code, exceptionTable := #[], attributes := #[] }
def k5m2 : Method := { name := "length", desc := "()I", sig := { parameters := [], returnType := some .int }, accessFlags := 1, code := some k5c2 }
def k5c3 : Code := { maxStack := 4, maxLocals := 3, code := jdk_68_method_9_code, exceptionTable := #[], attributes := #[] }
def k5m3 : Method := { name := "ensureCapacityInternal", desc := "(I)V", sig := { parameters := [.int], returnType := none }, accessFlags := 2, code := some k5c3 }
def k5c4 : Code := { maxStack := 3, maxLocals := 3, code := jdk_68_method_22_code, exceptionTable := #[], attributes := #[] }
def k5m4 : Method := { name := "append", desc := "(Ljava/lang/String;)Ljava/lang/AbstractStringBuilder;", sig := { parameters := [(.object "java/lang/String")], returnType := some (.object "java/lang/AbstractStringBuilder") }, accessFlags := 1, code := some k5c4 }
def k5c5 : Code := { maxStack := 1, maxLocals := 1, code := jdk_68_method_64_code, exceptionTable := #[], attributes := #[] }
def k5m5 : Method := { name := "getValue", desc := "()[B", sig := { parameters := [], returnType := some (.array .byte) }, accessFlags := 16, code := some k5c5 }
def k5c6 : Code := { maxStack := 1, maxLocals := 1, code := jdk_68_method_68_code, exceptionTable := #[], attributes := #[] }
def k5m6 : Method := { name := "isLatin1", desc := "()Z", sig := { parameters := [], returnType := some .boolean }, accessFlags := 16, code := some k5c6 }
def k5c7 : Code := { maxStack := 2, maxLocals := 2, code := jdk_68_method_71_code, exceptionTable := #[], attributes := #[] }
def k5m7 : Method := { name := "inflateIfNeededFor", desc := "(Ljava/lang/String;)V", sig := { parameters := [(.object "java/lang/String")], returnType := none }, accessFlags := 2, code := some k5c7 }
def k5c8 : Code := { maxStack := 4, maxLocals := 3, code := jdk_68_method_73_code, exceptionTable := #[], attributes := #[] }
def k5m8 : Method := { name := "putStringAt", desc := "(ILjava/lang/String;)V", sig := { parameters := [.int, (.object "java/lang/String")], returnType := none }, accessFlags := 2, code := some k5c8 }
/-- java/lang/AbstractStringBuilder -/
def k5 : Class := { plain "java/lang/AbstractStringBuilder" (some 0) with
  accessFlags := 1056
  interfaces := #[3, 4]
  cf := some (fileOf pool5 10 #[] #[{ accessFlags := 0, nameIndex := 7, descriptorIndex := 8, attributes := #[] }, { accessFlags := 0, nameIndex := 7, descriptorIndex := 103, attributes := #[] }, { accessFlags := 1, nameIndex := 34, descriptorIndex := 35, attributes := #[] }, { accessFlags := 2, nameIndex := 102, descriptorIndex := 103, attributes := #[] }, { accessFlags := 1, nameIndex := 45, descriptorIndex := 46, attributes := #[] }, { accessFlags := 16, nameIndex := 552, descriptorIndex := 403, attributes := #[] }, { accessFlags := 16, nameIndex := 85, descriptorIndex := 86, attributes := #[] }, { accessFlags := 2, nameIndex := 217, descriptorIndex := 69, attributes := #[] }, { accessFlags := 2, nameIndex := 210, descriptorIndex := 211, attributes := #[] }] 1056 4 #[444, 48] #[{ accessFlags := 0, nameIndex := 17, descriptorIndex := 14, attributes := #[] }, { accessFlags := 0, nameIndex := 24, descriptorIndex := 25, attributes := #[] }, { accessFlags := 0, nameIndex := 75, descriptorIndex := 21, attributes := #[] }, { accessFlags := 0, nameIndex := 81, descriptorIndex := 82, attributes := #[] }, { accessFlags := 26, nameIndex := 13, descriptorIndex := 14, attributes := #[] }])
  fields := #[{ name := "value", type := (.array .byte), accessFlags := 0, slot := 0, constantValue := 0 }, { name := "coder", type := .byte, accessFlags := 0, slot := 1, constantValue := 0 }, { name := "maybeLatin1", type := .boolean, accessFlags := 0, slot := 2, constantValue := 0 }, { name := "count", type := .int, accessFlags := 0, slot := 3, constantValue := 0 }, { name := "EMPTYVALUE", type := (.array .byte), accessFlags := 26, slot := 0, constantValue := 0 }]
  methods := #[k5m0, k5m1, k5m2, k5m3, k5m4, k5m5, k5m6, k5m7, k5m8]
  instanceTypes := #[(.array .byte), .byte, .boolean, .int]
  staticTypes := #[(.array .byte)]
  resolved := Array.replicate 609 none
  statics := none }

def pool6 : Array CpInfo := pool [(1, .class_ 2), (0, u "java/io/Serializable"), (0, .class_ 4), (0, u "java/lang/Object")] 2

/-- java/io/Serializable -/
def k6 : Class := { plain "java/io/Serializable" (some 0) with
  accessFlags := 1537
  interfaces := #[]
  cf := some (fileOf pool6 1 #[] #[] 1537 3 #[] #[])
  fields := #[]
  methods := #[]
  instanceTypes := #[]
  staticTypes := #[]
  resolved := Array.replicate 7 none
  statics := none }

def pool7 : Array CpInfo := pool [(1, .class_ 2), (0, u "java/lang/Comparable"), (0, .class_ 4), (0, u "java/lang/Object")] 7

/-- java/lang/Comparable -/
def k7 : Class := { plain "java/lang/Comparable" (some 0) with
  accessFlags := 1537
  interfaces := #[]
  cf := some (fileOf pool7 1 #[] #[] 1537 3 #[] #[])
  fields := #[]
  methods := #[]
  instanceTypes := #[]
  staticTypes := #[]
  resolved := Array.replicate 12 none
  statics := none }

def pool8 : Array CpInfo := pool [(1, .methodref 2 3), (0, .class_ 4), (0, .nameAndType 5 6), (0, u "java/lang/AbstractStringBuilder"), (0, u "<init>"), (0, u "(I)V"), (11, .class_ 20), (1, u "java/lang/String"), (3, .class_ 26), (1, u "java/lang/StringBuilder"), (0, u "append"), (0, u "(Ljava/lang/String;)Ljava/lang/StringBuilder;"), (0, .methodref 2 30), (0, .nameAndType 27 31), (0, u "(Ljava/lang/String;)Ljava/lang/AbstractStringBuilder;"), (105, .methodref 18 138), (0, .nameAndType 5 139), (0, u "(Ljava/lang/StringBuilder;)V"), (5, u "()V"), (10, u "()I"), (186, .methodref 2 344), (0, .nameAndType 345 156), (0, u "length"), (3, .class_ 350), (0, u "java/lang/Appendable"), (0, .class_ 352), (0, u "java/io/Serializable"), (0, .class_ 354), (0, u "java/lang/Comparable"), (0, .class_ 356), (0, u "java/lang/CharSequence"), (0, u "serialVersionUID"), (0, u "J"), (40, u "toString"), (0, u "()Ljava/lang/String;")] 21

def k8c0 : Code := { maxStack := 2, maxLocals := 1, code := jdk_67_method_1_code, exceptionTable := #[], attributes := #[] }
def k8m0 : Method := { name := "<init>", desc := "()V", sig := { parameters := [], returnType := none }, accessFlags := 1, code := some k8c0 }
def k8c1 : Code := { maxStack := 2, maxLocals := 2, code := jdk_67_method_7_code, exceptionTable := #[], attributes := #[] }
def k8m1 : Method := { name := "append", desc := "(Ljava/lang/String;)Ljava/lang/StringBuilder;", sig := { parameters := [(.object "java/lang/String")], returnType := some (.object "java/lang/StringBuilder") }, accessFlags := 1, code := some k8c1 }
def k8c2 : Code := { maxStack := 3, maxLocals := 1, code := jdk_67_method_42_code, exceptionTable := #[], attributes := #[] }
def k8m2 : Method := { name := "toString", desc := "()Ljava/lang/String;", sig := { parameters := [], returnType := some (.object "java/lang/String") }, accessFlags := 1, code := some k8c2 }
def k8c3 : Code := { maxStack := 1, maxLocals := 1, code := jdk_67_method_93_code, exceptionTable := #[], attributes := #[] }
def k8m3 : Method := { name := "length", desc := "()I", sig := { parameters := [], returnType := some .int }, accessFlags := 4161, code := some k8c3 }
/-- java/lang/StringBuilder -/
def k8 : Class := { plain "java/lang/StringBuilder" (some 5) with
  accessFlags := 49
  interfaces := #[3, 6, 7, 4]
  cf := some (fileOf pool8 24 #[] #[{ accessFlags := 1, nameIndex := 5, descriptorIndex := 145, attributes := #[] }, { accessFlags := 1, nameIndex := 27, descriptorIndex := 28, attributes := #[] }, { accessFlags := 1, nameIndex := 399, descriptorIndex := 400, attributes := #[] }, { accessFlags := 4161, nameIndex := 345, descriptorIndex := 156, attributes := #[] }] 49 2 #[349, 351, 353, 355] #[{ accessFlags := 24, nameIndex := 357, descriptorIndex := 358, attributes := #[] }])
  fields := #[{ name := "serialVersionUID", type := .long, accessFlags := 24, slot := 0, constantValue := 0 }]
  methods := #[k8m0, k8m1, k8m2, k8m3]
  instanceTypes := #[(.array .byte), .byte, .boolean, .int]
  staticTypes := #[.long]
  resolved := Array.replicate 422 none
  statics := none }

def pool9 : Array CpInfo := pool [(1, .class_ 2), (0, u "java/lang/constant/Constable"), (0, .class_ 4), (0, u "java/lang/Object")] 6

/-- java/lang/constant/Constable -/
def k9 : Class := { plain "java/lang/constant/Constable" (some 0) with
  accessFlags := 1537
  interfaces := #[]
  cf := some (fileOf pool9 1 #[] #[] 1537 3 #[] #[])
  fields := #[]
  methods := #[]
  instanceTypes := #[]
  staticTypes := #[]
  resolved := Array.replicate 11 none
  statics := none }

def pool10 : Array CpInfo := pool [(1, .class_ 2), (0, u "java/lang/constant/ConstantDesc"), (0, .class_ 4), (0, u "java/lang/Object")] 32

/-- java/lang/constant/ConstantDesc -/
def k10 : Class := { plain "java/lang/constant/ConstantDesc" (some 0) with
  accessFlags := 1537
  interfaces := #[]
  cf := some (fileOf pool10 1 #[] #[] 1537 3 #[] #[])
  fields := #[]
  methods := #[]
  instanceTypes := #[]
  staticTypes := #[]
  resolved := Array.replicate 37 none
  statics := none }

def pool11 : Array CpInfo := pool [(1, .methodref 2 3), (0, .class_ 4), (0, .nameAndType 5 6), (0, u "java/lang/Object"), (0, u "<init>"), (0, u "()V"), (2, .fieldref 10 11), (0, .class_ 12), (0, .nameAndType 13 14), (0, u "java/lang/String"), (0, u "value"), (0, u "[B"), (0, .fieldref 10 16), (0, .nameAndType 17 18), (0, u "coder"), (0, u "B"), (2, u "hash"), (0, u "I"), (2, u "hashIsZero"), (0, u "Z"), (11, .fieldref 10 39), (0, .nameAndType 40 26), (0, u "COMPACT_STRINGS"), (13, .methodref 55 56), (0, .class_ 57), (0, .nameAndType 58 59), (0, u "java/util/Arrays"), (0, u "copyOfRange"), (0, u "([BII)[B"), (47, .class_ 109), (1, u "java/lang/StringLatin1"), (32, u "()Z"), (50, .class_ 195), (1, u "java/lang/System"), (15, u "([BB)V"), (0, .methodref 193 213), (0, .nameAndType 214 215), (0, u "arraycopy"), (0, u "(Ljava/lang/Object;ILjava/lang/Object;II)V"), (118, u "()I"), (0, .methodref 10 336), (0, .nameAndType 17 337), (0, u "()B"), (2, u "()[B"), (22, u "([BI)C"), (27, u "(II)V"), (35, u "(I)C"), (61, .methodref 10 490), (0, .nameAndType 5 491), (0, u "(Ljava/lang/AbstractStringBuilder;Ljava/lang/Void;)V"), (0, .methodref 10 493), (0, .nameAndType 494 142), (0, u "isLatin1"), (0, .methodref 107 496), (0, .nameAndType 497 363), (0, u "charAt"), (3, u "checkIndex"), (4, .nameAndType 507 334), (0, u "length"), (24, u "getBytes"), (16, .methodref 550 506), (0, .class_ 551), (0, u "java/lang/AbstractStringBuilder"), (0, .methodref 550 553), (0, .nameAndType 554 340), (0, u "getValue"), (20, .class_ 576), (0, u "java/lang/CharSequence"), (22, u "CASE_INSENSITIVE_ORDER"), (0, u "Ljava/util/Comparator;"), (220, u "([BIB)V"), (225, .methodref 550 493), (5, .fieldref 1054 1055), (0, .class_ 1056), (0, .nameAndType 1057 1058), (0, u "jdk/internal/util/Preconditions"), (0, u "SIOOBE_FORMATTER"), (0, u "Ljava/util/function/BiFunction;"), (0, .methodref 1054 1060), (0, .nameAndType 501 1061), (0, u "(IILjava/util/function/BiFunction;)I"), (39, u "serialPersistentFields"), (0, u "[Ljava/io/ObjectStreamField;"), (0, .class_ 1104), (0, u "java/lang/String$CaseInsensitiveComparator"), (1, .class_ 1107), (0, u "java/io/Serializable"), (0, .class_ 1109), (0, u "java/lang/Comparable"), (0, .class_ 1111), (0, u "java/lang/constant/Constable"), (0, .class_ 1113), (0, u "java/lang/constant/ConstantDesc"), (2, u "serialVersionUID"), (0, u "J"), (3, u "REPL"), (0, u "C"), (2, u "LATIN1"), (1, u "UTF16"), (105, u "(Ljava/lang/StringBuilder;)V")] 217

def k11m0 : Method := { name := "<init>", desc := "()V", sig := { parameters := [], returnType := none }, accessFlags := 1, code := none }
def k11c1 : Code := { maxStack := 3, maxLocals := 2, code := jdk_42_method_53_code, exceptionTable := #[], attributes := #[] }
def k11m1 : Method := { name := "<init>", desc := "(Ljava/lang/StringBuilder;)V", sig := { parameters := [(.object "java/lang/StringBuilder")], returnType := none }, accessFlags := 1, code := some k11c1 }
def k11c2 : Code := { maxStack := 2, maxLocals := 1, code := jdk_42_method_54_code, exceptionTable := #[], attributes := #[] }
def k11m2 : Method := { name := "length", desc := "()I", sig := { parameters := [], returnType := some .int }, accessFlags := 1, code := some k11c2 }
def k11c3 : Code := { maxStack := 2, maxLocals := 2, code := jdk_42_method_56_code, exceptionTable := #[], attributes := #[] }
def k11m3 : Method := { name := "charAt", desc := "(I)C", sig := { parameters := [.int], returnType := some .char }, accessFlags := 1, code := some k11c3 }
def k11c4 : Code := { maxStack := 5, maxLocals := 4, code := jdk_42_method_147_code, exceptionTable := #[], attributes := #[] }
def k11m4 : Method := { name := "getBytes", desc := "([BIB)V", sig := { parameters := [(.array .byte), .int, .byte], returnType := none }, accessFlags := 0, code := some k11c4 }
def k11c5 : Code := { maxStack := 5, maxLocals := 5, code := jdk_42_method_150_code, exceptionTable := #[], attributes := #[] }
def k11m5 : Method := { name := "<init>", desc := "(Ljava/lang/AbstractStringBuilder;Ljava/lang/Void;)V", sig := { parameters := [(.object "java/lang/AbstractStringBuilder"), (.object "java/lang/Void")], returnType := none }, accessFlags := 0, code := some k11c5 }
def k11c6 : Code := { maxStack := 2, maxLocals := 3, code := jdk_42_method_151_code, exceptionTable := #[], attributes := #[] }
def k11m6 : Method := { name := "<init>", desc := "([BB)V", sig := { parameters := [(.array .byte), .byte], returnType := none }, accessFlags := 0, code := some k11c6 }
def k11c7 : Code := { maxStack := 1, maxLocals := 1, code := jdk_42_method_152_code, exceptionTable := #[], attributes := #[] }
def k11m7 : Method := { name := "coder", desc := "()B", sig := { parameters := [], returnType := some .byte }, accessFlags := 0, code := some k11c7 }
def k11c8 : Code := { maxStack := 1, maxLocals := 1, code := jdk_42_method_154_code, exceptionTable := #[], attributes := #[] }
def k11m8 : Method := { name := "isLatin1", desc := "()Z", sig := { parameters := [], returnType := some .boolean }, accessFlags := 0, code := some k11c8 }
def k11c9 : Code := { maxStack := 3, maxLocals := 2, code := jdk_42_method_155_code, exceptionTable := #[], attributes := #[] }
def k11m9 : Method := { name := "checkIndex", desc := "(II)V", sig := { parameters := [.int, .int], returnType := none }, accessFlags := 8, code := some k11c9 }
/-- java/lang/String -/
def k11 : Class := { plain "java/lang/String" (some 0) with
  accessFlags := 49
  interfaces := #[6, 7, 4, 9, 10]
  cf := some (fileOf pool11 10 #[.nestMembers #[1103]] #[{ accessFlags := 1, nameIndex := 5, descriptorIndex := 6, attributes := #[] }, { accessFlags := 1, nameIndex := 5, descriptorIndex := 1233, attributes := #[] }, { accessFlags := 1, nameIndex := 507, descriptorIndex := 334, attributes := #[] }, { accessFlags := 1, nameIndex := 497, descriptorIndex := 427, attributes := #[] }, { accessFlags := 0, nameIndex := 532, descriptorIndex := 821, attributes := #[] }, { accessFlags := 0, nameIndex := 5, descriptorIndex := 491, attributes := #[] }, { accessFlags := 0, nameIndex := 5, descriptorIndex := 211, attributes := #[] }, { accessFlags := 0, nameIndex := 17, descriptorIndex := 337, attributes := #[] }, { accessFlags := 0, nameIndex := 494, descriptorIndex := 142, attributes := #[] }, { accessFlags := 8, nameIndex := 501, descriptorIndex := 391, attributes := #[] }] 49 2 #[1106, 1108, 575, 1110, 1112] #[{ accessFlags := 18, nameIndex := 13, descriptorIndex := 14, attributes := #[] }, { accessFlags := 18, nameIndex := 17, descriptorIndex := 18, attributes := #[] }, { accessFlags := 2, nameIndex := 21, descriptorIndex := 22, attributes := #[] }, { accessFlags := 2, nameIndex := 25, descriptorIndex := 26, attributes := #[] }, { accessFlags := 26, nameIndex := 1116, descriptorIndex := 1117, attributes := #[] }, { accessFlags := 24, nameIndex := 40, descriptorIndex := 26, attributes := #[] }, { accessFlags := 26, nameIndex := 1101, descriptorIndex := 1102, attributes := #[] }, { accessFlags := 26, nameIndex := 1121, descriptorIndex := 1122, attributes := #[] }, { accessFlags := 25, nameIndex := 599, descriptorIndex := 600, attributes := #[] }, { accessFlags := 24, nameIndex := 1125, descriptorIndex := 18, attributes := #[] }, { accessFlags := 24, nameIndex := 1127, descriptorIndex := 18, attributes := #[] }])
  fields := #[{ name := "value", type := (.array .byte), accessFlags := 18, slot := 0, constantValue := 0 }, { name := "coder", type := .byte, accessFlags := 18, slot := 1, constantValue := 0 }, { name := "hash", type := .int, accessFlags := 2, slot := 2, constantValue := 0 }, { name := "hashIsZero", type := .boolean, accessFlags := 2, slot := 3, constantValue := 0 }, { name := "serialVersionUID", type := .long, accessFlags := 26, slot := 0, constantValue := 0 }, { name := "COMPACT_STRINGS", type := .boolean, accessFlags := 24, slot := 1, constantValue := 0 }, { name := "serialPersistentFields", type := (.array (.object "java/io/ObjectStreamField")), accessFlags := 26, slot := 2, constantValue := 0 }, { name := "REPL", type := .char, accessFlags := 26, slot := 3, constantValue := 0 }, { name := "CASE_INSENSITIVE_ORDER", type := (.object "java/util/Comparator"), accessFlags := 25, slot := 4, constantValue := 0 }, { name := "LATIN1", type := .byte, accessFlags := 24, slot := 5, constantValue := 0 }, { name := "UTF16", type := .byte, accessFlags := 24, slot := 6, constantValue := 0 }]
  methods := #[k11m0, k11m1, k11m2, k11m3, k11m4, k11m5, k11m6, k11m7, k11m8, k11m9]
  instanceTypes := #[(.array .byte), .byte, .int, .boolean]
  staticTypes := #[.long, .boolean, (.array (.object "java/io/ObjectStreamField")), .char, (.object "java/util/Comparator"), .byte, .byte]
  resolved := Array.replicate 1451 none
  statics := some 0 }

def pool12 : Array CpInfo := pool [(2, .class_ 4), (1, u "java/lang/Object"), (0, u "<init>"), (0, u "()V"), (1, .class_ 10), (1, u "java/lang/System"), (0, u "allowSecurityManager"), (0, u "I"), (16, u "cons"), (0, u "Ljava/io/Console;"), (77, .class_ 110), (1, u "java/lang/System$CallersHolder"), (43, u "initialErrStream"), (0, u "Ljava/io/PrintStream;"), (19, u "security"), (0, u "Ljava/lang/SecurityManager;"), (31, .class_ 209), (0, u "java/lang/System$1"), (7, u "props"), (0, u "Ljava/util/Properties;"), (2, u "lineSeparator"), (0, u "Ljava/lang/String;"), (96, .class_ 321), (1, u "java/lang/System$LoggerFinder"), (5, .class_ 328), (0, u "java/lang/System$Logger"), (67, u "err"), (2, u "out"), (91, u "notSupportedJnuEncoding"), (15, u "in"), (17, u "initialIn"), (0, u "Ljava/io/InputStream;"), (35, u "bootLayer"), (0, u "Ljava/lang/ModuleLayer;"), (99, .class_ 664), (0, u "java/lang/System$2"), (9, u "NEVER"), (2, u "MAYBE"), (49, u "arraycopy"), (0, u "(Ljava/lang/Object;ILjava/lang/Object;II)V"), (72, .class_ 802), (0, u "java/lang/System$Logger$Level")] 31

def k12m0 : Method := { name := "<init>", desc := "()V", sig := { parameters := [], returnType := none }, accessFlags := 2, code := none }
def k12m1 : Method := { name := "arraycopy", desc := "(Ljava/lang/Object;ILjava/lang/Object;II)V", sig := { parameters := [(.object "java/lang/Object"), .int, (.object "java/lang/Object"), .int, .int], returnType := none }, accessFlags := 265, code := none }
/-- java/lang/System -/
def k12 : Class := { plain "java/lang/System" (some 0) with
  accessFlags := 49
  interfaces := #[]
  cf := some (fileOf pool12 8 #[.nestMembers #[319, 327, 801, 108, 663, 208]] #[{ accessFlags := 2, nameIndex := 5, descriptorIndex := 6, attributes := #[] }, { accessFlags := 265, nameIndex := 727, descriptorIndex := 728, attributes := #[] }] 49 2 #[] #[{ accessFlags := 25, nameIndex := 507, descriptorIndex := 526, attributes := #[] }, { accessFlags := 25, nameIndex := 399, descriptorIndex := 155, attributes := #[] }, { accessFlags := 25, nameIndex := 396, descriptorIndex := 155, attributes := #[] }, { accessFlags := 10, nameIndex := 525, descriptorIndex := 526, attributes := #[] }, { accessFlags := 26, nameIndex := 674, descriptorIndex := 12, attributes := #[] }, { accessFlags := 26, nameIndex := 677, descriptorIndex := 12, attributes := #[] }, { accessFlags := 10, nameIndex := 11, descriptorIndex := 12, attributes := #[] }, { accessFlags := 74, nameIndex := 175, descriptorIndex := 176, attributes := #[] }, { accessFlags := 10, nameIndex := 491, descriptorIndex := 222, attributes := #[] }, { accessFlags := 74, nameIndex := 29, descriptorIndex := 30, attributes := #[] }, { accessFlags := 74, nameIndex := 154, descriptorIndex := 155, attributes := #[] }, { accessFlags := 10, nameIndex := 217, descriptorIndex := 218, attributes := #[] }, { accessFlags := 10, nameIndex := 221, descriptorIndex := 222, attributes := #[] }, { accessFlags := 8, nameIndex := 562, descriptorIndex := 563, attributes := #[] }])
  fields := #[{ name := "in", type := (.object "java/io/InputStream"), accessFlags := 25, slot := 0, constantValue := 0 }, { name := "out", type := (.object "java/io/PrintStream"), accessFlags := 25, slot := 1, constantValue := 0 }, { name := "err", type := (.object "java/io/PrintStream"), accessFlags := 25, slot := 2, constantValue := 0 }, { name := "initialIn", type := (.object "java/io/InputStream"), accessFlags := 10, slot := 3, constantValue := 0 }, { name := "NEVER", type := .int, accessFlags := 26, slot := 4, constantValue := 0 }, { name := "MAYBE", type := .int, accessFlags := 26, slot := 5, constantValue := 0 }, { name := "allowSecurityManager", type := .int, accessFlags := 10, slot := 6, constantValue := 0 }, { name := "security", type := (.object "java/lang/SecurityManager"), accessFlags := 74, slot := 7, constantValue := 0 }, { name := "notSupportedJnuEncoding", type := (.object "java/lang/String"), accessFlags := 10, slot := 8, constantValue := 0 }, { name := "cons", type := (.object "java/io/Console"), accessFlags := 74, slot := 9, constantValue := 0 }, { name := "initialErrStream", type := (.object "java/io/PrintStream"), accessFlags := 74, slot := 10, constantValue := 0 }, { name := "props", type := (.object "java/util/Properties"), accessFlags := 10, slot := 11, constantValue := 0 }, { name := "lineSeparator", type := (.object "java/lang/String"), accessFlags := 10, slot := 12, constantValue := 0 }, { name := "bootLayer", type := (.object "java/lang/ModuleLayer"), accessFlags := 8, slot := 13, constantValue := 0 }]
  methods := #[k12m0, k12m1]
  instanceTypes := #[]
  staticTypes := #[(.object "java/io/InputStream"), (.object "java/io/PrintStream"), (.object "java/io/PrintStream"), (.object "java/io/InputStream"), .int, .int, .int, (.object "java/lang/SecurityManager"), (.object "java/lang/String"), (.object "java/io/Console"), (.object "java/io/PrintStream"), (.object "java/util/Properties"), (.object "java/lang/String"), (.object "java/lang/ModuleLayer")]
  resolved := Array.replicate 834 none
  statics := none }

def pool13 : Array CpInfo := pool [(2, .class_ 4), (1, u "java/lang/Object"), (0, u "<init>"), (0, u "()V"), (1, .class_ 10), (1, u "java/lang/Number"), (2, .class_ 14), (0, u "java/io/Serializable"), (0, u "serialVersionUID"), (0, u "J")] 20

def k13m0 : Method := { name := "<init>", desc := "()V", sig := { parameters := [], returnType := none }, accessFlags := 1, code := none }
/-- java/lang/Number -/
def k13 : Class := { plain "java/lang/Number" (some 0) with
  accessFlags := 1057
  interfaces := #[6]
  cf := some (fileOf pool13 8 #[] #[{ accessFlags := 1, nameIndex := 5, descriptorIndex := 6, attributes := #[] }] 1057 2 #[13] #[{ accessFlags := 26, nameIndex := 15, descriptorIndex := 16, attributes := #[] }])
  fields := #[{ name := "serialVersionUID", type := .long, accessFlags := 26, slot := 0, constantValue := 0 }]
  methods := #[k13m0]
  instanceTypes := #[]
  staticTypes := #[.long]
  resolved := Array.replicate 37 none
  statics := none }

def pool14 : Array CpInfo := pool [(1, .class_ 2), (0, u "java/lang/Integer"), (2, .class_ 6), (0, u "java/lang/String"), (4, u "toString"), (1, .fieldref 5 14), (0, .nameAndType 15 16), (0, u "COMPACT_STRINGS"), (0, u "Z"), (0, .fieldref 1 18), (0, .nameAndType 19 20), (0, u "digits"), (0, u "[C"), (0, .methodref 22 23), (0, .class_ 24), (0, .nameAndType 25 26), (0, u "java/lang/StringLatin1"), (0, u "newString"), (0, u "([BII)Ljava/lang/String;"), (3, u "(II)Ljava/lang/String;"), (54, u "DigitOnes"), (0, u "[B"), (2, u "DigitTens"), (99, .class_ 190), (0, u "java/lang/Integer$IntegerCache"), (3, u "I"), (8, .class_ 204), (0, u "java/lang/Number"), (2, u "value"), (94, u "TYPE"), (0, u "Ljava/lang/Class;"), (0, .class_ 305), (0, u "java/lang/Comparable"), (0, .class_ 307), (0, u "java/lang/constant/Constable"), (0, .class_ 309), (0, u "java/lang/constant/ConstantDesc"), (0, u "MIN_VALUE"), (1, u "MAX_VALUE"), (3, u "SIZE"), (1, u "BYTES"), (1, u "serialVersionUID"), (0, u "J")] 131

def k14c0 : Code := { maxStack := 5, maxLocals := 5, code := jdk_33_method_1_code, exceptionTable := #[], attributes := #[] }
def k14m0 : Method := { name := "toString", desc := "(II)Ljava/lang/String;", sig := { parameters := [.int, .int], returnType := some (.object "java/lang/String") }, accessFlags := 9, code := some k14c0 }
/-- java/lang/Integer -/
def k14 : Class := { plain "java/lang/Integer" (some 13) with
  accessFlags := 49
  interfaces := #[7, 9, 10]
  cf := some (fileOf pool14 1 #[.nestMembers #[189]] #[{ accessFlags := 9, nameIndex := 11, descriptorIndex := 30, attributes := #[] }] 49 203 #[304, 306, 308] #[{ accessFlags := 25, nameIndex := 310, descriptorIndex := 194, attributes := #[] }, { accessFlags := 25, nameIndex := 312, descriptorIndex := 194, attributes := #[] }, { accessFlags := 25, nameIndex := 302, descriptorIndex := 303, attributes := #[] }, { accessFlags := 24, nameIndex := 19, descriptorIndex := 20, attributes := #[] }, { accessFlags := 24, nameIndex := 89, descriptorIndex := 86, attributes := #[] }, { accessFlags := 24, nameIndex := 85, descriptorIndex := 86, attributes := #[] }, { accessFlags := 18, nameIndex := 207, descriptorIndex := 194, attributes := #[] }, { accessFlags := 25, nameIndex := 316, descriptorIndex := 194, attributes := #[] }, { accessFlags := 25, nameIndex := 318, descriptorIndex := 194, attributes := #[] }, { accessFlags := 26, nameIndex := 320, descriptorIndex := 321, attributes := #[] }])
  fields := #[{ name := "MIN_VALUE", type := .int, accessFlags := 25, slot := 0, constantValue := 0 }, { name := "MAX_VALUE", type := .int, accessFlags := 25, slot := 1, constantValue := 0 }, { name := "TYPE", type := (.object "java/lang/Class"), accessFlags := 25, slot := 2, constantValue := 0 }, { name := "digits", type := (.array .char), accessFlags := 24, slot := 3, constantValue := 0 }, { name := "DigitTens", type := (.array .byte), accessFlags := 24, slot := 4, constantValue := 0 }, { name := "DigitOnes", type := (.array .byte), accessFlags := 24, slot := 5, constantValue := 0 }, { name := "value", type := .int, accessFlags := 18, slot := 0, constantValue := 0 }, { name := "SIZE", type := .int, accessFlags := 25, slot := 6, constantValue := 0 }, { name := "BYTES", type := .int, accessFlags := 25, slot := 7, constantValue := 0 }, { name := "serialVersionUID", type := .long, accessFlags := 26, slot := 8, constantValue := 0 }]
  methods := #[k14m0]
  instanceTypes := #[.int]
  staticTypes := #[.int, .int, (.object "java/lang/Class"), (.array .char), (.array .byte), (.array .byte), .int, .int, .long]
  resolved := Array.replicate 453 none
  statics := some 1 }

def pool15 : Array CpInfo := pool [(1, .class_ 2), (0, u "java/lang/String"), (1, .class_ 6), (1, u "java/lang/Object"), (0, u "<init>"), (0, u "()V"), (0, .methodref 1 10), (0, .nameAndType 11 12), (0, u "checkIndex"), (0, u "(II)V"), (1, .class_ 16), (1, u "java/lang/StringLatin1"), (36, u "([BI)C"), (58, .methodref 1 113), (0, .nameAndType 7 114), (0, u "([BB)V"), (6, u "$assertionsDisabled"), (0, u "Z"), (8, .class_ 133), (1, u "java/util/Arrays"), (62, u "newString"), (0, u "([BII)Ljava/lang/String;"), (23, .class_ 223), (1, u "java/lang/StringLatin1$LinesSpliterator"), (8, .methodref 131 233), (0, .nameAndType 234 235), (0, u "copyOfRange"), (0, u "([BII)[B"), (16, u "charAt"), (137, .class_ 391), (0, u "java/lang/StringLatin1$CharsSpliterator")] 3

def k15m0 : Method := { name := "<init>", desc := "()V", sig := { parameters := [], returnType := none }, accessFlags := 0, code := none }
def k15c1 : Code := { maxStack := 2, maxLocals := 2, code := jdk_43_method_2_code, exceptionTable := #[], attributes := #[] }
def k15m1 : Method := { name := "charAt", desc := "([BI)C", sig := { parameters := [(.array .byte), .int], returnType := some .char }, accessFlags := 9, code := some k15c1 }
def k15c2 : Code := { maxStack := 6, maxLocals := 3, code := jdk_43_method_47_code, exceptionTable := #[], attributes := #[] }
def k15m2 : Method := { name := "newString", desc := "([BII)Ljava/lang/String;", sig := { parameters := [(.array .byte), .int, .int], returnType := some (.object "java/lang/String") }, accessFlags := 9, code := some k15c2 }
/-- java/lang/StringLatin1 -/
def k15 : Class := { plain "java/lang/StringLatin1" (some 0) with
  accessFlags := 48
  interfaces := #[]
  cf := some (fileOf pool15 14 #[.nestMembers #[390, 221]] #[{ accessFlags := 0, nameIndex := 7, descriptorIndex := 8, attributes := #[] }, { accessFlags := 9, nameIndex := 252, descriptorIndex := 53, attributes := #[] }, { accessFlags := 9, nameIndex := 196, descriptorIndex := 197, attributes := #[] }] 48 4 #[] #[{ accessFlags := 4120, nameIndex := 121, descriptorIndex := 122, attributes := #[] }])
  fields := #[{ name := "$assertionsDisabled", type := .boolean, accessFlags := 4120, slot := 0, constantValue := 0 }]
  methods := #[k15m0, k15m1, k15m2]
  instanceTypes := #[]
  staticTypes := #[.boolean]
  resolved := Array.replicate 395 none
  statics := none }

def pool16 : Array CpInfo := pool [(2, .class_ 4), (1, u "java/lang/Object"), (0, u "<init>"), (0, u "()V"), (7, .class_ 16), (1, u "java/util/Arrays"), (57, .class_ 76), (1, u "java/util/Arrays$NaturalOrder"), (36, .class_ 115), (1, u "java/util/Arrays$LegacyMergeSort"), (1, u "Z"), (21, u "copyOfRange"), (10, .methodref 151 152), (0, .class_ 153), (0, .nameAndType 154 155), (0, u "java/lang/System"), (0, u "arraycopy"), (0, u "(Ljava/lang/Object;ILjava/lang/Object;II)V"), (148, .methodref 305 306), (0, .class_ 307), (0, .nameAndType 308 309), (0, u "java/lang/Math"), (0, u "min"), (0, u "(II)I"), (29, .methodref 14 340), (0, .nameAndType 341 342), (0, u "copyOfRangeByte"), (0, u "([BII)[B"), (0, .methodref 14 344), (0, .nameAndType 345 346), (0, u "checkLength"), (0, u "(II)V"), (28, .class_ 376), (0, u "java/util/Arrays$ArrayList"), (68, u "$assertionsDisabled"), (269, u "MIN_ARRAY_SORT_GRAN"), (0, u "I"), (2, u "INSERTIONSORT_THRESHOLD"), (255, .class_ 976), (0, u "java/util/Arrays$ArrayItr")] 52

def k16m0 : Method := { name := "<init>", desc := "()V", sig := { parameters := [], returnType := none }, accessFlags := 2, code := none }
def k16c1 : Code := { maxStack := 4, maxLocals := 2, code := jdk_65_method_131_code, exceptionTable := #[], attributes := #[] }
def k16m1 : Method := { name := "checkLength", desc := "(II)V", sig := { parameters := [.int, .int], returnType := none }, accessFlags := 10, code := some k16c1 }
def k16c2 : Code := { maxStack := 3, maxLocals := 3, code := jdk_65_method_132_code, exceptionTable := #[], attributes := #[] }
def k16m2 : Method := { name := "copyOfRange", desc := "([BII)[B", sig := { parameters := [(.array .byte), .int, .int], returnType := some (.array .byte) }, accessFlags := 9, code := some k16c2 }
def k16c3 : Code := { maxStack := 6, maxLocals := 5, code := jdk_65_method_133_code, exceptionTable := #[], attributes := #[] }
def k16m3 : Method := { name := "copyOfRangeByte", desc := "([BII)[B", sig := { parameters := [(.array .byte), .int, .int], returnType := some (.array .byte) }, accessFlags := 10, code := some k16c3 }
/-- java/util/Arrays -/
def k16 : Class := { plain "java/util/Arrays" (some 0) with
  accessFlags := 49
  interfaces := #[]
  cf := some (fileOf pool16 14 #[.nestMembers #[975, 375, 113, 74]] #[{ accessFlags := 2, nameIndex := 5, descriptorIndex := 6, attributes := #[] }, { accessFlags := 10, nameIndex := 345, descriptorIndex := 346, attributes := #[] }, { accessFlags := 9, nameIndex := 139, descriptorIndex := 342, attributes := #[] }, { accessFlags := 10, nameIndex := 341, descriptorIndex := 342, attributes := #[] }] 49 2 #[] #[{ accessFlags := 26, nameIndex := 715, descriptorIndex := 716, attributes := #[] }, { accessFlags := 26, nameIndex := 719, descriptorIndex := 716, attributes := #[] }, { accessFlags := 4120, nameIndex := 445, descriptorIndex := 117, attributes := #[] }])
  fields := #[{ name := "MIN_ARRAY_SORT_GRAN", type := .int, accessFlags := 26, slot := 0, constantValue := 0 }, { name := "INSERTIONSORT_THRESHOLD", type := .int, accessFlags := 26, slot := 1, constantValue := 0 }, { name := "$assertionsDisabled", type := .boolean, accessFlags := 4120, slot := 2, constantValue := 0 }]
  methods := #[k16m0, k16m1, k16m2, k16m3]
  instanceTypes := #[]
  staticTypes := #[.int, .int, .boolean]
  resolved := Array.replicate 1029 none
  statics := none }

def pool17 : Array CpInfo := pool [(1, .class_ 2), (0, u "java/lang/Math"), (1, .class_ 6), (1, u "java/lang/Object"), (0, u "<init>"), (0, u "()V"), (89, .class_ 100), (1, u "java/lang/Math$RandomNumberGeneratorHolder"), (71, u "negativeZeroFloatBits"), (0, u "J"), (2, u "negativeZeroDoubleBits"), (24, u "min"), (43, u "$assertionsDisabled"), (0, u "Z"), (88, u "(II)I"), (2, u "twoToTheDoubleScaleDown"), (0, u "D"), (4, u "twoToTheDoubleScaleUp"), (9, u "E"), (3, u "PI"), (2, u "TAU"), (2, u "DEGREES_TO_RADIANS"), (0, u "RADIANS_TO_DEGREES")] 94

def k17m0 : Method := { name := "<init>", desc := "()V", sig := { parameters := [], returnType := none }, accessFlags := 2, code := none }
def k17c1 : Code := { maxStack := 2, maxLocals := 2, code := jdk_29_method_69_code, exceptionTable := #[], attributes := #[] }
def k17m1 : Method := { name := "min", desc := "(II)I", sig := { parameters := [.int, .int], returnType := some .int }, accessFlags := 9, code := some k17c1 }
/-- java/lang/Math -/
def k17 : Class := { plain "java/lang/Math" (some 0) with
  accessFlags := 49
  interfaces := #[]
  cf := some (fileOf pool17 1 #[.nestMembers #[98]] #[{ accessFlags := 2, nameIndex := 7, descriptorIndex := 8, attributes := #[] }, { accessFlags := 9, nameIndex := 201, descriptorIndex := 335, attributes := #[] }] 49 4 #[] #[{ accessFlags := 25, nameIndex := 354, descriptorIndex := 339, attributes := #[] }, { accessFlags := 25, nameIndex := 358, descriptorIndex := 339, attributes := #[] }, { accessFlags := 25, nameIndex := 361, descriptorIndex := 339, attributes := #[] }, { accessFlags := 26, nameIndex := 364, descriptorIndex := 339, attributes := #[] }, { accessFlags := 26, nameIndex := 365, descriptorIndex := 339, attributes := #[] }, { accessFlags := 26, nameIndex := 172, descriptorIndex := 173, attributes := #[] }, { accessFlags := 26, nameIndex := 176, descriptorIndex := 173, attributes := #[] }, { accessFlags := 8, nameIndex := 344, descriptorIndex := 339, attributes := #[] }, { accessFlags := 8, nameIndex := 338, descriptorIndex := 339, attributes := #[] }, { accessFlags := 4120, nameIndex := 245, descriptorIndex := 246, attributes := #[] }])
  fields := #[{ name := "E", type := .double, accessFlags := 25, slot := 0, constantValue := 0 }, { name := "PI", type := .double, accessFlags := 25, slot := 1, constantValue := 0 }, { name := "TAU", type := .double, accessFlags := 25, slot := 2, constantValue := 0 }, { name := "DEGREES_TO_RADIANS", type := .double, accessFlags := 26, slot := 3, constantValue := 0 }, { name := "RADIANS_TO_DEGREES", type := .double, accessFlags := 26, slot := 4, constantValue := 0 }, { name := "negativeZeroFloatBits", type := .long, accessFlags := 26, slot := 5, constantValue := 0 }, { name := "negativeZeroDoubleBits", type := .long, accessFlags := 26, slot := 6, constantValue := 0 }, { name := "twoToTheDoubleScaleUp", type := .double, accessFlags := 8, slot := 7, constantValue := 0 }, { name := "twoToTheDoubleScaleDown", type := .double, accessFlags := 8, slot := 8, constantValue := 0 }, { name := "$assertionsDisabled", type := .boolean, accessFlags := 4120, slot := 9, constantValue := 0 }]
  methods := #[k17m0, k17m1]
  instanceTypes := #[]
  staticTypes := #[.double, .double, .double, .double, .double, .long, .long, .double, .double, .boolean]
  resolved := Array.replicate 460 none
  statics := none }

def pool18 : Array CpInfo := pool [(2, .class_ 4), (1, u "java/lang/Object"), (0, u "<init>"), (0, u "()V"), (17, .class_ 26), (1, u "jdk/internal/util/Preconditions"), (6, u "checkIndex"), (21, .class_ 56), (0, u "jdk/internal/util/Preconditions$4"), (57, .class_ 115), (0, u "jdk/internal/util/Preconditions$1"), (7, u "SIOOBE_FORMATTER"), (0, u "Ljava/util/function/BiFunction;"), (0, .class_ 126), (0, u "jdk/internal/util/Preconditions$2"), (3, u "AIOOBE_FORMATTER"), (0, .class_ 132), (0, u "jdk/internal/util/Preconditions$3"), (3, u "IOOBE_FORMATTER"), (41, u "(IILjava/util/function/BiFunction;)I")] 15

def k18m0 : Method := { name := "<init>", desc := "()V", sig := { parameters := [], returnType := none }, accessFlags := 1, code := none }
def k18c1 : Code := { maxStack := 3, maxLocals := 3, code := jdk_41_method_11_code, exceptionTable := #[], attributes := #[] }
def k18m1 : Method := { name := "checkIndex", desc := "(IILjava/util/function/BiFunction;)I", sig := { parameters := [.int, .int, (.object "java/util/function/BiFunction")], returnType := some .int }, accessFlags := 9, code := some k18c1 }
/-- jdk/internal/util/Preconditions -/
def k18 : Class := { plain "jdk/internal/util/Preconditions" (some 0) with
  accessFlags := 33
  interfaces := #[]
  cf := some (fileOf pool18 24 #[.nestMembers #[55, 131, 125, 114]] #[{ accessFlags := 1, nameIndex := 5, descriptorIndex := 6, attributes := #[] }, { accessFlags := 9, nameIndex := 33, descriptorIndex := 178, attributes := #[] }] 33 2 #[] #[{ accessFlags := 25, nameIndex := 123, descriptorIndex := 124, attributes := #[] }, { accessFlags := 25, nameIndex := 130, descriptorIndex := 124, attributes := #[] }, { accessFlags := 25, nameIndex := 136, descriptorIndex := 124, attributes := #[] }])
  fields := #[{ name := "SIOOBE_FORMATTER", type := (.object "java/util/function/BiFunction"), accessFlags := 25, slot := 0, constantValue := 0 }, { name := "AIOOBE_FORMATTER", type := (.object "java/util/function/BiFunction"), accessFlags := 25, slot := 1, constantValue := 0 }, { name := "IOOBE_FORMATTER", type := (.object "java/util/function/BiFunction"), accessFlags := 25, slot := 2, constantValue := 0 }]
  methods := #[k18m0, k18m1]
  instanceTypes := #[]
  staticTypes := #[(.object "java/util/function/BiFunction"), (.object "java/util/function/BiFunction"), (.object "java/util/function/BiFunction")]
  resolved := Array.replicate 194 none
  statics := some 2 }

def pool19 : Array CpInfo := pool [(9, u "<init>"), (6, .class_ 18), (1, u "java/lang/Object"), (0, u "()V"), (1, .class_ 23), (1, u "jdk/internal/util/ArraysSupport"), (0, u "LOG2_ARRAY_LONG_INDEX_SCALE"), (0, u "I"), (2, u "U"), (0, u "Ljdk/internal/misc/Unsafe;"), (8, u "BIG_ENDIAN"), (0, u "Z"), (8, u "LOG2_BYTE_BIT_SIZE"), (4, u "LOG2_ARRAY_INT_INDEX_SCALE"), (54, u "JLA"), (0, u "Ljdk/internal/access/JavaLangAccess;"), (11, u "LOG2_ARRAY_BOOLEAN_INDEX_SCALE"), (9, u "LOG2_ARRAY_BYTE_INDEX_SCALE"), (5, u "LOG2_ARRAY_CHAR_INDEX_SCALE"), (5, u "LOG2_ARRAY_SHORT_INDEX_SCALE"), (18, u "LOG2_ARRAY_FLOAT_INDEX_SCALE"), (24, u "LOG2_ARRAY_DOUBLE_INDEX_SCALE"), (89, u "T_BOOLEAN"), (2, u "T_CHAR"), (1, u "T_FLOAT"), (1, u "T_DOUBLE"), (1, u "T_BYTE"), (1, u "T_SHORT"), (1, u "T_INT"), (1, u "T_LONG"), (1, u "SOFT_MAX_ARRAY_LENGTH")] 83

def k19m0 : Method := { name := "<init>", desc := "()V", sig := { parameters := [], returnType := none }, accessFlags := 2, code := none }
/-- jdk/internal/util/ArraysSupport -/
def k19 : Class := { plain "jdk/internal/util/ArraysSupport" (some 0) with
  accessFlags := 33
  interfaces := #[]
  cf := some (fileOf pool19 21 #[] #[{ accessFlags := 2, nameIndex := 9, descriptorIndex := 19, attributes := #[] }] 33 16 #[] #[{ accessFlags := 24, nameIndex := 28, descriptorIndex := 29, attributes := #[] }, { accessFlags := 26, nameIndex := 38, descriptorIndex := 39, attributes := #[] }, { accessFlags := 25, nameIndex := 121, descriptorIndex := 25, attributes := #[] }, { accessFlags := 25, nameIndex := 131, descriptorIndex := 25, attributes := #[] }, { accessFlags := 25, nameIndex := 137, descriptorIndex := 25, attributes := #[] }, { accessFlags := 25, nameIndex := 143, descriptorIndex := 25, attributes := #[] }, { accessFlags := 25, nameIndex := 53, descriptorIndex := 25, attributes := #[] }, { accessFlags := 25, nameIndex := 24, descriptorIndex := 25, attributes := #[] }, { accessFlags := 25, nameIndex := 162, descriptorIndex := 25, attributes := #[] }, { accessFlags := 25, nameIndex := 187, descriptorIndex := 25, attributes := #[] }, { accessFlags := 26, nameIndex := 48, descriptorIndex := 25, attributes := #[] }, { accessFlags := 25, nameIndex := 277, descriptorIndex := 25, attributes := #[] }, { accessFlags := 25, nameIndex := 280, descriptorIndex := 25, attributes := #[] }, { accessFlags := 25, nameIndex := 282, descriptorIndex := 25, attributes := #[] }, { accessFlags := 25, nameIndex := 284, descriptorIndex := 25, attributes := #[] }, { accessFlags := 25, nameIndex := 286, descriptorIndex := 25, attributes := #[] }, { accessFlags := 25, nameIndex := 288, descriptorIndex := 25, attributes := #[] }, { accessFlags := 25, nameIndex := 290, descriptorIndex := 25, attributes := #[] }, { accessFlags := 25, nameIndex := 292, descriptorIndex := 25, attributes := #[] }, { accessFlags := 26, nameIndex := 108, descriptorIndex := 109, attributes := #[] }, { accessFlags := 25, nameIndex := 294, descriptorIndex := 25, attributes := #[] }])
  fields := #[{ name := "U", type := (.object "jdk/internal/misc/Unsafe"), accessFlags := 24, slot := 0, constantValue := 0 }, { name := "BIG_ENDIAN", type := .boolean, accessFlags := 26, slot := 1, constantValue := 0 }, { name := "LOG2_ARRAY_BOOLEAN_INDEX_SCALE", type := .int, accessFlags := 25, slot := 2, constantValue := 0 }, { name := "LOG2_ARRAY_BYTE_INDEX_SCALE", type := .int, accessFlags := 25, slot := 3, constantValue := 0 }, { name := "LOG2_ARRAY_CHAR_INDEX_SCALE", type := .int, accessFlags := 25, slot := 4, constantValue := 0 }, { name := "LOG2_ARRAY_SHORT_INDEX_SCALE", type := .int, accessFlags := 25, slot := 5, constantValue := 0 }, { name := "LOG2_ARRAY_INT_INDEX_SCALE", type := .int, accessFlags := 25, slot := 6, constantValue := 0 }, { name := "LOG2_ARRAY_LONG_INDEX_SCALE", type := .int, accessFlags := 25, slot := 7, constantValue := 0 }, { name := "LOG2_ARRAY_FLOAT_INDEX_SCALE", type := .int, accessFlags := 25, slot := 8, constantValue := 0 }, { name := "LOG2_ARRAY_DOUBLE_INDEX_SCALE", type := .int, accessFlags := 25, slot := 9, constantValue := 0 }, { name := "LOG2_BYTE_BIT_SIZE", type := .int, accessFlags := 26, slot := 10, constantValue := 0 }, { name := "T_BOOLEAN", type := .int, accessFlags := 25, slot := 11, constantValue := 0 }, { name := "T_CHAR", type := .int, accessFlags := 25, slot := 12, constantValue := 0 }, { name := "T_FLOAT", type := .int, accessFlags := 25, slot := 13, constantValue := 0 }, { name := "T_DOUBLE", type := .int, accessFlags := 25, slot := 14, constantValue := 0 }, { name := "T_BYTE", type := .int, accessFlags := 25, slot := 15, constantValue := 0 }, { name := "T_SHORT", type := .int, accessFlags := 25, slot := 16, constantValue := 0 }, { name := "T_INT", type := .int, accessFlags := 25, slot := 17, constantValue := 0 }, { name := "T_LONG", type := .int, accessFlags := 25, slot := 18, constantValue := 0 }, { name := "JLA", type := (.object "jdk/internal/access/JavaLangAccess"), accessFlags := 26, slot := 19, constantValue := 0 }, { name := "SOFT_MAX_ARRAY_LENGTH", type := .int, accessFlags := 25, slot := 20, constantValue := 0 }]
  methods := #[k19m0]
  instanceTypes := #[]
  staticTypes := #[(.object "jdk/internal/misc/Unsafe"), .boolean, .int, .int, .int, .int, .int, .int, .int, .int, .int, .int, .int, .int, .int, .int, .int, .int, .int, (.object "jdk/internal/access/JavaLangAccess"), .int]
  resolved := Array.replicate 378 none
  statics := none }

def pool20 : Array CpInfo := pool [(1, u "java/lang/Cloneable"), (0, .class_ 1), (0, u "java/lang/Object"), (0, .class_ 3)] 3

/-- java/lang/Cloneable -/
def k20 : Class := { plain "java/lang/Cloneable" (some 0) with
  accessFlags := 1537
  interfaces := #[]
  cf := some (fileOf pool20 2 #[] #[] 1537 4 #[] #[])
  fields := #[]
  methods := #[]
  instanceTypes := #[]
  staticTypes := #[]
  resolved := Array.replicate 8 none
  statics := none }

/-- the primitive byte -/
def k21 : Class := { plain "byte" none with kind := .primitive 'B', accessFlags := 0x411 }
/-- [B -/
def k22 : Class := { plain "[B" (some 0) with kind := .array 21 .byte, interfaces := #[20, 6], accessFlags := 1041 }

/-- the primitive char -/
def k23 : Class := { plain "char" none with kind := .primitive 'C', accessFlags := 0x411 }
/-- [C -/
def k24 : Class := { plain "[C" (some 0) with kind := .array 23 .char, interfaces := #[20, 6], accessFlags := 1041 }

/-- the primitive int -/
def k25 : Class := { plain "int" none with kind := .primitive 'I', accessFlags := 0x411 }
/-- [I -/
def k26 : Class := { plain "[I" (some 0) with kind := .array 25 .int, interfaces := #[20, 6], accessFlags := 1041 }

def heap : Heap := #[{ cls := 11, slots := #[.long 0, .int 1, .null, .int 0, .null, .int 0, .int 0], vm := .statics 11 },
  { cls := 14, slots := #[.int 0, .int 0, .null, .ref 3, .null, .null, .int 0, .int 0, .long 0], vm := .statics 14 },
  { cls := 18, slots := #[.null, .null, .null], vm := .statics 18 },
  { cls := 24, slots := #[.int 48, .int 49, .int 50, .int 51, .int 52, .int 53, .int 54, .int 55, .int 56, .int 57, .int 97, .int 98, .int 99, .int 100, .int 101, .int 102, .int 103, .int 104, .int 105, .int 106, .int 107, .int 108, .int 109, .int 110, .int 111, .int 112, .int 113, .int 114, .int 115, .int 116, .int 117, .int 118, .int 119, .int 120, .int 121, .int 122], vm := .none }]
def classes : Array Class := #[k0, k1, k2, k3, k4, k5, k6, k7, k8, k9, k10, k11, k12, k13, k14, k15, k16, k17, k18, k19, k20, k21, k22, k23, k24, k25, k26]
def interned : List (Array UInt16 × Addr) := []
def slotsUsed : Nat := 55
def theMethod : MethodId := ⟨1, 1⟩
def args0 : Array Value := #[.int 5]
def aboutOver (below : List Frame) : State where
  vm := { classes := classes, interned := interned.toArray }
  heap := heap
  slotsUsed := slotsUsed
  threads := #[{ frames := .invoking theMethod args0 :: below }]
def below0 : List Frame := [.native { method := ⟨0, 0⟩, args := #[] }]
def about1 : State := aboutOver below0
def p0 : Program := .bare "" "" ""
def e0 : Env := launch0.env 0 0 0
theorem w_frames : about1.frames = Frame.invoking theMethod args0 :: below0 := rfl
set_option maxRecDepth 65536 in
theorem w_args : argsFit about1.vm theMethod args0 = true := by decide +kernel
set_option maxRecDepth 65536 in
theorem w_heap : heapFits about1 = true := by decide +kernel
set_option maxRecDepth 65536 in
theorem w_runnable : about1.curStatus? = some .runnable := by decide +kernel
set_option maxRecDepth 65536 in
theorem w_alone : about1.alone = true := by decide +kernel
set_option maxRecDepth 65536 in
theorem w_named : about1.methodNamed? x = some theMethod := by decide +kernel
set_option maxRecDepth 65536 in
theorem w_hears : about1.hears theMethod below0 = true := by decide +kernel
set_option maxRecDepth 65536 in
theorem w_ripe : about1.ripe theMethod args0 below0 = true := by decide +kernel
theorem w_running : about1.status = .running := rfl
set_option maxRecDepth 65536 in
theorem w_room : about1.hasRoom e0.platform room_1 = true :=
  launch0.hasRoom_least _ room_1 (by decide +kernel) (by decide +kernel) (by decide +kernel) (by decide +kernel) (by decide +kernel) (by decide +kernel)
theorem allAtoms_all (ts : List Jvm.Cond) (a : Array Jvm.Value) (st : Jvm.State) : (allAtoms ts).before a st = ts.all (fun c => c.before a st) := by
  induction ts with
  | nil => rfl
  | cons c t ih =>
    show (Jvm.Cond.and c (allAtoms t)).before a st = _
    rw [Jvm.Cond.before_and, ih, List.all_cons]
def words1 : List Jvm.Cond := Jvm.Cond.code x code maxLocals ret :: tables_1
/-- a 'code' word, met by the world's own term for the bytes: nothing is compared byte by byte -/
theorem code_word {y : MethodName} {bytes : ByteArray} {mx : Nat} {rt : Option FieldType} {a : Array Value} {s : State} {m : MethodId} {meth : Method} {c : Code} (h1 : s.methodNamed? y = some m) (h2 : s.vm.method? m = some meth) (h3 : meth.code = some c) (h4 : c.code = bytes)
    (h5 : (c.maxLocals == mx && c.exceptionTable.isEmpty && decide (c.maxStack ≤ mostOperands) && decide (meth.sig.returnType = rt) && !meth.locks && decide (parseMethodDescriptor y.desc = some meth.sig)) = true) : (Jvm.Cond.code y bytes mx rt).before a s = true := by
  simp only [Bool.and_eq_true, beq_iff_eq, Bool.not_eq_true', decide_eq_true_eq] at h5
  obtain ⟨⟨⟨⟨⟨g1, g2⟩, g3⟩, g4⟩, g5⟩, g6⟩ := h5
  simp [Cond.before, Cond.holds, Cond.value, h1, h2, h3, h4, g1, g2, g3, g4, g5, g6]
def isCode : Jvm.Cond → Bool
  | .code _ _ _ _ => true
  | _ => false
theorem all_split {L : List Jvm.Cond} {P : Jvm.Cond → Bool} (h1 : L.all (fun c => isCode c || P c) = true) (h2 : ∀ c ∈ L.filter isCode, P c = true) : L.all P = true := by
  refine List.all_eq_true.mpr fun c hc => ?_
  have h := List.all_eq_true.mp h1 c hc
  rcases Bool.eq_false_or_eq_true (isCode c) with hi | hi
  · exact h2 c (List.mem_filter.mpr ⟨hc, hi⟩)
  · simpa [hi] using h
set_option maxRecDepth 65536 in
theorem w_c0 : (Jvm.Cond.code x code maxLocals ret).before args0 about1 = true := code_word (m := ⟨1, 1⟩) (meth := k1m1) (c := k1c1) (by decide +kernel) rfl rfl rfl (by decide +kernel)
set_option maxRecDepth 65536 in
theorem w_c1 : (Jvm.Cond.code ({ cls := "com/example/freshness/freshness/bench/MadeStream", name := "word", desc := "(I)Ljava/lang/String;" } : Jvm.MethodName) prog_1_method_3_code (1 : Nat) (Option.some (Jvm.ClassFile.FieldType.object "java/lang/String"))).before args0 about1 = true := code_word (m := ⟨2, 1⟩) (meth := k2m1) (c := k2c1) (by decide +kernel) rfl rfl rfl (by decide +kernel)
set_option maxRecDepth 65536 in
theorem w_c2 : (Jvm.Cond.code ({ cls := "java/lang/StringBuilder", name := "<init>", desc := "()V" } : Jvm.MethodName) jdk_67_method_1_code (1 : Nat) (Option.none : Option Jvm.ClassFile.FieldType)).before args0 about1 = true := code_word (m := ⟨8, 0⟩) (meth := k8m0) (c := k8c0) (by decide +kernel) rfl rfl rfl (by decide +kernel)
set_option maxRecDepth 65536 in
theorem w_c3 : (Jvm.Cond.code ({ cls := "java/lang/AbstractStringBuilder", name := "<init>", desc := "(I)V" } : Jvm.MethodName) jdk_68_method_2_code (2 : Nat) (Option.none : Option Jvm.ClassFile.FieldType)).before args0 about1 = true := code_word (m := ⟨5, 1⟩) (meth := k5m1) (c := k5c1) (by decide +kernel) rfl rfl rfl (by decide +kernel)
set_option maxRecDepth 65536 in
theorem w_c4 : (Jvm.Cond.code ({ cls := "java/lang/Object", name := "<init>", desc := "()V" } : Jvm.MethodName) object_method_1_code (1 : Nat) (Option.none : Option Jvm.ClassFile.FieldType)).before args0 about1 = true := code_word (m := ⟨0, 0⟩) (meth := k0m0) (c := k0c0) (by decide +kernel) rfl rfl rfl (by decide +kernel)
set_option maxRecDepth 65536 in
theorem w_c5 : (Jvm.Cond.code ({ cls := "java/lang/StringBuilder", name := "append", desc := "(Ljava/lang/String;)Ljava/lang/StringBuilder;" } : Jvm.MethodName) jdk_67_method_7_code (2 : Nat) (Option.some (Jvm.ClassFile.FieldType.object "java/lang/StringBuilder"))).before args0 about1 = true := code_word (m := ⟨8, 1⟩) (meth := k8m1) (c := k8c1) (by decide +kernel) rfl rfl rfl (by decide +kernel)
set_option maxRecDepth 65536 in
theorem w_c6 : (Jvm.Cond.code ({ cls := "java/lang/AbstractStringBuilder", name := "append", desc := "(Ljava/lang/String;)Ljava/lang/AbstractStringBuilder;" } : Jvm.MethodName) jdk_68_method_22_code (3 : Nat) (Option.some (Jvm.ClassFile.FieldType.object "java/lang/AbstractStringBuilder"))).before args0 about1 = true := code_word (m := ⟨5, 4⟩) (meth := k5m4) (c := k5c4) (by decide +kernel) rfl rfl rfl (by decide +kernel)
set_option maxRecDepth 65536 in
theorem w_c7 : (Jvm.Cond.code ({ cls := "java/lang/String", name := "length", desc := "()I" } : Jvm.MethodName) jdk_42_method_54_code (1 : Nat) (Option.some Jvm.ClassFile.FieldType.int)).before args0 about1 = true := code_word (m := ⟨11, 2⟩) (meth := k11m2) (c := k11c2) (by decide +kernel) rfl rfl rfl (by decide +kernel)
set_option maxRecDepth 65536 in
theorem w_c8 : (Jvm.Cond.code ({ cls := "java/lang/String", name := "coder", desc := "()B" } : Jvm.MethodName) jdk_42_method_152_code (1 : Nat) (Option.some Jvm.ClassFile.FieldType.byte)).before args0 about1 = true := code_word (m := ⟨11, 7⟩) (meth := k11m7) (c := k11c7) (by decide +kernel) rfl rfl rfl (by decide +kernel)
set_option maxRecDepth 65536 in
theorem w_c9 : (Jvm.Cond.code ({ cls := "java/lang/AbstractStringBuilder", name := "ensureCapacityInternal", desc := "(I)V" } : Jvm.MethodName) jdk_68_method_9_code (3 : Nat) (Option.none : Option Jvm.ClassFile.FieldType)).before args0 about1 = true := code_word (m := ⟨5, 3⟩) (meth := k5m3) (c := k5c3) (by decide +kernel) rfl rfl rfl (by decide +kernel)
set_option maxRecDepth 65536 in
theorem w_c10 : (Jvm.Cond.code ({ cls := "java/lang/AbstractStringBuilder", name := "putStringAt", desc := "(ILjava/lang/String;)V" } : Jvm.MethodName) jdk_68_method_73_code (3 : Nat) (Option.none : Option Jvm.ClassFile.FieldType)).before args0 about1 = true := code_word (m := ⟨5, 8⟩) (meth := k5m8) (c := k5c8) (by decide +kernel) rfl rfl rfl (by decide +kernel)
set_option maxRecDepth 65536 in
theorem w_c11 : (Jvm.Cond.code ({ cls := "java/lang/AbstractStringBuilder", name := "inflateIfNeededFor", desc := "(Ljava/lang/String;)V" } : Jvm.MethodName) jdk_68_method_71_code (2 : Nat) (Option.none : Option Jvm.ClassFile.FieldType)).before args0 about1 = true := code_word (m := ⟨5, 7⟩) (meth := k5m7) (c := k5c7) (by decide +kernel) rfl rfl rfl (by decide +kernel)
set_option maxRecDepth 65536 in
theorem w_c12 : (Jvm.Cond.code ({ cls := "java/lang/String", name := "getBytes", desc := "([BIB)V" } : Jvm.MethodName) jdk_42_method_147_code (4 : Nat) (Option.none : Option Jvm.ClassFile.FieldType)).before args0 about1 = true := code_word (m := ⟨11, 4⟩) (meth := k11m4) (c := k11c4) (by decide +kernel) rfl rfl rfl (by decide +kernel)
set_option maxRecDepth 65536 in
theorem w_c13 : (Jvm.Cond.code ({ cls := "java/lang/Integer", name := "toString", desc := "(II)Ljava/lang/String;" } : Jvm.MethodName) jdk_33_method_1_code (5 : Nat) (Option.some (Jvm.ClassFile.FieldType.object "java/lang/String"))).before args0 about1 = true := code_word (m := ⟨14, 0⟩) (meth := k14m0) (c := k14c0) (by decide +kernel) rfl rfl rfl (by decide +kernel)
set_option maxRecDepth 65536 in
theorem w_c14 : (Jvm.Cond.code ({ cls := "java/lang/StringLatin1", name := "newString", desc := "([BII)Ljava/lang/String;" } : Jvm.MethodName) jdk_43_method_47_code (3 : Nat) (Option.some (Jvm.ClassFile.FieldType.object "java/lang/String"))).before args0 about1 = true := code_word (m := ⟨15, 2⟩) (meth := k15m2) (c := k15c2) (by decide +kernel) rfl rfl rfl (by decide +kernel)
set_option maxRecDepth 65536 in
theorem w_c15 : (Jvm.Cond.code ({ cls := "java/util/Arrays", name := "copyOfRange", desc := "([BII)[B" } : Jvm.MethodName) jdk_65_method_132_code (3 : Nat) (Option.some (Jvm.ClassFile.FieldType.array Jvm.ClassFile.FieldType.byte))).before args0 about1 = true := code_word (m := ⟨16, 2⟩) (meth := k16m2) (c := k16c2) (by decide +kernel) rfl rfl rfl (by decide +kernel)
set_option maxRecDepth 65536 in
theorem w_c16 : (Jvm.Cond.code ({ cls := "java/util/Arrays", name := "copyOfRangeByte", desc := "([BII)[B" } : Jvm.MethodName) jdk_65_method_133_code (5 : Nat) (Option.some (Jvm.ClassFile.FieldType.array Jvm.ClassFile.FieldType.byte))).before args0 about1 = true := code_word (m := ⟨16, 3⟩) (meth := k16m3) (c := k16c3) (by decide +kernel) rfl rfl rfl (by decide +kernel)
set_option maxRecDepth 65536 in
theorem w_c17 : (Jvm.Cond.code ({ cls := "java/util/Arrays", name := "checkLength", desc := "(II)V" } : Jvm.MethodName) jdk_65_method_131_code (2 : Nat) (Option.none : Option Jvm.ClassFile.FieldType)).before args0 about1 = true := code_word (m := ⟨16, 1⟩) (meth := k16m1) (c := k16c1) (by decide +kernel) rfl rfl rfl (by decide +kernel)
set_option maxRecDepth 65536 in
theorem w_c18 : (Jvm.Cond.code ({ cls := "java/lang/Math", name := "min", desc := "(II)I" } : Jvm.MethodName) jdk_29_method_69_code (2 : Nat) (Option.some Jvm.ClassFile.FieldType.int)).before args0 about1 = true := code_word (m := ⟨17, 1⟩) (meth := k17m1) (c := k17c1) (by decide +kernel) rfl rfl rfl (by decide +kernel)
set_option maxRecDepth 65536 in
theorem w_c19 : (Jvm.Cond.code ({ cls := "java/lang/String", name := "<init>", desc := "([BB)V" } : Jvm.MethodName) jdk_42_method_151_code (3 : Nat) (Option.none : Option Jvm.ClassFile.FieldType)).before args0 about1 = true := code_word (m := ⟨11, 6⟩) (meth := k11m6) (c := k11c6) (by decide +kernel) rfl rfl rfl (by decide +kernel)
set_option maxRecDepth 65536 in
theorem w_c20 : (Jvm.Cond.code ({ cls := "java/lang/StringBuilder", name := "toString", desc := "()Ljava/lang/String;" } : Jvm.MethodName) jdk_67_method_42_code (1 : Nat) (Option.some (Jvm.ClassFile.FieldType.object "java/lang/String"))).before args0 about1 = true := code_word (m := ⟨8, 2⟩) (meth := k8m2) (c := k8c2) (by decide +kernel) rfl rfl rfl (by decide +kernel)
set_option maxRecDepth 65536 in
theorem w_c21 : (Jvm.Cond.code ({ cls := "java/lang/String", name := "<init>", desc := "(Ljava/lang/StringBuilder;)V" } : Jvm.MethodName) jdk_42_method_53_code (2 : Nat) (Option.none : Option Jvm.ClassFile.FieldType)).before args0 about1 = true := code_word (m := ⟨11, 1⟩) (meth := k11m1) (c := k11c1) (by decide +kernel) rfl rfl rfl (by decide +kernel)
set_option maxRecDepth 65536 in
theorem w_c22 : (Jvm.Cond.code ({ cls := "java/lang/String", name := "<init>", desc := "(Ljava/lang/AbstractStringBuilder;Ljava/lang/Void;)V" } : Jvm.MethodName) jdk_42_method_150_code (5 : Nat) (Option.none : Option Jvm.ClassFile.FieldType)).before args0 about1 = true := code_word (m := ⟨11, 5⟩) (meth := k11m5) (c := k11c5) (by decide +kernel) rfl rfl rfl (by decide +kernel)
set_option maxRecDepth 65536 in
theorem w_c23 : (Jvm.Cond.code ({ cls := "java/lang/AbstractStringBuilder", name := "getValue", desc := "()[B" } : Jvm.MethodName) jdk_68_method_64_code (1 : Nat) (Option.some (Jvm.ClassFile.FieldType.array Jvm.ClassFile.FieldType.byte))).before args0 about1 = true := code_word (m := ⟨5, 5⟩) (meth := k5m5) (c := k5c5) (by decide +kernel) rfl rfl rfl (by decide +kernel)
set_option maxRecDepth 65536 in
theorem w_c24 : (Jvm.Cond.code ({ cls := "java/lang/StringBuilder", name := "length", desc := "()I" } : Jvm.MethodName) jdk_67_method_93_code (1 : Nat) (Option.some Jvm.ClassFile.FieldType.int)).before args0 about1 = true := code_word (m := ⟨8, 3⟩) (meth := k8m3) (c := k8c3) (by decide +kernel) rfl rfl rfl (by decide +kernel)
set_option maxRecDepth 65536 in
theorem w_c25 : (Jvm.Cond.code ({ cls := "java/lang/AbstractStringBuilder", name := "length", desc := "()I" } : Jvm.MethodName) jdk_68_method_6_code (1 : Nat) (Option.some Jvm.ClassFile.FieldType.int)).before args0 about1 = true := code_word (m := ⟨5, 2⟩) (meth := k5m2) (c := k5c2) (by decide +kernel) rfl rfl rfl (by decide +kernel)
set_option maxRecDepth 65536 in
theorem w_c26 : (Jvm.Cond.code ({ cls := "java/lang/AbstractStringBuilder", name := "isLatin1", desc := "()Z" } : Jvm.MethodName) jdk_68_method_68_code (1 : Nat) (Option.some Jvm.ClassFile.FieldType.boolean)).before args0 about1 = true := code_word (m := ⟨5, 6⟩) (meth := k5m6) (c := k5c6) (by decide +kernel) rfl rfl rfl (by decide +kernel)
set_option maxRecDepth 65536 in
theorem w_c27 : (Jvm.Cond.code ({ cls := "com/example/freshness/freshness/bench/MadeStreamWordPinLaw", name := "put", desc := "([CIIIJJ)V" } : Jvm.MethodName) method_3_code (10 : Nat) (Option.none : Option Jvm.ClassFile.FieldType)).before args0 about1 = true := code_word (m := ⟨1, 2⟩) (meth := k1m2) (c := k1c2) (by decide +kernel) rfl rfl rfl (by decide +kernel)
set_option maxRecDepth 65536 in
theorem w_c28 : (Jvm.Cond.code ({ cls := "com/example/freshness/freshness/bench/MadeStreamWordPinLaw", name := "digit", desc := "(J)C" } : Jvm.MethodName) method_4_code (2 : Nat) (Option.some Jvm.ClassFile.FieldType.char)).before args0 about1 = true := code_word (m := ⟨1, 3⟩) (meth := k1m3) (c := k1c3) (by decide +kernel) rfl rfl rfl (by decide +kernel)
set_option maxRecDepth 65536 in
theorem w_c29 : (Jvm.Cond.code ({ cls := "com/example/freshness/freshness/bench/MadeStreamWordPinLaw", name := "same", desc := "(Ljava/lang/String;[CII)Z" } : Jvm.MethodName) method_5_code (4 : Nat) (Option.some Jvm.ClassFile.FieldType.boolean)).before args0 about1 = true := code_word (m := ⟨1, 4⟩) (meth := k1m4) (c := k1c4) (by decide +kernel) rfl rfl rfl (by decide +kernel)
set_option maxRecDepth 65536 in
theorem w_c30 : (Jvm.Cond.code ({ cls := "java/lang/String", name := "charAt", desc := "(I)C" } : Jvm.MethodName) jdk_42_method_56_code (2 : Nat) (Option.some Jvm.ClassFile.FieldType.char)).before args0 about1 = true := code_word (m := ⟨11, 3⟩) (meth := k11m3) (c := k11c3) (by decide +kernel) rfl rfl rfl (by decide +kernel)
set_option maxRecDepth 65536 in
theorem w_c31 : (Jvm.Cond.code ({ cls := "java/lang/String", name := "isLatin1", desc := "()Z" } : Jvm.MethodName) jdk_42_method_154_code (1 : Nat) (Option.some Jvm.ClassFile.FieldType.boolean)).before args0 about1 = true := code_word (m := ⟨11, 8⟩) (meth := k11m8) (c := k11c8) (by decide +kernel) rfl rfl rfl (by decide +kernel)
set_option maxRecDepth 65536 in
theorem w_c32 : (Jvm.Cond.code ({ cls := "java/lang/StringLatin1", name := "charAt", desc := "([BI)C" } : Jvm.MethodName) jdk_43_method_2_code (2 : Nat) (Option.some Jvm.ClassFile.FieldType.char)).before args0 about1 = true := code_word (m := ⟨15, 1⟩) (meth := k15m1) (c := k15c1) (by decide +kernel) rfl rfl rfl (by decide +kernel)
set_option maxRecDepth 65536 in
theorem w_c33 : (Jvm.Cond.code ({ cls := "java/lang/String", name := "checkIndex", desc := "(II)V" } : Jvm.MethodName) jdk_42_method_155_code (2 : Nat) (Option.none : Option Jvm.ClassFile.FieldType)).before args0 about1 = true := code_word (m := ⟨11, 9⟩) (meth := k11m9) (c := k11c9) (by decide +kernel) rfl rfl rfl (by decide +kernel)
set_option maxRecDepth 65536 in
theorem w_c34 : (Jvm.Cond.code ({ cls := "jdk/internal/util/Preconditions", name := "checkIndex", desc := "(IILjava/util/function/BiFunction;)I" } : Jvm.MethodName) jdk_41_method_11_code (3 : Nat) (Option.some Jvm.ClassFile.FieldType.int)).before args0 about1 = true := code_word (m := ⟨18, 1⟩) (meth := k18m1) (c := k18c1) (by decide +kernel) rfl rfl rfl (by decide +kernel)
def codes1 : List Jvm.Cond := [Jvm.Cond.code x code maxLocals ret, Jvm.Cond.code ({ cls := "com/example/freshness/freshness/bench/MadeStream", name := "word", desc := "(I)Ljava/lang/String;" } : Jvm.MethodName) prog_1_method_3_code (1 : Nat) (Option.some (Jvm.ClassFile.FieldType.object "java/lang/String")), Jvm.Cond.code ({ cls := "java/lang/StringBuilder", name := "<init>", desc := "()V" } : Jvm.MethodName) jdk_67_method_1_code (1 : Nat) (Option.none : Option Jvm.ClassFile.FieldType), Jvm.Cond.code ({ cls := "java/lang/AbstractStringBuilder", name := "<init>", desc := "(I)V" } : Jvm.MethodName) jdk_68_method_2_code (2 : Nat) (Option.none : Option Jvm.ClassFile.FieldType), Jvm.Cond.code ({ cls := "java/lang/Object", name := "<init>", desc := "()V" } : Jvm.MethodName) object_method_1_code (1 : Nat) (Option.none : Option Jvm.ClassFile.FieldType), Jvm.Cond.code ({ cls := "java/lang/StringBuilder", name := "append", desc := "(Ljava/lang/String;)Ljava/lang/StringBuilder;" } : Jvm.MethodName) jdk_67_method_7_code (2 : Nat) (Option.some (Jvm.ClassFile.FieldType.object "java/lang/StringBuilder")), Jvm.Cond.code ({ cls := "java/lang/AbstractStringBuilder", name := "append", desc := "(Ljava/lang/String;)Ljava/lang/AbstractStringBuilder;" } : Jvm.MethodName) jdk_68_method_22_code (3 : Nat) (Option.some (Jvm.ClassFile.FieldType.object "java/lang/AbstractStringBuilder")), Jvm.Cond.code ({ cls := "java/lang/String", name := "length", desc := "()I" } : Jvm.MethodName) jdk_42_method_54_code (1 : Nat) (Option.some Jvm.ClassFile.FieldType.int), Jvm.Cond.code ({ cls := "java/lang/String", name := "coder", desc := "()B" } : Jvm.MethodName) jdk_42_method_152_code (1 : Nat) (Option.some Jvm.ClassFile.FieldType.byte), Jvm.Cond.code ({ cls := "java/lang/AbstractStringBuilder", name := "ensureCapacityInternal", desc := "(I)V" } : Jvm.MethodName) jdk_68_method_9_code (3 : Nat) (Option.none : Option Jvm.ClassFile.FieldType), Jvm.Cond.code ({ cls := "java/lang/AbstractStringBuilder", name := "putStringAt", desc := "(ILjava/lang/String;)V" } : Jvm.MethodName) jdk_68_method_73_code (3 : Nat) (Option.none : Option Jvm.ClassFile.FieldType), Jvm.Cond.code ({ cls := "java/lang/AbstractStringBuilder", name := "inflateIfNeededFor", desc := "(Ljava/lang/String;)V" } : Jvm.MethodName) jdk_68_method_71_code (2 : Nat) (Option.none : Option Jvm.ClassFile.FieldType), Jvm.Cond.code ({ cls := "java/lang/String", name := "getBytes", desc := "([BIB)V" } : Jvm.MethodName) jdk_42_method_147_code (4 : Nat) (Option.none : Option Jvm.ClassFile.FieldType), Jvm.Cond.code ({ cls := "java/lang/Integer", name := "toString", desc := "(II)Ljava/lang/String;" } : Jvm.MethodName) jdk_33_method_1_code (5 : Nat) (Option.some (Jvm.ClassFile.FieldType.object "java/lang/String")), Jvm.Cond.code ({ cls := "java/lang/StringLatin1", name := "newString", desc := "([BII)Ljava/lang/String;" } : Jvm.MethodName) jdk_43_method_47_code (3 : Nat) (Option.some (Jvm.ClassFile.FieldType.object "java/lang/String")), Jvm.Cond.code ({ cls := "java/util/Arrays", name := "copyOfRange", desc := "([BII)[B" } : Jvm.MethodName) jdk_65_method_132_code (3 : Nat) (Option.some (Jvm.ClassFile.FieldType.array Jvm.ClassFile.FieldType.byte)), Jvm.Cond.code ({ cls := "java/util/Arrays", name := "copyOfRangeByte", desc := "([BII)[B" } : Jvm.MethodName) jdk_65_method_133_code (5 : Nat) (Option.some (Jvm.ClassFile.FieldType.array Jvm.ClassFile.FieldType.byte)), Jvm.Cond.code ({ cls := "java/util/Arrays", name := "checkLength", desc := "(II)V" } : Jvm.MethodName) jdk_65_method_131_code (2 : Nat) (Option.none : Option Jvm.ClassFile.FieldType), Jvm.Cond.code ({ cls := "java/lang/Math", name := "min", desc := "(II)I" } : Jvm.MethodName) jdk_29_method_69_code (2 : Nat) (Option.some Jvm.ClassFile.FieldType.int), Jvm.Cond.code ({ cls := "java/lang/String", name := "<init>", desc := "([BB)V" } : Jvm.MethodName) jdk_42_method_151_code (3 : Nat) (Option.none : Option Jvm.ClassFile.FieldType), Jvm.Cond.code ({ cls := "java/lang/StringBuilder", name := "toString", desc := "()Ljava/lang/String;" } : Jvm.MethodName) jdk_67_method_42_code (1 : Nat) (Option.some (Jvm.ClassFile.FieldType.object "java/lang/String")), Jvm.Cond.code ({ cls := "java/lang/String", name := "<init>", desc := "(Ljava/lang/StringBuilder;)V" } : Jvm.MethodName) jdk_42_method_53_code (2 : Nat) (Option.none : Option Jvm.ClassFile.FieldType), Jvm.Cond.code ({ cls := "java/lang/String", name := "<init>", desc := "(Ljava/lang/AbstractStringBuilder;Ljava/lang/Void;)V" } : Jvm.MethodName) jdk_42_method_150_code (5 : Nat) (Option.none : Option Jvm.ClassFile.FieldType), Jvm.Cond.code ({ cls := "java/lang/AbstractStringBuilder", name := "getValue", desc := "()[B" } : Jvm.MethodName) jdk_68_method_64_code (1 : Nat) (Option.some (Jvm.ClassFile.FieldType.array Jvm.ClassFile.FieldType.byte)), Jvm.Cond.code ({ cls := "java/lang/StringBuilder", name := "length", desc := "()I" } : Jvm.MethodName) jdk_67_method_93_code (1 : Nat) (Option.some Jvm.ClassFile.FieldType.int), Jvm.Cond.code ({ cls := "java/lang/AbstractStringBuilder", name := "length", desc := "()I" } : Jvm.MethodName) jdk_68_method_6_code (1 : Nat) (Option.some Jvm.ClassFile.FieldType.int), Jvm.Cond.code ({ cls := "java/lang/AbstractStringBuilder", name := "isLatin1", desc := "()Z" } : Jvm.MethodName) jdk_68_method_68_code (1 : Nat) (Option.some Jvm.ClassFile.FieldType.boolean), Jvm.Cond.code ({ cls := "com/example/freshness/freshness/bench/MadeStreamWordPinLaw", name := "put", desc := "([CIIIJJ)V" } : Jvm.MethodName) method_3_code (10 : Nat) (Option.none : Option Jvm.ClassFile.FieldType), Jvm.Cond.code ({ cls := "com/example/freshness/freshness/bench/MadeStreamWordPinLaw", name := "digit", desc := "(J)C" } : Jvm.MethodName) method_4_code (2 : Nat) (Option.some Jvm.ClassFile.FieldType.char), Jvm.Cond.code ({ cls := "com/example/freshness/freshness/bench/MadeStreamWordPinLaw", name := "same", desc := "(Ljava/lang/String;[CII)Z" } : Jvm.MethodName) method_5_code (4 : Nat) (Option.some Jvm.ClassFile.FieldType.boolean), Jvm.Cond.code ({ cls := "java/lang/String", name := "charAt", desc := "(I)C" } : Jvm.MethodName) jdk_42_method_56_code (2 : Nat) (Option.some Jvm.ClassFile.FieldType.char), Jvm.Cond.code ({ cls := "java/lang/String", name := "isLatin1", desc := "()Z" } : Jvm.MethodName) jdk_42_method_154_code (1 : Nat) (Option.some Jvm.ClassFile.FieldType.boolean), Jvm.Cond.code ({ cls := "java/lang/StringLatin1", name := "charAt", desc := "([BI)C" } : Jvm.MethodName) jdk_43_method_2_code (2 : Nat) (Option.some Jvm.ClassFile.FieldType.char), Jvm.Cond.code ({ cls := "java/lang/String", name := "checkIndex", desc := "(II)V" } : Jvm.MethodName) jdk_42_method_155_code (2 : Nat) (Option.none : Option Jvm.ClassFile.FieldType), Jvm.Cond.code ({ cls := "jdk/internal/util/Preconditions", name := "checkIndex", desc := "(IILjava/util/function/BiFunction;)I" } : Jvm.MethodName) jdk_41_method_11_code (3 : Nat) (Option.some Jvm.ClassFile.FieldType.int)]
set_option maxRecDepth 65536 in
theorem codes_eq : words1.filter isCode = codes1 := rfl
theorem w_codes : ∀ c ∈ words1.filter isCode, c.before args0 about1 = true := by
  rw [codes_eq]
  intro c hc
  simp only [codes1, List.mem_cons, List.not_mem_nil, or_false] at hc
  rcases hc with rfl | rfl | rfl | rfl | rfl | rfl | rfl | rfl | rfl | rfl | rfl | rfl | rfl | rfl | rfl | rfl | rfl | rfl | rfl | rfl | rfl | rfl | rfl | rfl | rfl | rfl | rfl | rfl | rfl | rfl | rfl | rfl | rfl | rfl | rfl
  · exact w_c0
  · exact w_c1
  · exact w_c2
  · exact w_c3
  · exact w_c4
  · exact w_c5
  · exact w_c6
  · exact w_c7
  · exact w_c8
  · exact w_c9
  · exact w_c10
  · exact w_c11
  · exact w_c12
  · exact w_c13
  · exact w_c14
  · exact w_c15
  · exact w_c16
  · exact w_c17
  · exact w_c18
  · exact w_c19
  · exact w_c20
  · exact w_c21
  · exact w_c22
  · exact w_c23
  · exact w_c24
  · exact w_c25
  · exact w_c26
  · exact w_c27
  · exact w_c28
  · exact w_c29
  · exact w_c30
  · exact w_c31
  · exact w_c32
  · exact w_c33
  · exact w_c34
set_option maxRecDepth 65536 in
theorem w_t1 : (words1.take 24).all (fun c => isCode c || c.before args0 about1) = true := by decide +kernel
set_option maxRecDepth 65536 in
theorem w_t2 : ((words1.drop 24).take 24).all (fun c => isCode c || c.before args0 about1) = true := by decide +kernel
set_option maxRecDepth 65536 in
theorem w_t3 : (((words1.drop 24).drop 24).take 24).all (fun c => isCode c || c.before args0 about1) = true := by decide +kernel
set_option maxRecDepth 65536 in
theorem w_t4 : ((((words1.drop 24).drop 24).drop 24).take 24).all (fun c => isCode c || c.before args0 about1) = true := by decide +kernel
set_option maxRecDepth 65536 in
theorem w_t5 : (((((words1.drop 24).drop 24).drop 24).drop 24).take 24).all (fun c => isCode c || c.before args0 about1) = true := by decide +kernel
set_option maxRecDepth 65536 in
theorem w_t6 : ((((((words1.drop 24).drop 24).drop 24).drop 24).drop 24).take 24).all (fun c => isCode c || c.before args0 about1) = true := by decide +kernel
set_option maxRecDepth 65536 in
theorem w_t7 : (((((((words1.drop 24).drop 24).drop 24).drop 24).drop 24).drop 24).take 24).all (fun c => isCode c || c.before args0 about1) = true := by decide +kernel
set_option maxRecDepth 65536 in
theorem w_t8 : (((((((words1.drop 24).drop 24).drop 24).drop 24).drop 24).drop 24).drop 24).all (fun c => isCode c || c.before args0 about1) = true := by decide +kernel
theorem w_tables : (allAtoms (Jvm.Cond.code x code maxLocals ret :: tables_1)).before args0 about1 = true := by
  rw [allAtoms_all]
  show words1.all (fun c => c.before args0 about1) = true
  refine all_split ?_ w_codes
  rw [← List.take_append_drop 24 words1, List.all_append, w_t1, ← List.take_append_drop 24 (words1.drop 24), List.all_append, w_t2, ← List.take_append_drop 24 ((words1.drop 24).drop 24), List.all_append, w_t3, ← List.take_append_drop 24 (((words1.drop 24).drop 24).drop 24), List.all_append, w_t4, ← List.take_append_drop 24 ((((words1.drop 24).drop 24).drop 24).drop 24), List.all_append, w_t5, ← List.take_append_drop 24 (((((words1.drop 24).drop 24).drop 24).drop 24).drop 24), List.all_append, w_t6, ← List.take_append_drop 24 ((((((words1.drop 24).drop 24).drop 24).drop 24).drop 24).drop 24), List.all_append, w_t7, w_t8]
  rfl
set_option maxRecDepth 65536 in
theorem w_rest : rest_1_c.before args0 about1 = true := by decide +kernel
set_option maxRecDepth 65536 in
theorem w_case : (Jvm.Cond.and given_1 narrow_1).before args0 about1 = true := by decide +kernel
set_option maxRecDepth 65536 in
theorem w_consts : constsHeld consts_1 about1 := Jvm.Lit.constsHeldB_iff.mp (by decide +kernel)
theorem w_applies : (headSpec (Jvm.Cond.code x code maxLocals ret :: tables_1) room_1).applies x e0.platform about1 = true :=
  (Spec.applies_iff w_frames).mpr ⟨w_running, w_runnable, w_alone, w_named, w_hears, w_ripe, w_room, w_tables⟩
theorem atStart : AtStart classFile x code maxLocals ret World_1 tables_1 room_1 Calls_1 rest_1 Pre_1 launch0 p0 e0 about1 theMethod args0 below0 :=
  ⟨lists_1, trivial, launch0.admits_env _ _ _, launch0.least_env, fairChoices_fair.cas, fairChoices_fair.clock, w_frames, w_args, w_heap, w_applies, ⟨w_consts, trivial⟩, w_rest, w_case⟩
end start1
theorem witness_1 : WitnessClaimed_1 := ⟨start1.p0, start1.e0, start1.about1, start1.theMethod, start1.args0, start1.below0, start1.atStart⟩
end Jvm.Pilot.@@N@@
