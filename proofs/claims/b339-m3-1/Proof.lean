import JvmDerived
import JvmDerived.Pilot.@@N@@Statement
import JvmDerived.Pilot.@@N@@Code
set_option linter.unusedVariables false
set_option linter.unusedSimpArgs false
namespace Jvm.Pilot.@@N@@
open Jvm Jvm.ClassFile Sem Op Lib Jvm.Free Jvm.Stand Jvm.LawKit Jvm.RoadKit Bundle Jvm.Pilot.@@N@@.Jvm.D
theorem own_w {Z : State} {a0 : Array Value} (hw : ∀ d ∈ tables_1, d.before a0 Z = true) (i : Nat) {d : Jvm.Cond} (h : tables_1[i]? = some d) : d.before a0 Z = true := hw _ (List.mem_of_getElem? h)
theorem own_hW {a b : Nat} (h : 2 * 0 + a = b) : 2 * 0 + a ≤ b := Nat.le_of_eq h
abbrev own_n0 : MethodName := ⟨"java/lang/StringUTF16", "compress", "([CI[BII)I"⟩
abbrev own_n1 : MethodName := ⟨"java/lang/StringUTF16", "coderFromArrayLen", "([BI)B"⟩
abbrev own_n2 : MethodName := ⟨"java/lang/StringUTF16", "newBytesLength", "(I)I"⟩
abbrev own_n3 : MethodName := ⟨"java/lang/StringUTF16", "newBytesFor", "(I)[B"⟩
abbrev own_n4 : MethodName := ⟨"java/lang/StringUTF16", "putChar", "([BII)V"⟩
abbrev own_n5 : MethodName := ⟨"java/lang/StringUTF16", "getChar", "([BI)C"⟩
abbrev own_n6 : MethodName := ⟨"java/lang/StringUTF16", "toBytes", "([CII)[B"⟩
abbrev own_n7 : MethodName := ⟨"java/lang/StringUTF16", "compress", "([CII)[B"⟩
abbrev own_n8 : MethodName := ⟨"java/lang/String", "<init>", "([CIILjava/lang/Void;)V"⟩
abbrev own_n9 : MethodName := ⟨"java/lang/String", "<init>", "([C)V"⟩
abbrev own_n10 : MethodName := ⟨"jdk/internal/util/Preconditions", "checkIndex", "(IILjava/util/function/BiFunction;)I"⟩
abbrev own_n11 : MethodName := ⟨"java/lang/String", "checkIndex", "(II)V"⟩
abbrev own_n12 : MethodName := ⟨"java/lang/String", "isLatin1", "()Z"⟩
abbrev own_n13 : MethodName := ⟨"java/lang/StringLatin1", "charAt", "([BI)C"⟩
abbrev own_n14 : MethodName := ⟨"java/lang/StringUTF16", "length", "([B)I"⟩
abbrev own_n15 : MethodName := ⟨"java/lang/StringUTF16", "checkIndex", "(I[B)V"⟩
abbrev own_n16 : MethodName := ⟨"java/lang/StringUTF16", "charAt", "([BI)C"⟩
abbrev own_n17 : MethodName := ⟨"java/lang/String", "charAt", "(I)C"⟩
abbrev own_n18 : MethodName := ⟨"com/example/marshalyard/marshalyard/engine/DecimalIntegerParsePinLaw", "pow10", "(I)J"⟩
abbrev own_n19 : MethodName := ⟨"com/example/marshalyard/marshalyard/engine/DecimalIntegerParsePinLaw", "digit", "(JI)I"⟩
abbrev own_n20 : MethodName := ⟨"com/example/marshalyard/marshalyard/engine/DecimalIntegerParsePinLaw", "put", "([CIIJI)V"⟩
abbrev own_n21 : MethodName := ⟨"java/util/OptionalInt", "<init>", "(I)V"⟩
abbrev own_n22 : MethodName := ⟨"java/util/OptionalInt", "of", "(I)Ljava/util/OptionalInt;"⟩
abbrev own_n23 : MethodName := ⟨"java/util/OptionalInt", "empty", "()Ljava/util/OptionalInt;"⟩
abbrev own_n24 : MethodName := ⟨"java/util/OptionalInt", "isPresent", "()Z"⟩
abbrev own_n25 : MethodName := ⟨"java/util/OptionalInt", "getAsInt", "()I"⟩
abbrev own_n26 : MethodName := ⟨"java/lang/String", "coder", "()B"⟩
abbrev own_n27 : MethodName := ⟨"java/lang/String", "length", "()I"⟩
abbrev own_n28 : MethodName := ⟨"jdk/internal/util/ArraysSupport", "mismatch", "([BI[BII)I"⟩
abbrev own_n29 : MethodName := ⟨"java/lang/String", "startsWith", "(Ljava/lang/String;I)Z"⟩
abbrev own_n30 : MethodName := ⟨"java/lang/String", "startsWith", "(Ljava/lang/String;)Z"⟩
abbrev own_n31 : MethodName := ⟨"com/example/marshalyard/marshalyard/engine/DecimalInteger", "parse", "(Ljava/lang/String;II)Ljava/util/OptionalInt;"⟩

section Own
variable {p : Program} {l : Launch} {e : Env} {R : Room} {s : State} {m : MethodId} {args : Array Value} {below : List Frame} {meth : Method} {c : Code} {T : State} {locs : List Loc} {cells slots : Nat} {Z : State} {h h' : Heap}
def own_Go (tb : Tables) (e : Env) (below : List Frame) (P : State → Outcome → Prop) (A : State) : Prop := ∃ t o, Steps tb e below A t ∧ P t o
def own_P (below : List Frame) (s : State) (Q : Option Value → Heap → List Loc → Prop) (kc ks : Nat) (t : State) (o : Outcome) : Prop := t.status = .running ∧ Ended t below o ∧ ∃ v L, o = .returned v ∧ Q v t.heap L ∧ FrameEnd s o t L kc ks
abbrev own_at (p : Program) (e : Env) (below : List Frame) (P : State → Outcome → Prop) (T : State) (m : MethodId) (pc : Nat) (L : Array Slot) (S : List Value) : Prop := own_Go p.tables e below P (T.setTop (mkF m pc L S))
abbrev oU : Slot := .unset
abbrev oS : Slot := .second
abbrev oN : Slot := .val .null
abbrev oI (x : Int32) : Slot := .val (.int x)
abbrev oJ (x : Int64) : Slot := .val (.long x)
abbrev oD (x : UInt64) : Slot := .val (.double x)
abbrev oR (x : Addr) : Slot := .val (.ref x)
theorem own_st {tb : Tables} {P : State → Outcome → Prop} {A B : State} (k : ∀ t, Steps tb e below B t → Steps tb e below A t) (h : own_Go tb e below P B) : own_Go tb e below P A := by
  obtain ⟨t, o, h1, h2⟩ := h
  exact ⟨t, o, k t h1, h2⟩
theorem own_tr {tb : Tables} {P : State → Outcome → Prop} {A B : State} (k : Steps tb e below A B) (h : own_Go tb e below P B) : own_Go tb e below P A := by
  obtain ⟨t, o, h1, h2⟩ := h
  exact ⟨t, o, k.trans h1, h2⟩
theorem own_ret (X : Stand p l e R s m args below meth c T locs cells slots) (hx : p.tables.exec = Jvm.exec) (hnl : meth.locks = false) {pc : Nat} {Ls : Array Slot} {w : Value} {t : FieldType} {i : Instr} {rest : List Value} (hret : meth.sig.returnType = some t) (hn : narrow t w = w)
    (hi : (i = .ireturn ∧ (t = .int ∨ t = .boolean ∨ t = .byte ∨ t = .char ∨ t = .short) ∧ ∃ z, w = .int z) ∨ (i = .lreturn ∧ t = .long ∧ ∃ z, w = .long z) ∨ (i = .dreturn ∧ t = .double ∧ ∃ z, w = .double z) ∨ (i = .freturn ∧ t = .float ∧ ∃ z, w = .float z) ∨ (i = .areturn ∧ t.isReference = true ∧ w.isRef = true))
    (hd : decode c.code pc = .ok (i, 1)) {Q : Option Value → Heap → List Loc → Prop} {kc ks : Nat} (hq : Q (some w) T.heap locs) (hc : cells ≤ kc) (hs : slots ≤ ks) : own_Go p.tables e below (own_P below s Q kc ks) (T.setTop (mkF m pc Ls (w :: rest))) := by
  obtain ⟨fs, hr, hrun, hended, hW, hsame⟩ := X.leave (v := some w) (fun h => by rw [hret] at h; cases h) hnl
  exact ⟨_, _, retOut X hx hret hn hi hd hr, hrun, hended, _, _, rfl, hq, ⟨_, rfl⟩, hW, hsame.mono hc hs⟩
theorem own_ret0 (X : Stand p l e R s m args below meth c T locs cells slots) (hx : p.tables.exec = Jvm.exec) (hnl : meth.locks = false) {pc : Nat} {Ls : Array Slot} (hret : meth.sig.returnType = none)
    (hd : decode c.code pc = .ok (.return_, 1)) {Q : Option Value → Heap → List Loc → Prop} {kc ks : Nat} (hq : Q none T.heap locs) (hc : cells ≤ kc) (hs : slots ≤ ks) : own_Go p.tables e below (own_P below s Q kc ks) (T.setTop (mkF m pc Ls [])) := by
  obtain ⟨fs, hr, hrun, hended, hW, hsame⟩ := X.leave (v := none) (fun _ => rfl) hnl
  exact ⟨_, _, X.returnOut hx hret hd hr, hrun, hended, _, _, rfl, hq, ⟨_, rfl⟩, hW, hsame.mono hc hs⟩
theorem own_lrem {g : JFrame} {target : State} (X : Stand p l e R s m args below meth c T locs cells slots) (hx : p.tables.exec = Jvm.exec) (hg : g.method = m) {x y : Int64} {rest : List Value} (hd : decode c.code g.pc = .ok (.lrem, 1)) (hs : g.stack = .long y :: .long x :: rest) (hy : y ≠ 0)
    (hr : Steps p.tables e below (T.setTop { g with pc := g.pc + 1, stack := .long (x % y) :: rest }) target) : Steps p.tables e below (T.setTop g) target := by
  exact XS.lrem X.here hx hg hd hs hy (by rw [lrem_mod]; exact hr)
end Own

section OwnA
variable {p : Program} {l : Launch} {e : Env} {R : Room} {s : State} {m : MethodId} {args : Array Value} {below : List Frame} {meth : Method} {c : Code} {T : State} {locs : List Loc} {cells slots : Nat} {Z : State} {h h' : Heap} {a b : Addr} {k : ClassId} {ty : FieldType} {n : Nat} {f : Nat → Value} {sl : Nat} {v : Value} {ws : List Addr}
def own_A (Z : State) (h : Heap) (a : Addr) (k : ClassId) (ty : FieldType) (n : Nat) (f : Nat → Value) : Prop := ∃ c : Cell, Arr Z h a c ty ∧ c.cls = k ∧ c.slots.size = n ∧ n < 2 ^ 31 ∧ (∀ i, i < n → c.slots[i]? = some (f i)) ∧ ∀ i, i < n → fits ty (f i) = true
def own_upd {α : Type} (f : Nat → α) (i : Nat) (x : α) : Nat → α := fun j => if j = i then x else f j
theorem own_A.lt (F : own_A Z h a k ty n f) : a < h.size := by obtain ⟨c, A, -⟩ := F; exact A.lt
theorem own_A.ext (F : own_A Z h a k ty n f) (E : Ext h h') : own_A Z h' a k ty n f := by obtain ⟨c, A, r⟩ := F; exact ⟨c, A.ext E, r⟩
theorem own_A.other (F : own_A Z h b k ty n f) (W : Wr h h' a sl v) (q : b ≠ a) : own_A Z h' b k ty n f := by obtain ⟨c, A, r⟩ := F; exact ⟨c, A.other W q, r⟩
theorem own_A.keep (F : own_A Z h a k ty n f) (K : Keep h h' ws) (q : a ∉ ws) : own_A Z h' a k ty n f := by obtain ⟨c, A, r⟩ := F; exact ⟨c, ⟨K.2.1 a c A.1 q, A.2⟩, r⟩
theorem own_A.congr (F : own_A Z h a k ty n f) {g : Nat → Value} (q : ∀ i, i < n → g i = f i) : own_A Z h a k ty n g := by
  obtain ⟨c, A, r1, r2, r3, H, G⟩ := F
  exact ⟨c, A, r1, r2, r3, fun i hi => by rw [q i hi]; exact H i hi, fun i hi => by rw [q i hi]; exact G i hi⟩
theorem own_A.small (F : own_A Z h a k ty n f) : n < 2 ^ 31 := by obtain ⟨c, A, r1, r2, r3, -⟩ := F; exact r3
theorem own_A.fit (F : own_A Z h a k ty n f) {i : Nat} (hi : i < n) : fits ty (f i) = true := by obtain ⟨c, A, r1, r2, r3, H, G⟩ := F; exact G i hi
theorem own_A.new {z : Int32} (A : Arr Z h a (newA k ty z) ty) (hz : z = Int32.ofNat n) (q : ¬ z < 0) {g : Nat → Value} (hg : ∀ i, g i = defaultValue ty := by intro i; rfl) (hn : n < 2 ^ 31 := by decide) : own_A Z h a k ty n g := by
  have e : z.toNatClampNeg = n := by rw [hz]; simp [Int32.toNatClampNeg, Int32.toInt_ofNat_of_lt hn]
  refine ⟨_, A, rfl, by rw [sz_new]; exact e, hn, fun i hi => ?_, fun i hi => ?_⟩
  · rw [hg]; simp [newA, e, hi]
  · rw [hg]; cases ty <;> rfl
theorem own_idx {j : Int32} {i n : Nat} (h1 : j.toInt = (i : Int)) (h2 : i < n) : ¬ (j < 0 ∨ n ≤ j.toNatClampNeg) ∧ j.toNatClampNeg = i := by
  have e : j.toNatClampNeg = i := by simp [Int32.toNatClampNeg, h1]
  refine ⟨fun q => ?_, e⟩
  rcases q with q | q
  · rw [Int32.lt_iff_toInt_lt, h1] at q; simp at q; omega
  · rw [e] at q; omega
theorem own_len (X : Stand p l e R s m args below meth c T locs cells slots) (hx : p.tables.exec = Jvm.exec) (hZ : Z.Warmed39 s.vm) (eT : T.heap = h) (F : own_A Z h a k ty n f) {g : JFrame} (hg : g.method = m) {rest : List Value} (hs : g.stack = .ref a :: rest) (hd : decode c.code g.pc = .ok (.arraylength, 1)) (t : State)
    (k : Steps p.tables e below (T.setTop { g with pc := g.pc + 1, stack := .int (Int32.ofNat n) :: rest }) t) : Steps p.tables e below (T.setTop g) t := by
  obtain ⟨cl, A, r1, r2, r3, H, G⟩ := F
  refine X.arraylength hx (cell := cl) (by rw [eT]; exact A.1) (State.isArrayOf_alike hZ.alike A.2.1) hg hs hd t ?_
  rw [r2]; exact k
theorem own_setA (F : own_A Z h a k ty n f) {i : Nat} (hi : i < n) (W : Wr h h' a i v) (hv : fits ty v = true) : own_A Z h' a k ty n (own_upd f i v) := by
  obtain ⟨cl, A, r1, r2, r3, H, G⟩ := F
  refine ⟨_, A.same W, r1, by rw [sz_set]; exact r2, r3, fun j hj => ?_, fun j hj => ?_⟩
  · by_cases q : j = i
    · subst q; simp [own_upd, Cell.setSlot, r2, hj]
    · simp only [own_upd, if_neg q, Cell.setSlot]
      rw [Array.getElem?_setIfInBounds_ne (Ne.symm q)]; exact H j hj
  · by_cases q : j = i
    · simp only [own_upd, if_pos q]; exact hv
    · simp only [own_upd, if_neg q]; exact G j hj
theorem own_updI (f : Nat → Int32) (i : Nat) (x : Int32) : own_upd (fun j => Value.int (f j)) i (.int x) = fun j => .int (own_upd f i x j) := by funext j; simp only [own_upd]; split <;> rfl
theorem own_updJ (f : Nat → Int64) (i : Nat) (x : Int64) : own_upd (fun j => Value.long (f j)) i (.long x) = fun j => .long (own_upd f i x j) := by funext j; simp only [own_upd]; split <;> rfl
theorem own_laload (X : Stand p l e R s m args below meth c T locs cells slots) (hx : p.tables.exec = Jvm.exec) (hZ : Z.Warmed39 s.vm) (eT : T.heap = h) {f : Nat → Int64} (F : own_A Z h a k .long n (fun i => .long (f i))) {j : Int32} {i : Nat} (h1 : j.toInt = (i : Int)) (h2 : i < n) {g : JFrame} (hg : g.method = m) {rest : List Value} (hs : g.stack = .int j :: .ref a :: rest) (hd : decode c.code g.pc = .ok (.laload, 1)) (t : State)
    (k : Steps p.tables e below (T.setTop { g with pc := g.pc + 1, stack := .long (f i) :: rest }) t) : Steps p.tables e below (T.setTop g) t := by
  obtain ⟨cl, A, r1, r2, r3, H, G⟩ := F
  obtain ⟨q1, q2⟩ := own_idx h1 (r2 ▸ h2)
  exact X.laload hx (j := j) (v := .long (f i)) (by rw [eT]; exact A.1) (State.isArrayOf_alike hZ.alike A.2.1) A.2.2 q1 (by rw [q2]; exact H i h2) hg hs hd t k
theorem own_caload (X : Stand p l e R s m args below meth c T locs cells slots) (hx : p.tables.exec = Jvm.exec) (hZ : Z.Warmed39 s.vm) (eT : T.heap = h) {f : Nat → Int32} (F : own_A Z h a k .char n (fun i => .int (f i))) {j : Int32} {i : Nat} (h1 : j.toInt = (i : Int)) (h2 : i < n) {g : JFrame} (hg : g.method = m) {rest : List Value} (hs : g.stack = .int j :: .ref a :: rest) (hd : decode c.code g.pc = .ok (.caload, 1)) (t : State)
    (k : Steps p.tables e below (T.setTop { g with pc := g.pc + 1, stack := .int (f i) :: rest }) t) : Steps p.tables e below (T.setTop g) t := by
  obtain ⟨cl, A, r1, r2, r3, H, G⟩ := F
  obtain ⟨q1, q2⟩ := own_idx h1 (r2 ▸ h2)
  exact X.caload hx (j := j) (v := .int (f i)) (by rw [eT]; exact A.1) (State.isArrayOf_alike hZ.alike A.2.1) A.2.2 q1 (by rw [q2]; exact H i h2) hg hs hd t k
theorem own_baload (X : Stand p l e R s m args below meth c T locs cells slots) (hx : p.tables.exec = Jvm.exec) (hZ : Z.Warmed39 s.vm) (eT : T.heap = h) {f : Nat → Int32} (F : own_A Z h a k .byte n (fun i => .int (f i))) {j : Int32} {i : Nat} (h1 : j.toInt = (i : Int)) (h2 : i < n) {g : JFrame} (hg : g.method = m) {rest : List Value} (hs : g.stack = .int j :: .ref a :: rest) (hd : decode c.code g.pc = .ok (.baload, 1)) (t : State)
    (k : Steps p.tables e below (T.setTop { g with pc := g.pc + 1, stack := .int (f i) :: rest }) t) : Steps p.tables e below (T.setTop g) t := by
  obtain ⟨cl, A, r1, r2, r3, H, G⟩ := F
  obtain ⟨q1, q2⟩ := own_idx h1 (r2 ▸ h2)
  exact X.baloadBytes hx (j := j) (v := .int (f i)) (by rw [eT]; exact A.1) (State.isArrayOf_alike hZ.alike A.2.1) A.2.2 q1 (by rw [q2]; exact H i h2) hg hs hd t k
theorem own_lastore (X : Stand p l e R s m args below meth c T locs cells slots) (hx : p.tables.exec = Jvm.exec) (hZ : Z.Warmed39 s.vm) (eT : T.heap = h) {f : Nat → Int64} (F : own_A Z h a k .long n (fun i => .long (f i))) {j : Int32} {x : Int64} {i : Nat} (h1 : j.toInt = (i : Int)) (h2 : i < n) {g : JFrame} (hg : g.method = m) {rest : List Value} (hs : g.stack = .long x :: .int j :: .ref a :: rest) (hd : decode c.code g.pc = .ok (.lastore, 1)) :
    ∃ T' h', Stand p l e R s m args below meth c T' (locs ++ [⟨a, i⟩]) cells slots ∧ T'.heap = h' ∧ Wr h h' a i (.long x) ∧ own_A Z h' a k .long n (fun q => .long (own_upd f i x q)) ∧ ∀ target, Steps p.tables e below (T'.setTop { g with pc := g.pc + 1, stack := rest }) target → Steps p.tables e below (T.setTop g) target := by
  have F0 := F
  obtain ⟨cl, A, r1, r2, r3, H, G⟩ := F
  obtain ⟨q1, q2⟩ := own_idx h1 (r2 ▸ h2)
  obtain ⟨T', h', X', e', W', st⟩ := stJ X hx hZ eT A q1 hg hs hd
  rw [q2] at X' W'
  exact ⟨T', h', X', e', W', by rw [← own_updJ]; exact own_setA F0 h2 W' rfl, st⟩
theorem own_castore (X : Stand p l e R s m args below meth c T locs cells slots) (hx : p.tables.exec = Jvm.exec) (hZ : Z.Warmed39 s.vm) (eT : T.heap = h) {f : Nat → Int32} (F : own_A Z h a k .char n (fun i => .int (f i))) {j x v' : Int32} {i : Nat} (h1 : j.toInt = (i : Int)) (h2 : i < n) (hv : nar .char x = v') {g : JFrame} (hg : g.method = m) {rest : List Value} (hs : g.stack = .int x :: .int j :: .ref a :: rest) (hd : decode c.code g.pc = .ok (.castore, 1)) :
    ∃ T' h', Stand p l e R s m args below meth c T' (locs ++ [⟨a, i⟩]) cells slots ∧ T'.heap = h' ∧ Wr h h' a i (.int v') ∧ own_A Z h' a k .char n (fun q => .int (own_upd f i v' q)) ∧ ∀ target, Steps p.tables e below (T'.setTop { g with pc := g.pc + 1, stack := rest }) target → Steps p.tables e below (T.setTop g) target := by
  have F0 := F
  obtain ⟨cl, A, r1, r2, r3, H, G⟩ := F
  obtain ⟨q1, q2⟩ := own_idx h1 (r2 ▸ h2)
  obtain ⟨T', h', X', e', W', st⟩ := stC X hx hZ eT A q1 hg hs hd
  rw [q2] at X' W'
  subst hv
  exact ⟨T', h', X', e', W', by rw [← own_updI]; exact own_setA F0 h2 W' (fits_nar_char _), st⟩
theorem own_bastore (X : Stand p l e R s m args below meth c T locs cells slots) (hx : p.tables.exec = Jvm.exec) (hZ : Z.Warmed39 s.vm) (eT : T.heap = h) {f : Nat → Int32} (F : own_A Z h a k .byte n (fun i => .int (f i))) {j x v' : Int32} {i : Nat} (h1 : j.toInt = (i : Int)) (h2 : i < n) (hv : nar .byte x = v') {g : JFrame} (hg : g.method = m) {rest : List Value} (hs : g.stack = .int x :: .int j :: .ref a :: rest) (hd : decode c.code g.pc = .ok (.bastore, 1)) :
    ∃ T' h', Stand p l e R s m args below meth c T' (locs ++ [⟨a, i⟩]) cells slots ∧ T'.heap = h' ∧ Wr h h' a i (.int v') ∧ own_A Z h' a k .byte n (fun q => .int (own_upd f i v' q)) ∧ ∀ target, Steps p.tables e below (T'.setTop { g with pc := g.pc + 1, stack := rest }) target → Steps p.tables e below (T.setTop g) target := by
  have F0 := F
  obtain ⟨cl, A, r1, r2, r3, H, G⟩ := F
  obtain ⟨q1, q2⟩ := own_idx h1 (r2 ▸ h2)
  obtain ⟨T', h', X', e', W', st⟩ := stB X hx hZ eT A q1 hg hs hd
  rw [q2] at X' W'
  subst hv
  exact ⟨T', h', X', e', W', by rw [← own_updI]; exact own_setA F0 h2 W' (fits_nar_byte _), st⟩
end OwnA

section OwnN
theorem own_inc {i : Int32} {k : Nat} (h : i.toInt = (k : Int)) (hk : k < 2147483647) : (i + 1).toInt = ((k + 1 : Nat) : Int) := by
  have e1 : (1 : Int32).toInt = 1 := by decide
  rw [Int32.toInt_add, h, e1, bmod32 (by omega) (by omega)]
  omega
end OwnN

section OwnW
variable {args : Array Value} {first s : State} {o : Option Outcome} {idx : List Nat} {t : Term}
theorem own_eqI {k : Int32} (h : (Cond.eq t (.int k)).value args first o s idx = some true) : t.eval args first o idx s = some (.int k) := by
  simp only [Cond.value, Term.eval] at h; cases ht : t.eval args first o idx s with | none => simp [ht] at h | some x => cases x <;> simp [ht] at h ⊢; exact h
theorem own_neq0 {G : Int32} (ev : t.eval args first o idx s = some (.int G)) (h : (Cond.not (.eq t (.int 0))).value args first o s idx = some true) : ¬ G = (0 : Int32) := by
  intro q; subst q; simp [Cond.value, ev, Term.eval] at h
end OwnW

section OwnS
def own_bl (cd : Int32) (n : Nat) : Nat := if cd = 0 then n else n + n
def own_u16 (cs : Nat → Int32) : Nat → Int32 := fun i => if i % 2 = 0 then (cs (i / 2) >>> ((0 : Int32) &&& 31)).toInt8.toInt32 else (cs (i / 2) >>> ((8 : Int32) &&& 31)).toInt8.toInt32
def own_by (cd : Int32) (cs : Nat → Int32) : Nat → Int32 := if cd = 0 then (fun i => (cs i).toInt8.toInt32) else own_u16 cs
def own_cb (cs f : Nat → Int32) (j : Nat) : Nat → Int32 := fun i => if i < j then (cs i).toInt8.toInt32 else f i
theorem own_ltp {i p_ : Int32} {k n : Nat} (h : i.toInt = (k : Int)) (hp : p_.toInt = (n : Int)) : i < p_ ↔ k < n := by
  rw [Int32.lt_iff_toInt_lt, h, hp]; omega
theorem own_asN {i : Int32} {k : Nat} (h : i.toInt = (k : Int)) : i = Int32.ofNat k := Int32.toInt_inj.mp (by
  have := rng32 i
  rw [h, Int32.toInt_ofNat_of_lt (by omega)])
theorem own_i8 (x : Int32) : x.toInt8.toInt32.toInt8.toInt32 = x.toInt8.toInt32 := by
  apply Int32.toInt_inj.mp
  have a := c_i2b x
  have b := c_i2b x.toInt8.toInt32
  omega
theorem own_narb (x : Int32) : nar .byte (x.toInt8.toInt32) = x.toInt8.toInt32 := own_i8 x
theorem own_i16 {c : Int32} (h0 : 0 ≤ c.toInt) (h1 : c.toInt ≤ 65535) : c.toUInt32.toUInt16.toUInt32.toInt32 = c := by
  apply Int32.toInt_inj.mp
  have a := c_i2c c
  omega
theorem own_narc {c : Int32} (h0 : 0 ≤ c.toInt) (h1 : c.toInt ≤ 65535) : nar .char c = c := own_i16 h0 h1
theorem own_nwc {c : Int32} (h0 : 0 ≤ c.toInt) (h1 : c.toInt ≤ 65535) : narrow .char (.int c) = .int c := congrArg Value.int (own_i16 h0 h1)
theorem own_char {c : Int32} (h : fits .char (.int c) = true) : 0 ≤ c.toInt ∧ c.toInt ≤ 65535 := by
  have q := rng_char h
  have z : (0 : Int32).toInt = 0 := by decide
  have w : (65535 : Int32).toInt = 65535 := by decide
  simp only [Int32.lt_iff_toInt_lt] at q
  omega
theorem own_shr0 (x : Int32) : (x >>> ((0 : Int32) &&& 31)).toInt = x.toInt := by
  rw [c_ishr x 0 0 (by decide)]; simp
/-- the two bytes of a char, joined -/
theorem own_join {c x y : Int32} (h0 : 0 ≤ c.toInt) (h1 : c.toInt ≤ 65535) (hx : x = (c >>> ((0 : Int32) &&& 31)).toInt8.toInt32) (hy : y = (c >>> ((8 : Int32) &&& 31)).toInt8.toInt32) :
    ((((x &&& (255 : Int32)) <<< ((0 : Int32) &&& 31)) ||| ((y &&& (255 : Int32)) <<< ((8 : Int32) &&& 31))).toUInt32.toUInt16.toUInt32.toInt32) = c := by
  have e0 := own_shr0 c
  have e8 := c_ishr c 8 8 (by decide)
  have b0 := c_i2b (c >>> ((0 : Int32) &&& 31))
  have b8 := c_i2b (c >>> ((8 : Int32) &&& 31))
  rw [← hx] at b0; rw [← hy] at b8
  have m0 := c_mask x 255 8 (by decide) (by decide)
  have m8 := c_mask y 255 8 (by decide) (by decide)
  have s0 := c_ishl (x &&& 255) 0 0 (by decide)
  have s8 := c_ishl (y &&& 255) 8 8 (by decide)
  have p8 : ((2 ^ 8 : Nat) : Int) = 256 := by decide
  have p0 : ((2 ^ 0 : Nat) : Int) = 1 := by decide
  rw [p8] at e8 m0 m8 s8
  rw [p0] at s0
  have r0 := rng32 ((x &&& 255) <<< ((0 : Int32) &&& 31))
  have r8 := rng32 ((y &&& 255) <<< ((8 : Int32) &&& 31))
  have o := c_or' ((x &&& 255) <<< ((0 : Int32) &&& 31)) ((y &&& 255) <<< ((8 : Int32) &&& 31)) 8 (by decide) 256 (by decide)
  have v0 : ((x &&& 255) <<< ((0 : Int32) &&& 31)).toInt = c.toInt % 256 := by omega
  have v8 : ((y &&& 255) <<< ((8 : Int32) &&& 31)).toInt = (c.toInt / 256) * 256 := by omega
  have ro := rng32 (((x &&& 255) <<< ((0 : Int32) &&& 31)) ||| ((y &&& 255) <<< ((8 : Int32) &&& 31)))
  have o' := o (by omega) (by omega) (by omega)
  apply Int32.toInt_inj.mp
  have i := c_i2c (((x &&& 255) <<< ((0 : Int32) &&& 31)) ||| ((y &&& 255) <<< ((8 : Int32) &&& 31)))
  omega
/-- a byte of a Latin-1 string, widened -/
theorem own_lat {c : Int32} (h0 : 0 ≤ c.toInt) (h1 : ¬ (255 : Int32) < c) : ((c.toInt8.toInt32 &&& (255 : Int32)).toUInt32.toUInt16.toUInt32.toInt32) = c := by
  have w : (255 : Int32).toInt = 255 := by decide
  rw [Int32.lt_iff_toInt_lt, w] at h1
  have b := c_i2b c
  have m0 := c_mask c.toInt8.toInt32 255 8 (by decide) (by decide)
  have p8 : ((2 ^ 8 : Nat) : Int) = 256 := by decide
  rw [p8] at m0
  apply Int32.toInt_inj.mp
  have i := c_i2c (c.toInt8.toInt32 &&& 255)
  omega
theorem own_shl1 {q : Int32} {k : Nat} (h : q.toInt = (k : Int)) (hk : k < 100000) : (q <<< ((1 : Int32) &&& 31)).toInt = ((k + k : Nat) : Int) := by
  have s := c_ishl q 1 1 (by decide)
  have p1 : ((2 ^ 1 : Nat) : Int) = 2 := by decide
  have r := rng32 (q <<< ((1 : Int32) &&& 31))
  rw [p1, h] at s
  omega
theorem own_cdl {cd p_ : Int32} {n : Nat} (hcd : cd = 0 ∨ cd = 1) (hp : p_.toInt = (n : Int)) (hn : 1 ≤ n ∧ n < 100000) : ((((p_ - (Int32.ofNat (own_bl cd n))).toUInt32 >>> ((31 : Int32) &&& 31).toUInt32).toInt32).toInt8.toInt32) = cd := by
  have hz : p_ = Int32.ofNat n := own_asN hp
  apply Int32.toInt_inj.mp
  have e := c_iushr (p_ - Int32.ofNat (own_bl cd n)) 31 31 (by decide) (by decide)
  have p31 : ((2 ^ 31 : Nat) : Int) = 2147483648 := by decide
  rw [p31] at e
  have b := c_i2b (((p_ - (Int32.ofNat (own_bl cd n))).toUInt32 >>> ((31 : Int32) &&& 31).toUInt32).toInt32)
  have s := c_isub p_ (Int32.ofNat (own_bl cd n))
  have r := rng32 (p_ - Int32.ofNat (own_bl cd n))
  rcases hcd with rfl | rfl
  · have l : own_bl 0 n = n := by simp [own_bl]
    rw [l] at e b s r ⊢
    rw [Int32.toInt_ofNat_of_lt (by omega), hp] at s
    have z : (0 : Int32).toInt = 0 := by decide
    omega
  · have l : own_bl 1 n = n + n := by simp [own_bl]
    rw [l] at e b s r ⊢
    rw [Int32.toInt_ofNat_of_lt (by omega), hp] at s
    have z : (1 : Int32).toInt = 1 := by decide
    omega
end OwnS

section OwnT
theorem own_bl0 (n : Nat) : own_bl 0 n = n := by simp [own_bl]
theorem own_bl1 (n : Nat) : own_bl 1 n = n + n := by simp [own_bl]
theorem own_by0 (cs : Nat → Int32) (i : Nat) : own_by 0 cs i = (cs i).toInt8.toInt32 := by simp [own_by]
theorem own_by1 (cs : Nat → Int32) (i : Nat) : own_by 1 cs i = own_u16 cs i := by simp [own_by]
theorem own_cb_up (cs f : Nat → Int32) (k j : Nat) : own_cb cs f (k + 1) j = own_upd (own_cb cs f k) k (cs k).toInt8.toInt32 j := by
  simp only [own_cb, own_upd]
  by_cases e : j = k
  · subst e; simp
  · simp only [e, if_false]
    by_cases q : j < k
    · rw [if_pos q, if_pos (by omega)]
    · rw [if_neg q, if_neg (by omega)]
theorem own_narcc (y : Int32) : nar .char (y.toUInt32.toUInt16.toUInt32.toInt32) = y.toUInt32.toUInt16.toUInt32.toInt32 := by
  have a := c_i2c y
  exact own_narc (by omega) (by omega)
theorem own_nw01 {b : Int32} (h : b = 0 ∨ b = 1) : narrow .byte (.int b) = .int b := by rcases h with rfl | rfl <;> rfl
theorem own_f01 {b : Int32} (h : b = 0 ∨ b = 1) : fits .byte (.int b) = true := by rcases h with rfl | rfl <;> rfl
theorem own_c01 {cd : Int32} {P : Prop} (h : (cd = 0 ∧ P) ∨ cd = 1) : cd = 0 ∨ cd = 1 := h.imp (·.1) id
theorem own_ofN {j n : Nat} {p_ : Int32} (hp : p_.toInt = (n : Int)) (hj : j ≤ n) (e : Int32.ofNat j = p_) : j = n := by
  have q := congrArg Int32.toInt e
  have r := rng32 p_
  rw [hp, Int32.toInt_ofNat_of_lt (by omega)] at q
  omega
theorem own_ofNn {j n : Nat} {p_ : Int32} (hp : p_.toInt = (n : Int)) (hj : j ≤ n) (e : ¬ Int32.ofNat j = p_) : j < n := by
  refine Nat.lt_of_le_of_ne hj fun q => e ?_
  rw [q]; exact (own_asN hp).symm
theorem own_toN {n : Nat} (h : n < 100000) : (Int32.ofNat n).toInt = (n : Int) := Int32.toInt_ofNat_of_lt (by omega)
theorem own_nz {p_ : Int32} {n : Nat} (hp : p_.toInt = (n : Int)) (hn : 1 ≤ n) : ¬ p_ = (0 : Int32) := fun q => by
  have z : (0 : Int32).toInt = 0 := by decide
  rw [q, z] at hp; omega
theorem own_nn {p_ : Int32} {n : Nat} (hp : p_.toInt = (n : Int)) : ¬ p_ < (0 : Int32) := by
  have z : (0 : Int32).toInt = 0 := by decide
  rw [Int32.lt_iff_toInt_lt, hp, z]; omega
theorem own_cl {p_ : Int32} {n c : Nat} (hp : p_.toInt = (n : Int)) (hc : n ≤ c) : p_.toNatClampNeg ≤ c := by
  simp [Int32.toNatClampNeg, hp]; omega
end OwnT
section OwnU
def own_l8 (cs : Nat → Int32) : Nat → Int32 := fun i => (cs i).toInt8.toInt32
def own_pb (cs : Nat → Int32) (k : Nat) : Nat → Int32 := fun i => if i < k + k then own_u16 cs i else 0
theorem own_u16e (cs : Nat → Int32) (k : Nat) : own_u16 cs (k + k) = (cs k >>> ((0 : Int32) &&& 31)).toInt8.toInt32 := by
  unfold own_u16
  rw [if_pos (by omega), show (k + k) / 2 = k by omega]
theorem own_u16o (cs : Nat → Int32) (k : Nat) : own_u16 cs (k + k + 1) = (cs k >>> ((8 : Int32) &&& 31)).toInt8.toInt32 := by
  unfold own_u16
  rw [if_neg (by omega), show (k + k + 1) / 2 = k by omega]
theorem own_pb_up (cs : Nat → Int32) (k j : Nat) : own_pb cs (k + 1) j = own_upd (own_upd (own_pb cs k) (k + k) ((cs k >>> ((0 : Int32) &&& 31)).toInt8.toInt32)) (k + k + 1) ((cs k >>> ((8 : Int32) &&& 31)).toInt8.toInt32) j := by
  simp only [own_pb, own_upd]
  by_cases e1 : j = k + k + 1
  · rw [if_pos (by omega), if_pos e1, e1, own_u16o]
  · rw [if_neg e1]
    by_cases e0 : j = k + k
    · rw [if_pos (by omega), if_pos e0, e0, own_u16e]
    · rw [if_neg e0]
      by_cases q : j < k + k
      · rw [if_pos (by omega), if_pos q]
      · rw [if_neg (by omega), if_neg q]
def own_l1 (cd : Int32) : Int32 := if cd = 0 then 1 else 0
theorem own_shr1 {n : Nat} (h : n < 100000) : ((Int32.ofNat (n + n)) >>> ((1 : Int32) &&& 31)).toInt = (n : Int) := by
  have s := c_ishr (Int32.ofNat (n + n)) 1 1 (by decide)
  have p1 : ((2 ^ 1 : Nat) : Int) = 2 := by decide
  rw [p1, Int32.toInt_ofNat_of_lt (by omega)] at s
  omega
theorem own_bound {p_ : Int32} {n : Nat} (hp : p_.toInt = (n : Int)) (h : n < 1073741823) : p_ < (1073741823 : Int32) := by
  have z : (1073741823 : Int32).toInt = 1073741823 := by decide
  rw [Int32.lt_iff_toInt_lt, hp, z]; omega
end OwnU

section OwnB
variable {p : Program} {l : Launch} {e : Env} {R : Room} {s : State} {m : MethodId} {args : Array Value} {below : List Frame} {meth : Method} {c : Code} {T : State} {locs : List Loc} {cells slots : Nat} {Z : State} {h h' : Heap} {a b : Addr} {k : ClassId} {ty : FieldType} {n : Nat} {f : Nat → Value} {a0 : Array Value}
theorem own_natc {x : Int32} {n : Nat} (h : x.toInt = (n : Int)) : x.toNatClampNeg = n := by simp [Int32.toNatClampNeg, h]
theorem own_negc {x : Int32} {n : Nat} (h : x.toInt = (n : Int)) : ¬ x < 0 := by
  have z : (0 : Int32).toInt = 0 := by decide
  rw [Int32.lt_iff_toInt_lt, h, z]; omega
theorem own_rg {α : Type} {f : Nat → α} {n i : Nat} {d : α} (h : i < n) : ((List.range n).map f).getD i d = f i := by simp [List.getD_eq_getElem?_getD, h]
theorem own_A.arv (F : own_A Z h a k ty n f) (d : Value) : Arv Z h a k ty (Int32.ofNat n) ((List.range n).map f) d := by
  obtain ⟨c, A, r1, r2, r3, H, G⟩ := F
  have t : (Int32.ofNat n).toInt = (n : Int) := Int32.toInt_ofNat_of_lt r3
  refine ⟨c, A, r1, by rw [own_natc t]; exact r2, own_negc t, fun j hj => ?_, fun j hj => ?_⟩
  · rw [own_rg (r2 ▸ hj)]; exact H j (r2 ▸ hj)
  · rw [own_rg (r2 ▸ hj)]; exact G j (r2 ▸ hj)
theorem own_A.ofArv' {z : Int32} {vs : List Value} {d : Value} (F : Arv Z h a k ty z vs d) (hz : z.toNatClampNeg = n) (hn : n < 2 ^ 31) (hf : ∀ i, i < n → f i = vs.getD i d) : own_A Z h a k ty n f := by
  obtain ⟨c, A, r1, r2, r3, H, G⟩ := F
  refine ⟨c, A, r1, by rw [r2, hz], hn, fun i hi => ?_, fun i hi => ?_⟩
  · rw [hf i hi]; exact H i (by rw [r2, hz]; exact hi)
  · rw [hf i hi]; exact G i (by rw [r2, hz]; exact hi)
theorem own_lenw {t : Term} {z : Int32} (hv : (Term.length t).eval a0 Z none [] Z = some (.int z)) (ev : t.eval a0 Z none [] Z = some (.ref a)) : ∃ cell, Z.heap[a]? = some cell ∧ cell.slots.size < 2 ^ 31 ∧ cell.slots.size.toInt32 = z := by
  simp only [Term.eval, ev, Option.bind_eq_bind, Option.bind_some] at hv
  cases ha : Z.arrayAt? a with
  | none => simp [ha] at hv
  | some cell =>
    simp only [ha, Option.bind_some] at hv
    split at hv
    · rename_i q
      cases hv
      exact ⟨cell, (State.arrayAt?_spec ha).1, q, rfl⟩
    · cases hv
theorem own_A.start {t : Term} {z : Int32} {vs : List Value} (hf : Fit Z) (ev : t.eval a0 Z none [] Z = some (.ref a)) (hA : (Cond.arrayOf t ty).value a0 Z none Z [] = some true) (hl : (Term.length t).eval a0 Z none [] Z = some (.int z)) (hz : z.toInt = (n : Int)) (hn : vs.length = n)
    (hv : ∀ i : Nat, ∀ q : i < n, (Term.elem t (.int (Int32.ofNat i))).eval a0 Z none [] Z = some (vs.getD i .null)) : ∃ k, own_A Z Z.heap a k ty n (fun i => vs.getD i .null) := by
  obtain ⟨cl, A⟩ := Arr.start ev hA
  obtain ⟨cell, q1, q2, q3⟩ := own_lenw hl ev
  cases A.1.symm.trans q1
  have e1 : cl.slots.size.toInt32.toInt = cl.slots.size := Int32.toInt_ofNat_of_lt q2
  have hs : cl.slots.size = n := by rw [q3, hz] at e1; omega
  have H : ∀ i, i < n → cl.slots[i]? = some (vs.getD i .null) := fun i hi => by
    obtain ⟨cell, r1, -, r3⟩ := elem_at (hv i hi) ev (show (Term.int (Int32.ofNat i)).eval a0 Z none [] Z = _ from rfl)
    cases A.1.symm.trans r1
    rwa [own_natc (Int32.toInt_ofNat_of_lt (by omega))] at r3
  refine ⟨cl.cls, cl, A, rfl, hs, by omega, H, fun i hi => ?_⟩
  have t1 : (Int32.ofNat i).toInt = (i : Int) := Int32.toInt_ofNat_of_lt (by omega)
  exact elem_fits (j := Int32.ofNat i) hf A (by rw [own_natc t1, hs]; intro q; rcases q with q | q; exact own_negc t1 q; omega) (by rw [own_natc t1]; exact H i hi)
end OwnB

section OwnH
variable {p : Program} {l : Launch} {e : Env} {R : Room} {s : State} {m : MethodId} {args : Array Value} {below : List Frame} {meth : Method} {c : Code} {T : State} {locs : List Loc} {cells slots : Nat} {Z : State} {a0 : Array Value} {EL : List (String × Nat)} {h h' : Heap} {vm0 : Vm}
def own_PW (below : List Frame) (s Z : State) (EL : List (String × Nat)) (Q : Option Value → Heap → List Loc → Prop) (kc ks : Nat) (t : State) (o : Outcome) : Prop :=
  t.status = .running ∧ Ended t below o ∧ ∃ v L, o = .returned v ∧ Q v t.heap L ∧ CHr Z EL s.vm s.heap t.vm t.heap ∧ ReturnedEndW s o t L kc ks
theorem own_retW (X : Stand p l e R (s.setVm vm0) m args below meth c T locs cells slots) (hx : p.tables.exec = Jvm.exec) (hnl : meth.locks = false) (hZ : Z.Warmed39 vm0) (hEL : EW Z a0 EL) {k0 : Nat} (hS : s.Since vm0 k0) (hk : k0 ≤ T.heap.size) (C : CHr Z EL s.vm s.heap vm0 T.heap)
    {pc : Nat} {Ls : Array Slot} {w : Value} {t : FieldType} {i : Instr} {rest : List Value} (hret : meth.sig.returnType = some t) (hn : narrow t w = w)
    (hi : (i = .ireturn ∧ (t = .int ∨ t = .boolean ∨ t = .byte ∨ t = .char ∨ t = .short) ∧ ∃ z, w = .int z) ∨ (i = .lreturn ∧ t = .long ∧ ∃ z, w = .long z) ∨ (i = .dreturn ∧ t = .double ∧ ∃ z, w = .double z) ∨ (i = .freturn ∧ t = .float ∧ ∃ z, w = .float z) ∨ (i = .areturn ∧ t.isReference = true ∧ w.isRef = true))
    (hd : decode c.code pc = .ok (i, 1)) {Q : Option Value → Heap → List Loc → Prop} {kc ks : Nat} (hq : Q (some w) T.heap locs) (hc : cells ≤ kc) (hs : slots ≤ ks) : own_Go p.tables e below (own_PW below s Z EL Q kc ks) (T.setTop (mkF m pc Ls (w :: rest))) := by
  obtain ⟨fs, hr, hrun, hended, hE⟩ := X.leaveW hS hk (v := some w) (fun h => by rw [hret] at h; cases h) hnl
  have C' := C.trans (CHv.at X hZ hEL C.1)
  exact ⟨_, _, retOut X hx hret hn hi hd hr, hrun, hended, _, _, rfl, hq, C', hE.1, hE.2.1, hE.2.2.1, hE.2.2.2.mono hc hs⟩
theorem own_retW0 (X : Stand p l e R (s.setVm vm0) m args below meth c T locs cells slots) (hx : p.tables.exec = Jvm.exec) (hnl : meth.locks = false) (hZ : Z.Warmed39 vm0) (hEL : EW Z a0 EL) {k0 : Nat} (hS : s.Since vm0 k0) (hk : k0 ≤ T.heap.size) (C : CHr Z EL s.vm s.heap vm0 T.heap)
    {pc : Nat} {Ls : Array Slot} (hret : meth.sig.returnType = none)
    (hd : decode c.code pc = .ok (.return_, 1)) {Q : Option Value → Heap → List Loc → Prop} {kc ks : Nat} (hq : Q none T.heap locs) (hc : cells ≤ kc) (hs : slots ≤ ks) : own_Go p.tables e below (own_PW below s Z EL Q kc ks) (T.setTop (mkF m pc Ls [])) := by
  obtain ⟨fs, hr, hrun, hended, hE⟩ := X.leaveW hS hk (v := none) (fun _ => rfl) hnl
  have C' := C.trans (CHv.at X hZ hEL C.1)
  exact ⟨_, _, X.returnOut hx hret hd hr, hrun, hended, _, _, rfl, hq, C', hE.1, hE.2.1, hE.2.2.1, hE.2.2.2.mono hc hs⟩
theorem own_backSH {y : MethodName} {bytes : ByteArray} {maxL : Nat} {ret : Option FieldType} {rm : Room} {len W : Nat} {as' : Array Value} {Q : Option Value → Heap → List Loc → Prop} {xs : List Addr}
    (hM : MetFree l y (head1 [Cond.code y bytes maxL ret] rm) (fun a U => a = as' ∧ Z.Warmed39 U.vm ∧ U.heap = h ∧ CHv Z EL U.vm h ∧ ∀ x ∈ xs, Safe Z EL U.vm h x) (fun _ _ _ _ _ => True) (fun _ U o U' => ∃ v L, o = .returned v ∧ Q v U'.heap L ∧ CHr Z EL U.vm U.heap U'.vm U'.heap ∧ ReturnedEndW U o U' L rm.cells rm.slots))
    (hZ : Z.Warmed39 vm0) (wc : (Cond.code y bytes maxL ret).before a0 Z = true) (wz : (Cond.initialized y.cls).before a0 Z = true) (hf : rm.frames + 1 ≤ R.frames) (hl : W + (maxL + 11) + rm.locals ≤ R.locals) (hEL : EW Z a0 EL) (H : CHv Z EL vm0 h) (hxs : ∀ x ∈ xs, x < h.size ∧ Safe Z EL vm0 h x) :
    BackS l R p e below (s.setVm vm0) args y len W (fun A a => a = as' ∧ A.U.heap = h ∧ A.cells + rm.cells ≤ R.cells ∧ A.slots + rm.slots ≤ R.slots)
      (fun A _ v B => ∃ L, Q v B.U.heap L ∧ B.locs = A.locs ++ L ∧ B.cells = A.cells + rm.cells ∧ B.slots = A.slots + rm.slots ∧ CHr Z EL vm0 h B.U.vm B.U.heap) :=
  BackS.of_freeW (bytes := bytes) (maxL := maxL) (ret := ret) (E := fun _ first o t L k n => k = rm.cells ∧ n = rm.slots ∧ (∃ v, o = .returned v ∧ Q v t.heap L) ∧ CHr Z EL first.vm first.heap t.vm t.heap) hM hf hl
    (fun m meth c A a Y hp => have hU : Z.Warmed39 A.U.vm := wtrans (s := s.setVm vm0) hZ Y.warmed
      ⟨by show (Cond.and _ .tt).before a A.U = true; rw [Cond.before_and, mv hU wc]; rfl, mv hU wc, mv hU wz, hp.2.2.1, hp.2.2.2⟩)
    (fun m meth c A a g mk Y hp => ⟨hp.1, wtrans (s := s.setVm vm0) hZ Y.warmed, hp.2.1, (CHv.at Y hZ hEL H).1, fun x hx => (CHv.at Y hZ hEL H).safe (hxs x hx).1 (hxs x hx).2⟩) (fun _ _ _ _ _ _ _ _ _ => trivial)
    (fun _ _ _ _ ⟨v, L, h1, h2, h3, h4⟩ => ⟨L, _, _, h4, rfl, rfl, ⟨v, h1, h2⟩, h3⟩)
    (fun m meth c A a g mk v t L k n Y hp _ _ ⟨e1, e2, ⟨v', e3, e4⟩, e5⟩ => by
      cases e3; subst e1 e2
      refine ⟨L, e4, rfl, rfl, rfl, (CHv.at Y hZ hEL H).trans ?_⟩
      rw [← hp.2.1]; exact e5)
theorem own_sl0 {P : Addr → Prop} : ∀ x ∈ ([] : List Addr), P x := fun _ q => by cases q
theorem own_slS {P : Addr → Prop} {a : Addr} {as : List Addr} (h1 : P a) (h2 : ∀ x ∈ as, P x) : ∀ x ∈ a :: as, P x := fun x q => by
  cases q with
  | head => exact h1
  | tail _ q => exact h2 x q
end OwnH
section OwnH2
variable {Z : State} {h : Heap} {a : Addr} {k : ClassId} {ty : FieldType} {n : Nat} {f : Nat → Value} {EL : List (String × Nat)} {vm : Vm}
theorem own_A.ofArv {z : Int32} {vs : List Value} {d : Value} (F : Arv Z h a k ty z vs d) (hz : z.toNatClampNeg = n) (hn : n < 2 ^ 31) (hf : ∀ i, i < n → f i = vs.getD i d) : own_A Z h a k ty n f := by
  obtain ⟨c, A, r1, r2, r3, H, G⟩ := F
  refine ⟨c, A, r1, by rw [r2, hz], hn, fun i hi => ?_, fun i hi => ?_⟩
  · rw [hf i hi]; exact H i (by rw [r2, hz]; exact hi)
  · rw [hf i hi]; exact G i (by rw [r2, hz]; exact hi)
theorem own_safeA (hal : Z.vm.Alike vm) (F : own_A Z h a k ty n f) (ht : ty ≠ .byte) : Safe Z EL vm h a := by obtain ⟨c, A, -⟩ := F; exact Safe.arr hal A ht
end OwnH2

def own_EL : List (String × Nat) := [("com/example/marshalyard/marshalyard/engine/DecimalInteger", 7), ("java/lang/String", 7)]
theorem own_hEL {Z : State} {a0 : Array Value} (hw : ∀ d ∈ tables_1, d.before a0 Z = true) : EW Z a0 own_EL := (EW.cons (text := "-") (own_w hw 58 rfl) (by decide) (EW.cons (text := "") (own_w hw 158 rfl) (by decide) EW.nil))
theorem own_wS {Z : State} {a0 : Array Value} (hw : ∀ d ∈ tables_1, d.before a0 Z = true) : ∀ a ∈ Bundle.stringAtoms, a.before a0 Z = true := by
  intro a ha
  simp only [Bundle.stringAtoms, List.mem_cons, List.not_mem_nil, or_false] at ha
  rcases ha with rfl | rfl | rfl | rfl | rfl | rfl | rfl
  · exact (own_w hw 27 rfl)
  · exact (own_w hw 26 rfl)
  · exact (own_w hw 43 rfl)
  · exact (own_w hw 53 rfl)
  · exact (own_w hw 51 rfl)
  · exact (own_w hw 59 rfl)
  · exact (own_w hw 60 rfl)
section OwnP
def own_p10 : Nat → Int64 := (own_upd (own_upd (own_upd (own_upd (own_upd (own_upd (own_upd (own_upd (own_upd (own_upd (own_upd (own_upd (fun _ => (0 : Int64)) 0 (1 : Int64)) 1 (10 : Int64)) 2 (100 : Int64)) 3 (1000 : Int64)) 4 (10000 : Int64)) 5 (100000 : Int64)) 6 (1000000 : Int64)) 7 (10000000 : Int64)) 8 (100000000 : Int64)) 9 (1000000000 : Int64)) 10 (10000000000 : Int64)) 11 (100000000000 : Int64))
theorem own_p10I : ∀ {k : Nat}, k < 12 → (own_p10 k).toInt = ((10 ^ k : Nat) : Int)
  | 0, _ => by decide
  | 1, _ => by decide
  | 2, _ => by decide
  | 3, _ => by decide
  | 4, _ => by decide
  | 5, _ => by decide
  | 6, _ => by decide
  | 7, _ => by decide
  | 8, _ => by decide
  | 9, _ => by decide
  | 10, _ => by decide
  | 11, _ => by decide
  | k + 12, h => absurd h (by omega)
theorem own_p10p (k : Nat) : 0 < 10 ^ k := Nat.pow_pos (by decide)
theorem own_p10b {k : Nat} (h : k < 12) : 10 ^ k ≤ 100000000000 := Nat.le_trans (Nat.pow_le_pow_right (by decide) (show k ≤ 11 by omega)) (by decide)
theorem own_p10z {k : Nat} (h : k < 12) : own_p10 k ≠ 0 := fun q => by
  have a := own_p10I h
  have b := own_p10p k
  have z : (0 : Int64).toInt = 0 := by decide
  rw [q, z] at a; omega
def own_d10 (u : Int64) (k : Nat) : Int32 := ((u / own_p10 k) % (10 : Int64)).toInt32
theorem own_d10I {u : Int64} {U k : Nat} (hu : u.toInt = (U : Int)) (hk : k < 12) : (own_d10 u k).toInt = ((U / 10 ^ k % 10 : Nat) : Int) := by
  have e := own_p10I hk
  have p := own_p10p k
  have d1 := (c_ldiv u (own_p10 k) _ e (fun q => by rw [q] at e; have : (-1 : Int64).toInt = -1 := by decide
                                                    omega)).1 (by omega)
  have e10 : (10 : Int64).toInt = 10 := by decide
  have d2 : ((u / own_p10 k) % (10 : Int64)).toInt = ((U / 10 ^ k % 10 : Nat) : Int) := by
    rw [Int64.toInt_mod, e10, d1, hu, (tr _ _).1 (Int.ediv_nonneg (by omega) (by omega))]
    omega
  have l := c_l2i ((u / own_p10 k) % (10 : Int64))
  have r := rng32 ((u / own_p10 k) % (10 : Int64)).toInt32
  unfold own_d10
  omega
def own_ch (u : Int64) (k : Nat) : Int32 := (((48 : Int32) + (own_d10 u k)).toUInt32.toUInt16.toUInt32.toInt32)
theorem own_chI {u : Int64} {U k : Nat} (hu : u.toInt = (U : Int)) (hk : k < 12) : (own_ch u k).toInt = 48 + ((U / 10 ^ k % 10 : Nat) : Int) := by
  have d := own_d10I hu hk
  have a := c_iadd 48 (own_d10 u k)
  have r := rng32 (48 + own_d10 u k)
  have c := c_i2c (48 + own_d10 u k)
  have z : (48 : Int32).toInt = 48 := by decide
  unfold own_ch
  omega
def own_pk (s n : Nat) (u : Int64) (k : Nat) (g : Nat → Int32) : Nat → Int32 := fun q => if s ≤ q ∧ q < s + n ∧ s + n - 1 - q < k then own_ch u (s + n - 1 - q) else g q
theorem own_pk0 (s n : Nat) (u : Int64) (g : Nat → Int32) (q : Nat) : own_pk s n u 0 g q = g q := by unfold own_pk; rw [if_neg (by omega)]
theorem own_pkY {s n k : Nat} (u : Int64) (g : Nat → Int32) (h : k < n) (q : Nat) : own_pk s n u (k + 1) g q = own_upd (own_pk s n u k g) (s + n - 1 - k) (own_ch u k) q := by
  simp only [own_pk, own_upd]
  by_cases e : q = s + n - 1 - k
  · rw [if_pos (by omega), if_pos e, show s + n - 1 - q = k by omega]
  · rw [if_neg e]
    by_cases z : s ≤ q ∧ q < s + n ∧ s + n - 1 - q < k
    · rw [if_pos (by omega), if_pos z]
    · rw [if_neg (by omega), if_neg z]
theorem own_pkN {s n k : Nat} (u : Int64) (g : Nat → Int32) (h : ¬ k < n) (q : Nat) : own_pk s n u (k + 1) g q = own_pk s n u k g q := by
  simp only [own_pk]
  by_cases z : s ≤ q ∧ q < s + n ∧ s + n - 1 - q < k
  · rw [if_pos (by omega), if_pos z]
  · rw [if_neg (by omega), if_neg z]
theorem own_pkI {s n : Nat} {u : Int64} {U : Nat} {g : Nat → Int32} (hu : u.toInt = (U : Int)) (hn : n ≤ 11) {q : Nat} (h1 : s ≤ q) (h2 : q < s + n) : (own_pk s n u 11 g q).toInt = 48 + ((U / 10 ^ (s + n - 1 - q) % 10 : Nat) : Int) := by
  unfold own_pk; rw [if_pos (by omega)]; exact own_chI hu (by omega)
theorem own_pkL {s n : Nat} {u : Int64} {g : Nat → Int32} {q : Nat} (h1 : q < s) : own_pk s n u 11 g q = g q := by
  unfold own_pk; rw [if_neg (by omega)]
-- the parse
def own_isd (c : Int32) : Prop := 48 ≤ c.toInt ∧ c.toInt ≤ 57
def own_swn (cs : Nat → Int32) (n : Nat) : Nat := if 1 ≤ n ∧ (cs 0).toInt = 45 then 1 else 0
def own_vl (cs : Nat → Int32) (s : Nat) : Nat → Int
  | 0 => 0
  | j + 1 => own_vl cs s j * 10 + ((cs (s + j)).toInt - 48)
def own_okd (cs : Nat → Int32) (s n : Nat) : Prop := 1 ≤ n - s ∧ n - s ≤ 10 ∧ ∀ q : Nat, s ≤ q → q < n → own_isd (cs q)
def own_pv (cs : Nat → Int32) (s n : Nat) : Int := if s = 1 then -(own_vl cs s (n - s)) else own_vl cs s (n - s)
def own_good (cs : Nat → Int32) (n : Nat) (mn mx : Int32) : Prop := own_okd cs (own_swn cs n) n ∧ mn.toInt ≤ own_pv cs (own_swn cs n) n ∧ own_pv cs (own_swn cs n) n ≤ mx.toInt
theorem own_vlB {cs : Nat → Int32} {s : Nat} : ∀ {j : Nat}, (∀ q : Nat, s ≤ q → q < s + j → own_isd (cs q)) → 0 ≤ own_vl cs s j ∧ own_vl cs s j < ((10 ^ j : Nat) : Int)
  | 0, _ => by simp [own_vl]
  | j + 1, h => by
    have a := own_vlB (j := j) (fun q h1 h2 => h q h1 (by omega))
    have b := h (s + j) (by omega) (by omega)
    unfold own_isd at b
    have p : (10 : Nat) ^ (j + 1) = 10 ^ j * 10 := Nat.pow_succ ..
    simp only [own_vl]
    rw [p]; omega
theorem own_vlC {cs ds : Nat → Int32} {s : Nat} : ∀ {j : Nat}, (∀ q : Nat, s ≤ q → q < s + j → cs q = ds q) → own_vl cs s j = own_vl ds s j
  | 0, _ => rfl
  | j + 1, h => by simp only [own_vl]; rw [own_vlC (j := j) (fun q h1 h2 => h q h1 (by omega)), h (s + j) (by omega) (by omega)]
theorem own_vlU (cs : Nat → Int32) (s p : Nat) (c : Int32) (hp : s ≤ p) : ∀ {j : Nat}, p < s + j → own_vl (own_upd cs p c) s j = own_vl cs s j + (c.toInt - (cs p).toInt) * ((10 ^ (s + j - 1 - p) : Nat) : Int)
  | 0, h => absurd h (by omega)
  | j + 1, h => by
    simp only [own_vl]
    by_cases e : p = s + j
    · rw [own_vlC (cs := own_upd cs p c) (ds := cs) (j := j) (fun q h1 h2 => by unfold own_upd; rw [if_neg (by omega)]), e, show s + (j + 1) - 1 - (s + j) = 0 by omega]
      simp only [own_upd, if_pos]
      simp; omega
    · rw [own_vlU cs s p c hp (j := j) (by omega), show s + (j + 1) - 1 - p = (s + j - 1 - p) + 1 by omega, Nat.pow_succ]
      simp only [own_upd, if_neg (Ne.symm e)]
      generalize 10 ^ (s + j - 1 - p) = P
      generalize (c.toInt - (cs p).toInt) = D
      rw [Int.natCast_mul, ← Int.mul_assoc, Int.add_mul]
      simp; omega
theorem own_vlS (cs : Nat → Int32) : ∀ (j : Nat), own_vl cs 0 (1 + j) = ((cs 0).toInt - 48) * ((10 ^ j : Nat) : Int) + own_vl cs 1 j
  | 0 => by simp [own_vl]
  | j + 1 => by
    rw [show 1 + (j + 1) = (1 + j) + 1 by omega]
    simp only [own_vl]
    rw [own_vlS cs j, Nat.pow_succ, Int.natCast_mul, ← Int.mul_assoc, Nat.zero_add, Int.add_mul]
    simp; omega
theorem own_vlD {cs : Nat → Int32} {s U M : Nat} : ∀ {j : Nat}, j ≤ M → (∀ q : Nat, s ≤ q → q < s + j → (cs q).toInt = 48 + ((U / 10 ^ (s + M - 1 - q) % 10 : Nat) : Int)) → own_vl cs s j = ((U / 10 ^ (M - j) % 10 ^ j : Nat) : Int)
  | 0, _, _ => by simp [own_vl, Nat.mod_one]
  | j + 1, hj, h => by
    have a := own_vlD (j := j) (U := U) (M := M) (by omega) (fun q h1 h2 => h q h1 (by omega))
    have b := h (s + j) (by omega) (by omega)
    simp only [own_vl]
    rw [a, b, show s + M - 1 - (s + j) = M - (j + 1) by omega]
    have e1 : U / 10 ^ (M - j) = U / 10 ^ (M - (j + 1)) / 10 := by rw [Nat.div_div_eq_div_mul, ← Nat.pow_succ, show (M - (j + 1)).succ = M - j by omega]
    rw [e1]
    generalize U / 10 ^ (M - (j + 1)) = W
    rw [show (10 : Nat) ^ (j + 1) = 10 * 10 ^ j by rw [Nat.pow_succ, Nat.mul_comm], Nat.mod_mul]
    generalize W / 10 % 10 ^ j = Q
    omega
theorem own_vlM {cs : Nat → Int32} {s U n : Nat} (h : ∀ q : Nat, s ≤ q → q < s + n → (cs q).toInt = 48 + ((U / 10 ^ (s + n - 1 - q) % 10 : Nat) : Int)) : own_vl cs s n = ((U % 10 ^ n : Nat) : Int) := by
  rw [own_vlD (Nat.le_refl n) h, Nat.sub_self, Nat.pow_zero, Nat.div_one]
theorem own_isdD {cs : Nat → Int32} {q X : Nat} (h : (cs q).toInt = 48 + ((X % 10 : Nat) : Int)) : own_isd (cs q) := by unfold own_isd; omega
-- the five kinds of text: cs is s signs '-' ahead of n digits of U, maybe with c put at p
section
variable {s n U : Nat} {c0 : Nat → Int32} {cs : Nat → Int32}
/-- plain -/
theorem own_kA (hs : s ≤ 1) (h0 : s = 1 → (cs 0).toInt = 45) (hd : ∀ q : Nat, s ≤ q → q < s + n → (cs q).toInt = 48 + ((U / 10 ^ (s + n - 1 - q) % 10 : Nat) : Int)) :
    own_swn cs (s + n) = s ∧ (own_okd cs s (s + n) ↔ 1 ≤ n ∧ n ≤ 10) ∧ own_vl cs s (s + n - s) = ((U % 10 ^ n : Nat) : Int) := by
  refine ⟨?_, ⟨fun h => ⟨by have := h.1; omega, by have := h.2.1; omega⟩, fun h => ⟨by omega, by omega, fun q h1 h2 => own_isdD (hd q h1 h2)⟩⟩, ?_⟩
  · unfold own_swn
    rcases Nat.eq_zero_or_pos s with e | e
    · subst e
      rw [if_neg fun q => by have := hd 0 (Nat.le_refl _) (by omega); omega]
    · have e : s = 1 := by omega
      subst e
      rw [if_pos ⟨by omega, h0 rfl⟩]
  · rw [show s + n - s = n by omega]; exact own_vlM hd
/-- c in place of the sign -/
theorem own_kB {c : Int32} (hc : ¬ c.toInt = 45) (h0 : cs 0 = c) (hd : ∀ q : Nat, 1 ≤ q → q < 1 + n → (cs q).toInt = 48 + ((U / 10 ^ (1 + n - 1 - q) % 10 : Nat) : Int)) :
    own_swn cs (1 + n) = 0 ∧ (own_okd cs 0 (1 + n) ↔ own_isd c ∧ n + 1 ≤ 10) ∧ own_vl cs 0 (1 + n - 0) = (c.toInt - 48) * ((10 ^ n : Nat) : Int) + ((U % 10 ^ n : Nat) : Int) := by
  refine ⟨?_, ⟨fun h => ⟨h0 ▸ h.2.2 0 (by omega) (by omega), by have := h.2.1; omega⟩, fun h => ⟨by omega, by omega, fun q h1 h2 => ?_⟩⟩, ?_⟩
  · unfold own_swn; rw [if_neg fun q => hc (by rw [← h0]; exact q.2)]
  · rcases Nat.eq_zero_or_pos q with e | e
    · rw [e, h0]; exact h.1
    · exact own_isdD (hd q e h2)
  · rw [Nat.sub_zero, own_vlS, h0, own_vlM hd]
/-- a digit in place of a digit -/
theorem own_kC {c : Int32} {p : Nat} (hs : s ≤ 1) (hc : own_isd c) (hp : s ≤ p) (hp2 : p < s + n) (h0 : s = 1 → (c0 0).toInt = 45) (hd : ∀ q : Nat, s ≤ q → q < s + n → (c0 q).toInt = 48 + ((U / 10 ^ (s + n - 1 - q) % 10 : Nat) : Int)) (e : cs = own_upd c0 p c) :
    own_swn cs (s + n) = s ∧ (own_okd cs s (s + n) ↔ 1 ≤ n ∧ n ≤ 10) ∧ own_vl cs s (s + n - s) = ((U % 10 ^ n : Nat) : Int) + (c.toInt - 48 - ((U / 10 ^ (s + n - 1 - p) % 10 : Nat) : Int)) * ((10 ^ (s + n - 1 - p) : Nat) : Int) := by
  have hx : ∀ q : Nat, s ≤ q → q < s + n → own_isd (cs q) := fun q h1 h2 => by
    rw [e]; unfold own_upd; split
    · exact hc
    · exact own_isdD (hd q h1 h2)
  refine ⟨?_, ⟨fun h => ⟨by have := h.1; omega, by have := h.2.1; omega⟩, fun h => ⟨by omega, by omega, hx⟩⟩, ?_⟩
  · unfold own_swn
    rcases Nat.eq_zero_or_pos s with z | z
    · subst z
      rw [if_neg fun q => by have := hx 0 (Nat.le_refl _) (by omega); unfold own_isd at this; omega]
    · have z : s = 1 := by omega
      subst z
      have : cs 0 = c0 0 := by rw [e]; unfold own_upd; rw [if_neg (by omega)]
      rw [if_pos ⟨by omega, by rw [this]; exact h0 rfl⟩]
  · rw [show s + n - s = n by omega, e, own_vlU c0 s p c hp hp2, own_vlM hd, hd p hp hp2]
    congr 1; congr 1; omega
/-- a sign in place of the first digit -/
theorem own_kD (hn : 1 ≤ n) (h0 : (cs 0).toInt = 45) (hd : ∀ q : Nat, 1 ≤ q → q < 0 + n → (cs q).toInt = 48 + ((U / 10 ^ (0 + n - 1 - q) % 10 : Nat) : Int)) :
    own_swn cs (0 + n) = 1 ∧ (own_okd cs 1 (0 + n) ↔ 1 ≤ n - 1 ∧ n - 1 ≤ 10) ∧ own_vl cs 1 (0 + n - 1) = ((U % 10 ^ (n - 1) : Nat) : Int) := by
  refine ⟨?_, ⟨fun h => ⟨by have := h.1; omega, by have := h.2.1; omega⟩, fun h => ⟨by omega, by omega, fun q h1 h2 => own_isdD (hd q h1 h2)⟩⟩, ?_⟩
  · unfold own_swn; rw [if_pos ⟨by omega, h0⟩]
  · rw [show 0 + n - 1 = n - 1 by omega]
    exact own_vlM (fun q h1 h2 => by rw [hd q h1 (by omega), show 0 + n - 1 - q = 1 + (n - 1) - 1 - q by omega])
/-- a sign that is no digit where a digit must be -/
theorem own_kE {p N : Nat} (hp : p < N) (hc : ¬ own_isd (cs p)) (hq : 1 ≤ p ∨ ¬ (cs 0).toInt = 45) (mn mx : Int32) : ¬ own_good cs N mn mx := fun h => by
  refine hc (h.1.2.2 p ?_ hp)
  unfold own_swn
  split
  · rename_i z
    rcases hq with q | q
    · exact q
    · exact absurd z.2 q
  · exact Nat.zero_le _
end
end OwnP


theorem own_sh0 (x : Int32) : x >>> ((0 : Int32) &&& 31) = x := by rw [show ((0 : Int32) &&& 31) = 0 from rfl]; exact Int32.shiftRight_zero
theorem own_lenc {cd : Int32} {n : Nat} (h : cd = 0 ∨ cd = 1) (hn : n < 100000) : (Int32.ofNat (own_bl cd n)) >>> (cd &&& 31) = Int32.ofNat n := by
  rcases h with rfl | rfl
  · rw [own_sh0, own_bl0]
  · rw [own_bl1]; exact own_asN (own_shr1 hn)
theorem own_l1n {n : Nat} (hn : n ≤ 12) : ((Int32.ofNat n) - (Int32.ofNat 1)) < (0 : Int32) ↔ ¬ 1 ≤ n := by
  have a := c_isub (Int32.ofNat n) (Int32.ofNat 1)
  have r := rng32 ((Int32.ofNat n) - (Int32.ofNat 1))
  have e1 : (Int32.ofNat 1).toInt = 1 := by decide
  have e0 : (0 : Int32).toInt = 0 := by decide
  rw [e1, own_toN (by omega : n < 100000)] at a
  rw [Int32.lt_iff_toInt_lt, e0]; omega
def own_mm1 (x y : Int32) : Int32 := if x = y then (-1 : Int32) else 0
theorem own_mm1L (x y : Int32) : own_mm1 x y < (0 : Int32) ↔ x = y := by
  unfold own_mm1
  split
  · rename_i h; exact ⟨fun _ => h, fun _ => by decide⟩
  · rename_i h; exact ⟨fun q => absurd q (by decide), fun q => absurd q h⟩
theorem own_b45 {c : Int32} (h0 : 0 ≤ c.toInt) (h1 : ¬ (255 : Int32) < c) : c.toInt8.toInt32 = (45 : Int32) ↔ c.toInt = 45 := by
  have b := c_i2b c
  have w : (255 : Int32).toInt = 255 := by decide
  have z : (45 : Int32).toInt = 45 := by decide
  rw [Int32.lt_iff_toInt_lt, w] at h1
  rw [← Int32.toInt_inj, z]; omega
theorem own_45 {c : Int32} : c = (45 : Int32) ↔ c.toInt = 45 := by
  have z : (45 : Int32).toInt = 45 := by decide
  rw [← Int32.toInt_inj, z]
theorem own_swY {cs : Nat → Int32} {n : Nat} (h1 : 1 ≤ n) (h2 : (cs 0).toInt = 45) : own_swn cs n = 1 := by unfold own_swn; rw [if_pos ⟨h1, h2⟩]
theorem own_swN {cs : Nat → Int32} {n : Nat} (h : ¬ (1 ≤ n ∧ (cs 0).toInt = 45)) : own_swn cs n = 0 := by unfold own_swn; rw [if_neg h]
theorem own_sw0 {cs : Nat → Int32} {n : Nat} : (Int32.ofNat (own_swn cs n)) = (0 : Int32) ↔ own_swn cs n = 0 := by
  unfold own_swn
  split
  · exact ⟨fun q => absurd q (by decide), fun q => absurd q (by decide)⟩
  · exact ⟨fun _ => rfl, fun _ => rfl⟩
theorem own_sw1 {cs : Nat → Int32} {n : Nat} (h : ¬ own_swn cs n = 0) : own_swn cs n = 1 ∧ 1 ≤ n := by
  unfold own_swn at h ⊢
  split at h
  · rename_i q; rw [if_pos q]; exact ⟨rfl, q.1⟩
  · exact absurd rfl h
theorem own_nwz {x : Int32} (h : x = 0 ∨ x = 1) : narrow .boolean (.int x) = .int x := by rcases h with rfl | rfl <;> rfl
theorem own_nwzs (cs : Nat → Int32) (n : Nat) : narrow .boolean (.int (Int32.ofNat (own_swn cs n))) = .int (Int32.ofNat (own_swn cs n)) := own_nwz (by unfold own_swn; split; exact Or.inr rfl; exact Or.inl rfl)
theorem own_csub {x y : Int32} {i j : Nat} (hx : x.toInt = (i : Int)) (hy : y.toInt = (j : Int)) (h : j ≤ i) (hi : i ≤ 100000) : (x - y).toInt = ((i - j : Nat) : Int) := by
  have a := c_isub x y
  have r := rng32 (x - y)
  omega
theorem own_cadd {x y : Int32} {i j : Nat} (hx : x.toInt = (i : Int)) (hy : y.toInt = (j : Int)) (h : i + j ≤ 100000) : (x + y).toInt = ((i + j : Nat) : Int) := by
  have a := c_iadd x y
  have r := rng32 (x + y)
  omega
theorem own_vst {vv : Int64} {c : Int32} {a : Int} (h : vv.toInt = a) (h0 : 0 ≤ a) (h1 : a < 10000000000) (hc : own_isd c) : ((vv * (10 : Int64)) + ((c - (48 : Int32)).toInt64)).toInt = a * 10 + (c.toInt - 48) := by
  unfold own_isd at hc
  have m := c_lmul vv 10
  have s := c_isub c 48
  have l := c_i2l (c - 48)
  have d := c_ladd (vv * 10) (c - 48).toInt64
  have e10 : (10 : Int64).toInt = 10 := by decide
  have e48 : (48 : Int32).toInt = 48 := by decide
  have r1 := rng64 (vv * 10)
  have r2 := rng32 (c - 48)
  have r3 := rng64 ((vv * 10) + (c - 48).toInt64)
  rw [e10, h] at m
  omega
theorem own_isdI {c : Int32} (h1 : ¬ c < (48 : Int32)) (h2 : ¬ (57 : Int32) < c) : own_isd c := by
  have e48 : (48 : Int32).toInt = 48 := by decide
  have e57 : (57 : Int32).toInt = 57 := by decide
  rw [Int32.lt_iff_toInt_lt, e48] at h1
  rw [Int32.lt_iff_toInt_lt, e57] at h2
  unfold own_isd; omega
theorem own_isd1 {c : Int32} (h1 : c < (48 : Int32)) : ¬ own_isd c := by
  have e48 : (48 : Int32).toInt = 48 := by decide
  rw [Int32.lt_iff_toInt_lt, e48] at h1
  unfold own_isd; omega
theorem own_isd2 {c : Int32} (h1 : (57 : Int32) < c) : ¬ own_isd c := by
  have e57 : (57 : Int32).toInt = 57 := by decide
  rw [Int32.lt_iff_toInt_lt, e57] at h1
  unfold own_isd; omega
theorem own_lneg {x : Int64} {v : Int} (h : x.toInt = v) (h1 : -1000000000000000000 ≤ v) (h2 : v ≤ 1000000000000000000) : (-x).toInt = -v := by
  have n := c_lneg x
  have r := rng64 (-x)
  omega
theorem own_lcL {x : Int64} {v : Int} {m : Int32} (h : x.toInt = v) : lcmpW x m.toInt64 < (0 : Int32) ↔ v < m.toInt := by
  rw [show (lcmpW x m.toInt64 < (0 : Int32)) ↔ _ from lw_lt _ _, Int64.lt_iff_toInt_lt, h, c_i2l]
theorem own_lcG {x : Int64} {v : Int} {m : Int32} (h : x.toInt = v) : (0 : Int32) < lcmpW x m.toInt64 ↔ m.toInt < v := by
  rw [show ((0 : Int32) < lcmpW x m.toInt64) ↔ _ from lw_gt _ _, Int64.lt_iff_toInt_lt, h, c_i2l]

theorem own_d8_0 : decode jdk_52_method_21_code 0 = .ok (.iconst 0, 1) := by decide +kernel
theorem own_d8_1 : decode jdk_52_method_21_code 1 = .ok (.istore 5, 2) := by decide +kernel
theorem own_d8_3 : decode jdk_52_method_21_code 3 = .ok (.iload 5, 2) := by decide +kernel
theorem own_d8_5 : decode jdk_52_method_21_code 5 = .ok (.iload 4, 2) := by decide +kernel
theorem own_d8_7 : decode jdk_52_method_21_code 7 = .ok (.if_icmp .ge 37, 3) := by decide +kernel
theorem own_d8_10 : decode jdk_52_method_21_code 10 = .ok (.aload_n 0, 1) := by decide +kernel
theorem own_d8_11 : decode jdk_52_method_21_code 11 = .ok (.iload_n 1, 1) := by decide +kernel
theorem own_d8_12 : decode jdk_52_method_21_code 12 = .ok (.caload, 1) := by decide +kernel
theorem own_d8_13 : decode jdk_52_method_21_code 13 = .ok (.istore 6, 2) := by decide +kernel
theorem own_d8_15 : decode jdk_52_method_21_code 15 = .ok (.iload 6, 2) := by decide +kernel
theorem own_d8_17 : decode jdk_52_method_21_code 17 = .ok (.sipush 255, 3) := by decide +kernel
theorem own_d8_20 : decode jdk_52_method_21_code 20 = .ok (.if_icmp .le 6, 3) := by decide +kernel
theorem own_d8_23 : decode jdk_52_method_21_code 23 = .ok (.iload 5, 2) := by decide +kernel
theorem own_d8_25 : decode jdk_52_method_21_code 25 = .ok (.ireturn, 1) := by decide +kernel
theorem own_d8_26 : decode jdk_52_method_21_code 26 = .ok (.aload_n 2, 1) := by decide +kernel
theorem own_d8_27 : decode jdk_52_method_21_code 27 = .ok (.iload_n 3, 1) := by decide +kernel
theorem own_d8_28 : decode jdk_52_method_21_code 28 = .ok (.iload 6, 2) := by decide +kernel
theorem own_d8_30 : decode jdk_52_method_21_code 30 = .ok (.i2b, 1) := by decide +kernel
theorem own_d8_31 : decode jdk_52_method_21_code 31 = .ok (.bastore, 1) := by decide +kernel
theorem own_d8_32 : decode jdk_52_method_21_code 32 = .ok (.iinc 1 1, 3) := by decide +kernel
theorem own_d8_35 : decode jdk_52_method_21_code 35 = .ok (.iinc 3 1, 3) := by decide +kernel
theorem own_d8_38 : decode jdk_52_method_21_code 38 = .ok (.iinc 5 1, 3) := by decide +kernel
theorem own_d8_41 : decode jdk_52_method_21_code 41 = .ok (.goto (-38), 3) := by decide +kernel
theorem own_d8_44 : decode jdk_52_method_21_code 44 = .ok (.iload 4, 2) := by decide +kernel
theorem own_d8_46 : decode jdk_52_method_21_code 46 = .ok (.ireturn, 1) := by decide +kernel
theorem own_pn0 : plainName "java/lang/StringUTF16" = true := by first | (simp [plainName, overriddenIn]; done) | decide +kernel
theorem own_ef8 (m : MethodId) (x0 : Addr) (x1 : Int32) (x2 : Addr) (x3 : Int32) (x4 : Int32) : entryFrame m #[(.ref x0), (.int x1), (.ref x2), (.int x3), (.int x4)] 7 = mkF m 0 #[.val (.ref x0), .val (.int x1), .val (.ref x2), .val (.int x3), .val (.int x4), .unset, .unset] [] := by first | (simp [entryFrame, mkF, argsToLocals, Value.category]; done) | rfl
def own_Q8 (Z : State) (a1 : Addr) (a2 : Addr) (p_ : Int32) (k1 : ClassId) (k2 : ClassId) (n1 : Nat) (cs : Nat → Int32) (f2 : Nat → Int32) (h0 : Heap) (n0 : Nat) (v : Option Value) (h : Heap) (L : List Loc) : Prop := ∃ (j : Nat), v = some (.int (Int32.ofNat j)) ∧ Fr n0 L ∧ Keep h0 h [a2] ∧ own_A Z h a2 k2 .byte n1 (fun i => .int ((own_cb cs f2 j) i)) ∧ (j ≤ n1 ∧ (∀ q : Nat, q < j → ¬ (255 : Int32) < cs q) ∧ (j < n1 → (255 : Int32) < cs j))
set_option maxRecDepth 65536 in
set_option maxHeartbeats 40000000 in
theorem own_rm8 (l : Launch) (Z : State) (a0 : Array Value) (hw : ∀ d ∈ tables_1, d.before a0 Z = true) (ws : List Jvm.Cond) (a1 : Addr) (a2 : Addr) (p_ : Int32) (k1 : ClassId) (k2 : ClassId) (n1 : Nat) (cs : Nat → Int32) (f2 : Nat → Int32) (h0 : Heap) (n0 : Nat) (Z0 : n0 ≤ h0.size) (q0 : own_A Z h0 a1 k1 .char n1 (fun i => .int (cs i))) (q1 : own_A Z h0 a2 k2 .byte n1 (fun i => .int (f2 i))) (q2 : n0 ≤ a2) (hne : (a1 ≠ a2)) (hp : (p_.toInt = (n1 : Int) ∧ n1 ≤ 4000)) :
    MetFree l own_n0 (head1 (Jvm.Cond.code own_n0 jdk_52_method_21_code 7 (some .int) :: ws) ({ frames := 0, cells := 0, slots := 0, locals := 0 } : Room)) (fun a U => a = #[(.ref a1), (.int (0 : Int32)), (.ref a2), (.int (0 : Int32)), (.int p_)] ∧ Z.Warmed39 U.vm ∧ U.heap = h0) (fun _ _ _ _ _ => True) (fun _ U o U' => ∃ v L, o = .returned v ∧ own_Q8 Z a1 a2 p_ k1 k2 n1 cs f2 h0 n0 v U'.heap L ∧ FrameEnd U o U' L ({ frames := 0, cells := 0, slots := 0, locals := 0 } : Room).cells ({ frames := 0, cells := 0, slots := 0, locals := 0 } : Room).slots) := by
  refine MetFree.of_bodySF (plainFor_of_name own_pn0) hisR ?_
  intro p e s m args below meth c s₁ Bd hml0 hP hK
  obtain ⟨rfl, hZ, hh⟩ := hP
  have hx := Bd.exec
  have hby := Bd.bytes
  have hml : c.maxLocals = 7 := hml0
  have hown : s.vm.findClass "java/lang/StringUTF16" = some m.cls := findClass_of_methodNamed Bd.named
  have hnm := (name_of_methodNamed Bd.named Bd.method).1
  have hnl : meth.locks = false := Bd.notSynchronized
  have X0 : Stand p l e ({ frames := 0, cells := 0, slots := 0, locals := 0 } : Room) s m #[(.ref a1), (.int (0 : Int32)), (.ref a2), (.int (0 : Int32)), (.int p_)] below meth c s₁ [] 0 0 := Stand.of_body Bd
  have e0 : s₁.heap = h0 := by rw [← hh, Bd.state]; rfl
  have N0 := Fr.nil n0
  show own_Go p.tables e below (own_P below s (own_Q8 Z a1 a2 p_ k1 k2 n1 cs f2 h0 n0) ({ frames := 0, cells := 0, slots := 0, locals := 0 } : Room).cells ({ frames := 0, cells := 0, slots := 0, locals := 0 } : Room).slots) _
  refine own_st (fun t_ k_ => castTop (own_ef8 m a1 (0 : Int32) a2 (0 : Int32) p_) k_) ?_
  refine own_st (fun t_ k_ => XS.iconst X0.here hx rfl (hb hby own_d8_0) (XS.istore X0.here hx rfl (hb hby own_d8_1) rfl (l' := #[oR a1, oI (0 : Int32), oR a2, oI (0 : Int32), oI p_, oI (0 : Int32), oU]) rfl k_)) ?_
  show own_at p e below _ s₁ m 3 #[oR a1, oI (0 : Int32), oR a2, oI (0 : Int32), oI p_, oI (0 : Int32), oU] []
  have qb0 : own_A Z h0 a2 k2 .byte n1 (fun i => .int ((own_cb cs f2 0) i)) := q1.congr (fun q _ => by simp [own_cb])
  have loop101 : ∀ (mm : Nat) (k : Nat) (i : Int32) (s6 : Slot) (T101 : State) (Lo101 : List Loc) (h101 : Heap), n1 - k = mm → Stand p l e ({ frames := 0, cells := 0, slots := 0, locals := 0 } : Room) s m #[(.ref a1), (.int (0 : Int32)), (.ref a2), (.int (0 : Int32)), (.int p_)] below meth c T101 Lo101 0 0 → T101.heap = h101 → Fr n0 Lo101 → Keep h0 h101 [a2] → own_A Z h101 a1 k1 .char n1 (fun i => .int (cs i)) → own_A Z h101 a2 k2 .byte n1 (fun i => .int ((own_cb cs f2 k) i)) → (i.toInt = (k : Int)) → (k ≤ n1) → (One s6) → (∀ q : Nat, q < k → ¬ (255 : Int32) < cs q) → own_Go p.tables e below (own_P below s (own_Q8 Z a1 a2 p_ k1 k2 n1 cs f2 h0 n0) ({ frames := 0, cells := 0, slots := 0, locals := 0 } : Room).cells ({ frames := 0, cells := 0, slots := 0, locals := 0 } : Room).slots) (T101.setTop (mkF m 3 #[oR a1, oI i, oR a2, oI i, oI p_, oI i, s6] [])) := by
    intro mm
    induction mm using Nat.strongRecOn with
    | _ mm ih101 =>
      intro k i s6 T101 Lo101 h101 hm101 X101 e101 N101 K101 fa101_0 fa101_1 hi hk hs6 hall
      refine own_st (fun t_ k_ => XS.iload X101.here hx rfl (hb hby own_d8_3) rfl (XS.iload X101.here hx rfl (hb hby own_d8_5) rfl k_)) ?_
      show own_at p e below _ T101 m 7 #[oR a1, oI i, oR a2, oI i, oI p_, oI i, s6] [(.int p_), (.int i)]
      by_cases c7_102 : i < p_
      · skip
        have hkn : k < n1 := (own_ltp hi hp.1).mp c7_102
        refine own_st (fun t_ k_ => XS.icmpNo X101.here hx rfl (hb hby own_d8_7) rfl (tlt c7_102).2.1 (XS.aloadN X101.here hx rfl (hb hby own_d8_10) rfl rfl (XS.iloadN X101.here hx rfl (hb hby own_d8_11) rfl k_))) ?_
        show own_at p e below _ T101 m 12 #[oR a1, oI i, oR a2, oI i, oI p_, oI i, s6] [(.int i), (.ref a1)]
        refine own_st (own_caload X101 hx hZ e101 fa101_0 (i := k) hi hkn (g := (mkF m 12 #[oR a1, oI i, oR a2, oI i, oI p_, oI i, s6] [(.int i), (.ref a1)])) rfl rfl (hb hby own_d8_12)) ?_
        refine own_st (fun t_ k_ => XS.istoreS X101.here hx rfl (hb hby own_d8_13) rfl rfl hs6 (XS.iload X101.here hx rfl (hb hby own_d8_15) rfl (XS.sipush X101.here hx rfl (hb hby own_d8_17) k_))) ?_
        show own_at p e below _ T101 m 20 #[oR a1, oI i, oR a2, oI i, oI p_, oI i, oI (cs k)] [(.int (255 : Int32)), (.int (cs k))]
        by_cases c20_103 : (255 : Int32) < (cs k)
        · skip
          have hle := c20_103
          refine own_st (fun t_ k_ => XS.icmpNo X101.here hx rfl (hb hby own_d8_20) rfl (tlt c20_103).2.2.2 (XS.iload X101.here hx rfl (hb hby own_d8_23) rfl k_)) ?_
          show own_at p e below _ T101 m 25 #[oR a1, oI i, oR a2, oI i, oI p_, oI i, oI (cs k)] [(.int i)]
          exact own_ret (w := (.int i)) X101 hx hnl Bd.returns rfl (Or.inl ⟨rfl, by decide, _, rfl⟩) (hb hby own_d8_25) ⟨k, (by rw [own_asN hi]), N101, (by rw [e101]; exact K101), (by rw [e101]; exact fa101_1), ⟨hk, hall, fun _ => hle⟩⟩ (by decide) (by decide)
        have hle := c20_103
        refine own_st (fun t_ k_ => XS.icmpYes X101.here hx rfl (pc0 := 20) (pc' := 26) rfl (hb hby own_d8_20) rfl (flt c20_103).2.2.2 (by decide) (by decide) (XS.aloadN X101.here hx rfl (hb hby own_d8_26) rfl rfl (XS.iloadN X101.here hx rfl (hb hby own_d8_27) rfl (XS.iload X101.here hx rfl (hb hby own_d8_28) rfl (XS.i2b X101.here hx rfl (hb hby own_d8_30) rfl k_))))) ?_
        show own_at p e below _ T101 m 31 #[oR a1, oI i, oR a2, oI i, oI p_, oI i, oI (cs k)] [(.int ((cs k).toInt8.toInt32)), (.int i), (.ref a2)]
        obtain ⟨T104, h104, X104, e104, W104, Aw104, st104⟩ := own_bastore X101 hx hZ e101 fa101_1 (i := k) hi hkn (own_narb _) (v' := ((cs k).toInt8.toInt32)) (g := (mkF m 31 #[oR a1, oI i, oR a2, oI i, oI p_, oI i, oI (cs k)] [(.int ((cs k).toInt8.toInt32)), (.int i), (.ref a2)])) rfl rfl (hb hby own_d8_31)
        have N104 := Fr.snoc X104 N101 q2
        have K104 : Keep h0 h104 [a2] := K101.wr W104 (Or.inl (List.mem_of_getElem? (i := 0) rfl))
        refine own_st (st104) ?_
        have Ac105 : own_A Z h104 a2 k2 .byte n1 (fun i => .int ((own_cb cs f2 (k + 1)) i)) := Aw104.congr (fun q _ => by rw [own_cb_up])
        refine own_st (fun t_ k_ => XS.iinc X104.here hx rfl (hb hby own_d8_32) rfl (l' := #[oR a1, oI (i + (1 : Int32)), oR a2, oI i, oI p_, oI i, oI (cs k)]) rfl (XS.iinc X104.here hx rfl (hb hby own_d8_35) rfl (l' := #[oR a1, oI (i + (1 : Int32)), oR a2, oI (i + (1 : Int32)), oI p_, oI i, oI (cs k)]) rfl (XS.iinc X104.here hx rfl (hb hby own_d8_38) rfl (l' := #[oR a1, oI (i + (1 : Int32)), oR a2, oI (i + (1 : Int32)), oI p_, oI (i + (1 : Int32)), oI (cs k)]) rfl (XS.goto X104.here hx rfl (pc0 := 41) (pc' := 3) rfl (hb hby own_d8_41) (by decide) (by decide) k_)))) ?_
        show own_at p e below _ T104 m 3 #[oR a1, oI (i + (1 : Int32)), oR a2, oI (i + (1 : Int32)), oI p_, oI (i + (1 : Int32)), oI (cs k)] []
        exact ih101 _ (by omega) (k + 1) (i + (1 : Int32)) (.val (.int (cs k))) T104 _ h104 rfl X104 e104 N104 K104 ((fa101_0.other W104 hne)) (Ac105) (own_inc hi (by omega)) (by omega) (One.val rfl) (fun q hq => by by_cases e_ : q = k; exact e_ ▸ hle; exact hall q (by omega))
      have hkn : k = n1 := by have q := mt (own_ltp hi hp.1).mpr c7_102; omega
      have Af : own_A Z h101 a2 k2 .byte n1 (fun i => .int ((own_cb cs f2 n1) i)) := fa101_1.congr (fun q _ => by rw [hkn])
      refine own_st (fun t_ k_ => XS.icmpYes X101.here hx rfl (pc0 := 7) (pc' := 44) rfl (hb hby own_d8_7) rfl (flt c7_102).2.1 (by decide) (by decide) (XS.iload X101.here hx rfl (hb hby own_d8_44) rfl k_)) ?_
      show own_at p e below _ T101 m 46 #[oR a1, oI i, oR a2, oI i, oI p_, oI i, s6] [(.int p_)]
      exact own_ret (w := (.int p_)) X101 hx hnl Bd.returns rfl (Or.inl ⟨rfl, by decide, _, rfl⟩) (hb hby own_d8_46) ⟨n1, (by rw [own_asN hp.1]), N101, (by rw [e101]; exact K101), (by rw [e101]; exact Af), ⟨Nat.le_refl _, fun q hq => hall q (by omega), fun h_ => absurd h_ (Nat.lt_irrefl _)⟩⟩ (by decide) (by decide)
  exact loop101 _ 0 (0 : Int32) .unset s₁ _ h0 rfl X0 e0 N0 (Keep.refl h0 [a2]) (q0) (qb0) (by decide) (Nat.zero_le _) One.u (fun q hq => absurd hq (Nat.not_lt_zero _))

theorem own_d9_0 : decode jdk_52_method_15_code 0 = .ok (.iload_n 1, 1) := by decide +kernel
theorem own_d9_1 : decode jdk_52_method_15_code 1 = .ok (.aload_n 0, 1) := by decide +kernel
theorem own_d9_2 : decode jdk_52_method_15_code 2 = .ok (.arraylength, 1) := by decide +kernel
theorem own_d9_3 : decode jdk_52_method_15_code 3 = .ok (.isub, 1) := by decide +kernel
theorem own_d9_4 : decode jdk_52_method_15_code 4 = .ok (.bipush 31, 2) := by decide +kernel
theorem own_d9_6 : decode jdk_52_method_15_code 6 = .ok (.iushr, 1) := by decide +kernel
theorem own_d9_7 : decode jdk_52_method_15_code 7 = .ok (.i2b, 1) := by decide +kernel
theorem own_d9_8 : decode jdk_52_method_15_code 8 = .ok (.ireturn, 1) := by decide +kernel
theorem own_ef9 (m : MethodId) (x0 : Addr) (x1 : Int32) : entryFrame m #[(.ref x0), (.int x1)] 2 = mkF m 0 #[.val (.ref x0), .val (.int x1)] [] := by first | (simp [entryFrame, mkF, argsToLocals, Value.category]; done) | rfl
def own_Q9 (Z : State) (t : Addr) (p_ : Int32) (kt : ClassId) (cd : Int32) (n1 : Nat) (gb : Nat → Int32) (h0 : Heap) (n0 : Nat) (v : Option Value) (h : Heap) (L : List Loc) : Prop := v = some (.int cd) ∧ Fr n0 L ∧ h = h0
set_option maxRecDepth 65536 in
set_option maxHeartbeats 40000000 in
theorem own_rm9 (l : Launch) (Z : State) (a0 : Array Value) (hw : ∀ d ∈ tables_1, d.before a0 Z = true) (ws : List Jvm.Cond) (t : Addr) (p_ : Int32) (kt : ClassId) (cd : Int32) (n1 : Nat) (gb : Nat → Int32) (h0 : Heap) (n0 : Nat) (Z0 : n0 ≤ h0.size) (q0 : own_A Z h0 t kt .byte (own_bl cd n1) (fun i => .int (gb i))) (hcd : (cd = 0 ∨ cd = 1)) (hp : (p_.toInt = (n1 : Int) ∧ 1 ≤ n1 ∧ n1 < 100000)) :
    MetFree l own_n1 (head1 (Jvm.Cond.code own_n1 jdk_52_method_15_code 2 (some .byte) :: ws) ({ frames := 0, cells := 0, slots := 0, locals := 0 } : Room)) (fun a U => a = #[(.ref t), (.int p_)] ∧ Z.Warmed39 U.vm ∧ U.heap = h0) (fun _ _ _ _ _ => True) (fun _ U o U' => ∃ v L, o = .returned v ∧ own_Q9 Z t p_ kt cd n1 gb h0 n0 v U'.heap L ∧ FrameEnd U o U' L ({ frames := 0, cells := 0, slots := 0, locals := 0 } : Room).cells ({ frames := 0, cells := 0, slots := 0, locals := 0 } : Room).slots) := by
  refine MetFree.of_bodySF (plainFor_of_name own_pn0) hisR ?_
  intro p e s m args below meth c s₁ Bd hml0 hP hK
  obtain ⟨rfl, hZ, hh⟩ := hP
  have hx := Bd.exec
  have hby := Bd.bytes
  have hml : c.maxLocals = 2 := hml0
  have hown : s.vm.findClass "java/lang/StringUTF16" = some m.cls := findClass_of_methodNamed Bd.named
  have hnm := (name_of_methodNamed Bd.named Bd.method).1
  have hnl : meth.locks = false := Bd.notSynchronized
  have X0 : Stand p l e ({ frames := 0, cells := 0, slots := 0, locals := 0 } : Room) s m #[(.ref t), (.int p_)] below meth c s₁ [] 0 0 := Stand.of_body Bd
  have e0 : s₁.heap = h0 := by rw [← hh, Bd.state]; rfl
  have N0 := Fr.nil n0
  show own_Go p.tables e below (own_P below s (own_Q9 Z t p_ kt cd n1 gb h0 n0) ({ frames := 0, cells := 0, slots := 0, locals := 0 } : Room).cells ({ frames := 0, cells := 0, slots := 0, locals := 0 } : Room).slots) _
  refine own_st (fun t_ k_ => castTop (own_ef9 m t p_) k_) ?_
  refine own_st (fun t_ k_ => XS.iloadN X0.here hx rfl (hb hby own_d9_0) rfl (XS.aloadN X0.here hx rfl (hb hby own_d9_1) rfl rfl k_)) ?_
  show own_at p e below _ s₁ m 2 #[oR t, oI p_] [(.ref t), (.int p_)]
  refine own_st (own_len X0 hx hZ e0 q0 (g := (mkF m 2 #[oR t, oI p_] [(.ref t), (.int p_)])) rfl rfl (hb hby own_d9_2)) ?_
  refine own_st (fun t_ k_ => XS.isub X0.here hx rfl (hb hby own_d9_3) rfl (XS.bipush X0.here hx rfl (hb hby own_d9_4) (XS.iushr X0.here hx rfl (hb hby own_d9_6) rfl (XS.i2b X0.here hx rfl (hb hby own_d9_7) rfl k_)))) ?_
  show own_at p e below _ s₁ m 8 #[oR t, oI p_] [(.int ((((p_ - (Int32.ofNat (own_bl cd n1))).toUInt32 >>> ((31 : Int32) &&& 31).toUInt32).toInt32).toInt8.toInt32))]
  rw [show ((((p_ - (Int32.ofNat (own_bl cd n1))).toUInt32 >>> ((31 : Int32) &&& 31).toUInt32).toInt32).toInt8.toInt32) = cd from own_cdl hcd hp.1 hp.2]
  show own_at p e below _ s₁ m 8 #[oR t, oI p_] [(.int cd)]
  exact own_ret (w := (.int cd)) X0 hx hnl Bd.returns (own_nw01 hcd) (Or.inl ⟨rfl, by decide, _, rfl⟩) (hb hby own_d9_8) ⟨rfl, N0, e0⟩ (by decide) (by decide)

theorem own_d28_0 : decode jdk_52_method_3_code 0 = .ok (.iload_n 0, 1) := by decide +kernel
theorem own_d28_1 : decode jdk_52_method_3_code 1 = .ok (.ifCond .ge 11, 3) := by decide +kernel
theorem own_d28_12 : decode jdk_52_method_3_code 12 = .ok (.iload_n 0, 1) := by decide +kernel
theorem own_d28_13 : decode jdk_52_method_3_code 13 = .ok (.ldc 20, 2) := by decide +kernel
theorem own_d28_15 : decode jdk_52_method_3_code 15 = .ok (.if_icmp .lt 40, 3) := by decide +kernel
theorem own_d28_55 : decode jdk_52_method_3_code 55 = .ok (.iload_n 0, 1) := by decide +kernel
theorem own_d28_56 : decode jdk_52_method_3_code 56 = .ok (.iconst 1, 1) := by decide +kernel
theorem own_d28_57 : decode jdk_52_method_3_code 57 = .ok (.ishl, 1) := by decide +kernel
theorem own_d28_58 : decode jdk_52_method_3_code 58 = .ok (.ireturn, 1) := by decide +kernel
theorem own_ef28 (m : MethodId) (x0 : Int32) : entryFrame m #[(.int x0)] 1 = mkF m 0 #[.val (.int x0)] [] := by first | (simp [entryFrame, mkF, argsToLocals, Value.category]; done) | rfl
def own_Q28 (Z : State) (p_ : Int32) (n1 : Nat) (h0 : Heap) (n0 : Nat) (v : Option Value) (h : Heap) (L : List Loc) : Prop := v = some (.int (p_ <<< ((1 : Int32) &&& 31))) ∧ Fr n0 L ∧ h = h0
set_option maxRecDepth 65536 in
set_option maxHeartbeats 40000000 in
theorem own_rm28 (l : Launch) (Z : State) (a0 : Array Value) (hw : ∀ d ∈ tables_1, d.before a0 Z = true) (ws : List Jvm.Cond) (p_ : Int32) (n1 : Nat) (h0 : Heap) (n0 : Nat) (Z0 : n0 ≤ h0.size) (hp : (p_.toInt = (n1 : Int) ∧ n1 ≤ 12)) :
    MetFree l own_n2 (head1 (Jvm.Cond.code own_n2 jdk_52_method_3_code 1 (some .int) :: ws) ({ frames := 0, cells := 0, slots := 0, locals := 0 } : Room)) (fun a U => a = #[(.int p_)] ∧ Z.Warmed39 U.vm ∧ U.heap = h0) (fun _ _ _ _ _ => True) (fun _ U o U' => ∃ v L, o = .returned v ∧ own_Q28 Z p_ n1 h0 n0 v U'.heap L ∧ FrameEnd U o U' L ({ frames := 0, cells := 0, slots := 0, locals := 0 } : Room).cells ({ frames := 0, cells := 0, slots := 0, locals := 0 } : Room).slots) := by
  refine MetFree.of_bodySF (plainFor_of_name own_pn0) hisR ?_
  intro p e s m args below meth c s₁ Bd hml0 hP hK
  obtain ⟨rfl, hZ, hh⟩ := hP
  have hx := Bd.exec
  have hby := Bd.bytes
  have hml : c.maxLocals = 1 := hml0
  have hown : s.vm.findClass "java/lang/StringUTF16" = some m.cls := findClass_of_methodNamed Bd.named
  have hnm := (name_of_methodNamed Bd.named Bd.method).1
  have hnl : meth.locks = false := Bd.notSynchronized
  have X0 : Stand p l e ({ frames := 0, cells := 0, slots := 0, locals := 0 } : Room) s m #[(.int p_)] below meth c s₁ [] 0 0 := Stand.of_body Bd
  have e0 : s₁.heap = h0 := by rw [← hh, Bd.state]; rfl
  have N0 := Fr.nil n0
  show own_Go p.tables e below (own_P below s (own_Q28 Z p_ n1 h0 n0) ({ frames := 0, cells := 0, slots := 0, locals := 0 } : Room).cells ({ frames := 0, cells := 0, slots := 0, locals := 0 } : Room).slots) _
  refine own_st (fun t_ k_ => castTop (own_ef28 m p_) k_) ?_
  refine own_st (fun t_ k_ => XS.iloadN X0.here hx rfl (hb hby own_d28_0) rfl (XS.ifYes X0.here hx rfl (pc0 := 1) (pc' := 12) rfl (hb hby own_d28_1) rfl ((if0 _ _).trans (flt (own_nn hp.1)).2.1) (by decide) (by decide) (XS.iloadN X0.here hx rfl (hb hby own_d28_12) rfl k_))) ?_
  show own_at p e below _ s₁ m 13 #[oI p_] [(.int p_)]
  refine own_st (X0.ldcInt hx hown (mvT hZ (own_w hw 147 rfl)) (g := (mkF m 13 #[oI p_] [(.int p_)])) rfl (hb hby own_d28_13)) ?_
  refine own_st (fun t_ k_ => XS.icmpYes X0.here hx rfl (pc0 := 15) (pc' := 55) rfl (hb hby own_d28_15) rfl (tlt (own_bound hp.1 (by omega))).1 (by decide) (by decide) (XS.iloadN X0.here hx rfl (hb hby own_d28_55) rfl (XS.iconst X0.here hx rfl (hb hby own_d28_56) (XS.ishl X0.here hx rfl (hb hby own_d28_57) rfl k_)))) ?_
  show own_at p e below _ s₁ m 58 #[oI p_] [(.int (p_ <<< ((1 : Int32) &&& 31)))]
  exact own_ret (w := (.int (p_ <<< ((1 : Int32) &&& 31)))) X0 hx hnl Bd.returns rfl (Or.inl ⟨rfl, by decide, _, rfl⟩) (hb hby own_d28_58) ⟨rfl, N0, e0⟩ (by decide) (by decide)

theorem own_d27_0 : decode jdk_52_method_2_code 0 = .ok (.iload_n 0, 1) := by decide +kernel
theorem own_d27_1 : decode jdk_52_method_2_code 1 = .ok (.invokestatic 11, 3) := by decide +kernel
theorem own_d27_4 : decode jdk_52_method_2_code 4 = .ok (.newarray .byte, 2) := by decide +kernel
theorem own_d27_6 : decode jdk_52_method_2_code 6 = .ok (.areturn, 1) := by decide +kernel
theorem own_pd0 : parseMethodDescriptor "(I)I" = some ⟨[.int], some .int⟩ := by decide +kernel
theorem own_ef27 (m : MethodId) (x0 : Int32) : entryFrame m #[(.int x0)] 1 = mkF m 0 #[.val (.int x0)] [] := by first | (simp [entryFrame, mkF, argsToLocals, Value.category]; done) | rfl
def own_Q27 (Z : State) (p_ : Int32) (n1 : Nat) (h0 : Heap) (n0 : Nat) (v : Option Value) (h : Heap) (L : List Loc) : Prop := ∃ (t : Addr) (kt : ClassId), v = some (.ref t) ∧ Fr n0 L ∧ Keep h0 h [] ∧ h0.size ≤ t ∧ own_A Z h t kt .byte (n1 + n1) (fun i => .int ((fun _ => (0 : Int32)) i))
set_option maxRecDepth 65536 in
set_option maxHeartbeats 40000000 in
theorem own_rm27 (l : Launch) (Z : State) (a0 : Array Value) (hw : ∀ d ∈ tables_1, d.before a0 Z = true) (ws : List Jvm.Cond) (p_ : Int32) (n1 : Nat) (h0 : Heap) (n0 : Nat) (Z0 : n0 ≤ h0.size) (hp : (p_.toInt = (n1 : Int) ∧ n1 ≤ 12)) :
    MetFree l own_n3 (head1 (Jvm.Cond.code own_n3 jdk_52_method_2_code 1 (some (.array .byte)) :: ws) ({ frames := 1, cells := 1, slots := 24, locals := 12 } : Room)) (fun a U => a = #[(.int p_)] ∧ Z.Warmed39 U.vm ∧ U.heap = h0) (fun _ _ _ _ _ => True) (fun _ U o U' => ∃ v L, o = .returned v ∧ own_Q27 Z p_ n1 h0 n0 v U'.heap L ∧ FrameEnd U o U' L ({ frames := 1, cells := 1, slots := 24, locals := 12 } : Room).cells ({ frames := 1, cells := 1, slots := 24, locals := 12 } : Room).slots) := by
  refine MetFree.of_bodySF (plainFor_of_name own_pn0) hisR ?_
  intro p e s m args below meth c s₁ Bd hml0 hP hK
  obtain ⟨rfl, hZ, hh⟩ := hP
  have hx := Bd.exec
  have hby := Bd.bytes
  have hml : c.maxLocals = 1 := hml0
  have hown : s.vm.findClass "java/lang/StringUTF16" = some m.cls := findClass_of_methodNamed Bd.named
  have hnm := (name_of_methodNamed Bd.named Bd.method).1
  have hnl : meth.locks = false := Bd.notSynchronized
  have X0 : Stand p l e ({ frames := 1, cells := 1, slots := 24, locals := 12 } : Room) s m #[(.int p_)] below meth c s₁ [] 0 0 := Stand.of_body Bd
  have e0 : s₁.heap = h0 := by rw [← hh, Bd.state]; rfl
  have N0 := Fr.nil n0
  show own_Go p.tables e below (own_P below s (own_Q27 Z p_ n1 h0 n0) ({ frames := 1, cells := 1, slots := 24, locals := 12 } : Room).cells ({ frames := 1, cells := 1, slots := 24, locals := 12 } : Room).slots) _
  refine own_st (fun t_ k_ => castTop (own_ef27 m p_) k_) ?_
  refine own_st (fun t_ k_ => XS.iloadN X0.here hx rfl (hb hby own_d27_0) rfl k_) ?_
  show own_at p e below _ s₁ m 1 #[oI p_] [(.int p_)]
  obtain ⟨_, _, ⟨T106, L106, k106, n106⟩, -, X106, ⟨Lc106, hQ106, l106, y106, z106⟩, st106⟩ := Jvm.LawKit.callS X0 hx (y := own_n2) hown (mvT hZ (own_w hw 144 rfl)) (mvT hZ (own_w hw 145 rfl)) (mvT hZ (own_w hw 41 rfl)) (mvT hZ (own_w hw 146 rfl)) (by decide) (backOf (W := 0) (own_rm28 l Z a0 hw [] p_ n1 h0 n0 (Nat.le_trans Z0 (Keep.refl h0 []).1) ⟨hp.1, (by omega)⟩) hZ (own_w hw 146 rfl) (own_w hw 41 rfl) (by decide) (by decide)) (g := (mkF m 1 #[oI p_] [(.int p_)])) rfl (by rw [hml]; rfl) (argsL := [(.int p_)]) (rest := []) (lenOf own_pd0 rfl) rfl (own_hW rfl) (hb hby own_d27_1) (fun _ _ => ⟨rfl, e0, (by decide : 0 + 0 ≤ _), (by decide : 0 + 0 ≤ _)⟩)
  dsimp only [Pt.U, Pt.locs, Pt.cells, Pt.slots] at X106 l106 y106 z106 st106 hQ106
  subst y106 z106
  obtain ⟨rfl, N106q, eq106⟩ := hQ106
  have N106 : Fr n0 L106 := by rw [l106]; exact Fr.app N0 N106q
  refine own_st (st106) ?_
  have hs1 := own_shl1 hp.1 (by omega)
  obtain ⟨T107, h107, k107, X107, e107, E107, A107, st107⟩ := newP X106 hx hZ (own_w hw 43 rfl) eq106 (g := (mkF m 4 #[oI p_] [(.int (p_ <<< ((1 : Int32) &&& 31)))])) rfl (hb hby own_d27_4) rfl (own_nn hs1) (cap := 24) (own_cl hs1 (by omega)) (by decide) (by decide) (by decide)
  obtain ⟨b107, g107⟩ : ∃ z, z = h0.size := ⟨_, rfl⟩
  show own_at p e below _ T106 m 4 #[oI p_] [(.int (p_ <<< ((1 : Int32) &&& 31)))]
  rw [← g107] at A107 st107
  have fr107 : h0.size ≤ b107 := Nat.le_trans (Keep.refl h0 []).1 (Nat.le_of_eq g107.symm)
  have ge107 : n0 ≤ b107 := Nat.le_trans Z0 fr107
  have K107 : Keep h0 h107 [] := (Keep.refl h0 []).ext E107
  have Ar107 : own_A Z h107 b107 k107 .byte (n1 + n1) (fun i => .int ((fun _ => (0 : Int32)) i)) := own_A.new A107 (own_asN hs1) (own_nn hs1) (hn := by omega)
  refine own_st (st107) ?_
  show own_at p e below _ T107 m 6 #[oI p_] [(.ref b107)]
  exact own_ret (w := (.ref b107)) X107 hx hnl Bd.returns rfl (Or.inr (Or.inr (Or.inr (Or.inr ⟨rfl, rfl, rfl⟩)))) (hb hby own_d27_6) ⟨b107, k107, rfl, N106, (by rw [e107]; exact K107), fr107, (by rw [e107]; exact Ar107)⟩ (by decide) (by decide)

theorem own_d29_0 : decode jdk_52_method_4_code 0 = .ok (.getstatic 44, 3) := by decide +kernel
theorem own_d29_3 : decode jdk_52_method_4_code 3 = .ok (.ifCond .ne 25, 3) := by decide +kernel
theorem own_d29_28 : decode jdk_52_method_4_code 28 = .ok (.iload_n 1, 1) := by decide +kernel
theorem own_d29_29 : decode jdk_52_method_4_code 29 = .ok (.iconst 1, 1) := by decide +kernel
theorem own_d29_30 : decode jdk_52_method_4_code 30 = .ok (.ishl, 1) := by decide +kernel
theorem own_d29_31 : decode jdk_52_method_4_code 31 = .ok (.istore_n 1, 1) := by decide +kernel
theorem own_d29_32 : decode jdk_52_method_4_code 32 = .ok (.aload_n 0, 1) := by decide +kernel
theorem own_d29_33 : decode jdk_52_method_4_code 33 = .ok (.iload_n 1, 1) := by decide +kernel
theorem own_d29_34 : decode jdk_52_method_4_code 34 = .ok (.iinc 1 1, 3) := by decide +kernel
theorem own_d29_37 : decode jdk_52_method_4_code 37 = .ok (.iload_n 2, 1) := by decide +kernel
theorem own_d29_38 : decode jdk_52_method_4_code 38 = .ok (.getstatic 59, 3) := by decide +kernel
theorem own_d29_41 : decode jdk_52_method_4_code 41 = .ok (.ishr, 1) := by decide +kernel
theorem own_d29_42 : decode jdk_52_method_4_code 42 = .ok (.i2b, 1) := by decide +kernel
theorem own_d29_43 : decode jdk_52_method_4_code 43 = .ok (.bastore, 1) := by decide +kernel
theorem own_d29_44 : decode jdk_52_method_4_code 44 = .ok (.aload_n 0, 1) := by decide +kernel
theorem own_d29_45 : decode jdk_52_method_4_code 45 = .ok (.iload_n 1, 1) := by decide +kernel
theorem own_d29_46 : decode jdk_52_method_4_code 46 = .ok (.iload_n 2, 1) := by decide +kernel
theorem own_d29_47 : decode jdk_52_method_4_code 47 = .ok (.getstatic 63, 3) := by decide +kernel
theorem own_d29_50 : decode jdk_52_method_4_code 50 = .ok (.ishr, 1) := by decide +kernel
theorem own_d29_51 : decode jdk_52_method_4_code 51 = .ok (.i2b, 1) := by decide +kernel
theorem own_d29_52 : decode jdk_52_method_4_code 52 = .ok (.bastore, 1) := by decide +kernel
theorem own_d29_53 : decode jdk_52_method_4_code 53 = .ok (.return_, 1) := by decide +kernel
theorem own_ef29 (m : MethodId) (x0 : Addr) (x1 : Int32) (x2 : Int32) : entryFrame m #[(.ref x0), (.int x1), (.int x2)] 3 = mkF m 0 #[.val (.ref x0), .val (.int x1), .val (.int x2)] [] := by first | (simp [entryFrame, mkF, argsToLocals, Value.category]; done) | rfl
def own_Q29 (Z : State) (a1 : Addr) (q_ : Int32) (ch : Int32) (k1 : ClassId) (m1 : Nat) (gb : Nat → Int32) (qn : Nat) (h0 : Heap) (n0 : Nat) (v : Option Value) (h : Heap) (L : List Loc) : Prop := v = none ∧ Fr n0 L ∧ Keep h0 h [a1] ∧ own_A Z h a1 k1 .byte m1 (fun i => .int ((own_upd (own_upd gb (qn + qn) ((ch >>> ((0 : Int32) &&& 31)).toInt8.toInt32)) (qn + qn + 1) ((ch >>> ((8 : Int32) &&& 31)).toInt8.toInt32)) i))
set_option maxRecDepth 65536 in
set_option maxHeartbeats 40000000 in
theorem own_rm29 (l : Launch) (Z : State) (a0 : Array Value) (hw : ∀ d ∈ tables_1, d.before a0 Z = true) (ws : List Jvm.Cond) (a1 : Addr) (q_ : Int32) (ch : Int32) (k1 : ClassId) (m1 : Nat) (gb : Nat → Int32) (qn : Nat) (h0 : Heap) (n0 : Nat) (Z0 : n0 ≤ h0.size) (q0 : Old Z n0 h0) (q1 : Sta Z Z.heap "java/lang/StringUTF16" "$assertionsDisabled" "Z" (.int (1 : Int32))) (q2 : Sta Z Z.heap "java/lang/StringUTF16" "HI_BYTE_SHIFT" "I" (.int (0 : Int32))) (q3 : Sta Z Z.heap "java/lang/StringUTF16" "LO_BYTE_SHIFT" "I" (.int (8 : Int32))) (q4 : own_A Z h0 a1 k1 .byte m1 (fun i => .int (gb i))) (q5 : n0 ≤ a1) (hq : (q_.toInt = (qn : Int) ∧ qn + qn + 1 < m1 ∧ m1 ≤ 10000)) :
    MetFree l own_n4 (head1 (Jvm.Cond.code own_n4 jdk_52_method_4_code 3 none :: ws) ({ frames := 0, cells := 0, slots := 0, locals := 0 } : Room)) (fun a U => a = #[(.ref a1), (.int q_), (.int ch)] ∧ Z.Warmed39 U.vm ∧ U.heap = h0) (fun _ _ _ _ _ => True) (fun _ U o U' => ∃ v L, o = .returned v ∧ own_Q29 Z a1 q_ ch k1 m1 gb qn h0 n0 v U'.heap L ∧ FrameEnd U o U' L ({ frames := 0, cells := 0, slots := 0, locals := 0 } : Room).cells ({ frames := 0, cells := 0, slots := 0, locals := 0 } : Room).slots) := by
  refine MetFree.of_bodySF (plainFor_of_name own_pn0) hisR ?_
  intro p e s m args below meth c s₁ Bd hml0 hP hK
  obtain ⟨rfl, hZ, hh⟩ := hP
  have hx := Bd.exec
  have hby := Bd.bytes
  have hml : c.maxLocals = 3 := hml0
  have hown : s.vm.findClass "java/lang/StringUTF16" = some m.cls := findClass_of_methodNamed Bd.named
  have hnm := (name_of_methodNamed Bd.named Bd.method).1
  have hnl : meth.locks = false := Bd.notSynchronized
  have X0 : Stand p l e ({ frames := 0, cells := 0, slots := 0, locals := 0 } : Room) s m #[(.ref a1), (.int q_), (.int ch)] below meth c s₁ [] 0 0 := Stand.of_body Bd
  have e0 : s₁.heap = h0 := by rw [← hh, Bd.state]; rfl
  have N0 := Fr.nil n0
  show own_Go p.tables e below (own_P below s (own_Q29 Z a1 q_ ch k1 m1 gb qn h0 n0) ({ frames := 0, cells := 0, slots := 0, locals := 0 } : Room).cells ({ frames := 0, cells := 0, slots := 0, locals := 0 } : Room).slots) _
  refine own_st (fun t_ k_ => castTop (own_ef29 m a1 q_ ch) k_) ?_
  obtain ⟨T108, X108, e108, st108⟩ := getS2 X0 hx hZ hown (host := "") (Or.inl (own_w hw 151 rfl)) Via.refl e0 (q1.ext q0.2) (g := (mkF m 0 #[oR a1, oI q_, oI ch] [])) rfl (hb hby own_d29_0)
  refine own_st (st108) ?_
  refine own_st (fun t_ k_ => XS.ifYes X108.here hx rfl (pc0 := 3) (pc' := 28) rfl (hb hby own_d29_3) rfl ((if0 _ _).trans (feq (by decide : ¬ ((1 : Int32) = (0 : Int32)))).2) (by decide) (by decide) (XS.iloadN X108.here hx rfl (hb hby own_d29_28) rfl (XS.iconst X108.here hx rfl (hb hby own_d29_29) (XS.ishl X108.here hx rfl (hb hby own_d29_30) rfl (XS.istoreN X108.here hx rfl (hb hby own_d29_31) rfl (l' := #[oR a1, oI (q_ <<< ((1 : Int32) &&& 31)), oI ch]) rfl (XS.aloadN X108.here hx rfl (hb hby own_d29_32) rfl rfl k_)))))) ?_
  show own_at p e below _ T108 m 33 #[oR a1, oI (q_ <<< ((1 : Int32) &&& 31)), oI ch] [(.ref a1)]
  refine own_st (fun t_ k_ => XS.iloadN X108.here hx rfl (hb hby own_d29_33) rfl (XS.iinc X108.here hx rfl (hb hby own_d29_34) rfl (l' := #[oR a1, oI ((q_ <<< ((1 : Int32) &&& 31)) + (1 : Int32)), oI ch]) rfl (XS.iloadN X108.here hx rfl (hb hby own_d29_37) rfl k_))) ?_
  show own_at p e below _ T108 m 38 #[oR a1, oI ((q_ <<< ((1 : Int32) &&& 31)) + (1 : Int32)), oI ch] [(.int ch), (.int (q_ <<< ((1 : Int32) &&& 31))), (.ref a1)]
  obtain ⟨T109, X109, e109, st109⟩ := getS2 X108 hx hZ hown (host := "") (Or.inl (own_w hw 152 rfl)) Via.refl e108 (q2.ext q0.2) (g := (mkF m 38 #[oR a1, oI ((q_ <<< ((1 : Int32) &&& 31)) + (1 : Int32)), oI ch] [(.int ch), (.int (q_ <<< ((1 : Int32) &&& 31))), (.ref a1)])) rfl (hb hby own_d29_38)
  refine own_st (st109) ?_
  refine own_st (fun t_ k_ => XS.ishr X109.here hx rfl (hb hby own_d29_41) rfl (XS.i2b X109.here hx rfl (hb hby own_d29_42) rfl k_)) ?_
  show own_at p e below _ T109 m 43 #[oR a1, oI ((q_ <<< ((1 : Int32) &&& 31)) + (1 : Int32)), oI ch] [(.int ((ch >>> ((0 : Int32) &&& 31)).toInt8.toInt32)), (.int (q_ <<< ((1 : Int32) &&& 31))), (.ref a1)]
  obtain ⟨T110, h110, X110, e110, W110, Aw110, st110⟩ := own_bastore X109 hx hZ e109 q4 (i := (qn + qn)) (own_shl1 hq.1 (by omega)) (by omega) (own_narb _) (v' := ((ch >>> ((0 : Int32) &&& 31)).toInt8.toInt32)) (g := (mkF m 43 #[oR a1, oI ((q_ <<< ((1 : Int32) &&& 31)) + (1 : Int32)), oI ch] [(.int ((ch >>> ((0 : Int32) &&& 31)).toInt8.toInt32)), (.int (q_ <<< ((1 : Int32) &&& 31))), (.ref a1)])) rfl rfl (hb hby own_d29_43)
  have N110 := Fr.snoc X110 N0 q5
  have K110 : Keep h0 h110 [a1] := (Keep.refl h0 [a1]).wr W110 (Or.inl (List.mem_of_getElem? (i := 0) rfl))
  refine own_st (st110) ?_
  refine own_st (fun t_ k_ => XS.aloadN X110.here hx rfl (hb hby own_d29_44) rfl rfl (XS.iloadN X110.here hx rfl (hb hby own_d29_45) rfl (XS.iloadN X110.here hx rfl (hb hby own_d29_46) rfl k_))) ?_
  show own_at p e below _ T110 m 47 #[oR a1, oI ((q_ <<< ((1 : Int32) &&& 31)) + (1 : Int32)), oI ch] [(.int ch), (.int ((q_ <<< ((1 : Int32) &&& 31)) + (1 : Int32))), (.ref a1)]
  obtain ⟨T111, X111, e111, st111⟩ := getS2 X110 hx hZ hown (host := "") (Or.inl (own_w hw 153 rfl)) Via.refl e110 (q3.ext (q0.wr W110 q5).2) (g := (mkF m 47 #[oR a1, oI ((q_ <<< ((1 : Int32) &&& 31)) + (1 : Int32)), oI ch] [(.int ch), (.int ((q_ <<< ((1 : Int32) &&& 31)) + (1 : Int32))), (.ref a1)])) rfl (hb hby own_d29_47)
  refine own_st (st111) ?_
  refine own_st (fun t_ k_ => XS.ishr X111.here hx rfl (hb hby own_d29_50) rfl (XS.i2b X111.here hx rfl (hb hby own_d29_51) rfl k_)) ?_
  show own_at p e below _ T111 m 52 #[oR a1, oI ((q_ <<< ((1 : Int32) &&& 31)) + (1 : Int32)), oI ch] [(.int ((ch >>> ((8 : Int32) &&& 31)).toInt8.toInt32)), (.int ((q_ <<< ((1 : Int32) &&& 31)) + (1 : Int32))), (.ref a1)]
  obtain ⟨T112, h112, X112, e112, W112, Aw112, st112⟩ := own_bastore X111 hx hZ e111 Aw110 (i := (qn + qn + 1)) (own_inc (own_shl1 hq.1 (by omega)) (by omega)) (by omega) (own_narb _) (v' := ((ch >>> ((8 : Int32) &&& 31)).toInt8.toInt32)) (g := (mkF m 52 #[oR a1, oI ((q_ <<< ((1 : Int32) &&& 31)) + (1 : Int32)), oI ch] [(.int ((ch >>> ((8 : Int32) &&& 31)).toInt8.toInt32)), (.int ((q_ <<< ((1 : Int32) &&& 31)) + (1 : Int32))), (.ref a1)])) rfl rfl (hb hby own_d29_52)
  have N112 := Fr.snoc X112 N110 q5
  have K112 : Keep h0 h112 [a1] := K110.wr W112 (Or.inl (List.mem_of_getElem? (i := 0) rfl))
  refine own_st (st112) ?_
  show own_at p e below _ T112 m 53 #[oR a1, oI ((q_ <<< ((1 : Int32) &&& 31)) + (1 : Int32)), oI ch] []
  exact own_ret0 X112 hx hnl Bd.returns (hb hby own_d29_53) ⟨rfl, N112, (by rw [e112]; exact K112), (by rw [e112]; exact Aw112)⟩ (by decide) (by decide)

theorem own_d30_0 : decode jdk_52_method_5_code 0 = .ok (.getstatic 44, 3) := by decide +kernel
theorem own_d30_3 : decode jdk_52_method_5_code 3 = .ok (.ifCond .ne 25, 3) := by decide +kernel
theorem own_d30_28 : decode jdk_52_method_5_code 28 = .ok (.iload_n 1, 1) := by decide +kernel
theorem own_d30_29 : decode jdk_52_method_5_code 29 = .ok (.iconst 1, 1) := by decide +kernel
theorem own_d30_30 : decode jdk_52_method_5_code 30 = .ok (.ishl, 1) := by decide +kernel
theorem own_d30_31 : decode jdk_52_method_5_code 31 = .ok (.istore_n 1, 1) := by decide +kernel
theorem own_d30_32 : decode jdk_52_method_5_code 32 = .ok (.aload_n 0, 1) := by decide +kernel
theorem own_d30_33 : decode jdk_52_method_5_code 33 = .ok (.iload_n 1, 1) := by decide +kernel
theorem own_d30_34 : decode jdk_52_method_5_code 34 = .ok (.iinc 1 1, 3) := by decide +kernel
theorem own_d30_37 : decode jdk_52_method_5_code 37 = .ok (.baload, 1) := by decide +kernel
theorem own_d30_38 : decode jdk_52_method_5_code 38 = .ok (.sipush 255, 3) := by decide +kernel
theorem own_d30_41 : decode jdk_52_method_5_code 41 = .ok (.iand, 1) := by decide +kernel
theorem own_d30_42 : decode jdk_52_method_5_code 42 = .ok (.getstatic 59, 3) := by decide +kernel
theorem own_d30_45 : decode jdk_52_method_5_code 45 = .ok (.ishl, 1) := by decide +kernel
theorem own_d30_46 : decode jdk_52_method_5_code 46 = .ok (.aload_n 0, 1) := by decide +kernel
theorem own_d30_47 : decode jdk_52_method_5_code 47 = .ok (.iload_n 1, 1) := by decide +kernel
theorem own_d30_48 : decode jdk_52_method_5_code 48 = .ok (.baload, 1) := by decide +kernel
theorem own_d30_49 : decode jdk_52_method_5_code 49 = .ok (.sipush 255, 3) := by decide +kernel
theorem own_d30_52 : decode jdk_52_method_5_code 52 = .ok (.iand, 1) := by decide +kernel
theorem own_d30_53 : decode jdk_52_method_5_code 53 = .ok (.getstatic 63, 3) := by decide +kernel
theorem own_d30_56 : decode jdk_52_method_5_code 56 = .ok (.ishl, 1) := by decide +kernel
theorem own_d30_57 : decode jdk_52_method_5_code 57 = .ok (.ior, 1) := by decide +kernel
theorem own_d30_58 : decode jdk_52_method_5_code 58 = .ok (.i2c, 1) := by decide +kernel
theorem own_d30_59 : decode jdk_52_method_5_code 59 = .ok (.ireturn, 1) := by decide +kernel
theorem own_ef30 (m : MethodId) (x0 : Addr) (x1 : Int32) : entryFrame m #[(.ref x0), (.int x1)] 2 = mkF m 0 #[.val (.ref x0), .val (.int x1)] [] := by first | (simp [entryFrame, mkF, argsToLocals, Value.category]; done) | rfl
def own_Q30 (Z : State) (a1 : Addr) (q_ : Int32) (k1 : ClassId) (m1 : Nat) (gb : Nat → Int32) (qn : Nat) (ch : Int32) (h0 : Heap) (n0 : Nat) (v : Option Value) (h : Heap) (L : List Loc) : Prop := v = some (.int ch) ∧ Fr n0 L ∧ h = h0
set_option maxRecDepth 65536 in
set_option maxHeartbeats 40000000 in
theorem own_rm30 (l : Launch) (Z : State) (a0 : Array Value) (hw : ∀ d ∈ tables_1, d.before a0 Z = true) (ws : List Jvm.Cond) (a1 : Addr) (q_ : Int32) (k1 : ClassId) (m1 : Nat) (gb : Nat → Int32) (qn : Nat) (ch : Int32) (h0 : Heap) (n0 : Nat) (Z0 : n0 ≤ h0.size) (q0 : Old Z n0 h0) (q1 : Sta Z Z.heap "java/lang/StringUTF16" "$assertionsDisabled" "Z" (.int (1 : Int32))) (q2 : Sta Z Z.heap "java/lang/StringUTF16" "HI_BYTE_SHIFT" "I" (.int (0 : Int32))) (q3 : Sta Z Z.heap "java/lang/StringUTF16" "LO_BYTE_SHIFT" "I" (.int (8 : Int32))) (q4 : own_A Z h0 a1 k1 .byte m1 (fun i => .int (gb i))) (hq : (q_.toInt = (qn : Int) ∧ qn + qn + 1 < m1 ∧ m1 ≤ 10000)) (hch : (0 ≤ ch.toInt ∧ ch.toInt ≤ 65535 ∧ gb (qn + qn) = ((ch >>> ((0 : Int32) &&& 31)).toInt8.toInt32) ∧ gb (qn + qn + 1) = ((ch >>> ((8 : Int32) &&& 31)).toInt8.toInt32))) :
    MetFree l own_n5 (head1 (Jvm.Cond.code own_n5 jdk_52_method_5_code 2 (some .char) :: ws) ({ frames := 0, cells := 0, slots := 0, locals := 0 } : Room)) (fun a U => a = #[(.ref a1), (.int q_)] ∧ Z.Warmed39 U.vm ∧ U.heap = h0) (fun _ _ _ _ _ => True) (fun _ U o U' => ∃ v L, o = .returned v ∧ own_Q30 Z a1 q_ k1 m1 gb qn ch h0 n0 v U'.heap L ∧ FrameEnd U o U' L ({ frames := 0, cells := 0, slots := 0, locals := 0 } : Room).cells ({ frames := 0, cells := 0, slots := 0, locals := 0 } : Room).slots) := by
  refine MetFree.of_bodySF (plainFor_of_name own_pn0) hisR ?_
  intro p e s m args below meth c s₁ Bd hml0 hP hK
  obtain ⟨rfl, hZ, hh⟩ := hP
  have hx := Bd.exec
  have hby := Bd.bytes
  have hml : c.maxLocals = 2 := hml0
  have hown : s.vm.findClass "java/lang/StringUTF16" = some m.cls := findClass_of_methodNamed Bd.named
  have hnm := (name_of_methodNamed Bd.named Bd.method).1
  have hnl : meth.locks = false := Bd.notSynchronized
  have X0 : Stand p l e ({ frames := 0, cells := 0, slots := 0, locals := 0 } : Room) s m #[(.ref a1), (.int q_)] below meth c s₁ [] 0 0 := Stand.of_body Bd
  have e0 : s₁.heap = h0 := by rw [← hh, Bd.state]; rfl
  have N0 := Fr.nil n0
  show own_Go p.tables e below (own_P below s (own_Q30 Z a1 q_ k1 m1 gb qn ch h0 n0) ({ frames := 0, cells := 0, slots := 0, locals := 0 } : Room).cells ({ frames := 0, cells := 0, slots := 0, locals := 0 } : Room).slots) _
  refine own_st (fun t_ k_ => castTop (own_ef30 m a1 q_) k_) ?_
  obtain ⟨T113, X113, e113, st113⟩ := getS2 X0 hx hZ hown (host := "") (Or.inl (own_w hw 151 rfl)) Via.refl e0 (q1.ext q0.2) (g := (mkF m 0 #[oR a1, oI q_] [])) rfl (hb hby own_d30_0)
  refine own_st (st113) ?_
  refine own_st (fun t_ k_ => XS.ifYes X113.here hx rfl (pc0 := 3) (pc' := 28) rfl (hb hby own_d30_3) rfl ((if0 _ _).trans (feq (by decide : ¬ ((1 : Int32) = (0 : Int32)))).2) (by decide) (by decide) (XS.iloadN X113.here hx rfl (hb hby own_d30_28) rfl (XS.iconst X113.here hx rfl (hb hby own_d30_29) (XS.ishl X113.here hx rfl (hb hby own_d30_30) rfl (XS.istoreN X113.here hx rfl (hb hby own_d30_31) rfl (l' := #[oR a1, oI (q_ <<< ((1 : Int32) &&& 31))]) rfl (XS.aloadN X113.here hx rfl (hb hby own_d30_32) rfl rfl k_)))))) ?_
  show own_at p e below _ T113 m 33 #[oR a1, oI (q_ <<< ((1 : Int32) &&& 31))] [(.ref a1)]
  refine own_st (fun t_ k_ => XS.iloadN X113.here hx rfl (hb hby own_d30_33) rfl (XS.iinc X113.here hx rfl (hb hby own_d30_34) rfl (l' := #[oR a1, oI ((q_ <<< ((1 : Int32) &&& 31)) + (1 : Int32))]) rfl k_)) ?_
  show own_at p e below _ T113 m 37 #[oR a1, oI ((q_ <<< ((1 : Int32) &&& 31)) + (1 : Int32))] [(.int (q_ <<< ((1 : Int32) &&& 31))), (.ref a1)]
  refine own_st (own_baload X113 hx hZ e113 q4 (i := (qn + qn)) (own_shl1 hq.1 (by omega)) (by omega) (g := (mkF m 37 #[oR a1, oI ((q_ <<< ((1 : Int32) &&& 31)) + (1 : Int32))] [(.int (q_ <<< ((1 : Int32) &&& 31))), (.ref a1)])) rfl rfl (hb hby own_d30_37)) ?_
  refine own_st (fun t_ k_ => XS.sipush X113.here hx rfl (hb hby own_d30_38) (XS.iand X113.here hx rfl (hb hby own_d30_41) rfl k_)) ?_
  show own_at p e below _ T113 m 42 #[oR a1, oI ((q_ <<< ((1 : Int32) &&& 31)) + (1 : Int32))] [(.int ((gb (qn + qn)) &&& (255 : Int32)))]
  obtain ⟨T114, X114, e114, st114⟩ := getS2 X113 hx hZ hown (host := "") (Or.inl (own_w hw 152 rfl)) Via.refl e113 (q2.ext q0.2) (g := (mkF m 42 #[oR a1, oI ((q_ <<< ((1 : Int32) &&& 31)) + (1 : Int32))] [(.int ((gb (qn + qn)) &&& (255 : Int32)))])) rfl (hb hby own_d30_42)
  refine own_st (st114) ?_
  refine own_st (fun t_ k_ => XS.ishl X114.here hx rfl (hb hby own_d30_45) rfl (XS.aloadN X114.here hx rfl (hb hby own_d30_46) rfl rfl (XS.iloadN X114.here hx rfl (hb hby own_d30_47) rfl k_))) ?_
  show own_at p e below _ T114 m 48 #[oR a1, oI ((q_ <<< ((1 : Int32) &&& 31)) + (1 : Int32))] [(.int ((q_ <<< ((1 : Int32) &&& 31)) + (1 : Int32))), (.ref a1), (.int (((gb (qn + qn)) &&& (255 : Int32)) <<< ((0 : Int32) &&& 31)))]
  refine own_st (own_baload X114 hx hZ e114 q4 (i := (qn + qn + 1)) (own_inc (own_shl1 hq.1 (by omega)) (by omega)) (by omega) (g := (mkF m 48 #[oR a1, oI ((q_ <<< ((1 : Int32) &&& 31)) + (1 : Int32))] [(.int ((q_ <<< ((1 : Int32) &&& 31)) + (1 : Int32))), (.ref a1), (.int (((gb (qn + qn)) &&& (255 : Int32)) <<< ((0 : Int32) &&& 31)))])) rfl rfl (hb hby own_d30_48)) ?_
  refine own_st (fun t_ k_ => XS.sipush X114.here hx rfl (hb hby own_d30_49) (XS.iand X114.here hx rfl (hb hby own_d30_52) rfl k_)) ?_
  show own_at p e below _ T114 m 53 #[oR a1, oI ((q_ <<< ((1 : Int32) &&& 31)) + (1 : Int32))] [(.int ((gb (qn + qn + 1)) &&& (255 : Int32))), (.int (((gb (qn + qn)) &&& (255 : Int32)) <<< ((0 : Int32) &&& 31)))]
  obtain ⟨T115, X115, e115, st115⟩ := getS2 X114 hx hZ hown (host := "") (Or.inl (own_w hw 153 rfl)) Via.refl e114 (q3.ext q0.2) (g := (mkF m 53 #[oR a1, oI ((q_ <<< ((1 : Int32) &&& 31)) + (1 : Int32))] [(.int ((gb (qn + qn + 1)) &&& (255 : Int32))), (.int (((gb (qn + qn)) &&& (255 : Int32)) <<< ((0 : Int32) &&& 31)))])) rfl (hb hby own_d30_53)
  refine own_st (st115) ?_
  refine own_st (fun t_ k_ => XS.ishl X115.here hx rfl (hb hby own_d30_56) rfl (XS.ior X115.here hx rfl (hb hby own_d30_57) rfl (XS.i2c X115.here hx rfl (hb hby own_d30_58) rfl k_))) ?_
  show own_at p e below _ T115 m 59 #[oR a1, oI ((q_ <<< ((1 : Int32) &&& 31)) + (1 : Int32))] [(.int (((((gb (qn + qn)) &&& (255 : Int32)) <<< ((0 : Int32) &&& 31)) ||| (((gb (qn + qn + 1)) &&& (255 : Int32)) <<< ((8 : Int32) &&& 31))).toUInt32.toUInt16.toUInt32.toInt32))]
  rw [show (((((gb (qn + qn)) &&& (255 : Int32)) <<< ((0 : Int32) &&& 31)) ||| (((gb (qn + qn + 1)) &&& (255 : Int32)) <<< ((8 : Int32) &&& 31))).toUInt32.toUInt16.toUInt32.toInt32) = ch from own_join hch.1 hch.2.1 hch.2.2.1 hch.2.2.2]
  show own_at p e below _ T115 m 59 #[oR a1, oI ((q_ <<< ((1 : Int32) &&& 31)) + (1 : Int32))] [(.int ch)]
  exact own_ret (w := (.int ch)) X115 hx hnl Bd.returns (own_nwc hch.1 hch.2.1) (Or.inl ⟨rfl, by decide, _, rfl⟩) (hb hby own_d30_59) ⟨rfl, N0, e115⟩ (by decide) (by decide)

theorem own_d26_0 : decode jdk_52_method_14_code 0 = .ok (.iload_n 2, 1) := by decide +kernel
theorem own_d26_1 : decode jdk_52_method_14_code 1 = .ok (.invokestatic 107, 3) := by decide +kernel
theorem own_d26_4 : decode jdk_52_method_14_code 4 = .ok (.astore_n 3, 1) := by decide +kernel
theorem own_d26_5 : decode jdk_52_method_14_code 5 = .ok (.iconst 0, 1) := by decide +kernel
theorem own_d26_6 : decode jdk_52_method_14_code 6 = .ok (.istore 4, 2) := by decide +kernel
theorem own_d26_8 : decode jdk_52_method_14_code 8 = .ok (.iload 4, 2) := by decide +kernel
theorem own_d26_10 : decode jdk_52_method_14_code 10 = .ok (.iload_n 2, 1) := by decide +kernel
theorem own_d26_11 : decode jdk_52_method_14_code 11 = .ok (.if_icmp .ge 21, 3) := by decide +kernel
theorem own_d26_14 : decode jdk_52_method_14_code 14 = .ok (.aload_n 3, 1) := by decide +kernel
theorem own_d26_15 : decode jdk_52_method_14_code 15 = .ok (.iload 4, 2) := by decide +kernel
theorem own_d26_17 : decode jdk_52_method_14_code 17 = .ok (.aload_n 0, 1) := by decide +kernel
theorem own_d26_18 : decode jdk_52_method_14_code 18 = .ok (.iload_n 1, 1) := by decide +kernel
theorem own_d26_19 : decode jdk_52_method_14_code 19 = .ok (.caload, 1) := by decide +kernel
theorem own_d26_20 : decode jdk_52_method_14_code 20 = .ok (.invokestatic 111, 3) := by decide +kernel
theorem own_d26_23 : decode jdk_52_method_14_code 23 = .ok (.iinc 1 1, 3) := by decide +kernel
theorem own_d26_26 : decode jdk_52_method_14_code 26 = .ok (.iinc 4 1, 3) := by decide +kernel
theorem own_d26_29 : decode jdk_52_method_14_code 29 = .ok (.goto (-21), 3) := by decide +kernel
theorem own_d26_32 : decode jdk_52_method_14_code 32 = .ok (.aload_n 3, 1) := by decide +kernel
theorem own_d26_33 : decode jdk_52_method_14_code 33 = .ok (.areturn, 1) := by decide +kernel
theorem own_pd1 : parseMethodDescriptor "(I)[B" = some ⟨[.int], some (.array .byte)⟩ := by decide +kernel
theorem own_pd2 : parseMethodDescriptor "([BII)V" = some ⟨[(.array .byte), .int, .int], none⟩ := by decide +kernel
theorem own_ef26 (m : MethodId) (x0 : Addr) (x1 : Int32) (x2 : Int32) : entryFrame m #[(.ref x0), (.int x1), (.int x2)] 5 = mkF m 0 #[.val (.ref x0), .val (.int x1), .val (.int x2), .unset, .unset] [] := by first | (simp [entryFrame, mkF, argsToLocals, Value.category]; done) | rfl
def own_Q26 (Z : State) (a1 : Addr) (p_ : Int32) (k1 : ClassId) (n1 : Nat) (cs : Nat → Int32) (h0 : Heap) (n0 : Nat) (v : Option Value) (h : Heap) (L : List Loc) : Prop := ∃ (t : Addr) (kt : ClassId), v = some (.ref t) ∧ Fr n0 L ∧ Keep h0 h [] ∧ h0.size ≤ t ∧ own_A Z h t kt .byte (n1 + n1) (fun i => .int ((own_u16 cs) i))
set_option maxRecDepth 65536 in
set_option maxHeartbeats 40000000 in
theorem own_rm26 (l : Launch) (Z : State) (a0 : Array Value) (hw : ∀ d ∈ tables_1, d.before a0 Z = true) (ws : List Jvm.Cond) (a1 : Addr) (p_ : Int32) (k1 : ClassId) (n1 : Nat) (cs : Nat → Int32) (h0 : Heap) (n0 : Nat) (Z0 : n0 ≤ h0.size) (q0 : own_A Z h0 a1 k1 .char n1 (fun i => .int (cs i))) (hp : (p_.toInt = (n1 : Int) ∧ n1 ≤ 12)) (q2 : Old Z n0 h0) (q3 : Sta Z Z.heap "java/lang/StringUTF16" "$assertionsDisabled" "Z" (.int (1 : Int32))) (q4 : Sta Z Z.heap "java/lang/StringUTF16" "HI_BYTE_SHIFT" "I" (.int (0 : Int32))) (q5 : Sta Z Z.heap "java/lang/StringUTF16" "LO_BYTE_SHIFT" "I" (.int (8 : Int32))) :
    MetFree l own_n6 (head1 (Jvm.Cond.code own_n6 jdk_52_method_14_code 5 (some (.array .byte)) :: ws) ({ frames := 2, cells := 1, slots := 24, locals := 24 } : Room)) (fun a U => a = #[(.ref a1), (.int (0 : Int32)), (.int p_)] ∧ Z.Warmed39 U.vm ∧ U.heap = h0) (fun _ _ _ _ _ => True) (fun _ U o U' => ∃ v L, o = .returned v ∧ own_Q26 Z a1 p_ k1 n1 cs h0 n0 v U'.heap L ∧ FrameEnd U o U' L ({ frames := 2, cells := 1, slots := 24, locals := 24 } : Room).cells ({ frames := 2, cells := 1, slots := 24, locals := 24 } : Room).slots) := by
  refine MetFree.of_bodySF (plainFor_of_name own_pn0) hisR ?_
  intro p e s m args below meth c s₁ Bd hml0 hP hK
  obtain ⟨rfl, hZ, hh⟩ := hP
  have hx := Bd.exec
  have hby := Bd.bytes
  have hml : c.maxLocals = 5 := hml0
  have hown : s.vm.findClass "java/lang/StringUTF16" = some m.cls := findClass_of_methodNamed Bd.named
  have hnm := (name_of_methodNamed Bd.named Bd.method).1
  have hnl : meth.locks = false := Bd.notSynchronized
  have X0 : Stand p l e ({ frames := 2, cells := 1, slots := 24, locals := 24 } : Room) s m #[(.ref a1), (.int (0 : Int32)), (.int p_)] below meth c s₁ [] 0 0 := Stand.of_body Bd
  have e0 : s₁.heap = h0 := by rw [← hh, Bd.state]; rfl
  have N0 := Fr.nil n0
  show own_Go p.tables e below (own_P below s (own_Q26 Z a1 p_ k1 n1 cs h0 n0) ({ frames := 2, cells := 1, slots := 24, locals := 24 } : Room).cells ({ frames := 2, cells := 1, slots := 24, locals := 24 } : Room).slots) _
  refine own_st (fun t_ k_ => castTop (own_ef26 m a1 (0 : Int32) p_) k_) ?_
  refine own_st (fun t_ k_ => XS.iloadN X0.here hx rfl (hb hby own_d26_0) rfl k_) ?_
  show own_at p e below _ s₁ m 1 #[oR a1, oI (0 : Int32), oI p_, oU, oU] [(.int p_)]
  obtain ⟨_, _, ⟨T116, L116, k116, n116⟩, -, X116, ⟨Lc116, hQ116, l116, y116, z116⟩, st116⟩ := Jvm.LawKit.callS X0 hx (y := own_n3) hown (mvT hZ (own_w hw 141 rfl)) (mvT hZ (own_w hw 142 rfl)) (mvT hZ (own_w hw 41 rfl)) (mvT hZ (own_w hw 143 rfl)) (by decide) (backOf (W := 0) (own_rm27 l Z a0 hw [] p_ n1 h0 n0 (Nat.le_trans Z0 (Keep.refl h0 []).1) ⟨hp.1, (by omega)⟩) hZ (own_w hw 143 rfl) (own_w hw 41 rfl) (by decide) (by decide)) (g := (mkF m 1 #[oR a1, oI (0 : Int32), oI p_, oU, oU] [(.int p_)])) rfl (by rw [hml]; rfl) (argsL := [(.int p_)]) (rest := []) (lenOf own_pd1 rfl) rfl (own_hW rfl) (hb hby own_d26_1) (fun _ _ => ⟨rfl, e0, (by decide : 0 + 1 ≤ _), (by decide : 0 + 24 ≤ _)⟩)
  dsimp only [Pt.U, Pt.locs, Pt.cells, Pt.slots] at X116 l116 y116 z116 st116 hQ116
  subst y116 z116
  obtain ⟨t_116, kt_116, rfl, N116q, Kq116, P116_0, P116_1⟩ := hQ116
  have N116 : Fr n0 L116 := by rw [l116]; exact Fr.app N0 N116q
  have K116 : Keep h0 T116.heap [] := (Keep.refl h0 []).trans Kq116 all0
  have fr116_0 : h0.size ≤ t_116 := Nat.le_trans (Keep.refl h0 []).1 P116_0
  have ge116_0 : n0 ≤ t_116 := Nat.le_trans Z0 fr116_0
  refine own_st (st116) ?_
  refine own_st (fun t_ k_ => XS.astoreN X116.here hx rfl (hb hby own_d26_4) rfl rfl (l' := #[oR a1, oI (0 : Int32), oI p_, oR t_116, oU]) rfl (XS.iconst X116.here hx rfl (hb hby own_d26_5) (XS.istore X116.here hx rfl (hb hby own_d26_6) rfl (l' := #[oR a1, oI (0 : Int32), oI p_, oR t_116, oI (0 : Int32)]) rfl k_))) ?_
  show own_at p e below _ T116 m 8 #[oR a1, oI (0 : Int32), oI p_, oR t_116, oI (0 : Int32)] []
  have qb0 : own_A Z T116.heap t_116 kt_116 .byte (n1 + n1) (fun i => .int ((own_pb cs 0) i)) := P116_1.congr (fun q _ => by simp [own_pb])
  have nq117_0 : a1 ≠ t_116 := (Nat.ne_of_lt (Nat.lt_of_lt_of_le q0.lt P116_0))
  have loop117 : ∀ (mm : Nat) (k : Nat) (i : Int32) (T117 : State) (Lo117 : List Loc) (h117 : Heap), n1 - k = mm → Stand p l e ({ frames := 2, cells := 1, slots := 24, locals := 24 } : Room) s m #[(.ref a1), (.int (0 : Int32)), (.int p_)] below meth c T117 Lo117 1 24 → T117.heap = h117 → Fr n0 Lo117 → Keep h0 h117 [] → Old Z n0 h117 → own_A Z h117 a1 k1 .char n1 (fun i => .int (cs i)) → own_A Z h117 t_116 kt_116 .byte (n1 + n1) (fun i => .int ((own_pb cs k) i)) → (i.toInt = (k : Int)) → (k ≤ n1) → own_Go p.tables e below (own_P below s (own_Q26 Z a1 p_ k1 n1 cs h0 n0) ({ frames := 2, cells := 1, slots := 24, locals := 24 } : Room).cells ({ frames := 2, cells := 1, slots := 24, locals := 24 } : Room).slots) (T117.setTop (mkF m 8 #[oR a1, oI i, oI p_, oR t_116, oI i] [])) := by
    intro mm
    induction mm using Nat.strongRecOn with
    | _ mm ih117 =>
      intro k i T117 Lo117 h117 hm117 X117 e117 N117 K117 fa117_0 fa117_1 fa117_2 hi hk
      refine own_st (fun t_ k_ => XS.iload X117.here hx rfl (hb hby own_d26_8) rfl (XS.iloadN X117.here hx rfl (hb hby own_d26_10) rfl k_)) ?_
      show own_at p e below _ T117 m 11 #[oR a1, oI i, oI p_, oR t_116, oI i] [(.int p_), (.int i)]
      by_cases c11_118 : i < p_
      · skip
        have hkn : k < n1 := (own_ltp hi hp.1).mp c11_118
        refine own_st (fun t_ k_ => XS.icmpNo X117.here hx rfl (hb hby own_d26_11) rfl (tlt c11_118).2.1 (XS.aloadN X117.here hx rfl (hb hby own_d26_14) rfl rfl (XS.iload X117.here hx rfl (hb hby own_d26_15) rfl (XS.aloadN X117.here hx rfl (hb hby own_d26_17) rfl rfl (XS.iloadN X117.here hx rfl (hb hby own_d26_18) rfl k_))))) ?_
        show own_at p e below _ T117 m 19 #[oR a1, oI i, oI p_, oR t_116, oI i] [(.int i), (.ref a1), (.int i), (.ref t_116)]
        refine own_st (own_caload X117 hx hZ e117 fa117_1 (i := k) hi hkn (g := (mkF m 19 #[oR a1, oI i, oI p_, oR t_116, oI i] [(.int i), (.ref a1), (.int i), (.ref t_116)])) rfl rfl (hb hby own_d26_19)) ?_
        obtain ⟨_, _, ⟨T119, L119, k119, n119⟩, -, X119, ⟨Lc119, hQ119, l119, y119, z119⟩, st119⟩ := Jvm.LawKit.callS X117 hx (y := own_n4) hown (mvT hZ (own_w hw 148 rfl)) (mvT hZ (own_w hw 149 rfl)) (mvT hZ (own_w hw 41 rfl)) (mvT hZ (own_w hw 150 rfl)) (by decide) (backOf (W := 0) (own_rm29 l Z a0 hw [] t_116 i (cs k) kt_116 (n1 + n1) (own_pb cs k) k h117 n0 (Nat.le_trans Z0 K117.1) fa117_0 q3 q4 q5 fa117_2 ge116_0 ⟨hi, (by omega), (by omega)⟩) hZ (own_w hw 150 rfl) (own_w hw 41 rfl) (by decide) (by decide)) (g := (mkF m 20 #[oR a1, oI i, oI p_, oR t_116, oI i] [(.int (cs k)), (.int i), (.ref t_116)])) rfl (by rw [hml]; rfl) (argsL := [(.ref t_116), (.int i), (.int (cs k))]) (rest := []) (lenOf own_pd2 rfl) rfl (own_hW rfl) (hb hby own_d26_20) (fun _ _ => ⟨rfl, e117, (by decide : 1 + 0 ≤ _), (by decide : 24 + 0 ≤ _)⟩)
        show own_at p e below _ T117 m 20 #[oR a1, oI i, oI p_, oR t_116, oI i] [(.int (cs k)), (.int i), (.ref t_116)]
        dsimp only [Pt.U, Pt.locs, Pt.cells, Pt.slots] at X119 l119 y119 z119 st119 hQ119
        subst y119 z119
        obtain ⟨rfl, N119q, Kq119, P119_0⟩ := hQ119
        have N119 : Fr n0 L119 := by rw [l119]; exact Fr.app N117 N119q
        have K119 : Keep h0 T119.heap [] := K117.trans Kq119 (allS (P := fun x => x ∈ [] ∨ h0.size ≤ x) (Or.inr fr116_0) all0)
        refine own_st (st119) ?_
        have Ac120 : own_A Z T119.heap t_116 kt_116 .byte (n1 + n1) (fun i => .int ((own_pb cs (k + 1)) i)) := P119_0.congr (fun q _ => by rw [own_pb_up])
        refine own_st (fun t_ k_ => XS.iinc X119.here hx rfl (hb hby own_d26_23) rfl (l' := #[oR a1, oI (i + (1 : Int32)), oI p_, oR t_116, oI i]) rfl (XS.iinc X119.here hx rfl (hb hby own_d26_26) rfl (l' := #[oR a1, oI (i + (1 : Int32)), oI p_, oR t_116, oI (i + (1 : Int32))]) rfl (XS.goto X119.here hx rfl (pc0 := 29) (pc' := 8) rfl (hb hby own_d26_29) (by decide) (by decide) k_))) ?_
        show own_at p e below _ T119 m 8 #[oR a1, oI (i + (1 : Int32)), oI p_, oR t_116, oI (i + (1 : Int32))] []
        exact ih117 _ (by omega) (k + 1) (i + (1 : Int32)) T119 _ T119.heap rfl X119 rfl N119 K119 ((fa117_0.keep Kq119 (allS ge116_0 all0))) ((fa117_1.keep Kq119 (ninS nq117_0 nin0))) (Ac120) (own_inc hi (by omega)) (by omega)
      have hkn : k = n1 := by have q := mt (own_ltp hi hp.1).mpr c11_118; omega
      have Af : own_A Z h117 t_116 kt_116 .byte (n1 + n1) (fun i => .int ((own_u16 cs) i)) := fa117_2.congr (fun q hq => by simp only [own_pb]; rw [if_pos (by omega)])
      refine own_st (fun t_ k_ => XS.icmpYes X117.here hx rfl (pc0 := 11) (pc' := 32) rfl (hb hby own_d26_11) rfl (flt c11_118).2.1 (by decide) (by decide) (XS.aloadN X117.here hx rfl (hb hby own_d26_32) rfl rfl k_)) ?_
      show own_at p e below _ T117 m 33 #[oR a1, oI i, oI p_, oR t_116, oI i] [(.ref t_116)]
      exact own_ret (w := (.ref t_116)) X117 hx hnl Bd.returns rfl (Or.inr (Or.inr (Or.inr (Or.inr ⟨rfl, rfl, rfl⟩)))) (hb hby own_d26_33) ⟨t_116, kt_116, rfl, N117, (by rw [e117]; exact K117), fr116_0, (by rw [e117]; exact Af)⟩ (by decide) (by decide)
  exact loop117 _ 0 (0 : Int32) T116 _ T116.heap rfl X116 rfl N116 K116 ((q2.keep Kq116 all0)) ((q0.keep Kq116 nin0)) (qb0) (by decide) (Nat.zero_le _)

theorem own_d7_0 : decode jdk_52_method_16_code 0 = .ok (.iload_n 2, 1) := by decide +kernel
theorem own_d7_1 : decode jdk_52_method_16_code 1 = .ok (.newarray .byte, 2) := by decide +kernel
theorem own_d7_3 : decode jdk_52_method_16_code 3 = .ok (.astore_n 3, 1) := by decide +kernel
theorem own_d7_4 : decode jdk_52_method_16_code 4 = .ok (.aload_n 0, 1) := by decide +kernel
theorem own_d7_5 : decode jdk_52_method_16_code 5 = .ok (.iload_n 1, 1) := by decide +kernel
theorem own_d7_6 : decode jdk_52_method_16_code 6 = .ok (.aload_n 3, 1) := by decide +kernel
theorem own_d7_7 : decode jdk_52_method_16_code 7 = .ok (.iconst 0, 1) := by decide +kernel
theorem own_d7_8 : decode jdk_52_method_16_code 8 = .ok (.iload_n 2, 1) := by decide +kernel
theorem own_d7_9 : decode jdk_52_method_16_code 9 = .ok (.invokestatic 115, 3) := by decide +kernel
theorem own_d7_12 : decode jdk_52_method_16_code 12 = .ok (.istore 4, 2) := by decide +kernel
theorem own_d7_14 : decode jdk_52_method_16_code 14 = .ok (.iload 4, 2) := by decide +kernel
theorem own_d7_16 : decode jdk_52_method_16_code 16 = .ok (.iload_n 2, 1) := by decide +kernel
theorem own_d7_17 : decode jdk_52_method_16_code 17 = .ok (.if_icmp .eq 40, 3) := by decide +kernel
theorem own_d7_20 : decode jdk_52_method_16_code 20 = .ok (.aload_n 0, 1) := by decide +kernel
theorem own_d7_21 : decode jdk_52_method_16_code 21 = .ok (.iload_n 1, 1) := by decide +kernel
theorem own_d7_22 : decode jdk_52_method_16_code 22 = .ok (.iload_n 2, 1) := by decide +kernel
theorem own_d7_23 : decode jdk_52_method_16_code 23 = .ok (.invokestatic 119, 3) := by decide +kernel
theorem own_d7_26 : decode jdk_52_method_16_code 26 = .ok (.astore 5, 2) := by decide +kernel
theorem own_d7_28 : decode jdk_52_method_16_code 28 = .ok (.aload 5, 2) := by decide +kernel
theorem own_d7_30 : decode jdk_52_method_16_code 30 = .ok (.iload 4, 2) := by decide +kernel
theorem own_d7_32 : decode jdk_52_method_16_code 32 = .ok (.invokestatic 71, 3) := by decide +kernel
theorem own_d7_35 : decode jdk_52_method_16_code 35 = .ok (.sipush 255, 3) := by decide +kernel
theorem own_d7_38 : decode jdk_52_method_16_code 38 = .ok (.if_icmp .gt 16, 3) := by decide +kernel
theorem own_d7_54 : decode jdk_52_method_16_code 54 = .ok (.aload 5, 2) := by decide +kernel
theorem own_d7_56 : decode jdk_52_method_16_code 56 = .ok (.areturn, 1) := by decide +kernel
theorem own_d7_57 : decode jdk_52_method_16_code 57 = .ok (.aload_n 3, 1) := by decide +kernel
theorem own_d7_58 : decode jdk_52_method_16_code 58 = .ok (.areturn, 1) := by decide +kernel
theorem own_pd3 : parseMethodDescriptor "([CI[BII)I" = some ⟨[(.array .char), .int, (.array .byte), .int, .int], some .int⟩ := by decide +kernel
theorem own_pd4 : parseMethodDescriptor "([CII)[B" = some ⟨[(.array .char), .int, .int], some (.array .byte)⟩ := by decide +kernel
theorem own_pd5 : parseMethodDescriptor "([BI)C" = some ⟨[(.array .byte), .int], some .char⟩ := by decide +kernel
theorem own_ef7 (m : MethodId) (x0 : Addr) (x1 : Int32) (x2 : Int32) : entryFrame m #[(.ref x0), (.int x1), (.int x2)] 6 = mkF m 0 #[.val (.ref x0), .val (.int x1), .val (.int x2), .unset, .unset, .unset] [] := by first | (simp [entryFrame, mkF, argsToLocals, Value.category]; done) | rfl
def own_Q7 (Z : State) (a1 : Addr) (p_ : Int32) (k1 : ClassId) (n1 : Nat) (cs : Nat → Int32) (h0 : Heap) (n0 : Nat) (v : Option Value) (h : Heap) (L : List Loc) : Prop := ∃ (t : Addr) (kt : ClassId) (cd : Int32), v = some (.ref t) ∧ Fr n0 L ∧ Keep h0 h [] ∧ h0.size ≤ t ∧ own_A Z h t kt .byte (own_bl cd n1) (fun i => .int ((own_by cd cs) i)) ∧ ((cd = 0 ∧ ∀ q : Nat, q < n1 → ¬ (255 : Int32) < cs q) ∨ cd = 1)
set_option maxRecDepth 65536 in
set_option maxHeartbeats 40000000 in
theorem own_rm7 (l : Launch) (Z : State) (a0 : Array Value) (hw : ∀ d ∈ tables_1, d.before a0 Z = true) (ws : List Jvm.Cond) (a1 : Addr) (p_ : Int32) (k1 : ClassId) (n1 : Nat) (cs : Nat → Int32) (h0 : Heap) (n0 : Nat) (Z0 : n0 ≤ h0.size) (q0 : own_A Z h0 a1 k1 .char n1 (fun i => .int (cs i))) (hp : (p_.toInt = (n1 : Int) ∧ 1 ≤ n1 ∧ n1 ≤ 12)) (q2 : Old Z n0 h0) (q3 : Sta Z Z.heap "java/lang/StringUTF16" "$assertionsDisabled" "Z" (.int (1 : Int32))) (q4 : Sta Z Z.heap "java/lang/StringUTF16" "HI_BYTE_SHIFT" "I" (.int (0 : Int32))) (q5 : Sta Z Z.heap "java/lang/StringUTF16" "LO_BYTE_SHIFT" "I" (.int (8 : Int32))) :
    MetFree l own_n7 (head1 (Jvm.Cond.code own_n7 jdk_52_method_16_code 6 (some (.array .byte)) :: ws) ({ frames := 3, cells := 2, slots := 36, locals := 40 } : Room)) (fun a U => a = #[(.ref a1), (.int (0 : Int32)), (.int p_)] ∧ Z.Warmed39 U.vm ∧ U.heap = h0) (fun _ _ _ _ _ => True) (fun _ U o U' => ∃ v L, o = .returned v ∧ own_Q7 Z a1 p_ k1 n1 cs h0 n0 v U'.heap L ∧ FrameEnd U o U' L ({ frames := 3, cells := 2, slots := 36, locals := 40 } : Room).cells ({ frames := 3, cells := 2, slots := 36, locals := 40 } : Room).slots) := by
  refine MetFree.of_bodySF (plainFor_of_name own_pn0) hisR ?_
  intro p e s m args below meth c s₁ Bd hml0 hP hK
  obtain ⟨rfl, hZ, hh⟩ := hP
  have hx := Bd.exec
  have hby := Bd.bytes
  have hml : c.maxLocals = 6 := hml0
  have hown : s.vm.findClass "java/lang/StringUTF16" = some m.cls := findClass_of_methodNamed Bd.named
  have hnm := (name_of_methodNamed Bd.named Bd.method).1
  have hnl : meth.locks = false := Bd.notSynchronized
  have X0 : Stand p l e ({ frames := 3, cells := 2, slots := 36, locals := 40 } : Room) s m #[(.ref a1), (.int (0 : Int32)), (.int p_)] below meth c s₁ [] 0 0 := Stand.of_body Bd
  have e0 : s₁.heap = h0 := by rw [← hh, Bd.state]; rfl
  have N0 := Fr.nil n0
  show own_Go p.tables e below (own_P below s (own_Q7 Z a1 p_ k1 n1 cs h0 n0) ({ frames := 3, cells := 2, slots := 36, locals := 40 } : Room).cells ({ frames := 3, cells := 2, slots := 36, locals := 40 } : Room).slots) _
  refine own_st (fun t_ k_ => castTop (own_ef7 m a1 (0 : Int32) p_) k_) ?_
  refine own_st (fun t_ k_ => XS.iloadN X0.here hx rfl (hb hby own_d7_0) rfl k_) ?_
  show own_at p e below _ s₁ m 1 #[oR a1, oI (0 : Int32), oI p_, oU, oU, oU] [(.int p_)]
  obtain ⟨T121, h121, k121, X121, e121, E121, A121, st121⟩ := newP X0 hx hZ (own_w hw 43 rfl) e0 (g := (mkF m 1 #[oR a1, oI (0 : Int32), oI p_, oU, oU, oU] [(.int p_)])) rfl (hb hby own_d7_1) rfl (own_nn hp.1) (cap := 12) (own_cl hp.1 hp.2.2) (by decide) (by decide) (by decide)
  obtain ⟨b121, g121⟩ : ∃ z, z = h0.size := ⟨_, rfl⟩
  rw [← g121] at A121 st121
  have fr121 : h0.size ≤ b121 := Nat.le_trans (Keep.refl h0 []).1 (Nat.le_of_eq g121.symm)
  have ge121 : n0 ≤ b121 := Nat.le_trans Z0 fr121
  have K121 : Keep h0 h121 [] := (Keep.refl h0 []).ext E121
  have Ar121 : own_A Z h121 b121 k121 .byte n1 (fun i => .int ((fun _ => (0 : Int32)) i)) := own_A.new A121 (own_asN hp.1) (own_nn hp.1) (hn := by omega)
  refine own_st (st121) ?_
  refine own_st (fun t_ k_ => XS.astoreN X121.here hx rfl (hb hby own_d7_3) rfl rfl (l' := #[oR a1, oI (0 : Int32), oI p_, oR b121, oU, oU]) rfl (XS.aloadN X121.here hx rfl (hb hby own_d7_4) rfl rfl (XS.iloadN X121.here hx rfl (hb hby own_d7_5) rfl (XS.aloadN X121.here hx rfl (hb hby own_d7_6) rfl rfl (XS.iconst X121.here hx rfl (hb hby own_d7_7) (XS.iloadN X121.here hx rfl (hb hby own_d7_8) rfl k_)))))) ?_
  show own_at p e below _ T121 m 9 #[oR a1, oI (0 : Int32), oI p_, oR b121, oU, oU] [(.int p_), (.int (0 : Int32)), (.ref b121), (.int (0 : Int32)), (.ref a1)]
  obtain ⟨_, _, ⟨T122, L122, k122, n122⟩, -, X122, ⟨Lc122, hQ122, l122, y122, z122⟩, st122⟩ := Jvm.LawKit.callS X121 hx (y := own_n0) hown (mvT hZ (own_w hw 44 rfl)) (mvT hZ (own_w hw 45 rfl)) (mvT hZ (own_w hw 41 rfl)) (mvT hZ (own_w hw 46 rfl)) (by decide) (backOf (W := 0) (own_rm8 l Z a0 hw [] a1 b121 p_ k1 k121 n1 cs (fun _ => (0 : Int32)) h121 n0 (Nat.le_trans Z0 K121.1) (q0.ext E121) Ar121 ge121 (Nat.ne_of_lt (Nat.lt_of_lt_of_le q0.lt (Nat.le_of_eq g121.symm))) ⟨hp.1, (by omega)⟩) hZ (own_w hw 46 rfl) (own_w hw 41 rfl) (by decide) (by decide)) (g := (mkF m 9 #[oR a1, oI (0 : Int32), oI p_, oR b121, oU, oU] [(.int p_), (.int (0 : Int32)), (.ref b121), (.int (0 : Int32)), (.ref a1)])) rfl (by rw [hml]; rfl) (argsL := [(.ref a1), (.int (0 : Int32)), (.ref b121), (.int (0 : Int32)), (.int p_)]) (rest := []) (lenOf own_pd3 rfl) rfl (own_hW rfl) (hb hby own_d7_9) (fun _ _ => ⟨rfl, e121, (by decide : 1 + 0 ≤ _), (by decide : 12 + 0 ≤ _)⟩)
  dsimp only [Pt.U, Pt.locs, Pt.cells, Pt.slots] at X122 l122 y122 z122 st122 hQ122
  subst y122 z122
  obtain ⟨j_122, rfl, N122q, Kq122, P122_0, P122_1⟩ := hQ122
  have N122 : Fr n0 L122 := by rw [l122]; exact Fr.app N0 N122q
  have K122 : Keep h0 T122.heap [] := K121.trans Kq122 (allS (P := fun x => x ∈ [] ∨ h0.size ≤ x) (Or.inr fr121) all0)
  refine own_st (st122) ?_
  have hj := P122_1
  refine own_st (fun t_ k_ => XS.istore X122.here hx rfl (hb hby own_d7_12) rfl (l' := #[oR a1, oI (0 : Int32), oI p_, oR b121, oI (Int32.ofNat j_122), oU]) rfl (XS.iload X122.here hx rfl (hb hby own_d7_14) rfl (XS.iloadN X122.here hx rfl (hb hby own_d7_16) rfl k_))) ?_
  show own_at p e below _ T122 m 17 #[oR a1, oI (0 : Int32), oI p_, oR b121, oI (Int32.ofNat j_122), oU] [(.int p_), (.int (Int32.ofNat j_122))]
  by_cases c17_123 : (Int32.ofNat j_122) = p_
  · skip
    refine own_st (fun t_ k_ => XS.icmpYes X122.here hx rfl (pc0 := 17) (pc' := 57) rfl (hb hby own_d7_17) rfl (teq c17_123).1 (by decide) (by decide) k_) ?_
    show own_at p e below _ T122 m 57 #[oR a1, oI (0 : Int32), oI p_, oR b121, oI (Int32.ofNat j_122), oU] []
    have ej : j_122 = n1 := own_ofN hp.1 hj.1 c17_123
    have Al : own_A Z T122.heap b121 k121 .byte (own_bl (0 : Int32) n1) (fun i => .int ((own_by (0 : Int32) cs) i)) := by rw [own_bl0]; exact (P122_0).congr (fun q hq => by rw [own_by0]; simp only [own_cb]; rw [if_pos (by omega)])
    refine own_st (fun t_ k_ => XS.aloadN X122.here hx rfl (hb hby own_d7_57) rfl rfl k_) ?_
    show own_at p e below _ T122 m 58 #[oR a1, oI (0 : Int32), oI p_, oR b121, oI (Int32.ofNat j_122), oU] [(.ref b121)]
    exact own_ret (w := (.ref b121)) X122 hx hnl Bd.returns rfl (Or.inr (Or.inr (Or.inr (Or.inr ⟨rfl, rfl, rfl⟩)))) (hb hby own_d7_58) ⟨b121, k121, (0 : Int32), rfl, N122, (K122), fr121, (Al), (Or.inl ⟨rfl, fun q hq => hj.2.1 q (by omega)⟩)⟩ (by decide) (by decide)
  have hjn : j_122 < n1 := own_ofNn hp.1 hj.1 c17_123
  refine own_st (fun t_ k_ => XS.icmpNo X122.here hx rfl (hb hby own_d7_17) rfl (feq c17_123).1 (XS.aloadN X122.here hx rfl (hb hby own_d7_20) rfl rfl (XS.iloadN X122.here hx rfl (hb hby own_d7_21) rfl (XS.iloadN X122.here hx rfl (hb hby own_d7_22) rfl k_)))) ?_
  show own_at p e below _ T122 m 23 #[oR a1, oI (0 : Int32), oI p_, oR b121, oI (Int32.ofNat j_122), oU] [(.int p_), (.int (0 : Int32)), (.ref a1)]
  obtain ⟨_, _, ⟨T124, L124, k124, n124⟩, -, X124, ⟨Lc124, hQ124, l124, y124, z124⟩, st124⟩ := Jvm.LawKit.callS X122 hx (y := own_n6) hown (mvT hZ (own_w hw 138 rfl)) (mvT hZ (own_w hw 139 rfl)) (mvT hZ (own_w hw 41 rfl)) (mvT hZ (own_w hw 140 rfl)) (by decide) (backOf (W := 0) (own_rm26 l Z a0 hw [] a1 p_ k1 n1 cs T122.heap n0 (Nat.le_trans Z0 K122.1) ((q0.ext E121).keep Kq122 (ninS (Nat.ne_of_lt (Nat.lt_of_lt_of_le q0.lt (Nat.le_of_eq g121.symm))) nin0)) ⟨hp.1, (by omega)⟩ ((q2.ext E121).keep Kq122 (allS ge121 all0)) q3 q4 q5) hZ (own_w hw 140 rfl) (own_w hw 41 rfl) (by decide) (by decide)) (g := (mkF m 23 #[oR a1, oI (0 : Int32), oI p_, oR b121, oI (Int32.ofNat j_122), oU] [(.int p_), (.int (0 : Int32)), (.ref a1)])) rfl (by rw [hml]; rfl) (argsL := [(.ref a1), (.int (0 : Int32)), (.int p_)]) (rest := []) (lenOf own_pd4 rfl) rfl (own_hW rfl) (hb hby own_d7_23) (fun _ _ => ⟨rfl, rfl, (by decide : 1 + 1 ≤ _), (by decide : 12 + 24 ≤ _)⟩)
  dsimp only [Pt.U, Pt.locs, Pt.cells, Pt.slots] at X124 l124 y124 z124 st124 hQ124
  subst y124 z124
  obtain ⟨t_124, kt_124, rfl, N124q, Kq124, P124_0, P124_1⟩ := hQ124
  have N124 : Fr n0 L124 := by rw [l124]; exact Fr.app N122 N124q
  have K124 : Keep h0 T124.heap [] := K122.trans Kq124 all0
  have fr124_0 : h0.size ≤ t_124 := Nat.le_trans K122.1 P124_0
  have ge124_0 : n0 ≤ t_124 := Nat.le_trans Z0 fr124_0
  refine own_st (st124) ?_
  refine own_st (fun t_ k_ => XS.astore X124.here hx rfl (hb hby own_d7_26) rfl rfl (l' := #[oR a1, oI (0 : Int32), oI p_, oR b121, oI (Int32.ofNat j_122), oR t_124]) rfl (XS.aload X124.here hx rfl (hb hby own_d7_28) rfl rfl (XS.iload X124.here hx rfl (hb hby own_d7_30) rfl k_))) ?_
  show own_at p e below _ T124 m 32 #[oR a1, oI (0 : Int32), oI p_, oR b121, oI (Int32.ofNat j_122), oR t_124] [(.int (Int32.ofNat j_122)), (.ref t_124)]
  obtain ⟨_, _, ⟨T125, L125, k125, n125⟩, -, X125, ⟨Lc125, hQ125, l125, y125, z125⟩, st125⟩ := Jvm.LawKit.callS X124 hx (y := own_n5) hown (mvT hZ (own_w hw 154 rfl)) (mvT hZ (own_w hw 155 rfl)) (mvT hZ (own_w hw 41 rfl)) (mvT hZ (own_w hw 156 rfl)) (by decide) (backOf (W := 0) (own_rm30 l Z a0 hw [] t_124 (Int32.ofNat j_122) kt_124 (n1 + n1) (own_u16 cs) j_122 (cs j_122) T124.heap n0 (Nat.le_trans Z0 K124.1) (((q2.ext E121).keep Kq122 (allS ge121 all0)).keep Kq124 all0) q3 q4 q5 P124_1 ⟨(own_toN (by omega)), (by omega), (by omega)⟩ ⟨(own_char (q0.fit hjn)).1, (own_char (q0.fit hjn)).2, (own_u16e cs _), (own_u16o cs _)⟩) hZ (own_w hw 156 rfl) (own_w hw 41 rfl) (by decide) (by decide)) (g := (mkF m 32 #[oR a1, oI (0 : Int32), oI p_, oR b121, oI (Int32.ofNat j_122), oR t_124] [(.int (Int32.ofNat j_122)), (.ref t_124)])) rfl (by rw [hml]; rfl) (argsL := [(.ref t_124), (.int (Int32.ofNat j_122))]) (rest := []) (lenOf own_pd5 rfl) rfl (own_hW rfl) (hb hby own_d7_32) (fun _ _ => ⟨rfl, rfl, (by decide : 2 + 0 ≤ _), (by decide : 36 + 0 ≤ _)⟩)
  dsimp only [Pt.U, Pt.locs, Pt.cells, Pt.slots] at X125 l125 y125 z125 st125 hQ125
  subst y125 z125
  obtain ⟨rfl, N125q, eq125⟩ := hQ125
  have N125 : Fr n0 L125 := by rw [l125]; exact Fr.app N124 N125q
  refine own_st (st125) ?_
  refine own_st (fun t_ k_ => XS.sipush X125.here hx rfl (hb hby own_d7_35) (XS.icmpYes X125.here hx rfl (pc0 := 38) (pc' := 54) rfl (hb hby own_d7_38) rfl (tlt (hj.2.2 hjn : (255 : Int32) < (cs j_122))).2.2.1 (by decide) (by decide) k_)) ?_
  show own_at p e below _ T125 m 54 #[oR a1, oI (0 : Int32), oI p_, oR b121, oI (Int32.ofNat j_122), oR t_124] []
  have Al : own_A Z T124.heap t_124 kt_124 .byte (own_bl (1 : Int32) n1) (fun i => .int ((own_by (1 : Int32) cs) i)) := by rw [own_bl1]; exact (P124_1).congr (fun q hq => by rw [own_by1])
  refine own_st (fun t_ k_ => XS.aload X125.here hx rfl (hb hby own_d7_54) rfl rfl k_) ?_
  show own_at p e below _ T125 m 56 #[oR a1, oI (0 : Int32), oI p_, oR b121, oI (Int32.ofNat j_122), oR t_124] [(.ref t_124)]
  exact own_ret (w := (.ref t_124)) X125 hx hnl Bd.returns rfl (Or.inr (Or.inr (Or.inr (Or.inr ⟨rfl, rfl, rfl⟩)))) (hb hby own_d7_56) ⟨t_124, kt_124, (1 : Int32), rfl, N125, (by rw [eq125]; exact K124), fr124_0, (by rw [eq125]; exact Al), (Or.inr rfl)⟩ (by decide) (by decide)

theorem own_d5_0 : decode jdk_42_method_149_code 0 = .ok (.aload_n 0, 1) := by decide +kernel
theorem own_d5_1 : decode jdk_42_method_149_code 1 = .ok (.invokespecial 1, 3) := by decide +kernel
theorem own_d5_4 : decode jdk_42_method_149_code 4 = .ok (.iload_n 3, 1) := by decide +kernel
theorem own_d5_5 : decode jdk_42_method_149_code 5 = .ok (.ifCond .ne 22, 3) := by decide +kernel
theorem own_d5_27 : decode jdk_42_method_149_code 27 = .ok (.getstatic 38, 3) := by decide +kernel
theorem own_d5_30 : decode jdk_42_method_149_code 30 = .ok (.ifCond .eq 28, 3) := by decide +kernel
theorem own_d5_33 : decode jdk_42_method_149_code 33 = .ok (.aload_n 1, 1) := by decide +kernel
theorem own_d5_34 : decode jdk_42_method_149_code 34 = .ok (.iload_n 2, 1) := by decide +kernel
theorem own_d5_35 : decode jdk_42_method_149_code 35 = .ok (.iload_n 3, 1) := by decide +kernel
theorem own_d5_36 : decode jdk_42_method_149_code 36 = .ok (.invokestatic 177, 3) := by decide +kernel
theorem own_d5_39 : decode jdk_42_method_149_code 39 = .ok (.astore 5, 2) := by decide +kernel
theorem own_d5_41 : decode jdk_42_method_149_code 41 = .ok (.aload_n 0, 1) := by decide +kernel
theorem own_d5_42 : decode jdk_42_method_149_code 42 = .ok (.aload 5, 2) := by decide +kernel
theorem own_d5_44 : decode jdk_42_method_149_code 44 = .ok (.iload_n 3, 1) := by decide +kernel
theorem own_d5_45 : decode jdk_42_method_149_code 45 = .ok (.invokestatic 47, 3) := by decide +kernel
theorem own_d5_48 : decode jdk_42_method_149_code 48 = .ok (.putfield 15, 3) := by decide +kernel
theorem own_d5_51 : decode jdk_42_method_149_code 51 = .ok (.aload_n 0, 1) := by decide +kernel
theorem own_d5_52 : decode jdk_42_method_149_code 52 = .ok (.aload 5, 2) := by decide +kernel
theorem own_d5_54 : decode jdk_42_method_149_code 54 = .ok (.putfield 9, 3) := by decide +kernel
theorem own_d5_57 : decode jdk_42_method_149_code 57 = .ok (.return_, 1) := by decide +kernel
theorem own_pn1 : plainName "java/lang/String" = true := by first | (simp [plainName, overriddenIn]; done) | decide +kernel
theorem own_pd6 : parseMethodDescriptor "([BI)B" = some ⟨[(.array .byte), .int], some .byte⟩ := by decide +kernel
theorem own_ef5 (m : MethodId) (x0 : Addr) (x1 : Addr) (x2 : Int32) (x3 : Int32) : entryFrame m #[(.ref x0), (.ref x1), (.int x2), (.int x3), .null] 6 = mkF m 0 #[.val (.ref x0), .val (.ref x1), .val (.int x2), .val (.int x3), .val .null, .unset] [] := by first | (simp [entryFrame, mkF, argsToLocals, Value.category]; done) | rfl
def own_Q5 (Z : State) (a1 : Addr) (b1 : Addr) (p_ : Int32) (k1 : ClassId) (n1 : Nat) (cs : Nat → Int32) (G1 : Int32) (h0 : Heap) (n0 : Nat) (v : Option Value) (h : Heap) (L : List Loc) : Prop := ∃ (t : Addr) (kt : ClassId) (cd : Int32), v = none ∧ Fr n0 L ∧ Keep h0 h [a1] ∧ h0.size ≤ t ∧ Fld Z h a1 "java/lang/String" "value" "[B" (.ref t) ∧ Fld Z h a1 "java/lang/String" "coder" "B" (.int cd) ∧ own_A Z h t kt .byte (own_bl cd n1) (fun i => .int ((own_by cd cs) i)) ∧ ((cd = 0 ∧ ∀ q : Nat, q < n1 → ¬ (255 : Int32) < cs q) ∨ cd = 1)
set_option maxRecDepth 65536 in
set_option maxHeartbeats 40000000 in
theorem own_rm5 (l : Launch) (Z : State) (a0 : Array Value) (hw : ∀ d ∈ tables_1, d.before a0 Z = true) (ws : List Jvm.Cond) (a1 : Addr) (b1 : Addr) (p_ : Int32) (k1 : ClassId) (n1 : Nat) (cs : Nat → Int32) (G1 : Int32) (h0 : Heap) (n0 : Nat) (Z0 : n0 ≤ h0.size) (q0 : Exa Z h0 a1 "java/lang/String") (q1 : Fld Z h0 a1 "java/lang/String" "value" "[B" .null) (q2 : Fld Z h0 a1 "java/lang/String" "coder" "B" (.int (0 : Int32))) (q3 : own_A Z h0 b1 k1 .char n1 (fun i => .int (cs i))) (q4 : n0 ≤ a1) (hne : (a1 ≠ b1)) (hp : (p_.toInt = (n1 : Int) ∧ 1 ≤ n1 ∧ n1 ≤ 12)) (q7 : Old Z n0 h0) (q8 : Sta Z Z.heap "java/lang/String" "COMPACT_STRINGS" "Z" (.int G1)) (hG1 : (¬ G1 = (0 : Int32))) (q10 : Sta Z Z.heap "java/lang/StringUTF16" "$assertionsDisabled" "Z" (.int (1 : Int32))) (q11 : Sta Z Z.heap "java/lang/StringUTF16" "HI_BYTE_SHIFT" "I" (.int (0 : Int32))) (q12 : Sta Z Z.heap "java/lang/StringUTF16" "LO_BYTE_SHIFT" "I" (.int (8 : Int32))) :
    MetFree l own_n8 (head1 (Jvm.Cond.code own_n8 jdk_42_method_149_code 6 none :: ws) ({ frames := 4, cells := 2, slots := 36, locals := 57 } : Room)) (fun a U => a = #[(.ref a1), (.ref b1), (.int (0 : Int32)), (.int p_), .null] ∧ Z.Warmed39 U.vm ∧ U.heap = h0) (fun _ _ _ _ _ => True) (fun _ U o U' => ∃ v L, o = .returned v ∧ own_Q5 Z a1 b1 p_ k1 n1 cs G1 h0 n0 v U'.heap L ∧ FrameEnd U o U' L ({ frames := 4, cells := 2, slots := 36, locals := 57 } : Room).cells ({ frames := 4, cells := 2, slots := 36, locals := 57 } : Room).slots) := by
  refine MetFree.of_bodySF (plainFor_of_name own_pn1) hisR ?_
  intro p e s m args below meth c s₁ Bd hml0 hP hK
  obtain ⟨rfl, hZ, hh⟩ := hP
  have hx := Bd.exec
  have hby := Bd.bytes
  have hml : c.maxLocals = 6 := hml0
  have hown : s.vm.findClass "java/lang/String" = some m.cls := findClass_of_methodNamed Bd.named
  have hnm := (name_of_methodNamed Bd.named Bd.method).1
  have hnl : meth.locks = false := Bd.notSynchronized
  have X0 : Stand p l e ({ frames := 4, cells := 2, slots := 36, locals := 57 } : Room) s m #[(.ref a1), (.ref b1), (.int (0 : Int32)), (.int p_), .null] below meth c s₁ [] 0 0 := Stand.of_body Bd
  have e0 : s₁.heap = h0 := by rw [← hh, Bd.state]; rfl
  have N0 := Fr.nil n0
  show own_Go p.tables e below (own_P below s (own_Q5 Z a1 b1 p_ k1 n1 cs G1 h0 n0) ({ frames := 4, cells := 2, slots := 36, locals := 57 } : Room).cells ({ frames := 4, cells := 2, slots := 36, locals := 57 } : Room).slots) _
  refine own_st (fun t_ k_ => castTop (own_ef5 m a1 b1 (0 : Int32) p_) k_) ?_
  refine own_st (fun t_ k_ => XS.aloadN X0.here hx rfl (hb hby own_d5_0) rfl rfl k_) ?_
  show own_at p e below _ s₁ m 1 #[oR a1, oR b1, oI (0 : Int32), oI p_, oN, oU] [(.ref a1)]
  obtain ⟨T126, X126, e126, st126⟩ := initO X0 hx hZ hown (own_w hw 35 rfl) (own_w hw 36 rfl) (own_w hw 37 rfl) e0 (g := (mkF m 1 #[oR a1, oR b1, oI (0 : Int32), oI p_, oN, oU] [(.ref a1)])) rfl (by rw [hml]; rfl) rfl (hb hby own_d5_1) (by decide) (W := 0) (own_hW rfl) (by decide)
  refine own_st (st126) ?_
  refine own_st (fun t_ k_ => XS.iloadN X126.here hx rfl (hb hby own_d5_4) rfl (XS.ifYes X126.here hx rfl (pc0 := 5) (pc' := 27) rfl (hb hby own_d5_5) rfl ((if0 _ _).trans (feq (own_nz hp.1 hp.2.1)).2) (by decide) (by decide) k_)) ?_
  show own_at p e below _ T126 m 27 #[oR a1, oR b1, oI (0 : Int32), oI p_, oN, oU] []
  obtain ⟨T127, X127, e127, st127⟩ := getS2 X126 hx hZ hown (host := "") (Or.inl (own_w hw 38 rfl)) Via.refl e126 (q8.ext q7.2) (g := (mkF m 27 #[oR a1, oR b1, oI (0 : Int32), oI p_, oN, oU] [])) rfl (hb hby own_d5_27)
  refine own_st (st127) ?_
  refine own_st (fun t_ k_ => XS.ifNo X127.here hx rfl (hb hby own_d5_30) rfl ((if0 _ _).trans (feq hG1).1) (XS.aloadN X127.here hx rfl (hb hby own_d5_33) rfl rfl (XS.iloadN X127.here hx rfl (hb hby own_d5_34) rfl (XS.iloadN X127.here hx rfl (hb hby own_d5_35) rfl k_)))) ?_
  show own_at p e below _ T127 m 36 #[oR a1, oR b1, oI (0 : Int32), oI p_, oN, oU] [(.int p_), (.int (0 : Int32)), (.ref b1)]
  obtain ⟨_, _, ⟨T128, L128, k128, n128⟩, -, X128, ⟨Lc128, hQ128, l128, y128, z128⟩, st128⟩ := Jvm.LawKit.callS X127 hx (y := own_n7) hown (mvT hZ (own_w hw 39 rfl)) (mvT hZ (own_w hw 40 rfl)) (mvT hZ (own_w hw 41 rfl)) (mvT hZ (own_w hw 42 rfl)) (by decide) (backOf (W := 0) (own_rm7 l Z a0 hw [] b1 p_ k1 n1 cs h0 n0 (Nat.le_trans Z0 (Keep.refl h0 [a1]).1) q3 ⟨hp.1, hp.2.1, hp.2.2⟩ q7 q10 q11 q12) hZ (own_w hw 42 rfl) (own_w hw 41 rfl) (by decide) (by decide)) (g := (mkF m 36 #[oR a1, oR b1, oI (0 : Int32), oI p_, oN, oU] [(.int p_), (.int (0 : Int32)), (.ref b1)])) rfl (by rw [hml]; rfl) (argsL := [(.ref b1), (.int (0 : Int32)), (.int p_)]) (rest := []) (lenOf own_pd4 rfl) rfl (own_hW rfl) (hb hby own_d5_36) (fun _ _ => ⟨rfl, e127, (by decide : 0 + 2 ≤ _), (by decide : 0 + 36 ≤ _)⟩)
  dsimp only [Pt.U, Pt.locs, Pt.cells, Pt.slots] at X128 l128 y128 z128 st128 hQ128
  subst y128 z128
  obtain ⟨t_128, kt_128, cd_128, rfl, N128q, Kq128, P128_0, P128_1, P128_2⟩ := hQ128
  have N128 : Fr n0 L128 := by rw [l128]; exact Fr.app N0 N128q
  have K128 : Keep h0 T128.heap [a1] := (Keep.refl h0 [a1]).trans Kq128 all0
  have fr128_0 : h0.size ≤ t_128 := Nat.le_trans (Keep.refl h0 [a1]).1 P128_0
  have ge128_0 : n0 ≤ t_128 := Nat.le_trans Z0 fr128_0
  refine own_st (st128) ?_
  refine own_st (fun t_ k_ => XS.astore X128.here hx rfl (hb hby own_d5_39) rfl rfl (l' := #[oR a1, oR b1, oI (0 : Int32), oI p_, oN, oR t_128]) rfl (XS.aloadN X128.here hx rfl (hb hby own_d5_41) rfl rfl (XS.aload X128.here hx rfl (hb hby own_d5_42) rfl rfl (XS.iloadN X128.here hx rfl (hb hby own_d5_44) rfl k_)))) ?_
  show own_at p e below _ T128 m 45 #[oR a1, oR b1, oI (0 : Int32), oI p_, oN, oR t_128] [(.int p_), (.ref t_128), (.ref a1)]
  obtain ⟨_, _, ⟨T129, L129, k129, n129⟩, -, X129, ⟨Lc129, hQ129, l129, y129, z129⟩, st129⟩ := Jvm.LawKit.callS X128 hx (y := own_n1) hown (mvT hZ (own_w hw 47 rfl)) (mvT hZ (own_w hw 48 rfl)) (mvT hZ (own_w hw 41 rfl)) (mvT hZ (own_w hw 49 rfl)) (by decide) (backOf (W := 1) (own_rm9 l Z a0 hw [] t_128 p_ kt_128 cd_128 n1 (own_by cd_128 cs) T128.heap n0 (Nat.le_trans Z0 K128.1) P128_1 (own_c01 P128_2) ⟨hp.1, hp.2.1, (by omega)⟩) hZ (own_w hw 49 rfl) (own_w hw 41 rfl) (by decide) (by decide)) (g := (mkF m 45 #[oR a1, oR b1, oI (0 : Int32), oI p_, oN, oR t_128] [(.int p_), (.ref t_128), (.ref a1)])) rfl (by rw [hml]; rfl) (argsL := [(.ref t_128), (.int p_)]) (rest := [(.ref a1)]) (lenOf own_pd6 rfl) rfl (own_hW rfl) (hb hby own_d5_45) (fun _ _ => ⟨rfl, rfl, (by decide : 2 + 0 ≤ _), (by decide : 36 + 0 ≤ _)⟩)
  dsimp only [Pt.U, Pt.locs, Pt.cells, Pt.slots] at X129 l129 y129 z129 st129 hQ129
  subst y129 z129
  obtain ⟨rfl, N129q, eq129⟩ := hQ129
  have N129 : Fr n0 L129 := by rw [l129]; exact Fr.app N128 N129q
  refine own_st (st129) ?_
  obtain ⟨T130, h130, X130, e130, W130, st130⟩ := putFN X129 hx hZ hown (own_w hw 50 rfl) Via.refl eq129 (q2.keep Kq128 nin0) (q0.keep Kq128) (Or.inr ⟨(own_w hw 51 rfl), rfl, hnm⟩) (own_w hw 26 rfl) (ty := .byte) (v' := (.int cd_128)) (by decide) (own_nw01 (own_c01 P128_2)) (own_f01 (own_c01 P128_2)) (g := (mkF m 48 #[oR a1, oR b1, oI (0 : Int32), oI p_, oN, oR t_128] [(.int cd_128), (.ref a1)])) rfl rfl (hb hby own_d5_48)
  have Fw130 : Fld Z h130 a1 "java/lang/String" "coder" "B" (.int cd_128) := (q2.keep Kq128 nin0).same W130
  have N130 := Fr.snoc X130 N129 q4
  have K130 : Keep h0 h130 [a1] := K128.wr W130 (Or.inl (List.mem_of_getElem? (i := 0) rfl))
  refine own_st (st130) ?_
  refine own_st (fun t_ k_ => XS.aloadN X130.here hx rfl (hb hby own_d5_51) rfl rfl (XS.aload X130.here hx rfl (hb hby own_d5_52) rfl rfl k_)) ?_
  show own_at p e below _ T130 m 54 #[oR a1, oR b1, oI (0 : Int32), oI p_, oN, oR t_128] [(.ref t_128), (.ref a1)]
  have f131 : Fld Z h130 a1 "java/lang/String" "value" "[B" .null := ((q1.keep Kq128 nin0).other W130 (Or.inr (slot_ne (Or.inr (own_w hw 53 rfl)) (Or.inr (own_w hw 51 rfl)) (by decide) (t := (.array .byte)) (t' := .byte) (by decide) (by decide))))
  obtain ⟨T132, h132, X132, e132, W132, st132⟩ := putF X130 hx hZ hown (host := "") (Or.inl (own_w hw 52 rfl)) Via.refl e130 f131 ((q0.keep Kq128).wr W130) (Or.inr ⟨(own_w hw 53 rfl), rfl, hnm⟩) (own_w hw 26 rfl) (ty := (.array .byte)) (by decide) rfl rfl (g := (mkF m 54 #[oR a1, oR b1, oI (0 : Int32), oI p_, oN, oR t_128] [(.ref t_128), (.ref a1)])) rfl rfl (hb hby own_d5_54)
  have Fw132 : Fld Z h132 a1 "java/lang/String" "value" "[B" (.ref t_128) := f131.same W132
  have N132 := Fr.snoc X132 N130 q4
  have K132 : Keep h0 h132 [a1] := K130.wr W132 (Or.inl (List.mem_of_getElem? (i := 0) rfl))
  refine own_st (st132) ?_
  have f133 : Fld Z h132 a1 "java/lang/String" "coder" "B" (.int cd_128) := (Fw130.other W132 (Or.inr (slot_ne (Or.inr (own_w hw 51 rfl)) (Or.inr (own_w hw 53 rfl)) (by decide) (t := .byte) (t' := (.array .byte)) (by decide) (by decide))))
  have f134 : own_A Z h132 t_128 kt_128 .byte (own_bl cd_128 n1) (fun i => .int ((own_by cd_128 cs) i)) := ((P128_1.other W130 (Ne.symm (Nat.ne_of_lt (Nat.lt_of_lt_of_le q0.lt P128_0)))).other W132 (Ne.symm (Nat.ne_of_lt (Nat.lt_of_lt_of_le q0.lt P128_0))))
  show own_at p e below _ T132 m 57 #[oR a1, oR b1, oI (0 : Int32), oI p_, oN, oR t_128] []
  exact own_ret0 X132 hx hnl Bd.returns (hb hby own_d5_57) ⟨t_128, kt_128, cd_128, rfl, N132, (by rw [e132]; exact K132), fr128_0, (by rw [e132]; exact Fw132), (by rw [e132]; exact f133), (by rw [e132]; exact f134), P128_2⟩ (by decide) (by decide)

theorem own_d4_0 : decode jdk_42_method_3_code 0 = .ok (.aload_n 0, 1) := by decide +kernel
theorem own_d4_1 : decode jdk_42_method_3_code 1 = .ok (.aload_n 1, 1) := by decide +kernel
theorem own_d4_2 : decode jdk_42_method_3_code 2 = .ok (.iconst 0, 1) := by decide +kernel
theorem own_d4_3 : decode jdk_42_method_3_code 3 = .ok (.aload_n 1, 1) := by decide +kernel
theorem own_d4_4 : decode jdk_42_method_3_code 4 = .ok (.arraylength, 1) := by decide +kernel
theorem own_d4_5 : decode jdk_42_method_3_code 5 = .ok (.aconst_null, 1) := by decide +kernel
theorem own_d4_6 : decode jdk_42_method_3_code 6 = .ok (.invokespecial 27, 3) := by decide +kernel
theorem own_d4_9 : decode jdk_42_method_3_code 9 = .ok (.return_, 1) := by decide +kernel
theorem own_pd7 : parseMethodDescriptor "([CIILjava/lang/Void;)V" = some ⟨[(.array .char), .int, .int, (.object "java/lang/Void")], none⟩ := by decide +kernel
theorem own_ef4 (m : MethodId) (x0 : Addr) (x1 : Addr) : entryFrame m #[(.ref x0), (.ref x1)] 2 = mkF m 0 #[.val (.ref x0), .val (.ref x1)] [] := by first | (simp [entryFrame, mkF, argsToLocals, Value.category]; done) | rfl
def own_Q4 (Z : State) (a1 : Addr) (b1 : Addr) (k1 : ClassId) (n1 : Nat) (cs : Nat → Int32) (G1 : Int32) (h0 : Heap) (n0 : Nat) (v : Option Value) (h : Heap) (L : List Loc) : Prop := ∃ (t : Addr) (kt : ClassId) (cd : Int32), v = none ∧ Fr n0 L ∧ Keep h0 h [a1] ∧ h0.size ≤ t ∧ Fld Z h a1 "java/lang/String" "value" "[B" (.ref t) ∧ Fld Z h a1 "java/lang/String" "coder" "B" (.int cd) ∧ own_A Z h t kt .byte (own_bl cd n1) (fun i => .int ((own_by cd cs) i)) ∧ ((cd = 0 ∧ ∀ q : Nat, q < n1 → ¬ (255 : Int32) < cs q) ∨ cd = 1)
set_option maxRecDepth 65536 in
set_option maxHeartbeats 40000000 in
theorem own_rm4 (l : Launch) (Z : State) (a0 : Array Value) (hw : ∀ d ∈ tables_1, d.before a0 Z = true) (ws : List Jvm.Cond) (a1 : Addr) (b1 : Addr) (k1 : ClassId) (n1 : Nat) (cs : Nat → Int32) (G1 : Int32) (h0 : Heap) (n0 : Nat) (Z0 : n0 ≤ h0.size) (q0 : Exa Z h0 a1 "java/lang/String") (q1 : Fld Z h0 a1 "java/lang/String" "value" "[B" .null) (q2 : Fld Z h0 a1 "java/lang/String" "coder" "B" (.int (0 : Int32))) (q3 : own_A Z h0 b1 k1 .char n1 (fun i => .int (cs i))) (q4 : n0 ≤ a1) (hne : (a1 ≠ b1)) (hn : (1 ≤ n1 ∧ n1 ≤ 12)) (q7 : Old Z n0 h0) (q8 : Sta Z Z.heap "java/lang/String" "COMPACT_STRINGS" "Z" (.int G1)) (hG1 : (¬ G1 = (0 : Int32))) (q10 : Sta Z Z.heap "java/lang/StringUTF16" "$assertionsDisabled" "Z" (.int (1 : Int32))) (q11 : Sta Z Z.heap "java/lang/StringUTF16" "HI_BYTE_SHIFT" "I" (.int (0 : Int32))) (q12 : Sta Z Z.heap "java/lang/StringUTF16" "LO_BYTE_SHIFT" "I" (.int (8 : Int32))) :
    MetFree l own_n9 (head1 (Jvm.Cond.code own_n9 jdk_42_method_3_code 2 none :: ws) ({ frames := 5, cells := 2, slots := 36, locals := 74 } : Room)) (fun a U => a = #[(.ref a1), (.ref b1)] ∧ Z.Warmed39 U.vm ∧ U.heap = h0) (fun _ _ _ _ _ => True) (fun _ U o U' => ∃ v L, o = .returned v ∧ own_Q4 Z a1 b1 k1 n1 cs G1 h0 n0 v U'.heap L ∧ FrameEnd U o U' L ({ frames := 5, cells := 2, slots := 36, locals := 74 } : Room).cells ({ frames := 5, cells := 2, slots := 36, locals := 74 } : Room).slots) := by
  refine MetFree.of_bodySF (plainFor_of_name own_pn1) hisR ?_
  intro p e s m args below meth c s₁ Bd hml0 hP hK
  obtain ⟨rfl, hZ, hh⟩ := hP
  have hx := Bd.exec
  have hby := Bd.bytes
  have hml : c.maxLocals = 2 := hml0
  have hown : s.vm.findClass "java/lang/String" = some m.cls := findClass_of_methodNamed Bd.named
  have hnm := (name_of_methodNamed Bd.named Bd.method).1
  have hnl : meth.locks = false := Bd.notSynchronized
  have X0 : Stand p l e ({ frames := 5, cells := 2, slots := 36, locals := 74 } : Room) s m #[(.ref a1), (.ref b1)] below meth c s₁ [] 0 0 := Stand.of_body Bd
  have e0 : s₁.heap = h0 := by rw [← hh, Bd.state]; rfl
  have N0 := Fr.nil n0
  show own_Go p.tables e below (own_P below s (own_Q4 Z a1 b1 k1 n1 cs G1 h0 n0) ({ frames := 5, cells := 2, slots := 36, locals := 74 } : Room).cells ({ frames := 5, cells := 2, slots := 36, locals := 74 } : Room).slots) _
  refine own_st (fun t_ k_ => castTop (own_ef4 m a1 b1) k_) ?_
  have hp : (Int32.ofNat n1).toInt = (n1 : Int) ∧ 1 ≤ n1 ∧ n1 ≤ 12 := ⟨own_toN (by omega), hn.1, hn.2⟩
  refine own_st (fun t_ k_ => XS.aloadN X0.here hx rfl (hb hby own_d4_0) rfl rfl (XS.aloadN X0.here hx rfl (hb hby own_d4_1) rfl rfl (XS.iconst X0.here hx rfl (hb hby own_d4_2) (XS.aloadN X0.here hx rfl (hb hby own_d4_3) rfl rfl k_)))) ?_
  show own_at p e below _ s₁ m 4 #[oR a1, oR b1] [(.ref b1), (.int (0 : Int32)), (.ref b1), (.ref a1)]
  refine own_st (own_len X0 hx hZ e0 q3 (g := (mkF m 4 #[oR a1, oR b1] [(.ref b1), (.int (0 : Int32)), (.ref b1), (.ref a1)])) rfl rfl (hb hby own_d4_4)) ?_
  refine own_st (fun t_ k_ => XS.aconstNull X0.here hx rfl (hb hby own_d4_5) k_) ?_
  show own_at p e below _ s₁ m 6 #[oR a1, oR b1] [.null, (.int (Int32.ofNat n1)), (.int (0 : Int32)), (.ref b1), (.ref a1)]
  obtain ⟨_, _, ⟨T135, L135, k135, n135⟩, -, X135, ⟨Lc135, hQ135, l135, y135, z135⟩, st135⟩ := X0.specialBack hx (y := own_n8) rfl hown (mvT hZ (own_w hw 31 rfl)) (mvT hZ (own_w hw 32 rfl)) (mvT hZ (own_w hw 34 rfl)) (by decide) (backOf (W := 0) (own_rm5 l Z a0 hw [] a1 b1 (Int32.ofNat n1) k1 n1 cs G1 h0 n0 (Nat.le_trans Z0 (Keep.refl h0 [a1]).1) q0 q1 q2 q3 q4 hne ⟨hp.1, hp.2.1, hp.2.2⟩ q7 q8 hG1 q10 q11 q12) hZ (own_w hw 34 rfl) (own_w hw 27 rfl) (by decide) (by decide)) (g := (mkF m 6 #[oR a1, oR b1] [.null, (.int (Int32.ofNat n1)), (.int (0 : Int32)), (.ref b1), (.ref a1)])) rfl (by rw [hml]; rfl) (Steps.refl _) (a := a1) (argsL := [(.ref b1), (.int (0 : Int32)), (.int (Int32.ofNat n1)), .null]) (rest := []) (lenOf own_pd7 rfl) rfl (own_hW rfl) (hb hby own_d4_6) (fun _ _ => ⟨rfl, e0, (by decide : 0 + 2 ≤ _), (by decide : 0 + 36 ≤ _)⟩)
  dsimp only [Pt.U, Pt.locs, Pt.cells, Pt.slots] at X135 l135 y135 z135 st135 hQ135
  subst y135 z135
  obtain ⟨t_135, kt_135, cd_135, rfl, N135q, Kq135, P135_0, P135_1, P135_2, P135_3, P135_4⟩ := hQ135
  have N135 : Fr n0 L135 := by rw [l135]; exact Fr.app N0 N135q
  have K135 : Keep h0 T135.heap [a1] := (Keep.refl h0 [a1]).trans Kq135 (allS (P := fun x => x ∈ [a1] ∨ h0.size ≤ x) (Or.inl (List.mem_of_getElem? (i := 0) rfl)) all0)
  have fr135_0 : h0.size ≤ t_135 := Nat.le_trans (Keep.refl h0 [a1]).1 P135_0
  have ge135_0 : n0 ≤ t_135 := Nat.le_trans Z0 fr135_0
  refine own_tr st135 ?_
  show own_at p e below _ T135 m 9 #[oR a1, oR b1] []
  exact own_ret0 X135 hx hnl Bd.returns (hb hby own_d4_9) ⟨t_135, kt_135, cd_135, rfl, N135, (K135), fr135_0, (P135_1), (P135_2), (P135_3), P135_4⟩ (by decide) (by decide)

theorem own_d5_8 : decode jdk_42_method_149_code 8 = .ok (.aload_n 0, 1) := by decide +kernel
theorem own_d5_9 : decode jdk_42_method_149_code 9 = .ok (.ldc 7, 2) := by decide +kernel
theorem own_d5_11 : decode jdk_42_method_149_code 11 = .ok (.getfield 9, 3) := by decide +kernel
theorem own_d5_14 : decode jdk_42_method_149_code 14 = .ok (.putfield 9, 3) := by decide +kernel
theorem own_d5_17 : decode jdk_42_method_149_code 17 = .ok (.aload_n 0, 1) := by decide +kernel
theorem own_d5_18 : decode jdk_42_method_149_code 18 = .ok (.ldc 7, 2) := by decide +kernel
theorem own_d5_20 : decode jdk_42_method_149_code 20 = .ok (.getfield 15, 3) := by decide +kernel
theorem own_d5_23 : decode jdk_42_method_149_code 23 = .ok (.putfield 15, 3) := by decide +kernel
theorem own_d5_26 : decode jdk_42_method_149_code 26 = .ok (.return_, 1) := by decide +kernel
theorem own_ef5e (m : MethodId) (x0 : Addr) (x1 : Addr) (x2 : Int32) (x3 : Int32) : entryFrame m #[(.ref x0), (.ref x1), (.int x2), (.int x3), .null] 6 = mkF m 0 #[.val (.ref x0), .val (.ref x1), .val (.int x2), .val (.int x3), .val .null, .unset] [] := by first | (simp [entryFrame, mkF, argsToLocals, Value.category]; done) | rfl
def own_Q5e (Z : State) (a1 : Addr) (b1 : Addr) (k1 : ClassId) (cs : Nat → Int32) (h0 : Heap) (n0 : Nat) (v : Option Value) (h : Heap) (L : List Loc) : Prop := ∃ (t : Addr) (kt : ClassId), v = none ∧ Fr n0 L ∧ Keep h0 h [a1] ∧ Fld Z h a1 "java/lang/String" "value" "[B" (.ref t) ∧ Fld Z h a1 "java/lang/String" "coder" "B" (.int (0 : Int32)) ∧ own_A Z h t kt .byte (own_bl (0 : Int32) 0) (fun i => .int ((own_by (0 : Int32) cs) i))
set_option maxRecDepth 65536 in
set_option maxHeartbeats 40000000 in
theorem own_rm5e (l : Launch) (Z : State) (a0 : Array Value) (hw : ∀ d ∈ tables_1, d.before a0 Z = true) (ws : List Jvm.Cond) (a1 : Addr) (b1 : Addr) (k1 : ClassId) (cs : Nat → Int32) (h0 : Heap) (n0 : Nat) (Z0 : n0 ≤ h0.size) (q0 : Exa Z h0 a1 "java/lang/String") (q1 : Fld Z h0 a1 "java/lang/String" "value" "[B" .null) (q2 : Fld Z h0 a1 "java/lang/String" "coder" "B" (.int (0 : Int32))) (q3 : own_A Z h0 b1 k1 .char 0 (fun i => .int (cs i))) (q4 : n0 ≤ a1) :
    MetFree l own_n8 (head1 (Jvm.Cond.code own_n8 jdk_42_method_149_code 6 none :: ws) ({ frames := 1, cells := 4, slots := 8, locals := 12 } : Room)) (fun a U => a = #[(.ref a1), (.ref b1), (.int (0 : Int32)), (.int (0 : Int32)), .null] ∧ Z.Warmed39 U.vm ∧ U.heap = h0 ∧ CHv Z own_EL U.vm h0 ∧ ∀ x ∈ ([a1] : List Addr), Safe Z own_EL U.vm h0 x) (fun _ _ _ _ _ => True) (fun _ U o U' => ∃ v L, o = .returned v ∧ own_Q5e Z a1 b1 k1 cs h0 n0 v U'.heap L ∧ CHr Z own_EL U.vm U.heap U'.vm U'.heap ∧ ReturnedEndW U o U' L ({ frames := 1, cells := 4, slots := 8, locals := 12 } : Room).cells ({ frames := 1, cells := 4, slots := 8, locals := 12 } : Room).slots) := by
  refine MetFree.of_bodySF (plainFor_of_name own_pn1) hisR ?_
  intro p e s m args below meth c s₁ Bd hml0 hP hK
  obtain ⟨rfl, hZ, hh, hC0, hSf⟩ := hP
  have hx := Bd.exec
  have hby := Bd.bytes
  have hml : c.maxLocals = 6 := hml0
  have hown : s.vm.findClass "java/lang/String" = some m.cls := findClass_of_methodNamed Bd.named
  have hnm := (name_of_methodNamed Bd.named Bd.method).1
  have hnl : meth.locks = false := Bd.notSynchronized
  have X0 : Stand p l e ({ frames := 1, cells := 4, slots := 8, locals := 12 } : Room) s m #[(.ref a1), (.ref b1), (.int (0 : Int32)), (.int (0 : Int32)), .null] below meth c s₁ [] 0 0 := Stand.of_body Bd
  have e0 : s₁.heap = h0 := by rw [← hh, Bd.state]; rfl
  have N0 := Fr.nil n0
  have X0 := (show Stand p l e _ (s.setVm s.vm) m _ below meth c s₁ [] 0 0 from X0)
  have hZ : Z.Warmed39 (s.setVm s.vm).vm := hZ
  have hown : (s.setVm s.vm).vm.findClass "java/lang/String" = some m.cls := hown
  have C0 : CHr Z own_EL s.vm s.heap s.vm h0 := by rw [hh]; exact CHr.refl hC0
  have S0 : s.Since s.vm h0.size := (State.WarmedH.refl s).since _
  have k0 := Nat.le_refl h0.size
  show own_Go p.tables e below (own_PW below s Z own_EL (own_Q5e Z a1 b1 k1 cs h0 n0) ({ frames := 1, cells := 4, slots := 8, locals := 12 } : Room).cells ({ frames := 1, cells := 4, slots := 8, locals := 12 } : Room).slots) _
  refine own_st (fun t_ k_ => castTop (own_ef5e m a1 b1 (0 : Int32) (0 : Int32)) k_) ?_
  refine own_st (fun t_ k_ => XS.aloadN X0.here hx rfl (hb hby own_d5_0) rfl rfl k_) ?_
  show own_at p e below _ s₁ m 1 #[oR a1, oR b1, oI (0 : Int32), oI (0 : Int32), oN, oU] [(.ref a1)]
  obtain ⟨T136, X136, e136, st136⟩ := initO X0 hx hZ hown (own_w hw 35 rfl) (own_w hw 36 rfl) (own_w hw 37 rfl) e0 (g := (mkF m 1 #[oR a1, oR b1, oI (0 : Int32), oI (0 : Int32), oN, oU] [(.ref a1)])) rfl (by rw [hml]; rfl) rfl (hb hby own_d5_1) (by decide) (W := 0) (own_hW rfl) (by decide)
  refine own_st (st136) ?_
  refine own_st (fun t_ k_ => XS.iloadN X136.here hx rfl (hb hby own_d5_4) rfl (XS.ifNo X136.here hx rfl (hb hby own_d5_5) rfl ((if0 _ _).trans (teq (by decide : (0 : Int32) = (0 : Int32))).2) (XS.aloadN X136.here hx rfl (hb hby own_d5_8) rfl rfl k_))) ?_
  show own_at p e below _ T136 m 9 #[oR a1, oR b1, oI (0 : Int32), oI (0 : Int32), oN, oU] [(.ref a1)]
  obtain ⟨a137, T137, h137, kn137, b137, kb137, X137, e137, E137, S137, kk137, hZ, hown, xa137, fc137, fv137, A137, la137, lb137, c137, -, ne137, st137⟩ := ldcCH X136 hx hZ hown (own_w hw 158 rfl) (own_wS hw) e136 S0 k0 (own_hEL hw) (List.mem_of_getElem? (i := 1) rfl) C0.1 (vs := []) (z := 0) (by decide +kernel) (by decide) (by decide) (g := (mkF m 9 #[oR a1, oR b1, oI (0 : Int32), oI (0 : Int32), oN, oU] [(.ref a1)])) rfl (hb hby own_d5_9) (n := 0) (by decide) (by decide) (by decide) (by decide)
  have K137 : Keep h0 h137 [a1] := (Keep.refl h0 [a1]).ext E137
  have C137 := C0.trans c137
  have Ab137 : own_A Z h137 b137 kb137 .byte 0 (fun i => .int ((fun q => ([] : List Int32).getD q 0) i)) := own_A.ofArv A137 (by decide) (by decide) (by decide)
  have ne137_a1 := ne137 _ (c137.safe q0.lt (hSf _ (List.mem_of_getElem? (i := 0) rfl)))
  refine own_st (st137) ?_
  obtain ⟨T138, X138, e138, st138⟩ := getF X137 hx hZ hown (host := "") (Or.inl (own_w hw 52 rfl)) Via.refl e137 fv137 (g := (mkF m 11 #[oR a1, oR b1, oI (0 : Int32), oI (0 : Int32), oN, oU] [(.ref a137), (.ref a1)])) rfl rfl (hb hby own_d5_11)
  refine own_st (st138) ?_
  obtain ⟨T139, h139, X139, e139, W139, st139⟩ := putF X138 hx hZ hown (host := "") (Or.inl (own_w hw 52 rfl)) Via.refl e138 (q1.ext E137) (q0.ext E137) (Or.inr ⟨(own_w hw 53 rfl), rfl, hnm⟩) (own_w hw 26 rfl) (ty := (.array .byte)) (by decide) rfl rfl (g := (mkF m 14 #[oR a1, oR b1, oI (0 : Int32), oI (0 : Int32), oN, oU] [(.ref b137), (.ref a1)])) rfl rfl (hb hby own_d5_14)
  have Fw139 : Fld Z h139 a1 "java/lang/String" "value" "[B" (.ref b137) := (q1.ext E137).same W139
  have N139 := Fr.snoc X139 N0 q4
  have K139 : Keep h0 h139 [a1] := K137.wr W139 (Or.inl (List.mem_of_getElem? (i := 0) rfl))
  have c139 : CHr Z own_EL _ h137 _ h139 := CHr.wr W139 (c137.safe q0.lt (hSf _ (List.mem_of_getElem? (i := 0) rfl))) C137.1
  have C139 := C137.trans c139
  have kk139 := Nat.le_trans kk137 c139.2.1
  refine own_st (st139) ?_
  refine own_st (fun t_ k_ => XS.aloadN X139.here hx rfl (hb hby own_d5_17) rfl rfl k_) ?_
  show own_at p e below _ T139 m 18 #[oR a1, oR b1, oI (0 : Int32), oI (0 : Int32), oN, oU] [(.ref a1)]
  obtain ⟨a140, T140, h140, kn140, b140, kb140, X140, e140, E140, S140, kk140, hZ, hown, xa140, fc140, fv140, A140, la140, lb140, c140, -, ne140, st140⟩ := ldcCH X139 hx hZ hown (own_w hw 158 rfl) (own_wS hw) e139 S137 kk139 (own_hEL hw) (List.mem_of_getElem? (i := 1) rfl) C139.1 (vs := []) (z := 0) (by decide +kernel) (by decide) (by decide) (g := (mkF m 18 #[oR a1, oR b1, oI (0 : Int32), oI (0 : Int32), oN, oU] [(.ref a1)])) rfl (hb hby own_d5_18) (n := 0) (by decide) (by decide) (by decide) (by decide)
  have K140 : Keep h0 h140 [a1] := K139.ext E140
  have C140 := C139.trans c140
  have Ab140 : own_A Z h140 b140 kb140 .byte 0 (fun i => .int ((fun q => ([] : List Int32).getD q 0) i)) := own_A.ofArv A140 (by decide) (by decide) (by decide)
  have ne140_a1 := ne140 _ (c140.safe ((q0.ext E137).wr W139).lt (c139.safe (q0.ext E137).lt (c137.safe q0.lt (hSf _ (List.mem_of_getElem? (i := 0) rfl)))))
  refine own_st (st140) ?_
  obtain ⟨T141, X141, e141, st141⟩ := getF X140 hx hZ hown (host := "") (Or.inl (own_w hw 50 rfl)) Via.refl e140 fc140 (g := (mkF m 20 #[oR a1, oR b1, oI (0 : Int32), oI (0 : Int32), oN, oU] [(.ref a140), (.ref a1)])) rfl rfl (hb hby own_d5_20)
  refine own_st (st141) ?_
  have f142 : Fld Z h140 a1 "java/lang/String" "coder" "B" (.int (0 : Int32)) := (((q2.ext E137).other W139 (Or.inr (slot_ne (Or.inr (own_w hw 51 rfl)) (Or.inr (own_w hw 53 rfl)) (by decide) (t := .byte) (t' := (.array .byte)) (by decide) (by decide)))).ext E140)
  obtain ⟨T143, h143, X143, e143, W143, st143⟩ := putFN X141 hx hZ hown (own_w hw 50 rfl) Via.refl e141 f142 (((q0.ext E137).wr W139).ext E140) (Or.inr ⟨(own_w hw 51 rfl), rfl, hnm⟩) (own_w hw 26 rfl) (ty := .byte) (v' := (.int (0 : Int32))) (by decide) rfl rfl (g := (mkF m 23 #[oR a1, oR b1, oI (0 : Int32), oI (0 : Int32), oN, oU] [(.int (0 : Int32)), (.ref a1)])) rfl rfl (hb hby own_d5_23)
  have Fw143 : Fld Z h143 a1 "java/lang/String" "coder" "B" (.int (0 : Int32)) := f142.same W143
  have N143 := Fr.snoc X143 N139 q4
  have K143 : Keep h0 h143 [a1] := K140.wr W143 (Or.inl (List.mem_of_getElem? (i := 0) rfl))
  have c143 : CHr Z own_EL _ h140 _ h143 := CHr.wr W143 (c140.safe ((q0.ext E137).wr W139).lt (c139.safe (q0.ext E137).lt (c137.safe q0.lt (hSf _ (List.mem_of_getElem? (i := 0) rfl))))) C140.1
  have C143 := C140.trans c143
  have kk143 := Nat.le_trans kk140 c143.2.1
  refine own_st (st143) ?_
  have Al : own_A Z h143 b137 kb137 .byte (own_bl (0 : Int32) 0) (fun i => .int ((own_by (0 : Int32) cs) i)) := by rw [own_bl0]; exact ((((Ab137.other W139 (Ne.symm ne137_a1.2)).ext E140).other W143 (Ne.symm ne137_a1.2))).congr (fun q hq => absurd hq (Nat.not_lt_zero _))
  have f144 : Fld Z h143 a1 "java/lang/String" "value" "[B" (.ref b137) := ((Fw139.ext E140).other W143 (Or.inr (slot_ne (Or.inr (own_w hw 53 rfl)) (Or.inr (own_w hw 51 rfl)) (by decide) (t := (.array .byte)) (t' := .byte) (by decide) (by decide))))
  show own_at p e below _ T143 m 26 #[oR a1, oR b1, oI (0 : Int32), oI (0 : Int32), oN, oU] []
  exact own_retW0 X143 hx hnl hZ (own_hEL hw) S140 (by rw [e143]; exact kk143) (by rw [e143]; exact C143) Bd.returns (hb hby own_d5_26) ⟨b137, kb137, rfl, N143, (by rw [e143]; exact K143), (by rw [e143]; exact f144), (by rw [e143]; exact Fw143), (by rw [e143]; exact Al)⟩ (by decide) (by decide)

theorem own_ef4e (m : MethodId) (x0 : Addr) (x1 : Addr) : entryFrame m #[(.ref x0), (.ref x1)] 2 = mkF m 0 #[.val (.ref x0), .val (.ref x1)] [] := by first | (simp [entryFrame, mkF, argsToLocals, Value.category]; done) | rfl
def own_Q4e (Z : State) (a1 : Addr) (b1 : Addr) (k1 : ClassId) (cs : Nat → Int32) (h0 : Heap) (n0 : Nat) (v : Option Value) (h : Heap) (L : List Loc) : Prop := ∃ (t : Addr) (kt : ClassId), v = none ∧ Fr n0 L ∧ Keep h0 h [a1] ∧ Fld Z h a1 "java/lang/String" "value" "[B" (.ref t) ∧ Fld Z h a1 "java/lang/String" "coder" "B" (.int (0 : Int32)) ∧ own_A Z h t kt .byte (own_bl (0 : Int32) 0) (fun i => .int ((own_by (0 : Int32) cs) i))
set_option maxRecDepth 65536 in
set_option maxHeartbeats 40000000 in
theorem own_rm4e (l : Launch) (Z : State) (a0 : Array Value) (hw : ∀ d ∈ tables_1, d.before a0 Z = true) (ws : List Jvm.Cond) (a1 : Addr) (b1 : Addr) (k1 : ClassId) (cs : Nat → Int32) (h0 : Heap) (n0 : Nat) (Z0 : n0 ≤ h0.size) (q0 : Exa Z h0 a1 "java/lang/String") (q1 : Fld Z h0 a1 "java/lang/String" "value" "[B" .null) (q2 : Fld Z h0 a1 "java/lang/String" "coder" "B" (.int (0 : Int32))) (q3 : own_A Z h0 b1 k1 .char 0 (fun i => .int (cs i))) (q4 : n0 ≤ a1) :
    MetFree l own_n9 (head1 (Jvm.Cond.code own_n9 jdk_42_method_3_code 2 none :: ws) ({ frames := 2, cells := 4, slots := 8, locals := 29 } : Room)) (fun a U => a = #[(.ref a1), (.ref b1)] ∧ Z.Warmed39 U.vm ∧ U.heap = h0 ∧ CHv Z own_EL U.vm h0 ∧ ∀ x ∈ ([a1] : List Addr), Safe Z own_EL U.vm h0 x) (fun _ _ _ _ _ => True) (fun _ U o U' => ∃ v L, o = .returned v ∧ own_Q4e Z a1 b1 k1 cs h0 n0 v U'.heap L ∧ CHr Z own_EL U.vm U.heap U'.vm U'.heap ∧ ReturnedEndW U o U' L ({ frames := 2, cells := 4, slots := 8, locals := 29 } : Room).cells ({ frames := 2, cells := 4, slots := 8, locals := 29 } : Room).slots) := by
  refine MetFree.of_bodySF (plainFor_of_name own_pn1) hisR ?_
  intro p e s m args below meth c s₁ Bd hml0 hP hK
  obtain ⟨rfl, hZ, hh, hC0, hSf⟩ := hP
  have hx := Bd.exec
  have hby := Bd.bytes
  have hml : c.maxLocals = 2 := hml0
  have hown : s.vm.findClass "java/lang/String" = some m.cls := findClass_of_methodNamed Bd.named
  have hnm := (name_of_methodNamed Bd.named Bd.method).1
  have hnl : meth.locks = false := Bd.notSynchronized
  have X0 : Stand p l e ({ frames := 2, cells := 4, slots := 8, locals := 29 } : Room) s m #[(.ref a1), (.ref b1)] below meth c s₁ [] 0 0 := Stand.of_body Bd
  have e0 : s₁.heap = h0 := by rw [← hh, Bd.state]; rfl
  have N0 := Fr.nil n0
  have X0 := (show Stand p l e _ (s.setVm s.vm) m _ below meth c s₁ [] 0 0 from X0)
  have hZ : Z.Warmed39 (s.setVm s.vm).vm := hZ
  have hown : (s.setVm s.vm).vm.findClass "java/lang/String" = some m.cls := hown
  have C0 : CHr Z own_EL s.vm s.heap s.vm h0 := by rw [hh]; exact CHr.refl hC0
  have S0 : s.Since s.vm h0.size := (State.WarmedH.refl s).since _
  have k0 := Nat.le_refl h0.size
  show own_Go p.tables e below (own_PW below s Z own_EL (own_Q4e Z a1 b1 k1 cs h0 n0) ({ frames := 2, cells := 4, slots := 8, locals := 29 } : Room).cells ({ frames := 2, cells := 4, slots := 8, locals := 29 } : Room).slots) _
  refine own_st (fun t_ k_ => castTop (own_ef4e m a1 b1) k_) ?_
  refine own_st (fun t_ k_ => XS.aloadN X0.here hx rfl (hb hby own_d4_0) rfl rfl (XS.aloadN X0.here hx rfl (hb hby own_d4_1) rfl rfl (XS.iconst X0.here hx rfl (hb hby own_d4_2) (XS.aloadN X0.here hx rfl (hb hby own_d4_3) rfl rfl k_)))) ?_
  show own_at p e below _ s₁ m 4 #[oR a1, oR b1] [(.ref b1), (.int (0 : Int32)), (.ref b1), (.ref a1)]
  refine own_st (own_len X0 hx hZ e0 q3 (g := (mkF m 4 #[oR a1, oR b1] [(.ref b1), (.int (0 : Int32)), (.ref b1), (.ref a1)])) rfl rfl (hb hby own_d4_4)) ?_
  refine own_st (fun t_ k_ => XS.aconstNull X0.here hx rfl (hb hby own_d4_5) k_) ?_
  show own_at p e below _ s₁ m 6 #[oR a1, oR b1] [.null, (.int (0 : Int32)), (.int (0 : Int32)), (.ref b1), (.ref a1)]
  obtain ⟨_, _, ⟨T145, L145, k145, n145⟩, -, X145, Sq145, gq145, ⟨Lc145, hQ145, l145, y145, z145, c145⟩, st145⟩ := X0.specialBackS hx (y := own_n8) rfl hown (mvT hZ (own_w hw 31 rfl)) (mvT hZ (own_w hw 32 rfl)) (mvT hZ (own_w hw 34 rfl)) (by decide) (own_backSH (W := 0) (own_rm5e l Z a0 hw [] a1 b1 k1 cs h0 n0 (Nat.le_trans Z0 (Keep.refl h0 [a1]).1) q0 q1 q2 q3 q4) hZ (own_w hw 34 rfl) (own_w hw 27 rfl) (by decide) (by decide) (own_hEL hw) C0.1 (own_slS ⟨q0.lt, (hSf _ (List.mem_of_getElem? (i := 0) rfl))⟩ own_sl0)) (g := (mkF m 6 #[oR a1, oR b1] [.null, (.int (0 : Int32)), (.int (0 : Int32)), (.ref b1), (.ref a1)])) rfl (by rw [hml]; rfl) (Steps.refl _) (a := a1) (argsL := [(.ref b1), (.int (0 : Int32)), (.int (0 : Int32)), .null]) (rest := []) (lenOf own_pd7 rfl) rfl (own_hW rfl) (hb hby own_d4_6) (fun _ _ => ⟨rfl, e0, (by decide : 0 + 4 ≤ _), (by decide : 0 + 8 ≤ _)⟩)
  dsimp only [Pt.U, Pt.locs, Pt.cells, Pt.slots] at X145 l145 y145 z145 st145 hQ145 Sq145 gq145 c145
  subst y145 z145
  obtain ⟨t_145, kt_145, rfl, N145q, Kq145, P145_0, P145_1, P145_2⟩ := hQ145
  have N145 : Fr n0 L145 := by rw [l145]; exact Fr.app N0 N145q
  have S145 := foldS S0 (by rw [e0]; exact k0) Sq145 gq145
  have X145 := (show Stand p l e _ (s.setVm T145.vm) m _ below meth c T145 L145 _ _ from X145)
  have hZ : Z.Warmed39 (s.setVm T145.vm).vm := State.Warmed39.trans (t := s.setVm s.vm) hZ Sq145.1
  have hown : (s.setVm T145.vm).vm.findClass "java/lang/String" = some m.cls := by rw [show (s.setVm T145.vm).vm = T145.vm from rfl, Sq145.1.alike.findClass]; exact hown
  have kk145 := Nat.le_refl T145.heap.size
  have K145 : Keep h0 T145.heap [a1] := (Keep.refl h0 [a1]).trans Kq145 (allS (P := fun x => x ∈ [a1] ∨ h0.size ≤ x) (Or.inl (List.mem_of_getElem? (i := 0) rfl)) all0)
  have C145 := C0.trans c145
  refine own_tr st145 ?_
  show own_at p e below _ T145 m 9 #[oR a1, oR b1] []
  exact own_retW0 X145 hx hnl hZ (own_hEL hw) S145 (kk145) (C145) Bd.returns (hb hby own_d4_9) ⟨t_145, kt_145, rfl, N145, (K145), (P145_0), (P145_1), (P145_2)⟩ (by decide) (by decide)

theorem own_d20_0 : decode jdk_41_method_11_code 0 = .ok (.iload_n 0, 1) := by decide +kernel
theorem own_d20_1 : decode jdk_41_method_11_code 1 = .ok (.ifCond .lt 8, 3) := by decide +kernel
theorem own_d20_4 : decode jdk_41_method_11_code 4 = .ok (.iload_n 0, 1) := by decide +kernel
theorem own_d20_5 : decode jdk_41_method_11_code 5 = .ok (.iload_n 1, 1) := by decide +kernel
theorem own_d20_6 : decode jdk_41_method_11_code 6 = .ok (.if_icmp .lt 10, 3) := by decide +kernel
theorem own_d20_16 : decode jdk_41_method_11_code 16 = .ok (.iload_n 0, 1) := by decide +kernel
theorem own_d20_17 : decode jdk_41_method_11_code 17 = .ok (.ireturn, 1) := by decide +kernel
theorem own_pn2 : plainName "jdk/internal/util/Preconditions" = true := by first | (simp [plainName, overriddenIn]; done) | decide +kernel
theorem own_ef20 (m : MethodId) (x0 : Int32) (x1 : Int32) (x2 : Value) (hv2 : x2.isRef = true) : entryFrame m #[(.int x0), (.int x1), x2] 3 = mkF m 0 #[.val (.int x0), .val (.int x1), .val x2] [] := by rcases ref_cases hv2 with rfl | ⟨_, rfl⟩ <;> first | (simp [entryFrame, mkF, argsToLocals, Value.category]; done) | rfl
def own_Q20 (Z : State) (q_ : Int32) (p_ : Int32) (G3 : Value) (qn : Nat) (n1 : Nat) (h0 : Heap) (n0 : Nat) (v : Option Value) (h : Heap) (L : List Loc) : Prop := v = some (.int q_) ∧ Fr n0 L ∧ h = h0
set_option maxRecDepth 65536 in
set_option maxHeartbeats 40000000 in
theorem own_rm20 (l : Launch) (Z : State) (a0 : Array Value) (hw : ∀ d ∈ tables_1, d.before a0 Z = true) (ws : List Jvm.Cond) (q_ : Int32) (p_ : Int32) (G3 : Value) (qn : Nat) (n1 : Nat) (h0 : Heap) (n0 : Nat) (Z0 : n0 ≤ h0.size) (rG3 : (G3.isRef = true)) (hi : (q_.toInt = (qn : Int) ∧ p_.toInt = (n1 : Int) ∧ qn < n1)) :
    MetFree l own_n10 (head1 (Jvm.Cond.code own_n10 jdk_41_method_11_code 3 (some .int) :: ws) ({ frames := 0, cells := 0, slots := 0, locals := 0 } : Room)) (fun a U => a = #[(.int q_), (.int p_), G3] ∧ Z.Warmed39 U.vm ∧ U.heap = h0) (fun _ _ _ _ _ => True) (fun _ U o U' => ∃ v L, o = .returned v ∧ own_Q20 Z q_ p_ G3 qn n1 h0 n0 v U'.heap L ∧ FrameEnd U o U' L ({ frames := 0, cells := 0, slots := 0, locals := 0 } : Room).cells ({ frames := 0, cells := 0, slots := 0, locals := 0 } : Room).slots) := by
  refine MetFree.of_bodySF (plainFor_of_name own_pn2) hisR ?_
  intro p e s m args below meth c s₁ Bd hml0 hP hK
  obtain ⟨rfl, hZ, hh⟩ := hP
  have hx := Bd.exec
  have hby := Bd.bytes
  have hml : c.maxLocals = 3 := hml0
  have hown : s.vm.findClass "jdk/internal/util/Preconditions" = some m.cls := findClass_of_methodNamed Bd.named
  have hnm := (name_of_methodNamed Bd.named Bd.method).1
  have hnl : meth.locks = false := Bd.notSynchronized
  have X0 : Stand p l e ({ frames := 0, cells := 0, slots := 0, locals := 0 } : Room) s m #[(.int q_), (.int p_), G3] below meth c s₁ [] 0 0 := Stand.of_body Bd
  have e0 : s₁.heap = h0 := by rw [← hh, Bd.state]; rfl
  have N0 := Fr.nil n0
  show own_Go p.tables e below (own_P below s (own_Q20 Z q_ p_ G3 qn n1 h0 n0) ({ frames := 0, cells := 0, slots := 0, locals := 0 } : Room).cells ({ frames := 0, cells := 0, slots := 0, locals := 0 } : Room).slots) _
  refine own_st (fun t_ k_ => castTop (own_ef20 m q_ p_ G3 rG3) k_) ?_
  refine own_st (fun t_ k_ => XS.iloadN X0.here hx rfl (hb hby own_d20_0) rfl (XS.ifNo X0.here hx rfl (hb hby own_d20_1) rfl ((if0 _ _).trans (flt (own_nn hi.1)).1) (XS.iloadN X0.here hx rfl (hb hby own_d20_4) rfl (XS.iloadN X0.here hx rfl (hb hby own_d20_5) rfl (XS.icmpYes X0.here hx rfl (pc0 := 6) (pc' := 16) rfl (hb hby own_d20_6) rfl (tlt ((own_ltp hi.1 hi.2.1).mpr hi.2.2)).1 (by decide) (by decide) (XS.iloadN X0.here hx rfl (hb hby own_d20_16) rfl k_)))))) ?_
  show own_at p e below _ s₁ m 17 #[oI q_, oI p_, .val G3] [(.int q_)]
  exact own_ret (w := (.int q_)) X0 hx hnl Bd.returns rfl (Or.inl ⟨rfl, by decide, _, rfl⟩) (hb hby own_d20_17) ⟨rfl, N0, e0⟩ (by decide) (by decide)

theorem own_d19_0 : decode jdk_42_method_155_code 0 = .ok (.iload_n 0, 1) := by decide +kernel
theorem own_d19_1 : decode jdk_42_method_155_code 1 = .ok (.iload_n 1, 1) := by decide +kernel
theorem own_d19_2 : decode jdk_42_method_155_code 2 = .ok (.getstatic 1053, 3) := by decide +kernel
theorem own_d19_5 : decode jdk_42_method_155_code 5 = .ok (.invokestatic 1059, 3) := by decide +kernel
theorem own_d19_8 : decode jdk_42_method_155_code 8 = .ok (.pop, 1) := by decide +kernel
theorem own_d19_9 : decode jdk_42_method_155_code 9 = .ok (.return_, 1) := by decide +kernel
theorem own_pd8 : parseMethodDescriptor "(IILjava/util/function/BiFunction;)I" = some ⟨[.int, .int, (.object "java/util/function/BiFunction")], some .int⟩ := by decide +kernel
theorem own_ef19 (m : MethodId) (x0 : Int32) (x1 : Int32) : entryFrame m #[(.int x0), (.int x1)] 2 = mkF m 0 #[.val (.int x0), .val (.int x1)] [] := by first | (simp [entryFrame, mkF, argsToLocals, Value.category]; done) | rfl
def own_Q19 (Z : State) (q_ : Int32) (p_ : Int32) (G3 : Value) (qn : Nat) (n1 : Nat) (h0 : Heap) (n0 : Nat) (v : Option Value) (h : Heap) (L : List Loc) : Prop := v = none ∧ Fr n0 L ∧ h = h0
set_option maxRecDepth 65536 in
set_option maxHeartbeats 40000000 in
theorem own_rm19 (l : Launch) (Z : State) (a0 : Array Value) (hw : ∀ d ∈ tables_1, d.before a0 Z = true) (ws : List Jvm.Cond) (q_ : Int32) (p_ : Int32) (G3 : Value) (qn : Nat) (n1 : Nat) (h0 : Heap) (n0 : Nat) (Z0 : n0 ≤ h0.size) (q0 : Old Z n0 h0) (q1 : Sta Z Z.heap "jdk/internal/util/Preconditions" "SIOOBE_FORMATTER" "Ljava/util/function/BiFunction;" G3) (rG3 : (G3.isRef = true)) (hi : (q_.toInt = (qn : Int) ∧ p_.toInt = (n1 : Int) ∧ qn < n1)) :
    MetFree l own_n11 (head1 (Jvm.Cond.code own_n11 jdk_42_method_155_code 2 none :: ws) ({ frames := 1, cells := 0, slots := 0, locals := 14 } : Room)) (fun a U => a = #[(.int q_), (.int p_)] ∧ Z.Warmed39 U.vm ∧ U.heap = h0) (fun _ _ _ _ _ => True) (fun _ U o U' => ∃ v L, o = .returned v ∧ own_Q19 Z q_ p_ G3 qn n1 h0 n0 v U'.heap L ∧ FrameEnd U o U' L ({ frames := 1, cells := 0, slots := 0, locals := 14 } : Room).cells ({ frames := 1, cells := 0, slots := 0, locals := 14 } : Room).slots) := by
  refine MetFree.of_bodySF (plainFor_of_name own_pn1) hisR ?_
  intro p e s m args below meth c s₁ Bd hml0 hP hK
  obtain ⟨rfl, hZ, hh⟩ := hP
  have hx := Bd.exec
  have hby := Bd.bytes
  have hml : c.maxLocals = 2 := hml0
  have hown : s.vm.findClass "java/lang/String" = some m.cls := findClass_of_methodNamed Bd.named
  have hnm := (name_of_methodNamed Bd.named Bd.method).1
  have hnl : meth.locks = false := Bd.notSynchronized
  have X0 : Stand p l e ({ frames := 1, cells := 0, slots := 0, locals := 14 } : Room) s m #[(.int q_), (.int p_)] below meth c s₁ [] 0 0 := Stand.of_body Bd
  have e0 : s₁.heap = h0 := by rw [← hh, Bd.state]; rfl
  have N0 := Fr.nil n0
  show own_Go p.tables e below (own_P below s (own_Q19 Z q_ p_ G3 qn n1 h0 n0) ({ frames := 1, cells := 0, slots := 0, locals := 14 } : Room).cells ({ frames := 1, cells := 0, slots := 0, locals := 14 } : Room).slots) _
  refine own_st (fun t_ k_ => castTop (own_ef19 m q_ p_) k_) ?_
  refine own_st (fun t_ k_ => XS.iloadN X0.here hx rfl (hb hby own_d19_0) rfl (XS.iloadN X0.here hx rfl (hb hby own_d19_1) rfl k_)) ?_
  show own_at p e below _ s₁ m 2 #[oI q_, oI p_] [(.int p_), (.int q_)]
  obtain ⟨T146, X146, e146, st146⟩ := getS2 X0 hx hZ hown (host := "") (Or.inl (own_w hw 103 rfl)) Via.refl e0 (q1.ext q0.2) (g := (mkF m 2 #[oI q_, oI p_] [(.int p_), (.int q_)])) rfl (hb hby own_d19_2)
  refine own_st (st146) ?_
  obtain ⟨_, _, ⟨T147, L147, k147, n147⟩, -, X147, ⟨Lc147, hQ147, l147, y147, z147⟩, st147⟩ := Jvm.LawKit.callS X146 hx (y := own_n10) hown (mvT hZ (own_w hw 105 rfl)) (mvT hZ (own_w hw 106 rfl)) (mvT hZ (own_w hw 104 rfl)) (mvT hZ (own_w hw 107 rfl)) (by decide) (backOf (W := 0) (own_rm20 l Z a0 hw [] q_ p_ G3 qn n1 h0 n0 (Nat.le_trans Z0 (Keep.refl h0 []).1) rG3 hi) hZ (own_w hw 107 rfl) (own_w hw 104 rfl) (by decide) (by decide)) (g := (mkF m 5 #[oI q_, oI p_] [G3, (.int p_), (.int q_)])) rfl (by rw [hml]; rfl) (argsL := [(.int q_), (.int p_), G3]) (rest := []) (lenOf own_pd8 rfl) rfl (own_hW rfl) (hb hby own_d19_5) (fun _ _ => ⟨rfl, e146, (by decide : 0 + 0 ≤ _), (by decide : 0 + 0 ≤ _)⟩)
  show own_at p e below _ T146 m 5 #[oI q_, oI p_] [G3, (.int p_), (.int q_)]
  dsimp only [Pt.U, Pt.locs, Pt.cells, Pt.slots] at X147 l147 y147 z147 st147 hQ147
  subst y147 z147
  obtain ⟨rfl, N147q, eq147⟩ := hQ147
  have N147 : Fr n0 L147 := by rw [l147]; exact Fr.app N0 N147q
  refine own_st (st147) ?_
  refine own_st (fun t_ k_ => XS.pop X147.here hx rfl (hb hby own_d19_8) rfl rfl k_) ?_
  show own_at p e below _ T147 m 9 #[oI q_, oI p_] []
  exact own_ret0 X147 hx hnl Bd.returns (hb hby own_d19_9) ⟨rfl, N147, eq147⟩ (by decide) (by decide)

theorem own_d17_0 : decode jdk_42_method_154_code 0 = .ok (.getstatic 38, 3) := by decide +kernel
theorem own_d17_3 : decode jdk_42_method_154_code 3 = .ok (.ifCond .eq 14, 3) := by decide +kernel
theorem own_d17_6 : decode jdk_42_method_154_code 6 = .ok (.aload_n 0, 1) := by decide +kernel
theorem own_d17_7 : decode jdk_42_method_154_code 7 = .ok (.getfield 15, 3) := by decide +kernel
theorem own_d17_10 : decode jdk_42_method_154_code 10 = .ok (.ifCond .ne 7, 3) := by decide +kernel
theorem own_d17_13 : decode jdk_42_method_154_code 13 = .ok (.iconst 1, 1) := by decide +kernel
theorem own_d17_14 : decode jdk_42_method_154_code 14 = .ok (.goto 4, 3) := by decide +kernel
theorem own_d17_17 : decode jdk_42_method_154_code 17 = .ok (.iconst 0, 1) := by decide +kernel
theorem own_d17_18 : decode jdk_42_method_154_code 18 = .ok (.ireturn, 1) := by decide +kernel
theorem own_ef17 (m : MethodId) (x0 : Addr) : entryFrame m #[(.ref x0)] 1 = mkF m 0 #[.val (.ref x0)] [] := by first | (simp [entryFrame, mkF, argsToLocals, Value.category]; done) | rfl
def own_Q17 (Z : State) (a1 : Addr) (cd : Int32) (G1 : Int32) (h0 : Heap) (n0 : Nat) (v : Option Value) (h : Heap) (L : List Loc) : Prop := v = some (.int (own_l1 cd)) ∧ Fr n0 L ∧ h = h0
set_option maxRecDepth 65536 in
set_option maxHeartbeats 40000000 in
theorem own_rm17 (l : Launch) (Z : State) (a0 : Array Value) (hw : ∀ d ∈ tables_1, d.before a0 Z = true) (ws : List Jvm.Cond) (a1 : Addr) (cd : Int32) (G1 : Int32) (h0 : Heap) (n0 : Nat) (Z0 : n0 ≤ h0.size) (q0 : Fld Z h0 a1 "java/lang/String" "coder" "B" (.int cd)) (q1 : Old Z n0 h0) (q2 : Sta Z Z.heap "java/lang/String" "COMPACT_STRINGS" "Z" (.int G1)) (hG1 : (¬ G1 = (0 : Int32))) :
    MetFree l own_n12 (head1 (Jvm.Cond.code own_n12 jdk_42_method_154_code 1 (some .boolean) :: ws) ({ frames := 0, cells := 0, slots := 0, locals := 0 } : Room)) (fun a U => a = #[(.ref a1)] ∧ Z.Warmed39 U.vm ∧ U.heap = h0) (fun _ _ _ _ _ => True) (fun _ U o U' => ∃ v L, o = .returned v ∧ own_Q17 Z a1 cd G1 h0 n0 v U'.heap L ∧ FrameEnd U o U' L ({ frames := 0, cells := 0, slots := 0, locals := 0 } : Room).cells ({ frames := 0, cells := 0, slots := 0, locals := 0 } : Room).slots) := by
  refine MetFree.of_bodySF (plainFor_of_name own_pn1) hisR ?_
  intro p e s m args below meth c s₁ Bd hml0 hP hK
  obtain ⟨rfl, hZ, hh⟩ := hP
  have hx := Bd.exec
  have hby := Bd.bytes
  have hml : c.maxLocals = 1 := hml0
  have hown : s.vm.findClass "java/lang/String" = some m.cls := findClass_of_methodNamed Bd.named
  have hnm := (name_of_methodNamed Bd.named Bd.method).1
  have hnl : meth.locks = false := Bd.notSynchronized
  have X0 : Stand p l e ({ frames := 0, cells := 0, slots := 0, locals := 0 } : Room) s m #[(.ref a1)] below meth c s₁ [] 0 0 := Stand.of_body Bd
  have e0 : s₁.heap = h0 := by rw [← hh, Bd.state]; rfl
  have N0 := Fr.nil n0
  show own_Go p.tables e below (own_P below s (own_Q17 Z a1 cd G1 h0 n0) ({ frames := 0, cells := 0, slots := 0, locals := 0 } : Room).cells ({ frames := 0, cells := 0, slots := 0, locals := 0 } : Room).slots) _
  refine own_st (fun t_ k_ => castTop (own_ef17 m a1) k_) ?_
  obtain ⟨T148, X148, e148, st148⟩ := getS2 X0 hx hZ hown (host := "") (Or.inl (own_w hw 38 rfl)) Via.refl e0 (q2.ext q1.2) (g := (mkF m 0 #[oR a1] [])) rfl (hb hby own_d17_0)
  refine own_st (st148) ?_
  refine own_st (fun t_ k_ => XS.ifNo X148.here hx rfl (hb hby own_d17_3) rfl ((if0 _ _).trans (feq hG1).1) (XS.aloadN X148.here hx rfl (hb hby own_d17_6) rfl rfl k_)) ?_
  show own_at p e below _ T148 m 7 #[oR a1] [(.ref a1)]
  obtain ⟨T149, X149, e149, st149⟩ := getF X148 hx hZ hown (host := "") (Or.inl (own_w hw 50 rfl)) Via.refl e148 q0 (g := (mkF m 7 #[oR a1] [(.ref a1)])) rfl rfl (hb hby own_d17_7)
  refine own_st (st149) ?_
  show own_at p e below _ T149 m 10 #[oR a1] [(.int cd)]
  by_cases c10_150 : cd = (0 : Int32)
  · skip
    refine own_st (fun t_ k_ => XS.ifNo X149.here hx rfl (hb hby own_d17_10) rfl ((if0 _ _).trans (teq c10_150).2) (XS.iconst X149.here hx rfl (hb hby own_d17_13) (XS.goto X149.here hx rfl (pc0 := 14) (pc' := 18) rfl (hb hby own_d17_14) (by decide) (by decide) k_))) ?_
    show own_at p e below _ T149 m 18 #[oR a1] [(.int (1 : Int32))]
    exact own_ret (w := (.int (1 : Int32))) X149 hx hnl Bd.returns rfl (Or.inl ⟨rfl, by decide, _, rfl⟩) (hb hby own_d17_18) ⟨(by simp [own_l1, c10_150]), N0, e149⟩ (by decide) (by decide)
  refine own_st (fun t_ k_ => XS.ifYes X149.here hx rfl (pc0 := 10) (pc' := 17) rfl (hb hby own_d17_10) rfl ((if0 _ _).trans (feq c10_150).2) (by decide) (by decide) (XS.iconst X149.here hx rfl (hb hby own_d17_17) k_)) ?_
  show own_at p e below _ T149 m 18 #[oR a1] [(.int (0 : Int32))]
  exact own_ret (w := (.int (0 : Int32))) X149 hx hnl Bd.returns rfl (Or.inl ⟨rfl, by decide, _, rfl⟩) (hb hby own_d17_18) ⟨(by simp [own_l1, c10_150]), N0, e149⟩ (by decide) (by decide)

theorem own_d18_0 : decode jdk_43_method_2_code 0 = .ok (.iload_n 1, 1) := by decide +kernel
theorem own_d18_1 : decode jdk_43_method_2_code 1 = .ok (.aload_n 0, 1) := by decide +kernel
theorem own_d18_2 : decode jdk_43_method_2_code 2 = .ok (.arraylength, 1) := by decide +kernel
theorem own_d18_3 : decode jdk_43_method_2_code 3 = .ok (.invokestatic 9, 3) := by decide +kernel
theorem own_d18_6 : decode jdk_43_method_2_code 6 = .ok (.aload_n 0, 1) := by decide +kernel
theorem own_d18_7 : decode jdk_43_method_2_code 7 = .ok (.iload_n 1, 1) := by decide +kernel
theorem own_d18_8 : decode jdk_43_method_2_code 8 = .ok (.baload, 1) := by decide +kernel
theorem own_d18_9 : decode jdk_43_method_2_code 9 = .ok (.sipush 255, 3) := by decide +kernel
theorem own_d18_12 : decode jdk_43_method_2_code 12 = .ok (.iand, 1) := by decide +kernel
theorem own_d18_13 : decode jdk_43_method_2_code 13 = .ok (.i2c, 1) := by decide +kernel
theorem own_d18_14 : decode jdk_43_method_2_code 14 = .ok (.ireturn, 1) := by decide +kernel
theorem own_pn3 : plainName "java/lang/StringLatin1" = true := by first | (simp [plainName, overriddenIn]; done) | decide +kernel
theorem own_pd9 : parseMethodDescriptor "(II)V" = some ⟨[.int, .int], none⟩ := by decide +kernel
theorem own_ef18 (m : MethodId) (x0 : Addr) (x1 : Int32) : entryFrame m #[(.ref x0), (.int x1)] 2 = mkF m 0 #[.val (.ref x0), .val (.int x1)] [] := by first | (simp [entryFrame, mkF, argsToLocals, Value.category]; done) | rfl
def own_Q18 (Z : State) (a1 : Addr) (q_ : Int32) (k1 : ClassId) (n1 : Nat) (cs : Nat → Int32) (qn : Nat) (G3 : Value) (h0 : Heap) (n0 : Nat) (v : Option Value) (h : Heap) (L : List Loc) : Prop := v = some (.int (cs qn)) ∧ Fr n0 L ∧ h = h0
set_option maxRecDepth 65536 in
set_option maxHeartbeats 40000000 in
theorem own_rm18 (l : Launch) (Z : State) (a0 : Array Value) (hw : ∀ d ∈ tables_1, d.before a0 Z = true) (ws : List Jvm.Cond) (a1 : Addr) (q_ : Int32) (k1 : ClassId) (n1 : Nat) (cs : Nat → Int32) (qn : Nat) (G3 : Value) (h0 : Heap) (n0 : Nat) (Z0 : n0 ≤ h0.size) (q0 : own_A Z h0 a1 k1 .byte n1 (fun i => .int ((own_l8 cs) i))) (q1 : Old Z n0 h0) (q2 : Sta Z Z.heap "jdk/internal/util/Preconditions" "SIOOBE_FORMATTER" "Ljava/util/function/BiFunction;" G3) (rG3 : (G3.isRef = true)) (hq : (q_.toInt = (qn : Int) ∧ qn < n1 ∧ n1 ≤ 4000)) (hch : (0 ≤ (cs qn).toInt ∧ (cs qn).toInt ≤ 65535)) (hlt : (¬ (255 : Int32) < cs qn)) :
    MetFree l own_n13 (head1 (Jvm.Cond.code own_n13 jdk_43_method_2_code 2 (some .char) :: ws) ({ frames := 2, cells := 0, slots := 0, locals := 27 } : Room)) (fun a U => a = #[(.ref a1), (.int q_)] ∧ Z.Warmed39 U.vm ∧ U.heap = h0) (fun _ _ _ _ _ => True) (fun _ U o U' => ∃ v L, o = .returned v ∧ own_Q18 Z a1 q_ k1 n1 cs qn G3 h0 n0 v U'.heap L ∧ FrameEnd U o U' L ({ frames := 2, cells := 0, slots := 0, locals := 27 } : Room).cells ({ frames := 2, cells := 0, slots := 0, locals := 27 } : Room).slots) := by
  refine MetFree.of_bodySF (plainFor_of_name own_pn3) hisR ?_
  intro p e s m args below meth c s₁ Bd hml0 hP hK
  obtain ⟨rfl, hZ, hh⟩ := hP
  have hx := Bd.exec
  have hby := Bd.bytes
  have hml : c.maxLocals = 2 := hml0
  have hown : s.vm.findClass "java/lang/StringLatin1" = some m.cls := findClass_of_methodNamed Bd.named
  have hnm := (name_of_methodNamed Bd.named Bd.method).1
  have hnl : meth.locks = false := Bd.notSynchronized
  have X0 : Stand p l e ({ frames := 2, cells := 0, slots := 0, locals := 27 } : Room) s m #[(.ref a1), (.int q_)] below meth c s₁ [] 0 0 := Stand.of_body Bd
  have e0 : s₁.heap = h0 := by rw [← hh, Bd.state]; rfl
  have N0 := Fr.nil n0
  show own_Go p.tables e below (own_P below s (own_Q18 Z a1 q_ k1 n1 cs qn G3 h0 n0) ({ frames := 2, cells := 0, slots := 0, locals := 27 } : Room).cells ({ frames := 2, cells := 0, slots := 0, locals := 27 } : Room).slots) _
  refine own_st (fun t_ k_ => castTop (own_ef18 m a1 q_) k_) ?_
  refine own_st (fun t_ k_ => XS.iloadN X0.here hx rfl (hb hby own_d18_0) rfl (XS.aloadN X0.here hx rfl (hb hby own_d18_1) rfl rfl k_)) ?_
  show own_at p e below _ s₁ m 2 #[oR a1, oI q_] [(.ref a1), (.int q_)]
  refine own_st (own_len X0 hx hZ e0 q0 (g := (mkF m 2 #[oR a1, oI q_] [(.ref a1), (.int q_)])) rfl rfl (hb hby own_d18_2)) ?_
  obtain ⟨_, _, ⟨T151, L151, k151, n151⟩, -, X151, ⟨Lc151, hQ151, l151, y151, z151⟩, st151⟩ := Jvm.LawKit.callS X0 hx (y := own_n11) hown (mvT hZ (own_w hw 100 rfl)) (mvT hZ (own_w hw 101 rfl)) (mvT hZ (own_w hw 27 rfl)) (mvT hZ (own_w hw 102 rfl)) (by decide) (backOf (W := 0) (own_rm19 l Z a0 hw [] q_ (Int32.ofNat n1) G3 qn n1 h0 n0 (Nat.le_trans Z0 (Keep.refl h0 []).1) q1 q2 rG3 ⟨hq.1, (own_toN (by omega)), hq.2.1⟩) hZ (own_w hw 102 rfl) (own_w hw 27 rfl) (by decide) (by decide)) (g := (mkF m 3 #[oR a1, oI q_] [(.int (Int32.ofNat n1)), (.int q_)])) rfl (by rw [hml]; rfl) (argsL := [(.int q_), (.int (Int32.ofNat n1))]) (rest := []) (lenOf own_pd9 rfl) rfl (own_hW rfl) (hb hby own_d18_3) (fun _ _ => ⟨rfl, e0, (by decide : 0 + 0 ≤ _), (by decide : 0 + 0 ≤ _)⟩)
  show own_at p e below _ s₁ m 3 #[oR a1, oI q_] [(.int (Int32.ofNat n1)), (.int q_)]
  dsimp only [Pt.U, Pt.locs, Pt.cells, Pt.slots] at X151 l151 y151 z151 st151 hQ151
  subst y151 z151
  obtain ⟨rfl, N151q, eq151⟩ := hQ151
  have N151 : Fr n0 L151 := by rw [l151]; exact Fr.app N0 N151q
  refine own_st (st151) ?_
  refine own_st (fun t_ k_ => XS.aloadN X151.here hx rfl (hb hby own_d18_6) rfl rfl (XS.iloadN X151.here hx rfl (hb hby own_d18_7) rfl k_)) ?_
  show own_at p e below _ T151 m 8 #[oR a1, oI q_] [(.int q_), (.ref a1)]
  refine own_st (own_baload X151 hx hZ eq151 q0 (i := qn) hq.1 hq.2.1 (g := (mkF m 8 #[oR a1, oI q_] [(.int q_), (.ref a1)])) rfl rfl (hb hby own_d18_8)) ?_
  refine own_st (fun t_ k_ => XS.sipush X151.here hx rfl (hb hby own_d18_9) (XS.iand X151.here hx rfl (hb hby own_d18_12) rfl (XS.i2c X151.here hx rfl (hb hby own_d18_13) rfl k_))) ?_
  show own_at p e below _ T151 m 14 #[oR a1, oI q_] [(.int ((((own_l8 cs) qn) &&& (255 : Int32)).toUInt32.toUInt16.toUInt32.toInt32))]
  rw [show ((((own_l8 cs) qn) &&& (255 : Int32)).toUInt32.toUInt16.toUInt32.toInt32) = (cs qn) from own_lat hch.1 hlt]
  show own_at p e below _ T151 m 14 #[oR a1, oI q_] [(.int (cs qn))]
  exact own_ret (w := (.int (cs qn))) X151 hx hnl Bd.returns (own_nwc hch.1 hch.2) (Or.inl ⟨rfl, by decide, _, rfl⟩) (hb hby own_d18_14) ⟨rfl, N151, eq151⟩ (by decide) (by decide)

theorem own_d33_0 : decode jdk_52_method_6_code 0 = .ok (.aload_n 0, 1) := by decide +kernel
theorem own_d33_1 : decode jdk_52_method_6_code 1 = .ok (.arraylength, 1) := by decide +kernel
theorem own_d33_2 : decode jdk_52_method_6_code 2 = .ok (.iconst 1, 1) := by decide +kernel
theorem own_d33_3 : decode jdk_52_method_6_code 3 = .ok (.ishr, 1) := by decide +kernel
theorem own_d33_4 : decode jdk_52_method_6_code 4 = .ok (.ireturn, 1) := by decide +kernel
theorem own_ef33 (m : MethodId) (x0 : Addr) : entryFrame m #[(.ref x0)] 1 = mkF m 0 #[.val (.ref x0)] [] := by first | (simp [entryFrame, mkF, argsToLocals, Value.category]; done) | rfl
def own_Q33 (Z : State) (a1 : Addr) (k1 : ClassId) (n1 : Nat) (gb : Nat → Int32) (h0 : Heap) (n0 : Nat) (v : Option Value) (h : Heap) (L : List Loc) : Prop := v = some (.int ((Int32.ofNat (n1 + n1)) >>> ((1 : Int32) &&& 31))) ∧ Fr n0 L ∧ h = h0
set_option maxRecDepth 65536 in
set_option maxHeartbeats 40000000 in
theorem own_rm33 (l : Launch) (Z : State) (a0 : Array Value) (hw : ∀ d ∈ tables_1, d.before a0 Z = true) (ws : List Jvm.Cond) (a1 : Addr) (k1 : ClassId) (n1 : Nat) (gb : Nat → Int32) (h0 : Heap) (n0 : Nat) (Z0 : n0 ≤ h0.size) (q0 : own_A Z h0 a1 k1 .byte (n1 + n1) (fun i => .int (gb i))) :
    MetFree l own_n14 (head1 (Jvm.Cond.code own_n14 jdk_52_method_6_code 1 (some .int) :: ws) ({ frames := 0, cells := 0, slots := 0, locals := 0 } : Room)) (fun a U => a = #[(.ref a1)] ∧ Z.Warmed39 U.vm ∧ U.heap = h0) (fun _ _ _ _ _ => True) (fun _ U o U' => ∃ v L, o = .returned v ∧ own_Q33 Z a1 k1 n1 gb h0 n0 v U'.heap L ∧ FrameEnd U o U' L ({ frames := 0, cells := 0, slots := 0, locals := 0 } : Room).cells ({ frames := 0, cells := 0, slots := 0, locals := 0 } : Room).slots) := by
  refine MetFree.of_bodySF (plainFor_of_name own_pn0) hisR ?_
  intro p e s m args below meth c s₁ Bd hml0 hP hK
  obtain ⟨rfl, hZ, hh⟩ := hP
  have hx := Bd.exec
  have hby := Bd.bytes
  have hml : c.maxLocals = 1 := hml0
  have hown : s.vm.findClass "java/lang/StringUTF16" = some m.cls := findClass_of_methodNamed Bd.named
  have hnm := (name_of_methodNamed Bd.named Bd.method).1
  have hnl : meth.locks = false := Bd.notSynchronized
  have X0 : Stand p l e ({ frames := 0, cells := 0, slots := 0, locals := 0 } : Room) s m #[(.ref a1)] below meth c s₁ [] 0 0 := Stand.of_body Bd
  have e0 : s₁.heap = h0 := by rw [← hh, Bd.state]; rfl
  have N0 := Fr.nil n0
  show own_Go p.tables e below (own_P below s (own_Q33 Z a1 k1 n1 gb h0 n0) ({ frames := 0, cells := 0, slots := 0, locals := 0 } : Room).cells ({ frames := 0, cells := 0, slots := 0, locals := 0 } : Room).slots) _
  refine own_st (fun t_ k_ => castTop (own_ef33 m a1) k_) ?_
  refine own_st (fun t_ k_ => XS.aloadN X0.here hx rfl (hb hby own_d33_0) rfl rfl k_) ?_
  show own_at p e below _ s₁ m 1 #[oR a1] [(.ref a1)]
  refine own_st (own_len X0 hx hZ e0 q0 (g := (mkF m 1 #[oR a1] [(.ref a1)])) rfl rfl (hb hby own_d33_1)) ?_
  refine own_st (fun t_ k_ => XS.iconst X0.here hx rfl (hb hby own_d33_2) (XS.ishr X0.here hx rfl (hb hby own_d33_3) rfl k_)) ?_
  show own_at p e below _ s₁ m 4 #[oR a1] [(.int ((Int32.ofNat (n1 + n1)) >>> ((1 : Int32) &&& 31)))]
  exact own_ret (w := (.int ((Int32.ofNat (n1 + n1)) >>> ((1 : Int32) &&& 31)))) X0 hx hnl Bd.returns rfl (Or.inl ⟨rfl, by decide, _, rfl⟩) (hb hby own_d33_4) ⟨rfl, N0, e0⟩ (by decide) (by decide)

theorem own_d32_0 : decode jdk_52_method_91_code 0 = .ok (.iload_n 0, 1) := by decide +kernel
theorem own_d32_1 : decode jdk_52_method_91_code 1 = .ok (.aload_n 1, 1) := by decide +kernel
theorem own_d32_2 : decode jdk_52_method_91_code 2 = .ok (.invokestatic 48, 3) := by decide +kernel
theorem own_d32_5 : decode jdk_52_method_91_code 5 = .ok (.invokestatic 414, 3) := by decide +kernel
theorem own_d32_8 : decode jdk_52_method_91_code 8 = .ok (.return_, 1) := by decide +kernel
theorem own_pd10 : parseMethodDescriptor "([B)I" = some ⟨[(.array .byte)], some .int⟩ := by decide +kernel
theorem own_ef32 (m : MethodId) (x0 : Int32) (x1 : Addr) : entryFrame m #[(.int x0), (.ref x1)] 2 = mkF m 0 #[.val (.int x0), .val (.ref x1)] [] := by first | (simp [entryFrame, mkF, argsToLocals, Value.category]; done) | rfl
def own_Q32 (Z : State) (q_ : Int32) (a1 : Addr) (k1 : ClassId) (n1 : Nat) (gb : Nat → Int32) (qn : Nat) (G3 : Value) (h0 : Heap) (n0 : Nat) (v : Option Value) (h : Heap) (L : List Loc) : Prop := v = none ∧ Fr n0 L ∧ h = h0
set_option maxRecDepth 65536 in
set_option maxHeartbeats 40000000 in
theorem own_rm32 (l : Launch) (Z : State) (a0 : Array Value) (hw : ∀ d ∈ tables_1, d.before a0 Z = true) (ws : List Jvm.Cond) (q_ : Int32) (a1 : Addr) (k1 : ClassId) (n1 : Nat) (gb : Nat → Int32) (qn : Nat) (G3 : Value) (h0 : Heap) (n0 : Nat) (Z0 : n0 ≤ h0.size) (q0 : own_A Z h0 a1 k1 .byte (n1 + n1) (fun i => .int (gb i))) (q1 : Old Z n0 h0) (q2 : Sta Z Z.heap "jdk/internal/util/Preconditions" "SIOOBE_FORMATTER" "Ljava/util/function/BiFunction;" G3) (rG3 : (G3.isRef = true)) (hq : (q_.toInt = (qn : Int) ∧ qn < n1 ∧ n1 ≤ 4000)) :
    MetFree l own_n15 (head1 (Jvm.Cond.code own_n15 jdk_52_method_91_code 2 none :: ws) ({ frames := 2, cells := 0, slots := 0, locals := 27 } : Room)) (fun a U => a = #[(.int q_), (.ref a1)] ∧ Z.Warmed39 U.vm ∧ U.heap = h0) (fun _ _ _ _ _ => True) (fun _ U o U' => ∃ v L, o = .returned v ∧ own_Q32 Z q_ a1 k1 n1 gb qn G3 h0 n0 v U'.heap L ∧ FrameEnd U o U' L ({ frames := 2, cells := 0, slots := 0, locals := 27 } : Room).cells ({ frames := 2, cells := 0, slots := 0, locals := 27 } : Room).slots) := by
  refine MetFree.of_bodySF (plainFor_of_name own_pn0) hisR ?_
  intro p e s m args below meth c s₁ Bd hml0 hP hK
  obtain ⟨rfl, hZ, hh⟩ := hP
  have hx := Bd.exec
  have hby := Bd.bytes
  have hml : c.maxLocals = 2 := hml0
  have hown : s.vm.findClass "java/lang/StringUTF16" = some m.cls := findClass_of_methodNamed Bd.named
  have hnm := (name_of_methodNamed Bd.named Bd.method).1
  have hnl : meth.locks = false := Bd.notSynchronized
  have X0 : Stand p l e ({ frames := 2, cells := 0, slots := 0, locals := 27 } : Room) s m #[(.int q_), (.ref a1)] below meth c s₁ [] 0 0 := Stand.of_body Bd
  have e0 : s₁.heap = h0 := by rw [← hh, Bd.state]; rfl
  have N0 := Fr.nil n0
  show own_Go p.tables e below (own_P below s (own_Q32 Z q_ a1 k1 n1 gb qn G3 h0 n0) ({ frames := 2, cells := 0, slots := 0, locals := 27 } : Room).cells ({ frames := 2, cells := 0, slots := 0, locals := 27 } : Room).slots) _
  refine own_st (fun t_ k_ => castTop (own_ef32 m q_ a1) k_) ?_
  refine own_st (fun t_ k_ => XS.iloadN X0.here hx rfl (hb hby own_d32_0) rfl (XS.aloadN X0.here hx rfl (hb hby own_d32_1) rfl rfl k_)) ?_
  show own_at p e below _ s₁ m 2 #[oI q_, oR a1] [(.ref a1), (.int q_)]
  obtain ⟨_, _, ⟨T152, L152, k152, n152⟩, -, X152, ⟨Lc152, hQ152, l152, y152, z152⟩, st152⟩ := Jvm.LawKit.callS X0 hx (y := own_n14) hown (mvT hZ (own_w hw 165 rfl)) (mvT hZ (own_w hw 166 rfl)) (mvT hZ (own_w hw 41 rfl)) (mvT hZ (own_w hw 167 rfl)) (by decide) (backOf (W := 1) (own_rm33 l Z a0 hw [] a1 k1 n1 gb h0 n0 (Nat.le_trans Z0 (Keep.refl h0 []).1) q0) hZ (own_w hw 167 rfl) (own_w hw 41 rfl) (by decide) (by decide)) (g := (mkF m 2 #[oI q_, oR a1] [(.ref a1), (.int q_)])) rfl (by rw [hml]; rfl) (argsL := [(.ref a1)]) (rest := [(.int q_)]) (lenOf own_pd10 rfl) rfl (own_hW rfl) (hb hby own_d32_2) (fun _ _ => ⟨rfl, e0, (by decide : 0 + 0 ≤ _), (by decide : 0 + 0 ≤ _)⟩)
  dsimp only [Pt.U, Pt.locs, Pt.cells, Pt.slots] at X152 l152 y152 z152 st152 hQ152
  subst y152 z152
  obtain ⟨rfl, N152q, eq152⟩ := hQ152
  have N152 : Fr n0 L152 := by rw [l152]; exact Fr.app N0 N152q
  refine own_st (st152) ?_
  obtain ⟨_, _, ⟨T153, L153, k153, n153⟩, -, X153, ⟨Lc153, hQ153, l153, y153, z153⟩, st153⟩ := Jvm.LawKit.callS X152 hx (y := own_n11) hown (mvT hZ (own_w hw 168 rfl)) (mvT hZ (own_w hw 101 rfl)) (mvT hZ (own_w hw 27 rfl)) (mvT hZ (own_w hw 102 rfl)) (by decide) (backOf (W := 0) (own_rm19 l Z a0 hw [] q_ ((Int32.ofNat (n1 + n1)) >>> ((1 : Int32) &&& 31)) G3 qn n1 h0 n0 (Nat.le_trans Z0 (Keep.refl h0 []).1) q1 q2 rG3 ⟨hq.1, (own_shr1 (by omega)), hq.2.1⟩) hZ (own_w hw 102 rfl) (own_w hw 27 rfl) (by decide) (by decide)) (g := (mkF m 5 #[oI q_, oR a1] [(.int ((Int32.ofNat (n1 + n1)) >>> ((1 : Int32) &&& 31))), (.int q_)])) rfl (by rw [hml]; rfl) (argsL := [(.int q_), (.int ((Int32.ofNat (n1 + n1)) >>> ((1 : Int32) &&& 31)))]) (rest := []) (lenOf own_pd9 rfl) rfl (own_hW rfl) (hb hby own_d32_5) (fun _ _ => ⟨rfl, eq152, (by decide : 0 + 0 ≤ _), (by decide : 0 + 0 ≤ _)⟩)
  show own_at p e below _ T152 m 5 #[oI q_, oR a1] [(.int ((Int32.ofNat (n1 + n1)) >>> ((1 : Int32) &&& 31))), (.int q_)]
  dsimp only [Pt.U, Pt.locs, Pt.cells, Pt.slots] at X153 l153 y153 z153 st153 hQ153
  subst y153 z153
  obtain ⟨rfl, N153q, eq153⟩ := hQ153
  have N153 : Fr n0 L153 := by rw [l153]; exact Fr.app N152 N153q
  refine own_st (st153) ?_
  show own_at p e below _ T153 m 8 #[oI q_, oR a1] []
  exact own_ret0 X153 hx hnl Bd.returns (hb hby own_d32_8) ⟨rfl, N153, eq153⟩ (by decide) (by decide)

theorem own_d31_0 : decode jdk_52_method_83_code 0 = .ok (.iload_n 1, 1) := by decide +kernel
theorem own_d31_1 : decode jdk_52_method_83_code 1 = .ok (.aload_n 0, 1) := by decide +kernel
theorem own_d31_2 : decode jdk_52_method_83_code 2 = .ok (.invokestatic 67, 3) := by decide +kernel
theorem own_d31_5 : decode jdk_52_method_83_code 5 = .ok (.aload_n 0, 1) := by decide +kernel
theorem own_d31_6 : decode jdk_52_method_83_code 6 = .ok (.iload_n 1, 1) := by decide +kernel
theorem own_d31_7 : decode jdk_52_method_83_code 7 = .ok (.invokestatic 71, 3) := by decide +kernel
theorem own_d31_10 : decode jdk_52_method_83_code 10 = .ok (.ireturn, 1) := by decide +kernel
theorem own_pd11 : parseMethodDescriptor "(I[B)V" = some ⟨[.int, (.array .byte)], none⟩ := by decide +kernel
theorem own_ef31 (m : MethodId) (x0 : Addr) (x1 : Int32) : entryFrame m #[(.ref x0), (.int x1)] 2 = mkF m 0 #[.val (.ref x0), .val (.int x1)] [] := by first | (simp [entryFrame, mkF, argsToLocals, Value.category]; done) | rfl
def own_Q31 (Z : State) (a1 : Addr) (q_ : Int32) (k1 : ClassId) (n1 : Nat) (cs : Nat → Int32) (qn : Nat) (G3 : Value) (h0 : Heap) (n0 : Nat) (v : Option Value) (h : Heap) (L : List Loc) : Prop := v = some (.int (cs qn)) ∧ Fr n0 L ∧ h = h0
set_option maxRecDepth 65536 in
set_option maxHeartbeats 40000000 in
theorem own_rm31 (l : Launch) (Z : State) (a0 : Array Value) (hw : ∀ d ∈ tables_1, d.before a0 Z = true) (ws : List Jvm.Cond) (a1 : Addr) (q_ : Int32) (k1 : ClassId) (n1 : Nat) (cs : Nat → Int32) (qn : Nat) (G3 : Value) (h0 : Heap) (n0 : Nat) (Z0 : n0 ≤ h0.size) (q0 : own_A Z h0 a1 k1 .byte (n1 + n1) (fun i => .int ((own_u16 cs) i))) (q1 : Old Z n0 h0) (q2 : Sta Z Z.heap "jdk/internal/util/Preconditions" "SIOOBE_FORMATTER" "Ljava/util/function/BiFunction;" G3) (rG3 : (G3.isRef = true)) (q4 : Sta Z Z.heap "java/lang/StringUTF16" "$assertionsDisabled" "Z" (.int (1 : Int32))) (q5 : Sta Z Z.heap "java/lang/StringUTF16" "HI_BYTE_SHIFT" "I" (.int (0 : Int32))) (q6 : Sta Z Z.heap "java/lang/StringUTF16" "LO_BYTE_SHIFT" "I" (.int (8 : Int32))) (hq : (q_.toInt = (qn : Int) ∧ qn < n1 ∧ n1 ≤ 4000)) (hch : (0 ≤ (cs qn).toInt ∧ (cs qn).toInt ≤ 65535)) :
    MetFree l own_n16 (head1 (Jvm.Cond.code own_n16 jdk_52_method_83_code 2 (some .char) :: ws) ({ frames := 3, cells := 0, slots := 0, locals := 40 } : Room)) (fun a U => a = #[(.ref a1), (.int q_)] ∧ Z.Warmed39 U.vm ∧ U.heap = h0) (fun _ _ _ _ _ => True) (fun _ U o U' => ∃ v L, o = .returned v ∧ own_Q31 Z a1 q_ k1 n1 cs qn G3 h0 n0 v U'.heap L ∧ FrameEnd U o U' L ({ frames := 3, cells := 0, slots := 0, locals := 40 } : Room).cells ({ frames := 3, cells := 0, slots := 0, locals := 40 } : Room).slots) := by
  refine MetFree.of_bodySF (plainFor_of_name own_pn0) hisR ?_
  intro p e s m args below meth c s₁ Bd hml0 hP hK
  obtain ⟨rfl, hZ, hh⟩ := hP
  have hx := Bd.exec
  have hby := Bd.bytes
  have hml : c.maxLocals = 2 := hml0
  have hown : s.vm.findClass "java/lang/StringUTF16" = some m.cls := findClass_of_methodNamed Bd.named
  have hnm := (name_of_methodNamed Bd.named Bd.method).1
  have hnl : meth.locks = false := Bd.notSynchronized
  have X0 : Stand p l e ({ frames := 3, cells := 0, slots := 0, locals := 40 } : Room) s m #[(.ref a1), (.int q_)] below meth c s₁ [] 0 0 := Stand.of_body Bd
  have e0 : s₁.heap = h0 := by rw [← hh, Bd.state]; rfl
  have N0 := Fr.nil n0
  show own_Go p.tables e below (own_P below s (own_Q31 Z a1 q_ k1 n1 cs qn G3 h0 n0) ({ frames := 3, cells := 0, slots := 0, locals := 40 } : Room).cells ({ frames := 3, cells := 0, slots := 0, locals := 40 } : Room).slots) _
  refine own_st (fun t_ k_ => castTop (own_ef31 m a1 q_) k_) ?_
  refine own_st (fun t_ k_ => XS.iloadN X0.here hx rfl (hb hby own_d31_0) rfl (XS.aloadN X0.here hx rfl (hb hby own_d31_1) rfl rfl k_)) ?_
  show own_at p e below _ s₁ m 2 #[oR a1, oI q_] [(.ref a1), (.int q_)]
  obtain ⟨_, _, ⟨T154, L154, k154, n154⟩, -, X154, ⟨Lc154, hQ154, l154, y154, z154⟩, st154⟩ := Jvm.LawKit.callS X0 hx (y := own_n15) hown (mvT hZ (own_w hw 162 rfl)) (mvT hZ (own_w hw 163 rfl)) (mvT hZ (own_w hw 41 rfl)) (mvT hZ (own_w hw 164 rfl)) (by decide) (backOf (W := 0) (own_rm32 l Z a0 hw [] q_ a1 k1 n1 (own_u16 cs) qn G3 h0 n0 (Nat.le_trans Z0 (Keep.refl h0 []).1) q0 q1 q2 rG3 hq) hZ (own_w hw 164 rfl) (own_w hw 41 rfl) (by decide) (by decide)) (g := (mkF m 2 #[oR a1, oI q_] [(.ref a1), (.int q_)])) rfl (by rw [hml]; rfl) (argsL := [(.int q_), (.ref a1)]) (rest := []) (lenOf own_pd11 rfl) rfl (own_hW rfl) (hb hby own_d31_2) (fun _ _ => ⟨rfl, e0, (by decide : 0 + 0 ≤ _), (by decide : 0 + 0 ≤ _)⟩)
  dsimp only [Pt.U, Pt.locs, Pt.cells, Pt.slots] at X154 l154 y154 z154 st154 hQ154
  subst y154 z154
  obtain ⟨rfl, N154q, eq154⟩ := hQ154
  have N154 : Fr n0 L154 := by rw [l154]; exact Fr.app N0 N154q
  refine own_st (st154) ?_
  refine own_st (fun t_ k_ => XS.aloadN X154.here hx rfl (hb hby own_d31_5) rfl rfl (XS.iloadN X154.here hx rfl (hb hby own_d31_6) rfl k_)) ?_
  show own_at p e below _ T154 m 7 #[oR a1, oI q_] [(.int q_), (.ref a1)]
  obtain ⟨_, _, ⟨T155, L155, k155, n155⟩, -, X155, ⟨Lc155, hQ155, l155, y155, z155⟩, st155⟩ := Jvm.LawKit.callS X154 hx (y := own_n5) hown (mvT hZ (own_w hw 154 rfl)) (mvT hZ (own_w hw 155 rfl)) (mvT hZ (own_w hw 41 rfl)) (mvT hZ (own_w hw 156 rfl)) (by decide) (backOf (W := 0) (own_rm30 l Z a0 hw [] a1 q_ k1 (n1 + n1) (own_u16 cs) qn (cs qn) h0 n0 (Nat.le_trans Z0 (Keep.refl h0 []).1) q1 q4 q5 q6 q0 ⟨hq.1, (by omega), (by omega)⟩ ⟨hch.1, hch.2, (own_u16e cs qn), (own_u16o cs qn)⟩) hZ (own_w hw 156 rfl) (own_w hw 41 rfl) (by decide) (by decide)) (g := (mkF m 7 #[oR a1, oI q_] [(.int q_), (.ref a1)])) rfl (by rw [hml]; rfl) (argsL := [(.ref a1), (.int q_)]) (rest := []) (lenOf own_pd5 rfl) rfl (own_hW rfl) (hb hby own_d31_7) (fun _ _ => ⟨rfl, eq154, (by decide : 0 + 0 ≤ _), (by decide : 0 + 0 ≤ _)⟩)
  dsimp only [Pt.U, Pt.locs, Pt.cells, Pt.slots] at X155 l155 y155 z155 st155 hQ155
  subst y155 z155
  obtain ⟨rfl, N155q, eq155⟩ := hQ155
  have N155 : Fr n0 L155 := by rw [l155]; exact Fr.app N154 N155q
  refine own_st (st155) ?_
  show own_at p e below _ T155 m 10 #[oR a1, oI q_] [(.int (cs qn))]
  exact own_ret (w := (.int (cs qn))) X155 hx hnl Bd.returns (own_nwc hch.1 hch.2) (Or.inl ⟨rfl, by decide, _, rfl⟩) (hb hby own_d31_10) ⟨rfl, N155, eq155⟩ (by decide) (by decide)

theorem own_d16_0 : decode jdk_42_method_56_code 0 = .ok (.aload_n 0, 1) := by decide +kernel
theorem own_d16_1 : decode jdk_42_method_56_code 1 = .ok (.invokevirtual 492, 3) := by decide +kernel
theorem own_d16_4 : decode jdk_42_method_56_code 4 = .ok (.ifCond .eq 12, 3) := by decide +kernel
theorem own_d16_7 : decode jdk_42_method_56_code 7 = .ok (.aload_n 0, 1) := by decide +kernel
theorem own_d16_8 : decode jdk_42_method_56_code 8 = .ok (.getfield 9, 3) := by decide +kernel
theorem own_d16_11 : decode jdk_42_method_56_code 11 = .ok (.iload_n 1, 1) := by decide +kernel
theorem own_d16_12 : decode jdk_42_method_56_code 12 = .ok (.invokestatic 495, 3) := by decide +kernel
theorem own_d16_15 : decode jdk_42_method_56_code 15 = .ok (.ireturn, 1) := by decide +kernel
theorem own_d16_16 : decode jdk_42_method_56_code 16 = .ok (.aload_n 0, 1) := by decide +kernel
theorem own_d16_17 : decode jdk_42_method_56_code 17 = .ok (.getfield 9, 3) := by decide +kernel
theorem own_d16_20 : decode jdk_42_method_56_code 20 = .ok (.iload_n 1, 1) := by decide +kernel
theorem own_d16_21 : decode jdk_42_method_56_code 21 = .ok (.invokestatic 498, 3) := by decide +kernel
theorem own_d16_24 : decode jdk_42_method_56_code 24 = .ok (.ireturn, 1) := by decide +kernel
theorem own_pd12 : parseMethodDescriptor "()Z" = some ⟨[], some .boolean⟩ := by decide +kernel
theorem own_ef16 (m : MethodId) (x0 : Addr) (x1 : Int32) : entryFrame m #[(.ref x0), (.int x1)] 2 = mkF m 0 #[.val (.ref x0), .val (.int x1)] [] := by first | (simp [entryFrame, mkF, argsToLocals, Value.category]; done) | rfl
def own_Q16 (Z : State) (a1 : Addr) (q_ : Int32) (t : Addr) (kt : ClassId) (cd : Int32) (n1 : Nat) (cs : Nat → Int32) (qn : Nat) (G1 : Int32) (G3 : Value) (h0 : Heap) (n0 : Nat) (v : Option Value) (h : Heap) (L : List Loc) : Prop := v = some (.int (cs qn)) ∧ Fr n0 L ∧ h = h0
set_option maxRecDepth 65536 in
set_option maxHeartbeats 40000000 in
theorem own_rm16 (l : Launch) (Z : State) (a0 : Array Value) (hw : ∀ d ∈ tables_1, d.before a0 Z = true) (ws : List Jvm.Cond) (a1 : Addr) (q_ : Int32) (t : Addr) (kt : ClassId) (cd : Int32) (n1 : Nat) (cs : Nat → Int32) (qn : Nat) (G1 : Int32) (G3 : Value) (h0 : Heap) (n0 : Nat) (Z0 : n0 ≤ h0.size) (q0 : Exa Z h0 a1 "java/lang/String") (q1 : Fld Z h0 a1 "java/lang/String" "value" "[B" (.ref t)) (q2 : Fld Z h0 a1 "java/lang/String" "coder" "B" (.int cd)) (q3 : own_A Z h0 t kt .byte (own_bl cd n1) (fun i => .int ((own_by cd cs) i))) (hcd : ((cd = 0 ∧ ∀ q : Nat, q < n1 → ¬ (255 : Int32) < cs q) ∨ cd = 1)) (q5 : Old Z n0 h0) (q6 : Sta Z Z.heap "java/lang/String" "COMPACT_STRINGS" "Z" (.int G1)) (hG1 : (¬ G1 = (0 : Int32))) (q8 : Sta Z Z.heap "jdk/internal/util/Preconditions" "SIOOBE_FORMATTER" "Ljava/util/function/BiFunction;" G3) (rG3 : (G3.isRef = true)) (q10 : Sta Z Z.heap "java/lang/StringUTF16" "$assertionsDisabled" "Z" (.int (1 : Int32))) (q11 : Sta Z Z.heap "java/lang/StringUTF16" "HI_BYTE_SHIFT" "I" (.int (0 : Int32))) (q12 : Sta Z Z.heap "java/lang/StringUTF16" "LO_BYTE_SHIFT" "I" (.int (8 : Int32))) (hq : (q_.toInt = (qn : Int) ∧ qn < n1 ∧ n1 ≤ 4000)) (hch : (0 ≤ (cs qn).toInt ∧ (cs qn).toInt ≤ 65535)) :
    MetFree l own_n17 (head1 (Jvm.Cond.code own_n17 jdk_42_method_56_code 2 (some .char) :: ws) ({ frames := 4, cells := 0, slots := 0, locals := 53 } : Room)) (fun a U => a = #[(.ref a1), (.int q_)] ∧ Z.Warmed39 U.vm ∧ U.heap = h0) (fun _ _ _ _ _ => True) (fun _ U o U' => ∃ v L, o = .returned v ∧ own_Q16 Z a1 q_ t kt cd n1 cs qn G1 G3 h0 n0 v U'.heap L ∧ FrameEnd U o U' L ({ frames := 4, cells := 0, slots := 0, locals := 53 } : Room).cells ({ frames := 4, cells := 0, slots := 0, locals := 53 } : Room).slots) := by
  refine MetFree.of_bodySF (plainFor_of_name own_pn1) hisR ?_
  intro p e s m args below meth c s₁ Bd hml0 hP hK
  obtain ⟨rfl, hZ, hh⟩ := hP
  have hx := Bd.exec
  have hby := Bd.bytes
  have hml : c.maxLocals = 2 := hml0
  have hown : s.vm.findClass "java/lang/String" = some m.cls := findClass_of_methodNamed Bd.named
  have hnm := (name_of_methodNamed Bd.named Bd.method).1
  have hnl : meth.locks = false := Bd.notSynchronized
  have X0 : Stand p l e ({ frames := 4, cells := 0, slots := 0, locals := 53 } : Room) s m #[(.ref a1), (.int q_)] below meth c s₁ [] 0 0 := Stand.of_body Bd
  have e0 : s₁.heap = h0 := by rw [← hh, Bd.state]; rfl
  have N0 := Fr.nil n0
  show own_Go p.tables e below (own_P below s (own_Q16 Z a1 q_ t kt cd n1 cs qn G1 G3 h0 n0) ({ frames := 4, cells := 0, slots := 0, locals := 53 } : Room).cells ({ frames := 4, cells := 0, slots := 0, locals := 53 } : Room).slots) _
  refine own_st (fun t_ k_ => castTop (own_ef16 m a1 q_) k_) ?_
  refine own_st (fun t_ k_ => XS.aloadN X0.here hx rfl (hb hby own_d16_0) rfl rfl k_) ?_
  show own_at p e below _ s₁ m 1 #[oR a1, oI q_] [(.ref a1)]
  obtain ⟨cq156, kq156, q156a, q156b, q156c⟩ := isOf hZ e0 q0
  obtain ⟨_, _, ⟨T156, L156, k156, n156⟩, -, X156, ⟨Lc156, hQ156, l156, y156, z156⟩, st156⟩ := X0.virtualBack hx (y := own_n12) (z := own_n12) hown (mvT hZ (own_w hw 91 rfl)) (mvT hZ (own_w hw 92 rfl)) (notFace_of_selects (args := #[]) (mvT hZ (own_w hw 94 rfl))) (mvT hZ (own_w hw 94 rfl)) (mvT hZ (own_w hw 93 rfl)) (by decide) (backOf (W := 0) (own_rm17 l Z a0 hw [] a1 cd G1 h0 n0 (Nat.le_trans Z0 (Keep.refl h0 []).1) q2 q5 q6 hG1) hZ (own_w hw 95 rfl) (own_w hw 27 rfl) (by decide) (by decide)) q156a q156c (g := (mkF m 1 #[oR a1, oI q_] [(.ref a1)])) rfl (by rw [hml]; rfl) (Steps.refl _) (argsL := []) (rest := []) (lenOf own_pd12 rfl) rfl (own_hW rfl) (hb hby own_d16_1) (fun _ _ => ⟨rfl, e0, (by decide : 0 + 0 ≤ _), (by decide : 0 + 0 ≤ _)⟩)
  dsimp only [Pt.U, Pt.locs, Pt.cells, Pt.slots] at X156 l156 y156 z156 st156 hQ156
  subst y156 z156
  obtain ⟨rfl, N156q, eq156⟩ := hQ156
  have N156 : Fr n0 L156 := by rw [l156]; exact Fr.app N0 N156q
  refine own_tr st156 ?_
  show own_at p e below _ T156 m 4 #[oR a1, oI q_] [(.int (own_l1 cd))]
  by_cases c4_157 : (own_l1 cd) = (0 : Int32)
  · skip
    have ecd : cd = 1 := by rcases hcd with z_ | z_; exact absurd c4_157 (by rw [z_.1]; decide); exact z_
    have Au : own_A Z h0 t kt .byte (n1 + n1) (fun i => .int ((own_u16 cs) i)) := by have z_ := q3; rw [ecd, own_bl1] at z_; exact z_.congr (fun q _ => by rw [own_by1])
    refine own_st (fun t_ k_ => XS.ifYes X156.here hx rfl (pc0 := 4) (pc' := 16) rfl (hb hby own_d16_4) rfl ((if0 _ _).trans (teq c4_157).1) (by decide) (by decide) (XS.aloadN X156.here hx rfl (hb hby own_d16_16) rfl rfl k_)) ?_
    show own_at p e below _ T156 m 17 #[oR a1, oI q_] [(.ref a1)]
    obtain ⟨T158, X158, e158, st158⟩ := getF X156 hx hZ hown (host := "") (Or.inl (own_w hw 52 rfl)) Via.refl eq156 q1 (g := (mkF m 17 #[oR a1, oI q_] [(.ref a1)])) rfl rfl (hb hby own_d16_17)
    refine own_st (st158) ?_
    refine own_st (fun t_ k_ => XS.iloadN X158.here hx rfl (hb hby own_d16_20) rfl k_) ?_
    show own_at p e below _ T158 m 21 #[oR a1, oI q_] [(.int q_), (.ref t)]
    obtain ⟨_, _, ⟨T159, L159, k159, n159⟩, -, X159, ⟨Lc159, hQ159, l159, y159, z159⟩, st159⟩ := Jvm.LawKit.callS X158 hx (y := own_n16) hown (mvT hZ (own_w hw 159 rfl)) (mvT hZ (own_w hw 160 rfl)) (mvT hZ (own_w hw 41 rfl)) (mvT hZ (own_w hw 161 rfl)) (by decide) (backOf (W := 0) (own_rm31 l Z a0 hw [] t q_ kt n1 cs qn G3 h0 n0 (Nat.le_trans Z0 (Keep.refl h0 []).1) Au q5 q8 rG3 q10 q11 q12 hq hch) hZ (own_w hw 161 rfl) (own_w hw 41 rfl) (by decide) (by decide)) (g := (mkF m 21 #[oR a1, oI q_] [(.int q_), (.ref t)])) rfl (by rw [hml]; rfl) (argsL := [(.ref t), (.int q_)]) (rest := []) (lenOf own_pd5 rfl) rfl (own_hW rfl) (hb hby own_d16_21) (fun _ _ => ⟨rfl, e158, (by decide : 0 + 0 ≤ _), (by decide : 0 + 0 ≤ _)⟩)
    dsimp only [Pt.U, Pt.locs, Pt.cells, Pt.slots] at X159 l159 y159 z159 st159 hQ159
    subst y159 z159
    obtain ⟨rfl, N159q, eq159⟩ := hQ159
    have N159 : Fr n0 L159 := by rw [l159]; exact Fr.app N156 N159q
    refine own_st (st159) ?_
    show own_at p e below _ T159 m 24 #[oR a1, oI q_] [(.int (cs qn))]
    exact own_ret (w := (.int (cs qn))) X159 hx hnl Bd.returns (own_nwc hch.1 hch.2) (Or.inl ⟨rfl, by decide, _, rfl⟩) (hb hby own_d16_24) ⟨rfl, N159, eq159⟩ (by decide) (by decide)
  have ecd : cd = 0 ∧ ∀ q : Nat, q < n1 → ¬ (255 : Int32) < cs q := by rcases hcd with z_ | z_; exact z_; exact absurd (show own_l1 cd = 0 by rw [z_]; decide) c4_157
  have Au : own_A Z h0 t kt .byte n1 (fun i => .int ((own_l8 cs) i)) := by have z_ := q3; rw [ecd.1, own_bl0] at z_; exact z_.congr (fun q _ => by rw [own_by0]; rfl)
  refine own_st (fun t_ k_ => XS.ifNo X156.here hx rfl (hb hby own_d16_4) rfl ((if0 _ _).trans (feq c4_157).1) (XS.aloadN X156.here hx rfl (hb hby own_d16_7) rfl rfl k_)) ?_
  show own_at p e below _ T156 m 8 #[oR a1, oI q_] [(.ref a1)]
  obtain ⟨T160, X160, e160, st160⟩ := getF X156 hx hZ hown (host := "") (Or.inl (own_w hw 52 rfl)) Via.refl eq156 q1 (g := (mkF m 8 #[oR a1, oI q_] [(.ref a1)])) rfl rfl (hb hby own_d16_8)
  refine own_st (st160) ?_
  refine own_st (fun t_ k_ => XS.iloadN X160.here hx rfl (hb hby own_d16_11) rfl k_) ?_
  show own_at p e below _ T160 m 12 #[oR a1, oI q_] [(.int q_), (.ref t)]
  obtain ⟨_, _, ⟨T161, L161, k161, n161⟩, -, X161, ⟨Lc161, hQ161, l161, y161, z161⟩, st161⟩ := Jvm.LawKit.callS X160 hx (y := own_n13) hown (mvT hZ (own_w hw 96 rfl)) (mvT hZ (own_w hw 97 rfl)) (mvT hZ (own_w hw 98 rfl)) (mvT hZ (own_w hw 99 rfl)) (by decide) (backOf (W := 0) (own_rm18 l Z a0 hw [] t q_ kt n1 cs qn G3 h0 n0 (Nat.le_trans Z0 (Keep.refl h0 []).1) Au q5 q8 rG3 hq hch (ecd.2 _ hq.2.1)) hZ (own_w hw 99 rfl) (own_w hw 98 rfl) (by decide) (by decide)) (g := (mkF m 12 #[oR a1, oI q_] [(.int q_), (.ref t)])) rfl (by rw [hml]; rfl) (argsL := [(.ref t), (.int q_)]) (rest := []) (lenOf own_pd5 rfl) rfl (own_hW rfl) (hb hby own_d16_12) (fun _ _ => ⟨rfl, e160, (by decide : 0 + 0 ≤ _), (by decide : 0 + 0 ≤ _)⟩)
  dsimp only [Pt.U, Pt.locs, Pt.cells, Pt.slots] at X161 l161 y161 z161 st161 hQ161
  subst y161 z161
  obtain ⟨rfl, N161q, eq161⟩ := hQ161
  have N161 : Fr n0 L161 := by rw [l161]; exact Fr.app N156 N161q
  refine own_st (st161) ?_
  show own_at p e below _ T161 m 15 #[oR a1, oI q_] [(.int (cs qn))]
  exact own_ret (w := (.int (cs qn))) X161 hx hnl Bd.returns (own_nwc hch.1 hch.2) (Or.inl ⟨rfl, by decide, _, rfl⟩) (hb hby own_d16_15) ⟨rfl, N161, eq161⟩ (by decide) (by decide)

theorem own_d3_0 : decode method_2_code 0 = .ok (.bipush 12, 2) := by decide +kernel
theorem own_d3_2 : decode method_2_code 2 = .ok (.newarray .long, 2) := by decide +kernel
theorem own_d3_4 : decode method_2_code 4 = .ok (.dup, 1) := by decide +kernel
theorem own_d3_5 : decode method_2_code 5 = .ok (.iconst 0, 1) := by decide +kernel
theorem own_d3_6 : decode method_2_code 6 = .ok (.lconst 1, 1) := by decide +kernel
theorem own_d3_7 : decode method_2_code 7 = .ok (.lastore, 1) := by decide +kernel
theorem own_d3_8 : decode method_2_code 8 = .ok (.dup, 1) := by decide +kernel
theorem own_d3_9 : decode method_2_code 9 = .ok (.iconst 1, 1) := by decide +kernel
theorem own_d3_10 : decode method_2_code 10 = .ok (.ldc2_w 7, 3) := by decide +kernel
theorem own_d3_13 : decode method_2_code 13 = .ok (.lastore, 1) := by decide +kernel
theorem own_d3_14 : decode method_2_code 14 = .ok (.dup, 1) := by decide +kernel
theorem own_d3_15 : decode method_2_code 15 = .ok (.iconst 2, 1) := by decide +kernel
theorem own_d3_16 : decode method_2_code 16 = .ok (.ldc2_w 9, 3) := by decide +kernel
theorem own_d3_19 : decode method_2_code 19 = .ok (.lastore, 1) := by decide +kernel
theorem own_d3_20 : decode method_2_code 20 = .ok (.dup, 1) := by decide +kernel
theorem own_d3_21 : decode method_2_code 21 = .ok (.iconst 3, 1) := by decide +kernel
theorem own_d3_22 : decode method_2_code 22 = .ok (.ldc2_w 11, 3) := by decide +kernel
theorem own_d3_25 : decode method_2_code 25 = .ok (.lastore, 1) := by decide +kernel
theorem own_d3_26 : decode method_2_code 26 = .ok (.dup, 1) := by decide +kernel
theorem own_d3_27 : decode method_2_code 27 = .ok (.iconst 4, 1) := by decide +kernel
theorem own_d3_28 : decode method_2_code 28 = .ok (.ldc2_w 13, 3) := by decide +kernel
theorem own_d3_31 : decode method_2_code 31 = .ok (.lastore, 1) := by decide +kernel
theorem own_d3_32 : decode method_2_code 32 = .ok (.dup, 1) := by decide +kernel
theorem own_d3_33 : decode method_2_code 33 = .ok (.iconst 5, 1) := by decide +kernel
theorem own_d3_34 : decode method_2_code 34 = .ok (.ldc2_w 15, 3) := by decide +kernel
theorem own_d3_37 : decode method_2_code 37 = .ok (.lastore, 1) := by decide +kernel
theorem own_d3_38 : decode method_2_code 38 = .ok (.dup, 1) := by decide +kernel
theorem own_d3_39 : decode method_2_code 39 = .ok (.bipush 6, 2) := by decide +kernel
theorem own_d3_41 : decode method_2_code 41 = .ok (.ldc2_w 17, 3) := by decide +kernel
theorem own_d3_44 : decode method_2_code 44 = .ok (.lastore, 1) := by decide +kernel
theorem own_d3_45 : decode method_2_code 45 = .ok (.dup, 1) := by decide +kernel
theorem own_d3_46 : decode method_2_code 46 = .ok (.bipush 7, 2) := by decide +kernel
theorem own_d3_48 : decode method_2_code 48 = .ok (.ldc2_w 19, 3) := by decide +kernel
theorem own_d3_51 : decode method_2_code 51 = .ok (.lastore, 1) := by decide +kernel
theorem own_d3_52 : decode method_2_code 52 = .ok (.dup, 1) := by decide +kernel
theorem own_d3_53 : decode method_2_code 53 = .ok (.bipush 8, 2) := by decide +kernel
theorem own_d3_55 : decode method_2_code 55 = .ok (.ldc2_w 21, 3) := by decide +kernel
theorem own_d3_58 : decode method_2_code 58 = .ok (.lastore, 1) := by decide +kernel
theorem own_d3_59 : decode method_2_code 59 = .ok (.dup, 1) := by decide +kernel
theorem own_d3_60 : decode method_2_code 60 = .ok (.bipush 9, 2) := by decide +kernel
theorem own_d3_62 : decode method_2_code 62 = .ok (.ldc2_w 23, 3) := by decide +kernel
theorem own_d3_65 : decode method_2_code 65 = .ok (.lastore, 1) := by decide +kernel
theorem own_d3_66 : decode method_2_code 66 = .ok (.dup, 1) := by decide +kernel
theorem own_d3_67 : decode method_2_code 67 = .ok (.bipush 10, 2) := by decide +kernel
theorem own_d3_69 : decode method_2_code 69 = .ok (.ldc2_w 25, 3) := by decide +kernel
theorem own_d3_72 : decode method_2_code 72 = .ok (.lastore, 1) := by decide +kernel
theorem own_d3_73 : decode method_2_code 73 = .ok (.dup, 1) := by decide +kernel
theorem own_d3_74 : decode method_2_code 74 = .ok (.bipush 11, 2) := by decide +kernel
theorem own_d3_76 : decode method_2_code 76 = .ok (.ldc2_w 27, 3) := by decide +kernel
theorem own_d3_79 : decode method_2_code 79 = .ok (.lastore, 1) := by decide +kernel
theorem own_d3_80 : decode method_2_code 80 = .ok (.astore_n 1, 1) := by decide +kernel
theorem own_d3_81 : decode method_2_code 81 = .ok (.aload_n 1, 1) := by decide +kernel
theorem own_d3_82 : decode method_2_code 82 = .ok (.iload_n 0, 1) := by decide +kernel
theorem own_d3_83 : decode method_2_code 83 = .ok (.laload, 1) := by decide +kernel
theorem own_d3_84 : decode method_2_code 84 = .ok (.lreturn, 1) := by decide +kernel
theorem own_pn4 : plainName "com/example/marshalyard/marshalyard/engine/DecimalIntegerParsePinLaw" = true := by first | (simp [plainName, overriddenIn]; done) | decide +kernel
theorem own_ef3 (m : MethodId) (x0 : Int32) : entryFrame m #[(.int x0)] 2 = mkF m 0 #[.val (.int x0), .unset] [] := by first | (simp [entryFrame, mkF, argsToLocals, Value.category]; done) | rfl
def own_Q3 (Z : State) (kx_ : Int32) (kn : Nat) (h0 : Heap) (n0 : Nat) (v : Option Value) (h : Heap) (L : List Loc) : Prop := v = some (.long (own_p10 kn)) ∧ Fr n0 L ∧ Keep h0 h []
set_option maxRecDepth 65536 in
set_option maxHeartbeats 40000000 in
theorem own_rm3 (l : Launch) (Z : State) (a0 : Array Value) (hw : ∀ d ∈ tables_1, d.before a0 Z = true) (ws : List Jvm.Cond) (kx_ : Int32) (kn : Nat) (h0 : Heap) (n0 : Nat) (Z0 : n0 ≤ h0.size) (hk : (kx_.toInt = (kn : Int) ∧ kn < 12)) :
    MetFree l own_n18 (head1 (Jvm.Cond.code own_n18 method_2_code 2 (some .long) :: ws) ({ frames := 0, cells := 1, slots := 12, locals := 0 } : Room)) (fun a U => a = #[(.int kx_)] ∧ Z.Warmed39 U.vm ∧ U.heap = h0) (fun _ _ _ _ _ => True) (fun _ U o U' => ∃ v L, o = .returned v ∧ own_Q3 Z kx_ kn h0 n0 v U'.heap L ∧ FrameEnd U o U' L ({ frames := 0, cells := 1, slots := 12, locals := 0 } : Room).cells ({ frames := 0, cells := 1, slots := 12, locals := 0 } : Room).slots) := by
  refine MetFree.of_bodySF (plainFor_of_name own_pn4) hisR ?_
  intro p e s m args below meth c s₁ Bd hml0 hP hK
  obtain ⟨rfl, hZ, hh⟩ := hP
  have hx := Bd.exec
  have hby := Bd.bytes
  have hml : c.maxLocals = 2 := hml0
  have hown : s.vm.findClass "com/example/marshalyard/marshalyard/engine/DecimalIntegerParsePinLaw" = some m.cls := findClass_of_methodNamed Bd.named
  have hnm := (name_of_methodNamed Bd.named Bd.method).1
  have hnl : meth.locks = false := Bd.notSynchronized
  have X0 : Stand p l e ({ frames := 0, cells := 1, slots := 12, locals := 0 } : Room) s m #[(.int kx_)] below meth c s₁ [] 0 0 := Stand.of_body Bd
  have e0 : s₁.heap = h0 := by rw [← hh, Bd.state]; rfl
  have N0 := Fr.nil n0
  show own_Go p.tables e below (own_P below s (own_Q3 Z kx_ kn h0 n0) ({ frames := 0, cells := 1, slots := 12, locals := 0 } : Room).cells ({ frames := 0, cells := 1, slots := 12, locals := 0 } : Room).slots) _
  refine own_st (fun t_ k_ => castTop (own_ef3 m kx_) k_) ?_
  refine own_st (fun t_ k_ => XS.bipush X0.here hx rfl (hb hby own_d3_0) k_) ?_
  show own_at p e below _ s₁ m 2 #[oI kx_, oU] [(.int (12 : Int32))]
  obtain ⟨T162, h162, k162, X162, e162, E162, A162, st162⟩ := newP X0 hx hZ (own_w hw 13 rfl) e0 (g := (mkF m 2 #[oI kx_, oU] [(.int (12 : Int32))])) rfl (hb hby own_d3_2) rfl (by decide) (cap := 12) (by decide) (by decide) (by decide) (by decide)
  obtain ⟨b162, g162⟩ : ∃ z, z = h0.size := ⟨_, rfl⟩
  rw [← g162] at A162 st162
  have fr162 : h0.size ≤ b162 := Nat.le_trans (Keep.refl h0 []).1 (Nat.le_of_eq g162.symm)
  have ge162 : n0 ≤ b162 := Nat.le_trans Z0 fr162
  have K162 : Keep h0 h162 [] := (Keep.refl h0 []).ext E162
  have Ar162 : own_A Z h162 b162 k162 .long 12 (fun i => .long ((fun _ => (0 : Int64)) i)) := own_A.new A162 rfl (by decide)
  refine own_st (st162) ?_
  refine own_st (fun t_ k_ => XS.dup X162.here hx rfl (hb hby own_d3_4) rfl rfl (XS.iconst X162.here hx rfl (hb hby own_d3_5) (XS.lconst X162.here hx rfl (hb hby own_d3_6) k_))) ?_
  show own_at p e below _ T162 m 7 #[oI kx_, oU] [(.long (1 : Int64)), (.int (0 : Int32)), (.ref b162), (.ref b162)]
  obtain ⟨T163, h163, X163, e163, W163, Aw163, st163⟩ := own_lastore X162 hx hZ e162 Ar162 (i := 0) (by decide) (by decide) (g := (mkF m 7 #[oI kx_, oU] [(.long (1 : Int64)), (.int (0 : Int32)), (.ref b162), (.ref b162)])) rfl rfl (hb hby own_d3_7)
  have N163 := Fr.snoc X163 N0 ge162
  have K163 : Keep h0 h163 [] := K162.wr W163 (Or.inr fr162)
  refine own_st (st163) ?_
  refine own_st (fun t_ k_ => XS.dup X163.here hx rfl (hb hby own_d3_8) rfl rfl (XS.iconst X163.here hx rfl (hb hby own_d3_9) k_)) ?_
  show own_at p e below _ T163 m 10 #[oI kx_, oU] [(.int (1 : Int32)), (.ref b162), (.ref b162)]
  refine own_st (X163.ldc2Long hx hown (mvT hZ (own_w hw 14 rfl)) (g := (mkF m 10 #[oI kx_, oU] [(.int (1 : Int32)), (.ref b162), (.ref b162)])) rfl (hb hby own_d3_10)) ?_
  obtain ⟨T164, h164, X164, e164, W164, Aw164, st164⟩ := own_lastore X163 hx hZ e163 Aw163 (i := 1) (by decide) (by decide) (g := (mkF m 13 #[oI kx_, oU] [(.long (10 : Int64)), (.int (1 : Int32)), (.ref b162), (.ref b162)])) rfl rfl (hb hby own_d3_13)
  have N164 := Fr.snoc X164 N163 ge162
  have K164 : Keep h0 h164 [] := K163.wr W164 (Or.inr fr162)
  refine own_st (st164) ?_
  refine own_st (fun t_ k_ => XS.dup X164.here hx rfl (hb hby own_d3_14) rfl rfl (XS.iconst X164.here hx rfl (hb hby own_d3_15) k_)) ?_
  show own_at p e below _ T164 m 16 #[oI kx_, oU] [(.int (2 : Int32)), (.ref b162), (.ref b162)]
  refine own_st (X164.ldc2Long hx hown (mvT hZ (own_w hw 15 rfl)) (g := (mkF m 16 #[oI kx_, oU] [(.int (2 : Int32)), (.ref b162), (.ref b162)])) rfl (hb hby own_d3_16)) ?_
  obtain ⟨T165, h165, X165, e165, W165, Aw165, st165⟩ := own_lastore X164 hx hZ e164 Aw164 (i := 2) (by decide) (by decide) (g := (mkF m 19 #[oI kx_, oU] [(.long (100 : Int64)), (.int (2 : Int32)), (.ref b162), (.ref b162)])) rfl rfl (hb hby own_d3_19)
  have N165 := Fr.snoc X165 N164 ge162
  have K165 : Keep h0 h165 [] := K164.wr W165 (Or.inr fr162)
  refine own_st (st165) ?_
  refine own_st (fun t_ k_ => XS.dup X165.here hx rfl (hb hby own_d3_20) rfl rfl (XS.iconst X165.here hx rfl (hb hby own_d3_21) k_)) ?_
  show own_at p e below _ T165 m 22 #[oI kx_, oU] [(.int (3 : Int32)), (.ref b162), (.ref b162)]
  refine own_st (X165.ldc2Long hx hown (mvT hZ (own_w hw 16 rfl)) (g := (mkF m 22 #[oI kx_, oU] [(.int (3 : Int32)), (.ref b162), (.ref b162)])) rfl (hb hby own_d3_22)) ?_
  obtain ⟨T166, h166, X166, e166, W166, Aw166, st166⟩ := own_lastore X165 hx hZ e165 Aw165 (i := 3) (by decide) (by decide) (g := (mkF m 25 #[oI kx_, oU] [(.long (1000 : Int64)), (.int (3 : Int32)), (.ref b162), (.ref b162)])) rfl rfl (hb hby own_d3_25)
  have N166 := Fr.snoc X166 N165 ge162
  have K166 : Keep h0 h166 [] := K165.wr W166 (Or.inr fr162)
  refine own_st (st166) ?_
  refine own_st (fun t_ k_ => XS.dup X166.here hx rfl (hb hby own_d3_26) rfl rfl (XS.iconst X166.here hx rfl (hb hby own_d3_27) k_)) ?_
  show own_at p e below _ T166 m 28 #[oI kx_, oU] [(.int (4 : Int32)), (.ref b162), (.ref b162)]
  refine own_st (X166.ldc2Long hx hown (mvT hZ (own_w hw 17 rfl)) (g := (mkF m 28 #[oI kx_, oU] [(.int (4 : Int32)), (.ref b162), (.ref b162)])) rfl (hb hby own_d3_28)) ?_
  obtain ⟨T167, h167, X167, e167, W167, Aw167, st167⟩ := own_lastore X166 hx hZ e166 Aw166 (i := 4) (by decide) (by decide) (g := (mkF m 31 #[oI kx_, oU] [(.long (10000 : Int64)), (.int (4 : Int32)), (.ref b162), (.ref b162)])) rfl rfl (hb hby own_d3_31)
  have N167 := Fr.snoc X167 N166 ge162
  have K167 : Keep h0 h167 [] := K166.wr W167 (Or.inr fr162)
  refine own_st (st167) ?_
  refine own_st (fun t_ k_ => XS.dup X167.here hx rfl (hb hby own_d3_32) rfl rfl (XS.iconst X167.here hx rfl (hb hby own_d3_33) k_)) ?_
  show own_at p e below _ T167 m 34 #[oI kx_, oU] [(.int (5 : Int32)), (.ref b162), (.ref b162)]
  refine own_st (X167.ldc2Long hx hown (mvT hZ (own_w hw 18 rfl)) (g := (mkF m 34 #[oI kx_, oU] [(.int (5 : Int32)), (.ref b162), (.ref b162)])) rfl (hb hby own_d3_34)) ?_
  obtain ⟨T168, h168, X168, e168, W168, Aw168, st168⟩ := own_lastore X167 hx hZ e167 Aw167 (i := 5) (by decide) (by decide) (g := (mkF m 37 #[oI kx_, oU] [(.long (100000 : Int64)), (.int (5 : Int32)), (.ref b162), (.ref b162)])) rfl rfl (hb hby own_d3_37)
  have N168 := Fr.snoc X168 N167 ge162
  have K168 : Keep h0 h168 [] := K167.wr W168 (Or.inr fr162)
  refine own_st (st168) ?_
  refine own_st (fun t_ k_ => XS.dup X168.here hx rfl (hb hby own_d3_38) rfl rfl (XS.bipush X168.here hx rfl (hb hby own_d3_39) k_)) ?_
  show own_at p e below _ T168 m 41 #[oI kx_, oU] [(.int (6 : Int32)), (.ref b162), (.ref b162)]
  refine own_st (X168.ldc2Long hx hown (mvT hZ (own_w hw 19 rfl)) (g := (mkF m 41 #[oI kx_, oU] [(.int (6 : Int32)), (.ref b162), (.ref b162)])) rfl (hb hby own_d3_41)) ?_
  obtain ⟨T169, h169, X169, e169, W169, Aw169, st169⟩ := own_lastore X168 hx hZ e168 Aw168 (i := 6) (by decide) (by decide) (g := (mkF m 44 #[oI kx_, oU] [(.long (1000000 : Int64)), (.int (6 : Int32)), (.ref b162), (.ref b162)])) rfl rfl (hb hby own_d3_44)
  have N169 := Fr.snoc X169 N168 ge162
  have K169 : Keep h0 h169 [] := K168.wr W169 (Or.inr fr162)
  refine own_st (st169) ?_
  refine own_st (fun t_ k_ => XS.dup X169.here hx rfl (hb hby own_d3_45) rfl rfl (XS.bipush X169.here hx rfl (hb hby own_d3_46) k_)) ?_
  show own_at p e below _ T169 m 48 #[oI kx_, oU] [(.int (7 : Int32)), (.ref b162), (.ref b162)]
  refine own_st (X169.ldc2Long hx hown (mvT hZ (own_w hw 20 rfl)) (g := (mkF m 48 #[oI kx_, oU] [(.int (7 : Int32)), (.ref b162), (.ref b162)])) rfl (hb hby own_d3_48)) ?_
  obtain ⟨T170, h170, X170, e170, W170, Aw170, st170⟩ := own_lastore X169 hx hZ e169 Aw169 (i := 7) (by decide) (by decide) (g := (mkF m 51 #[oI kx_, oU] [(.long (10000000 : Int64)), (.int (7 : Int32)), (.ref b162), (.ref b162)])) rfl rfl (hb hby own_d3_51)
  have N170 := Fr.snoc X170 N169 ge162
  have K170 : Keep h0 h170 [] := K169.wr W170 (Or.inr fr162)
  refine own_st (st170) ?_
  refine own_st (fun t_ k_ => XS.dup X170.here hx rfl (hb hby own_d3_52) rfl rfl (XS.bipush X170.here hx rfl (hb hby own_d3_53) k_)) ?_
  show own_at p e below _ T170 m 55 #[oI kx_, oU] [(.int (8 : Int32)), (.ref b162), (.ref b162)]
  refine own_st (X170.ldc2Long hx hown (mvT hZ (own_w hw 21 rfl)) (g := (mkF m 55 #[oI kx_, oU] [(.int (8 : Int32)), (.ref b162), (.ref b162)])) rfl (hb hby own_d3_55)) ?_
  obtain ⟨T171, h171, X171, e171, W171, Aw171, st171⟩ := own_lastore X170 hx hZ e170 Aw170 (i := 8) (by decide) (by decide) (g := (mkF m 58 #[oI kx_, oU] [(.long (100000000 : Int64)), (.int (8 : Int32)), (.ref b162), (.ref b162)])) rfl rfl (hb hby own_d3_58)
  have N171 := Fr.snoc X171 N170 ge162
  have K171 : Keep h0 h171 [] := K170.wr W171 (Or.inr fr162)
  refine own_st (st171) ?_
  refine own_st (fun t_ k_ => XS.dup X171.here hx rfl (hb hby own_d3_59) rfl rfl (XS.bipush X171.here hx rfl (hb hby own_d3_60) k_)) ?_
  show own_at p e below _ T171 m 62 #[oI kx_, oU] [(.int (9 : Int32)), (.ref b162), (.ref b162)]
  refine own_st (X171.ldc2Long hx hown (mvT hZ (own_w hw 22 rfl)) (g := (mkF m 62 #[oI kx_, oU] [(.int (9 : Int32)), (.ref b162), (.ref b162)])) rfl (hb hby own_d3_62)) ?_
  obtain ⟨T172, h172, X172, e172, W172, Aw172, st172⟩ := own_lastore X171 hx hZ e171 Aw171 (i := 9) (by decide) (by decide) (g := (mkF m 65 #[oI kx_, oU] [(.long (1000000000 : Int64)), (.int (9 : Int32)), (.ref b162), (.ref b162)])) rfl rfl (hb hby own_d3_65)
  have N172 := Fr.snoc X172 N171 ge162
  have K172 : Keep h0 h172 [] := K171.wr W172 (Or.inr fr162)
  refine own_st (st172) ?_
  refine own_st (fun t_ k_ => XS.dup X172.here hx rfl (hb hby own_d3_66) rfl rfl (XS.bipush X172.here hx rfl (hb hby own_d3_67) k_)) ?_
  show own_at p e below _ T172 m 69 #[oI kx_, oU] [(.int (10 : Int32)), (.ref b162), (.ref b162)]
  refine own_st (X172.ldc2Long hx hown (mvT hZ (own_w hw 23 rfl)) (g := (mkF m 69 #[oI kx_, oU] [(.int (10 : Int32)), (.ref b162), (.ref b162)])) rfl (hb hby own_d3_69)) ?_
  obtain ⟨T173, h173, X173, e173, W173, Aw173, st173⟩ := own_lastore X172 hx hZ e172 Aw172 (i := 10) (by decide) (by decide) (g := (mkF m 72 #[oI kx_, oU] [(.long (10000000000 : Int64)), (.int (10 : Int32)), (.ref b162), (.ref b162)])) rfl rfl (hb hby own_d3_72)
  have N173 := Fr.snoc X173 N172 ge162
  have K173 : Keep h0 h173 [] := K172.wr W173 (Or.inr fr162)
  refine own_st (st173) ?_
  refine own_st (fun t_ k_ => XS.dup X173.here hx rfl (hb hby own_d3_73) rfl rfl (XS.bipush X173.here hx rfl (hb hby own_d3_74) k_)) ?_
  show own_at p e below _ T173 m 76 #[oI kx_, oU] [(.int (11 : Int32)), (.ref b162), (.ref b162)]
  refine own_st (X173.ldc2Long hx hown (mvT hZ (own_w hw 24 rfl)) (g := (mkF m 76 #[oI kx_, oU] [(.int (11 : Int32)), (.ref b162), (.ref b162)])) rfl (hb hby own_d3_76)) ?_
  obtain ⟨T174, h174, X174, e174, W174, Aw174, st174⟩ := own_lastore X173 hx hZ e173 Aw173 (i := 11) (by decide) (by decide) (g := (mkF m 79 #[oI kx_, oU] [(.long (100000000000 : Int64)), (.int (11 : Int32)), (.ref b162), (.ref b162)])) rfl rfl (hb hby own_d3_79)
  have N174 := Fr.snoc X174 N173 ge162
  have K174 : Keep h0 h174 [] := K173.wr W174 (Or.inr fr162)
  refine own_st (st174) ?_
  refine own_st (fun t_ k_ => XS.astoreN X174.here hx rfl (hb hby own_d3_80) rfl rfl (l' := #[oI kx_, oR b162]) rfl (XS.aloadN X174.here hx rfl (hb hby own_d3_81) rfl rfl (XS.iloadN X174.here hx rfl (hb hby own_d3_82) rfl k_))) ?_
  show own_at p e below _ T174 m 83 #[oI kx_, oR b162] [(.int kx_), (.ref b162)]
  refine own_st (own_laload X174 hx hZ e174 Aw174 (i := kn) hk.1 hk.2 (g := (mkF m 83 #[oI kx_, oR b162] [(.int kx_), (.ref b162)])) rfl rfl (hb hby own_d3_83)) ?_
  show own_at p e below _ T174 m 84 #[oI kx_, oR b162] [(.long ((own_upd (own_upd (own_upd (own_upd (own_upd (own_upd (own_upd (own_upd (own_upd (own_upd (own_upd (own_upd (fun _ => (0 : Int64)) 0 (1 : Int64)) 1 (10 : Int64)) 2 (100 : Int64)) 3 (1000 : Int64)) 4 (10000 : Int64)) 5 (100000 : Int64)) 6 (1000000 : Int64)) 7 (10000000 : Int64)) 8 (100000000 : Int64)) 9 (1000000000 : Int64)) 10 (10000000000 : Int64)) 11 (100000000000 : Int64)) kn))]
  rw [show ((own_upd (own_upd (own_upd (own_upd (own_upd (own_upd (own_upd (own_upd (own_upd (own_upd (own_upd (own_upd (fun _ => (0 : Int64)) 0 (1 : Int64)) 1 (10 : Int64)) 2 (100 : Int64)) 3 (1000 : Int64)) 4 (10000 : Int64)) 5 (100000 : Int64)) 6 (1000000 : Int64)) 7 (10000000 : Int64)) 8 (100000000 : Int64)) 9 (1000000000 : Int64)) 10 (10000000000 : Int64)) 11 (100000000000 : Int64)) kn) = (own_p10 kn) from rfl]
  show own_at p e below _ T174 m 84 #[oI kx_, oR b162] [(.long (own_p10 kn))]
  exact own_ret (w := (.long (own_p10 kn))) X174 hx hnl Bd.returns rfl (Or.inr (Or.inl ⟨rfl, rfl, _, rfl⟩)) (hb hby own_d3_84) ⟨rfl, N174, (by rw [e174]; exact K174)⟩ (by decide) (by decide)

theorem own_d2_0 : decode method_3_code 0 = .ok (.lload_n 0, 1) := by decide +kernel
theorem own_d2_1 : decode method_3_code 1 = .ok (.iload_n 2, 1) := by decide +kernel
theorem own_d2_2 : decode method_3_code 2 = .ok (.invokestatic 29, 3) := by decide +kernel
theorem own_d2_5 : decode method_3_code 5 = .ok (.ldiv, 1) := by decide +kernel
theorem own_d2_6 : decode method_3_code 6 = .ok (.ldc2_w 7, 3) := by decide +kernel
theorem own_d2_9 : decode method_3_code 9 = .ok (.lrem, 1) := by decide +kernel
theorem own_d2_10 : decode method_3_code 10 = .ok (.l2i, 1) := by decide +kernel
theorem own_d2_11 : decode method_3_code 11 = .ok (.ireturn, 1) := by decide +kernel
theorem own_pd13 : parseMethodDescriptor "(I)J" = some ⟨[.int], some .long⟩ := by decide +kernel
theorem own_ef2 (m : MethodId) (x0 : Int64) (x1 : Int32) : entryFrame m #[(.long x0), (.int x1)] 3 = mkF m 0 #[.val (.long x0), .second, .val (.int x1)] [] := by first | (simp [entryFrame, mkF, argsToLocals, Value.category]; done) | rfl
def own_Q2 (Z : State) (u_ : Int64) (kx_ : Int32) (kn : Nat) (h0 : Heap) (n0 : Nat) (v : Option Value) (h : Heap) (L : List Loc) : Prop := v = some (.int (own_d10 u_ kn)) ∧ Fr n0 L ∧ Keep h0 h []
set_option maxRecDepth 65536 in
set_option maxHeartbeats 40000000 in
theorem own_rm2 (l : Launch) (Z : State) (a0 : Array Value) (hw : ∀ d ∈ tables_1, d.before a0 Z = true) (ws : List Jvm.Cond) (u_ : Int64) (kx_ : Int32) (kn : Nat) (h0 : Heap) (n0 : Nat) (Z0 : n0 ≤ h0.size) (hk : (kx_.toInt = (kn : Int) ∧ kn < 12)) :
    MetFree l own_n19 (head1 (Jvm.Cond.code own_n19 method_3_code 3 (some .int) :: ws) ({ frames := 1, cells := 1, slots := 12, locals := 15 } : Room)) (fun a U => a = #[(.long u_), (.int kx_)] ∧ Z.Warmed39 U.vm ∧ U.heap = h0) (fun _ _ _ _ _ => True) (fun _ U o U' => ∃ v L, o = .returned v ∧ own_Q2 Z u_ kx_ kn h0 n0 v U'.heap L ∧ FrameEnd U o U' L ({ frames := 1, cells := 1, slots := 12, locals := 15 } : Room).cells ({ frames := 1, cells := 1, slots := 12, locals := 15 } : Room).slots) := by
  refine MetFree.of_bodySF (plainFor_of_name own_pn4) hisR ?_
  intro p e s m args below meth c s₁ Bd hml0 hP hK
  obtain ⟨rfl, hZ, hh⟩ := hP
  have hx := Bd.exec
  have hby := Bd.bytes
  have hml : c.maxLocals = 3 := hml0
  have hown : s.vm.findClass "com/example/marshalyard/marshalyard/engine/DecimalIntegerParsePinLaw" = some m.cls := findClass_of_methodNamed Bd.named
  have hnm := (name_of_methodNamed Bd.named Bd.method).1
  have hnl : meth.locks = false := Bd.notSynchronized
  have X0 : Stand p l e ({ frames := 1, cells := 1, slots := 12, locals := 15 } : Room) s m #[(.long u_), (.int kx_)] below meth c s₁ [] 0 0 := Stand.of_body Bd
  have e0 : s₁.heap = h0 := by rw [← hh, Bd.state]; rfl
  have N0 := Fr.nil n0
  show own_Go p.tables e below (own_P below s (own_Q2 Z u_ kx_ kn h0 n0) ({ frames := 1, cells := 1, slots := 12, locals := 15 } : Room).cells ({ frames := 1, cells := 1, slots := 12, locals := 15 } : Room).slots) _
  refine own_st (fun t_ k_ => castTop (own_ef2 m u_ kx_) k_) ?_
  refine own_st (fun t_ k_ => XS.lloadN X0.here hx rfl (hb hby own_d2_0) rfl (XS.iloadN X0.here hx rfl (hb hby own_d2_1) rfl k_)) ?_
  show own_at p e below _ s₁ m 2 #[oJ u_, oS, oI kx_] [(.int kx_), (.long u_)]
  obtain ⟨_, _, ⟨T175, L175, k175, n175⟩, -, X175, ⟨Lc175, hQ175, l175, y175, z175⟩, st175⟩ := Jvm.LawKit.callS X0 hx (y := own_n18) hown (mvT hZ (own_w hw 10 rfl)) (mvT hZ (own_w hw 11 rfl)) (mvT hZ (own_w hw 5 rfl)) (mvT hZ (own_w hw 12 rfl)) (by decide) (backOf (W := 2) (own_rm3 l Z a0 hw [] kx_ kn h0 n0 (Nat.le_trans Z0 (Keep.refl h0 []).1) hk) hZ (own_w hw 12 rfl) (own_w hw 5 rfl) (by decide) (by decide)) (g := (mkF m 2 #[oJ u_, oS, oI kx_] [(.int kx_), (.long u_)])) rfl (by rw [hml]; rfl) (argsL := [(.int kx_)]) (rest := [(.long u_)]) (lenOf own_pd13 rfl) rfl (own_hW rfl) (hb hby own_d2_2) (fun _ _ => ⟨rfl, e0, (by decide : 0 + 1 ≤ _), (by decide : 0 + 12 ≤ _)⟩)
  dsimp only [Pt.U, Pt.locs, Pt.cells, Pt.slots] at X175 l175 y175 z175 st175 hQ175
  subst y175 z175
  obtain ⟨rfl, N175q, Kq175⟩ := hQ175
  have N175 : Fr n0 L175 := by rw [l175]; exact Fr.app N0 N175q
  have K175 : Keep h0 T175.heap [] := (Keep.refl h0 []).trans Kq175 all0
  refine own_st (st175) ?_
  refine own_st (fun t_ k_ => XS.ldiv X175.here hx rfl (hb hby own_d2_5) rfl (own_p10z hk.2) k_) ?_
  show own_at p e below _ T175 m 6 #[oJ u_, oS, oI kx_] [(.long (u_ / (own_p10 kn)))]
  refine own_st (X175.ldc2Long hx hown (mvT hZ (own_w hw 14 rfl)) (g := (mkF m 6 #[oJ u_, oS, oI kx_] [(.long (u_ / (own_p10 kn)))])) rfl (hb hby own_d2_6)) ?_
  show own_at p e below _ T175 m 9 #[oJ u_, oS, oI kx_] [(.long (10 : Int64)), (.long (u_ / (own_p10 kn)))]
  refine own_st (fun t_ k_ => own_lrem X175 hx rfl (hb hby own_d2_9) rfl (by decide) k_) ?_
  refine own_st (fun t_ k_ => XS.l2i X175.here hx rfl (hb hby own_d2_10) rfl k_) ?_
  show own_at p e below _ T175 m 11 #[oJ u_, oS, oI kx_] [(.int (((u_ / (own_p10 kn)) % (10 : Int64)).toInt32))]
  exact own_ret (w := (.int (((u_ / (own_p10 kn)) % (10 : Int64)).toInt32))) X175 hx hnl Bd.returns rfl (Or.inl ⟨rfl, by decide, _, rfl⟩) (hb hby own_d2_11) ⟨rfl, N175, (K175)⟩ (by decide) (by decide)

theorem own_d1_0 : decode method_4_code 0 = .ok (.iload 5, 2) := by decide +kernel
theorem own_d1_2 : decode method_4_code 2 = .ok (.iload_n 2, 1) := by decide +kernel
theorem own_d1_3 : decode method_4_code 3 = .ok (.if_icmp .ge 23, 3) := by decide +kernel
theorem own_d1_6 : decode method_4_code 6 = .ok (.aload_n 0, 1) := by decide +kernel
theorem own_d1_7 : decode method_4_code 7 = .ok (.iload_n 1, 1) := by decide +kernel
theorem own_d1_8 : decode method_4_code 8 = .ok (.iload_n 2, 1) := by decide +kernel
theorem own_d1_9 : decode method_4_code 9 = .ok (.iadd, 1) := by decide +kernel
theorem own_d1_10 : decode method_4_code 10 = .ok (.iconst 1, 1) := by decide +kernel
theorem own_d1_11 : decode method_4_code 11 = .ok (.isub, 1) := by decide +kernel
theorem own_d1_12 : decode method_4_code 12 = .ok (.iload 5, 2) := by decide +kernel
theorem own_d1_14 : decode method_4_code 14 = .ok (.isub, 1) := by decide +kernel
theorem own_d1_15 : decode method_4_code 15 = .ok (.bipush 48, 2) := by decide +kernel
theorem own_d1_17 : decode method_4_code 17 = .ok (.lload_n 3, 1) := by decide +kernel
theorem own_d1_18 : decode method_4_code 18 = .ok (.iload 5, 2) := by decide +kernel
theorem own_d1_20 : decode method_4_code 20 = .ok (.invokestatic 35, 3) := by decide +kernel
theorem own_d1_23 : decode method_4_code 23 = .ok (.iadd, 1) := by decide +kernel
theorem own_d1_24 : decode method_4_code 24 = .ok (.i2c, 1) := by decide +kernel
theorem own_d1_25 : decode method_4_code 25 = .ok (.castore, 1) := by decide +kernel
theorem own_d1_26 : decode method_4_code 26 = .ok (.return_, 1) := by decide +kernel
theorem own_pd14 : parseMethodDescriptor "(JI)I" = some ⟨[.long, .int], some .int⟩ := by decide +kernel
theorem own_ef1 (m : MethodId) (x0 : Addr) (x1 : Int32) (x2 : Int32) (x3 : Int64) (x4 : Int32) : entryFrame m #[(.ref x0), (.int x1), (.int x2), (.long x3), (.int x4)] 6 = mkF m 0 #[.val (.ref x0), .val (.int x1), .val (.int x2), .val (.long x3), .second, .val (.int x4)] [] := by first | (simp [entryFrame, mkF, argsToLocals, Value.category]; done) | rfl
def own_Q1 (Z : State) (b1 : Addr) (s_ : Int32) (n_ : Int32) (u_ : Int64) (kx_ : Int32) (k1 : ClassId) (s1 : Nat) (n1 : Nat) (kk : Nat) (g0 : Nat → Int32) (h0 : Heap) (n0 : Nat) (v : Option Value) (h : Heap) (L : List Loc) : Prop := v = none ∧ Fr n0 L ∧ Keep h0 h [b1] ∧ own_A Z h b1 k1 .char (s1 + n1) (fun i => .int ((own_pk s1 n1 u_ (kk + 1) g0) i))
set_option maxRecDepth 65536 in
set_option maxHeartbeats 40000000 in
theorem own_rm1 (l : Launch) (Z : State) (a0 : Array Value) (hw : ∀ d ∈ tables_1, d.before a0 Z = true) (ws : List Jvm.Cond) (b1 : Addr) (s_ : Int32) (n_ : Int32) (u_ : Int64) (kx_ : Int32) (k1 : ClassId) (s1 : Nat) (n1 : Nat) (kk : Nat) (g0 : Nat → Int32) (h0 : Heap) (n0 : Nat) (Z0 : n0 ≤ h0.size) (q0 : own_A Z h0 b1 k1 .char (s1 + n1) (fun i => .int ((own_pk s1 n1 u_ kk g0) i))) (q1 : n0 ≤ b1) (hsn : (s_.toInt = (s1 : Int) ∧ n_.toInt = (n1 : Int) ∧ kx_.toInt = (kk : Int) ∧ s1 ≤ 1 ∧ n1 ≤ 11 ∧ kk < 12)) :
    MetFree l own_n20 (head1 (Jvm.Cond.code own_n20 method_4_code 6 none :: ws) ({ frames := 2, cells := 1, slots := 12, locals := 32 } : Room)) (fun a U => a = #[(.ref b1), (.int s_), (.int n_), (.long u_), (.int kx_)] ∧ Z.Warmed39 U.vm ∧ U.heap = h0) (fun _ _ _ _ _ => True) (fun _ U o U' => ∃ v L, o = .returned v ∧ own_Q1 Z b1 s_ n_ u_ kx_ k1 s1 n1 kk g0 h0 n0 v U'.heap L ∧ FrameEnd U o U' L ({ frames := 2, cells := 1, slots := 12, locals := 32 } : Room).cells ({ frames := 2, cells := 1, slots := 12, locals := 32 } : Room).slots) := by
  refine MetFree.of_bodySF (plainFor_of_name own_pn4) hisR ?_
  intro p e s m args below meth c s₁ Bd hml0 hP hK
  obtain ⟨rfl, hZ, hh⟩ := hP
  have hx := Bd.exec
  have hby := Bd.bytes
  have hml : c.maxLocals = 6 := hml0
  have hown : s.vm.findClass "com/example/marshalyard/marshalyard/engine/DecimalIntegerParsePinLaw" = some m.cls := findClass_of_methodNamed Bd.named
  have hnm := (name_of_methodNamed Bd.named Bd.method).1
  have hnl : meth.locks = false := Bd.notSynchronized
  have X0 : Stand p l e ({ frames := 2, cells := 1, slots := 12, locals := 32 } : Room) s m #[(.ref b1), (.int s_), (.int n_), (.long u_), (.int kx_)] below meth c s₁ [] 0 0 := Stand.of_body Bd
  have e0 : s₁.heap = h0 := by rw [← hh, Bd.state]; rfl
  have N0 := Fr.nil n0
  show own_Go p.tables e below (own_P below s (own_Q1 Z b1 s_ n_ u_ kx_ k1 s1 n1 kk g0 h0 n0) ({ frames := 2, cells := 1, slots := 12, locals := 32 } : Room).cells ({ frames := 2, cells := 1, slots := 12, locals := 32 } : Room).slots) _
  refine own_st (fun t_ k_ => castTop (own_ef1 m b1 s_ n_ u_ kx_) k_) ?_
  refine own_st (fun t_ k_ => XS.iload X0.here hx rfl (hb hby own_d1_0) rfl (XS.iloadN X0.here hx rfl (hb hby own_d1_2) rfl k_)) ?_
  show own_at p e below _ s₁ m 3 #[oR b1, oI s_, oI n_, oJ u_, oS, oI kx_] [(.int n_), (.int kx_)]
  by_cases c3_176 : kx_ < n_
  · skip
    have hkn : kk < n1 := (own_ltp hsn.2.2.1 hsn.2.1).mp c3_176
    refine own_st (fun t_ k_ => XS.icmpNo X0.here hx rfl (hb hby own_d1_3) rfl (tlt c3_176).2.1 (XS.aloadN X0.here hx rfl (hb hby own_d1_6) rfl rfl (XS.iloadN X0.here hx rfl (hb hby own_d1_7) rfl (XS.iloadN X0.here hx rfl (hb hby own_d1_8) rfl (XS.iadd X0.here hx rfl (hb hby own_d1_9) rfl (XS.iconst X0.here hx rfl (hb hby own_d1_10) k_)))))) ?_
    show own_at p e below _ s₁ m 11 #[oR b1, oI s_, oI n_, oJ u_, oS, oI kx_] [(.int (1 : Int32)), (.int (s_ + n_)), (.ref b1)]
    refine own_st (fun t_ k_ => XS.isub X0.here hx rfl (hb hby own_d1_11) rfl (XS.iload X0.here hx rfl (hb hby own_d1_12) rfl (XS.isub X0.here hx rfl (hb hby own_d1_14) rfl (XS.bipush X0.here hx rfl (hb hby own_d1_15) (XS.lloadN X0.here hx rfl (hb hby own_d1_17) rfl (XS.iload X0.here hx rfl (hb hby own_d1_18) rfl k_)))))) ?_
    show own_at p e below _ s₁ m 20 #[oR b1, oI s_, oI n_, oJ u_, oS, oI kx_] [(.int kx_), (.long u_), (.int (48 : Int32)), (.int (((s_ + n_) - (1 : Int32)) - kx_)), (.ref b1)]
    obtain ⟨_, _, ⟨T177, L177, k177, n177⟩, -, X177, ⟨Lc177, hQ177, l177, y177, z177⟩, st177⟩ := Jvm.LawKit.callS X0 hx (y := own_n19) hown (mvT hZ (own_w hw 7 rfl)) (mvT hZ (own_w hw 8 rfl)) (mvT hZ (own_w hw 5 rfl)) (mvT hZ (own_w hw 9 rfl)) (by decide) (backOf (W := 3) (own_rm2 l Z a0 hw [] u_ kx_ kk h0 n0 (Nat.le_trans Z0 (Keep.refl h0 [b1]).1) ⟨hsn.2.2.1, hsn.2.2.2.2.2⟩) hZ (own_w hw 9 rfl) (own_w hw 5 rfl) (by decide) (by decide)) (g := (mkF m 20 #[oR b1, oI s_, oI n_, oJ u_, oS, oI kx_] [(.int kx_), (.long u_), (.int (48 : Int32)), (.int (((s_ + n_) - (1 : Int32)) - kx_)), (.ref b1)])) rfl (by rw [hml]; rfl) (argsL := [(.long u_), (.int kx_)]) (rest := [(.int (48 : Int32)), (.int (((s_ + n_) - (1 : Int32)) - kx_)), (.ref b1)]) (lenOf own_pd14 rfl) rfl (own_hW rfl) (hb hby own_d1_20) (fun _ _ => ⟨rfl, e0, (by decide : 0 + 1 ≤ _), (by decide : 0 + 12 ≤ _)⟩)
    dsimp only [Pt.U, Pt.locs, Pt.cells, Pt.slots] at X177 l177 y177 z177 st177 hQ177
    subst y177 z177
    obtain ⟨rfl, N177q, Kq177⟩ := hQ177
    have N177 : Fr n0 L177 := by rw [l177]; exact Fr.app N0 N177q
    have K177 : Keep h0 T177.heap [b1] := (Keep.refl h0 [b1]).trans Kq177 all0
    refine own_st (st177) ?_
    refine own_st (fun t_ k_ => XS.iadd X177.here hx rfl (hb hby own_d1_23) rfl (XS.i2c X177.here hx rfl (hb hby own_d1_24) rfl k_)) ?_
    show own_at p e below _ T177 m 25 #[oR b1, oI s_, oI n_, oJ u_, oS, oI kx_] [(.int (((48 : Int32) + (own_d10 u_ kk)).toUInt32.toUInt16.toUInt32.toInt32)), (.int (((s_ + n_) - (1 : Int32)) - kx_)), (.ref b1)]
    obtain ⟨T178, h178, X178, e178, W178, Aw178, st178⟩ := own_castore X177 hx hZ rfl (q0.keep Kq177 nin0) (i := (s1 + n1 - 1 - kk)) (own_csub (own_csub (own_cadd hsn.1 hsn.2.1 (by omega)) (by decide : (1 : Int32).toInt = ((1 : Nat) : Int)) (by omega) (by omega)) hsn.2.2.1 (by omega) (by omega)) (by omega) (own_narcc _) (v' := (((48 : Int32) + (own_d10 u_ kk)).toUInt32.toUInt16.toUInt32.toInt32)) (g := (mkF m 25 #[oR b1, oI s_, oI n_, oJ u_, oS, oI kx_] [(.int (((48 : Int32) + (own_d10 u_ kk)).toUInt32.toUInt16.toUInt32.toInt32)), (.int (((s_ + n_) - (1 : Int32)) - kx_)), (.ref b1)])) rfl rfl (hb hby own_d1_25)
    have N178 := Fr.snoc X178 N177 q1
    have K178 : Keep h0 h178 [b1] := K177.wr W178 (Or.inl (List.mem_of_getElem? (i := 0) rfl))
    refine own_st (st178) ?_
    have Af : own_A Z h178 b1 k1 .char (s1 + n1) (fun i => .int ((own_pk s1 n1 u_ (kk + 1) g0) i)) := (Aw178).congr (fun q _ => by rw [own_pkY _ _ hkn]; rfl)
    show own_at p e below _ T178 m 26 #[oR b1, oI s_, oI n_, oJ u_, oS, oI kx_] []
    exact own_ret0 X178 hx hnl Bd.returns (hb hby own_d1_26) ⟨rfl, N178, (by rw [e178]; exact K178), (by rw [e178]; exact Af)⟩ (by decide) (by decide)
  have hkn : ¬ kk < n1 := mt (own_ltp hsn.2.2.1 hsn.2.1).mpr c3_176
  have Af : own_A Z h0 b1 k1 .char (s1 + n1) (fun i => .int ((own_pk s1 n1 u_ (kk + 1) g0) i)) := (q0).congr (fun q _ => by rw [own_pkN _ _ hkn])
  refine own_st (fun t_ k_ => XS.icmpYes X0.here hx rfl (pc0 := 3) (pc' := 26) rfl (hb hby own_d1_3) rfl (flt c3_176).2.1 (by decide) (by decide) k_) ?_
  show own_at p e below _ s₁ m 26 #[oR b1, oI s_, oI n_, oJ u_, oS, oI kx_] []
  exact own_ret0 X0 hx hnl Bd.returns (hb hby own_d1_26) ⟨rfl, N0, (by rw [e0]; exact (Keep.refl h0 [b1])), (by rw [e0]; exact Af)⟩ (by decide) (by decide)

theorem own_d23_0 : decode jdk_2649_method_3_code 0 = .ok (.aload_n 0, 1) := by decide +kernel
theorem own_d23_1 : decode jdk_2649_method_3_code 1 = .ok (.invokespecial 1, 3) := by decide +kernel
theorem own_d23_4 : decode jdk_2649_method_3_code 4 = .ok (.aload_n 0, 1) := by decide +kernel
theorem own_d23_5 : decode jdk_2649_method_3_code 5 = .ok (.iconst 1, 1) := by decide +kernel
theorem own_d23_6 : decode jdk_2649_method_3_code 6 = .ok (.putfield 7, 3) := by decide +kernel
theorem own_d23_9 : decode jdk_2649_method_3_code 9 = .ok (.aload_n 0, 1) := by decide +kernel
theorem own_d23_10 : decode jdk_2649_method_3_code 10 = .ok (.iload_n 1, 1) := by decide +kernel
theorem own_d23_11 : decode jdk_2649_method_3_code 11 = .ok (.putfield 13, 3) := by decide +kernel
theorem own_d23_14 : decode jdk_2649_method_3_code 14 = .ok (.return_, 1) := by decide +kernel
theorem own_pn5 : plainName "java/util/OptionalInt" = true := by first | (simp [plainName, overriddenIn]; done) | decide +kernel
theorem own_ef23 (m : MethodId) (x0 : Addr) (x1 : Int32) : entryFrame m #[(.ref x0), (.int x1)] 2 = mkF m 0 #[.val (.ref x0), .val (.int x1)] [] := by first | (simp [entryFrame, mkF, argsToLocals, Value.category]; done) | rfl
def own_Q23 (Z : State) (a1 : Addr) (v_ : Int32) (h0 : Heap) (n0 : Nat) (v : Option Value) (h : Heap) (L : List Loc) : Prop := v = none ∧ Fr n0 L ∧ Keep h0 h [a1] ∧ Fld Z h a1 "java/util/OptionalInt" "isPresent" "Z" (.int (1 : Int32)) ∧ Fld Z h a1 "java/util/OptionalInt" "value" "I" (.int v_)
set_option maxRecDepth 65536 in
set_option maxHeartbeats 40000000 in
theorem own_rm23 (l : Launch) (Z : State) (a0 : Array Value) (hw : ∀ d ∈ tables_1, d.before a0 Z = true) (ws : List Jvm.Cond) (a1 : Addr) (v_ : Int32) (h0 : Heap) (n0 : Nat) (Z0 : n0 ≤ h0.size) (q0 : Exa Z h0 a1 "java/util/OptionalInt") (q1 : Fld Z h0 a1 "java/util/OptionalInt" "isPresent" "Z" (.int (0 : Int32))) (q2 : Fld Z h0 a1 "java/util/OptionalInt" "value" "I" (.int (0 : Int32))) (q3 : n0 ≤ a1) :
    MetFree l own_n21 (head1 (Jvm.Cond.code own_n21 jdk_2649_method_3_code 2 none :: ws) ({ frames := 1, cells := 0, slots := 0, locals := 12 } : Room)) (fun a U => a = #[(.ref a1), (.int v_)] ∧ Z.Warmed39 U.vm ∧ U.heap = h0) (fun _ _ _ _ _ => True) (fun _ U o U' => ∃ v L, o = .returned v ∧ own_Q23 Z a1 v_ h0 n0 v U'.heap L ∧ FrameEnd U o U' L ({ frames := 1, cells := 0, slots := 0, locals := 12 } : Room).cells ({ frames := 1, cells := 0, slots := 0, locals := 12 } : Room).slots) := by
  refine MetFree.of_bodySF (plainFor_of_name own_pn5) hisR ?_
  intro p e s m args below meth c s₁ Bd hml0 hP hK
  obtain ⟨rfl, hZ, hh⟩ := hP
  have hx := Bd.exec
  have hby := Bd.bytes
  have hml : c.maxLocals = 2 := hml0
  have hown : s.vm.findClass "java/util/OptionalInt" = some m.cls := findClass_of_methodNamed Bd.named
  have hnm := (name_of_methodNamed Bd.named Bd.method).1
  have hnl : meth.locks = false := Bd.notSynchronized
  have X0 : Stand p l e ({ frames := 1, cells := 0, slots := 0, locals := 12 } : Room) s m #[(.ref a1), (.int v_)] below meth c s₁ [] 0 0 := Stand.of_body Bd
  have e0 : s₁.heap = h0 := by rw [← hh, Bd.state]; rfl
  have N0 := Fr.nil n0
  show own_Go p.tables e below (own_P below s (own_Q23 Z a1 v_ h0 n0) ({ frames := 1, cells := 0, slots := 0, locals := 12 } : Room).cells ({ frames := 1, cells := 0, slots := 0, locals := 12 } : Room).slots) _
  refine own_st (fun t_ k_ => castTop (own_ef23 m a1 v_) k_) ?_
  refine own_st (fun t_ k_ => XS.aloadN X0.here hx rfl (hb hby own_d23_0) rfl rfl k_) ?_
  show own_at p e below _ s₁ m 1 #[oR a1, oI v_] [(.ref a1)]
  obtain ⟨T179, X179, e179, st179⟩ := initO X0 hx hZ hown (own_w hw 123 rfl) (own_w hw 36 rfl) (own_w hw 37 rfl) e0 (g := (mkF m 1 #[oR a1, oI v_] [(.ref a1)])) rfl (by rw [hml]; rfl) rfl (hb hby own_d23_1) (by decide) (W := 0) (own_hW rfl) (by decide)
  refine own_st (st179) ?_
  refine own_st (fun t_ k_ => XS.aloadN X179.here hx rfl (hb hby own_d23_4) rfl rfl (XS.iconst X179.here hx rfl (hb hby own_d23_5) k_)) ?_
  show own_at p e below _ T179 m 6 #[oR a1, oI v_] [(.int (1 : Int32)), (.ref a1)]
  obtain ⟨T180, h180, X180, e180, W180, st180⟩ := putFN X179 hx hZ hown (own_w hw 124 rfl) Via.refl e179 q1 q0 (Or.inr ⟨(own_w hw 125 rfl), rfl, hnm⟩) (own_w hw 118 rfl) (ty := .boolean) (v' := (.int (1 : Int32))) (by decide) rfl rfl (g := (mkF m 6 #[oR a1, oI v_] [(.int (1 : Int32)), (.ref a1)])) rfl rfl (hb hby own_d23_6)
  have Fw180 : Fld Z h180 a1 "java/util/OptionalInt" "isPresent" "Z" (.int (1 : Int32)) := q1.same W180
  have N180 := Fr.snoc X180 N0 q3
  have K180 : Keep h0 h180 [a1] := (Keep.refl h0 [a1]).wr W180 (Or.inl (List.mem_of_getElem? (i := 0) rfl))
  refine own_st (st180) ?_
  refine own_st (fun t_ k_ => XS.aloadN X180.here hx rfl (hb hby own_d23_9) rfl rfl (XS.iloadN X180.here hx rfl (hb hby own_d23_10) rfl k_)) ?_
  show own_at p e below _ T180 m 11 #[oR a1, oI v_] [(.int v_), (.ref a1)]
  have f181 : Fld Z h180 a1 "java/util/OptionalInt" "value" "I" (.int (0 : Int32)) := (q2.other W180 (Or.inr (slot_ne (Or.inr (own_w hw 127 rfl)) (Or.inr (own_w hw 125 rfl)) (by decide) (t := .int) (t' := .boolean) (by decide) (by decide))))
  obtain ⟨T182, h182, X182, e182, W182, st182⟩ := putF X180 hx hZ hown (host := "") (Or.inl (own_w hw 126 rfl)) Via.refl e180 f181 (q0.wr W180) (Or.inr ⟨(own_w hw 127 rfl), rfl, hnm⟩) (own_w hw 118 rfl) (ty := .int) (by decide) rfl rfl (g := (mkF m 11 #[oR a1, oI v_] [(.int v_), (.ref a1)])) rfl rfl (hb hby own_d23_11)
  have Fw182 : Fld Z h182 a1 "java/util/OptionalInt" "value" "I" (.int v_) := f181.same W182
  have N182 := Fr.snoc X182 N180 q3
  have K182 : Keep h0 h182 [a1] := K180.wr W182 (Or.inl (List.mem_of_getElem? (i := 0) rfl))
  refine own_st (st182) ?_
  have f183 : Fld Z h182 a1 "java/util/OptionalInt" "isPresent" "Z" (.int (1 : Int32)) := (Fw180.other W182 (Or.inr (slot_ne (Or.inr (own_w hw 125 rfl)) (Or.inr (own_w hw 127 rfl)) (by decide) (t := .boolean) (t' := .int) (by decide) (by decide))))
  show own_at p e below _ T182 m 14 #[oR a1, oI v_] []
  exact own_ret0 X182 hx hnl Bd.returns (hb hby own_d23_14) ⟨rfl, N182, (by rw [e182]; exact K182), (by rw [e182]; exact f183), (by rw [e182]; exact Fw182)⟩ (by decide) (by decide)

theorem own_d22_0 : decode jdk_2649_method_4_code 0 = .ok (.new 8, 3) := by decide +kernel
theorem own_d22_3 : decode jdk_2649_method_4_code 3 = .ok (.dup, 1) := by decide +kernel
theorem own_d22_4 : decode jdk_2649_method_4_code 4 = .ok (.iload_n 0, 1) := by decide +kernel
theorem own_d22_5 : decode jdk_2649_method_4_code 5 = .ok (.invokespecial 21, 3) := by decide +kernel
theorem own_d22_8 : decode jdk_2649_method_4_code 8 = .ok (.areturn, 1) := by decide +kernel
theorem own_pd15 : parseMethodDescriptor "(I)V" = some ⟨[.int], none⟩ := by decide +kernel
theorem own_ef22 (m : MethodId) (x0 : Int32) : entryFrame m #[(.int x0)] 1 = mkF m 0 #[.val (.int x0)] [] := by first | (simp [entryFrame, mkF, argsToLocals, Value.category]; done) | rfl
def own_Q22 (Z : State) (v_ : Int32) (h0 : Heap) (n0 : Nat) (v : Option Value) (h : Heap) (L : List Loc) : Prop := ∃ (o : Addr), v = some (.ref o) ∧ Fr n0 L ∧ Keep h0 h [] ∧ h0.size ≤ o ∧ Exa Z h o "java/util/OptionalInt" ∧ Fld Z h o "java/util/OptionalInt" "isPresent" "Z" (.int (1 : Int32)) ∧ Fld Z h o "java/util/OptionalInt" "value" "I" (.int v_)
set_option maxRecDepth 65536 in
set_option maxHeartbeats 40000000 in
theorem own_rm22 (l : Launch) (Z : State) (a0 : Array Value) (hw : ∀ d ∈ tables_1, d.before a0 Z = true) (ws : List Jvm.Cond) (v_ : Int32) (h0 : Heap) (n0 : Nat) (Z0 : n0 ≤ h0.size)  :
    MetFree l own_n22 (head1 (Jvm.Cond.code own_n22 jdk_2649_method_4_code 1 (some (.object "java/util/OptionalInt")) :: ws) ({ frames := 2, cells := 1, slots := 2, locals := 26 } : Room)) (fun a U => a = #[(.int v_)] ∧ Z.Warmed39 U.vm ∧ U.heap = h0) (fun _ _ _ _ _ => True) (fun _ U o U' => ∃ v L, o = .returned v ∧ own_Q22 Z v_ h0 n0 v U'.heap L ∧ FrameEnd U o U' L ({ frames := 2, cells := 1, slots := 2, locals := 26 } : Room).cells ({ frames := 2, cells := 1, slots := 2, locals := 26 } : Room).slots) := by
  refine MetFree.of_bodySF (plainFor_of_name own_pn5) hisR ?_
  intro p e s m args below meth c s₁ Bd hml0 hP hK
  obtain ⟨rfl, hZ, hh⟩ := hP
  have hx := Bd.exec
  have hby := Bd.bytes
  have hml : c.maxLocals = 1 := hml0
  have hown : s.vm.findClass "java/util/OptionalInt" = some m.cls := findClass_of_methodNamed Bd.named
  have hnm := (name_of_methodNamed Bd.named Bd.method).1
  have hnl : meth.locks = false := Bd.notSynchronized
  have X0 : Stand p l e ({ frames := 2, cells := 1, slots := 2, locals := 26 } : Room) s m #[(.int v_)] below meth c s₁ [] 0 0 := Stand.of_body Bd
  have e0 : s₁.heap = h0 := by rw [← hh, Bd.state]; rfl
  have N0 := Fr.nil n0
  show own_Go p.tables e below (own_P below s (own_Q22 Z v_ h0 n0) ({ frames := 2, cells := 1, slots := 2, locals := 26 } : Room).cells ({ frames := 2, cells := 1, slots := 2, locals := 26 } : Room).slots) _
  refine own_st (fun t_ k_ => castTop (own_ef22 m v_) k_) ?_
  obtain ⟨T184, h184, X184, e184, E184, A184, D184, -, st184⟩ := newO X0 hx hZ hown (own_w hw 117 rfl) (own_w hw 118 rfl) (own_w hw 111 rfl) e0 (g := (mkF m 0 #[oI v_] [])) rfl (hb hby own_d22_0) (by decide) (by decide)
  obtain ⟨b184, g184⟩ : ∃ z, z = h0.size := ⟨_, rfl⟩
  show own_at p e below _ s₁ m 0 #[oI v_] []
  rw [← g184] at A184 D184 st184
  have fr184 : h0.size ≤ b184 := Nat.le_trans (Keep.refl h0 []).1 (Nat.le_of_eq g184.symm)
  have ge184 : n0 ≤ b184 := Nat.le_trans Z0 fr184
  have K184 : Keep h0 h184 [] := (Keep.refl h0 []).ext E184
  have F184_125 : Fld Z h184 b184 "java/util/OptionalInt" "isPresent" "Z" (.int (0 : Int32)) := D184 (Or.inr (own_w hw 125 rfl)) (ty := .boolean) (by decide)
  have F184_127 : Fld Z h184 b184 "java/util/OptionalInt" "value" "I" (.int (0 : Int32)) := D184 (Or.inr (own_w hw 127 rfl)) (ty := .int) (by decide)
  refine own_st (st184) ?_
  refine own_st (fun t_ k_ => XS.dup X184.here hx rfl (hb hby own_d22_3) rfl rfl (XS.iloadN X184.here hx rfl (hb hby own_d22_4) rfl k_)) ?_
  show own_at p e below _ T184 m 5 #[oI v_] [(.int v_), (.ref b184), (.ref b184)]
  obtain ⟨_, _, ⟨T185, L185, k185, n185⟩, -, X185, ⟨Lc185, hQ185, l185, y185, z185⟩, st185⟩ := X184.specialBack hx (y := own_n21) rfl hown (mvT hZ (own_w hw 119 rfl)) (mvT hZ (own_w hw 120 rfl)) (mvT hZ (own_w hw 122 rfl)) (by decide) (backOf (W := 1) (own_rm23 l Z a0 hw [] b184 v_ h184 n0 (Nat.le_trans Z0 K184.1) A184 F184_125 F184_127 ge184) hZ (own_w hw 122 rfl) (own_w hw 111 rfl) (by decide) (by decide)) (g := (mkF m 5 #[oI v_] [(.int v_), (.ref b184), (.ref b184)])) rfl (by rw [hml]; rfl) (Steps.refl _) (a := b184) (argsL := [(.int v_)]) (rest := [(.ref b184)]) (lenOf own_pd15 rfl) rfl (own_hW rfl) (hb hby own_d22_5) (fun _ _ => ⟨rfl, e184, (by decide : 1 + 0 ≤ _), (by decide : 2 + 0 ≤ _)⟩)
  dsimp only [Pt.U, Pt.locs, Pt.cells, Pt.slots] at X185 l185 y185 z185 st185 hQ185
  subst y185 z185
  obtain ⟨rfl, N185q, Kq185, P185_0, P185_1⟩ := hQ185
  have N185 : Fr n0 L185 := by rw [l185]; exact Fr.app N0 N185q
  have K185 : Keep h0 T185.heap [] := K184.trans Kq185 (allS (P := fun x => x ∈ [] ∨ h0.size ≤ x) (Or.inr fr184) all0)
  refine own_tr st185 ?_
  show own_at p e below _ T185 m 8 #[oI v_] [(.ref b184)]
  exact own_ret (w := (.ref b184)) X185 hx hnl Bd.returns rfl (Or.inr (Or.inr (Or.inr (Or.inr ⟨rfl, rfl, rfl⟩)))) (hb hby own_d22_8) ⟨b184, rfl, N185, (K185), fr184, ((A184.keep Kq185)), (P185_0), (P185_1)⟩ (by decide) (by decide)

theorem own_d21_0 : decode jdk_2649_method_2_code 0 = .ok (.getstatic 17, 3) := by decide +kernel
theorem own_d21_3 : decode jdk_2649_method_2_code 3 = .ok (.areturn, 1) := by decide +kernel
theorem own_ef21 (m : MethodId) : entryFrame m #[] 0 = mkF m 0 #[] [] := by first | (simp [entryFrame, mkF, argsToLocals, Value.category]; done) | rfl
def own_Q21 (Z : State) (aE : Addr) (h0 : Heap) (n0 : Nat) (v : Option Value) (h : Heap) (L : List Loc) : Prop := v = some (.ref aE) ∧ Fr n0 L ∧ h = h0
set_option maxRecDepth 65536 in
set_option maxHeartbeats 40000000 in
theorem own_rm21 (l : Launch) (Z : State) (a0 : Array Value) (hw : ∀ d ∈ tables_1, d.before a0 Z = true) (ws : List Jvm.Cond) (aE : Addr) (h0 : Heap) (n0 : Nat) (Z0 : n0 ≤ h0.size) (q0 : Old Z n0 h0) (q1 : Sta Z Z.heap "java/util/OptionalInt" "EMPTY" "Ljava/util/OptionalInt;" (.ref aE)) :
    MetFree l own_n23 (head1 (Jvm.Cond.code own_n23 jdk_2649_method_2_code 0 (some (.object "java/util/OptionalInt")) :: ws) ({ frames := 0, cells := 0, slots := 0, locals := 0 } : Room)) (fun a U => a = #[] ∧ Z.Warmed39 U.vm ∧ U.heap = h0) (fun _ _ _ _ _ => True) (fun _ U o U' => ∃ v L, o = .returned v ∧ own_Q21 Z aE h0 n0 v U'.heap L ∧ FrameEnd U o U' L ({ frames := 0, cells := 0, slots := 0, locals := 0 } : Room).cells ({ frames := 0, cells := 0, slots := 0, locals := 0 } : Room).slots) := by
  refine MetFree.of_bodySF (plainFor_of_name own_pn5) hisR ?_
  intro p e s m args below meth c s₁ Bd hml0 hP hK
  obtain ⟨rfl, hZ, hh⟩ := hP
  have hx := Bd.exec
  have hby := Bd.bytes
  have hml : c.maxLocals = 0 := hml0
  have hown : s.vm.findClass "java/util/OptionalInt" = some m.cls := findClass_of_methodNamed Bd.named
  have hnm := (name_of_methodNamed Bd.named Bd.method).1
  have hnl : meth.locks = false := Bd.notSynchronized
  have X0 : Stand p l e ({ frames := 0, cells := 0, slots := 0, locals := 0 } : Room) s m #[] below meth c s₁ [] 0 0 := Stand.of_body Bd
  have e0 : s₁.heap = h0 := by rw [← hh, Bd.state]; rfl
  have N0 := Fr.nil n0
  show own_Go p.tables e below (own_P below s (own_Q21 Z aE h0 n0) ({ frames := 0, cells := 0, slots := 0, locals := 0 } : Room).cells ({ frames := 0, cells := 0, slots := 0, locals := 0 } : Room).slots) _
  refine own_st (fun t_ k_ => castTop (own_ef21 m) k_) ?_
  obtain ⟨T186, X186, e186, st186⟩ := getS2 X0 hx hZ hown (host := "") (Or.inl (own_w hw 113 rfl)) Via.refl e0 (q1.ext q0.2) (g := (mkF m 0 #[] [])) rfl (hb hby own_d21_0)
  refine own_st (st186) ?_
  show own_at p e below _ T186 m 3 #[] [(.ref aE)]
  exact own_ret (w := (.ref aE)) X186 hx hnl Bd.returns rfl (Or.inr (Or.inr (Or.inr (Or.inr ⟨rfl, rfl, rfl⟩)))) (hb hby own_d21_3) ⟨rfl, N0, e186⟩ (by decide) (by decide)

theorem own_d24_0 : decode jdk_2649_method_6_code 0 = .ok (.aload_n 0, 1) := by decide +kernel
theorem own_d24_1 : decode jdk_2649_method_6_code 1 = .ok (.getfield 7, 3) := by decide +kernel
theorem own_d24_4 : decode jdk_2649_method_6_code 4 = .ok (.ireturn, 1) := by decide +kernel
theorem own_ef24 (m : MethodId) (x0 : Addr) : entryFrame m #[(.ref x0)] 1 = mkF m 0 #[.val (.ref x0)] [] := by first | (simp [entryFrame, mkF, argsToLocals, Value.category]; done) | rfl
def own_Q24 (Z : State) (a1 : Addr) (pz : Int32) (h0 : Heap) (n0 : Nat) (v : Option Value) (h : Heap) (L : List Loc) : Prop := v = some (.int pz) ∧ Fr n0 L ∧ h = h0
set_option maxRecDepth 65536 in
set_option maxHeartbeats 40000000 in
theorem own_rm24 (l : Launch) (Z : State) (a0 : Array Value) (hw : ∀ d ∈ tables_1, d.before a0 Z = true) (ws : List Jvm.Cond) (a1 : Addr) (pz : Int32) (h0 : Heap) (n0 : Nat) (Z0 : n0 ≤ h0.size) (q0 : Exa Z h0 a1 "java/util/OptionalInt") (q1 : Fld Z h0 a1 "java/util/OptionalInt" "isPresent" "Z" (.int pz)) (hpz : (pz = 0 ∨ pz = 1)) :
    MetFree l own_n24 (head1 (Jvm.Cond.code own_n24 jdk_2649_method_6_code 1 (some .boolean) :: ws) ({ frames := 0, cells := 0, slots := 0, locals := 0 } : Room)) (fun a U => a = #[(.ref a1)] ∧ Z.Warmed39 U.vm ∧ U.heap = h0) (fun _ _ _ _ _ => True) (fun _ U o U' => ∃ v L, o = .returned v ∧ own_Q24 Z a1 pz h0 n0 v U'.heap L ∧ FrameEnd U o U' L ({ frames := 0, cells := 0, slots := 0, locals := 0 } : Room).cells ({ frames := 0, cells := 0, slots := 0, locals := 0 } : Room).slots) := by
  refine MetFree.of_bodySF (plainFor_of_name own_pn5) hisR ?_
  intro p e s m args below meth c s₁ Bd hml0 hP hK
  obtain ⟨rfl, hZ, hh⟩ := hP
  have hx := Bd.exec
  have hby := Bd.bytes
  have hml : c.maxLocals = 1 := hml0
  have hown : s.vm.findClass "java/util/OptionalInt" = some m.cls := findClass_of_methodNamed Bd.named
  have hnm := (name_of_methodNamed Bd.named Bd.method).1
  have hnl : meth.locks = false := Bd.notSynchronized
  have X0 : Stand p l e ({ frames := 0, cells := 0, slots := 0, locals := 0 } : Room) s m #[(.ref a1)] below meth c s₁ [] 0 0 := Stand.of_body Bd
  have e0 : s₁.heap = h0 := by rw [← hh, Bd.state]; rfl
  have N0 := Fr.nil n0
  show own_Go p.tables e below (own_P below s (own_Q24 Z a1 pz h0 n0) ({ frames := 0, cells := 0, slots := 0, locals := 0 } : Room).cells ({ frames := 0, cells := 0, slots := 0, locals := 0 } : Room).slots) _
  refine own_st (fun t_ k_ => castTop (own_ef24 m a1) k_) ?_
  refine own_st (fun t_ k_ => XS.aloadN X0.here hx rfl (hb hby own_d24_0) rfl rfl k_) ?_
  show own_at p e below _ s₁ m 1 #[oR a1] [(.ref a1)]
  obtain ⟨T187, X187, e187, st187⟩ := getF X0 hx hZ hown (host := "") (Or.inl (own_w hw 124 rfl)) Via.refl e0 q1 (g := (mkF m 1 #[oR a1] [(.ref a1)])) rfl rfl (hb hby own_d24_1)
  refine own_st (st187) ?_
  show own_at p e below _ T187 m 4 #[oR a1] [(.int pz)]
  exact own_ret (w := (.int pz)) X187 hx hnl Bd.returns (own_nwz hpz) (Or.inl ⟨rfl, by decide, _, rfl⟩) (hb hby own_d24_4) ⟨rfl, N0, e187⟩ (by decide) (by decide)

theorem own_d25_0 : decode jdk_2649_method_5_code 0 = .ok (.aload_n 0, 1) := by decide +kernel
theorem own_d25_1 : decode jdk_2649_method_5_code 1 = .ok (.getfield 7, 3) := by decide +kernel
theorem own_d25_4 : decode jdk_2649_method_5_code 4 = .ok (.ifCond .ne 13, 3) := by decide +kernel
theorem own_d25_17 : decode jdk_2649_method_5_code 17 = .ok (.aload_n 0, 1) := by decide +kernel
theorem own_d25_18 : decode jdk_2649_method_5_code 18 = .ok (.getfield 13, 3) := by decide +kernel
theorem own_d25_21 : decode jdk_2649_method_5_code 21 = .ok (.ireturn, 1) := by decide +kernel
theorem own_ef25 (m : MethodId) (x0 : Addr) : entryFrame m #[(.ref x0)] 1 = mkF m 0 #[.val (.ref x0)] [] := by first | (simp [entryFrame, mkF, argsToLocals, Value.category]; done) | rfl
def own_Q25 (Z : State) (a1 : Addr) (vz : Int32) (h0 : Heap) (n0 : Nat) (v : Option Value) (h : Heap) (L : List Loc) : Prop := v = some (.int vz) ∧ Fr n0 L ∧ h = h0
set_option maxRecDepth 65536 in
set_option maxHeartbeats 40000000 in
theorem own_rm25 (l : Launch) (Z : State) (a0 : Array Value) (hw : ∀ d ∈ tables_1, d.before a0 Z = true) (ws : List Jvm.Cond) (a1 : Addr) (vz : Int32) (h0 : Heap) (n0 : Nat) (Z0 : n0 ≤ h0.size) (q0 : Exa Z h0 a1 "java/util/OptionalInt") (q1 : Fld Z h0 a1 "java/util/OptionalInt" "isPresent" "Z" (.int (1 : Int32))) (q2 : Fld Z h0 a1 "java/util/OptionalInt" "value" "I" (.int vz)) :
    MetFree l own_n25 (head1 (Jvm.Cond.code own_n25 jdk_2649_method_5_code 1 (some .int) :: ws) ({ frames := 0, cells := 0, slots := 0, locals := 0 } : Room)) (fun a U => a = #[(.ref a1)] ∧ Z.Warmed39 U.vm ∧ U.heap = h0) (fun _ _ _ _ _ => True) (fun _ U o U' => ∃ v L, o = .returned v ∧ own_Q25 Z a1 vz h0 n0 v U'.heap L ∧ FrameEnd U o U' L ({ frames := 0, cells := 0, slots := 0, locals := 0 } : Room).cells ({ frames := 0, cells := 0, slots := 0, locals := 0 } : Room).slots) := by
  refine MetFree.of_bodySF (plainFor_of_name own_pn5) hisR ?_
  intro p e s m args below meth c s₁ Bd hml0 hP hK
  obtain ⟨rfl, hZ, hh⟩ := hP
  have hx := Bd.exec
  have hby := Bd.bytes
  have hml : c.maxLocals = 1 := hml0
  have hown : s.vm.findClass "java/util/OptionalInt" = some m.cls := findClass_of_methodNamed Bd.named
  have hnm := (name_of_methodNamed Bd.named Bd.method).1
  have hnl : meth.locks = false := Bd.notSynchronized
  have X0 : Stand p l e ({ frames := 0, cells := 0, slots := 0, locals := 0 } : Room) s m #[(.ref a1)] below meth c s₁ [] 0 0 := Stand.of_body Bd
  have e0 : s₁.heap = h0 := by rw [← hh, Bd.state]; rfl
  have N0 := Fr.nil n0
  show own_Go p.tables e below (own_P below s (own_Q25 Z a1 vz h0 n0) ({ frames := 0, cells := 0, slots := 0, locals := 0 } : Room).cells ({ frames := 0, cells := 0, slots := 0, locals := 0 } : Room).slots) _
  refine own_st (fun t_ k_ => castTop (own_ef25 m a1) k_) ?_
  refine own_st (fun t_ k_ => XS.aloadN X0.here hx rfl (hb hby own_d25_0) rfl rfl k_) ?_
  show own_at p e below _ s₁ m 1 #[oR a1] [(.ref a1)]
  obtain ⟨T188, X188, e188, st188⟩ := getF X0 hx hZ hown (host := "") (Or.inl (own_w hw 124 rfl)) Via.refl e0 q1 (g := (mkF m 1 #[oR a1] [(.ref a1)])) rfl rfl (hb hby own_d25_1)
  refine own_st (st188) ?_
  refine own_st (fun t_ k_ => XS.ifYes X188.here hx rfl (pc0 := 4) (pc' := 17) rfl (hb hby own_d25_4) rfl ((if0 _ _).trans (feq (by decide : ¬ ((1 : Int32) = (0 : Int32)))).2) (by decide) (by decide) (XS.aloadN X188.here hx rfl (hb hby own_d25_17) rfl rfl k_)) ?_
  show own_at p e below _ T188 m 18 #[oR a1] [(.ref a1)]
  obtain ⟨T189, X189, e189, st189⟩ := getF X188 hx hZ hown (host := "") (Or.inl (own_w hw 126 rfl)) Via.refl e188 q2 (g := (mkF m 18 #[oR a1] [(.ref a1)])) rfl rfl (hb hby own_d25_18)
  refine own_st (st189) ?_
  show own_at p e below _ T189 m 21 #[oR a1] [(.int vz)]
  exact own_ret (w := (.int vz)) X189 hx hnl Bd.returns rfl (Or.inl ⟨rfl, by decide, _, rfl⟩) (hb hby own_d25_21) ⟨rfl, N0, e189⟩ (by decide) (by decide)

theorem own_d14_0 : decode jdk_42_method_152_code 0 = .ok (.getstatic 38, 3) := by decide +kernel
theorem own_d14_3 : decode jdk_42_method_152_code 3 = .ok (.ifCond .eq 10, 3) := by decide +kernel
theorem own_d14_6 : decode jdk_42_method_152_code 6 = .ok (.aload_n 0, 1) := by decide +kernel
theorem own_d14_7 : decode jdk_42_method_152_code 7 = .ok (.getfield 15, 3) := by decide +kernel
theorem own_d14_10 : decode jdk_42_method_152_code 10 = .ok (.goto 4, 3) := by decide +kernel
theorem own_d14_14 : decode jdk_42_method_152_code 14 = .ok (.ireturn, 1) := by decide +kernel
theorem own_ef14 (m : MethodId) (x0 : Addr) : entryFrame m #[(.ref x0)] 1 = mkF m 0 #[.val (.ref x0)] [] := by first | (simp [entryFrame, mkF, argsToLocals, Value.category]; done) | rfl
def own_Q14 (Z : State) (a1 : Addr) (cd : Int32) (G1 : Int32) (h0 : Heap) (n0 : Nat) (v : Option Value) (h : Heap) (L : List Loc) : Prop := v = some (.int cd) ∧ Fr n0 L ∧ h = h0
set_option maxRecDepth 65536 in
set_option maxHeartbeats 40000000 in
theorem own_rm14 (l : Launch) (Z : State) (a0 : Array Value) (hw : ∀ d ∈ tables_1, d.before a0 Z = true) (ws : List Jvm.Cond) (a1 : Addr) (cd : Int32) (G1 : Int32) (h0 : Heap) (n0 : Nat) (Z0 : n0 ≤ h0.size) (q0 : Exa Z h0 a1 "java/lang/String") (q1 : Fld Z h0 a1 "java/lang/String" "coder" "B" (.int cd)) (hc01 : (cd = 0 ∨ cd = 1)) (q3 : Old Z n0 h0) (q4 : Sta Z Z.heap "java/lang/String" "COMPACT_STRINGS" "Z" (.int G1)) (hG1 : (¬ G1 = (0 : Int32))) :
    MetFree l own_n26 (head1 (Jvm.Cond.code own_n26 jdk_42_method_152_code 1 (some .byte) :: ws) ({ frames := 0, cells := 0, slots := 0, locals := 0 } : Room)) (fun a U => a = #[(.ref a1)] ∧ Z.Warmed39 U.vm ∧ U.heap = h0) (fun _ _ _ _ _ => True) (fun _ U o U' => ∃ v L, o = .returned v ∧ own_Q14 Z a1 cd G1 h0 n0 v U'.heap L ∧ FrameEnd U o U' L ({ frames := 0, cells := 0, slots := 0, locals := 0 } : Room).cells ({ frames := 0, cells := 0, slots := 0, locals := 0 } : Room).slots) := by
  refine MetFree.of_bodySF (plainFor_of_name own_pn1) hisR ?_
  intro p e s m args below meth c s₁ Bd hml0 hP hK
  obtain ⟨rfl, hZ, hh⟩ := hP
  have hx := Bd.exec
  have hby := Bd.bytes
  have hml : c.maxLocals = 1 := hml0
  have hown : s.vm.findClass "java/lang/String" = some m.cls := findClass_of_methodNamed Bd.named
  have hnm := (name_of_methodNamed Bd.named Bd.method).1
  have hnl : meth.locks = false := Bd.notSynchronized
  have X0 : Stand p l e ({ frames := 0, cells := 0, slots := 0, locals := 0 } : Room) s m #[(.ref a1)] below meth c s₁ [] 0 0 := Stand.of_body Bd
  have e0 : s₁.heap = h0 := by rw [← hh, Bd.state]; rfl
  have N0 := Fr.nil n0
  show own_Go p.tables e below (own_P below s (own_Q14 Z a1 cd G1 h0 n0) ({ frames := 0, cells := 0, slots := 0, locals := 0 } : Room).cells ({ frames := 0, cells := 0, slots := 0, locals := 0 } : Room).slots) _
  refine own_st (fun t_ k_ => castTop (own_ef14 m a1) k_) ?_
  obtain ⟨T190, X190, e190, st190⟩ := getS2 X0 hx hZ hown (host := "") (Or.inl (own_w hw 38 rfl)) Via.refl e0 (q4.ext q3.2) (g := (mkF m 0 #[oR a1] [])) rfl (hb hby own_d14_0)
  refine own_st (st190) ?_
  refine own_st (fun t_ k_ => XS.ifNo X190.here hx rfl (hb hby own_d14_3) rfl ((if0 _ _).trans (feq hG1).1) (XS.aloadN X190.here hx rfl (hb hby own_d14_6) rfl rfl k_)) ?_
  show own_at p e below _ T190 m 7 #[oR a1] [(.ref a1)]
  obtain ⟨T191, X191, e191, st191⟩ := getF X190 hx hZ hown (host := "") (Or.inl (own_w hw 50 rfl)) Via.refl e190 q1 (g := (mkF m 7 #[oR a1] [(.ref a1)])) rfl rfl (hb hby own_d14_7)
  refine own_st (st191) ?_
  refine own_st (fun t_ k_ => XS.goto X191.here hx rfl (pc0 := 10) (pc' := 14) rfl (hb hby own_d14_10) (by decide) (by decide) k_) ?_
  show own_at p e below _ T191 m 14 #[oR a1] [(.int cd)]
  exact own_ret (w := (.int cd)) X191 hx hnl Bd.returns (own_nw01 hc01) (Or.inl ⟨rfl, by decide, _, rfl⟩) (hb hby own_d14_14) ⟨rfl, N0, e191⟩ (by decide) (by decide)

theorem own_d13_0 : decode jdk_42_method_54_code 0 = .ok (.aload_n 0, 1) := by decide +kernel
theorem own_d13_1 : decode jdk_42_method_54_code 1 = .ok (.getfield 9, 3) := by decide +kernel
theorem own_d13_4 : decode jdk_42_method_54_code 4 = .ok (.arraylength, 1) := by decide +kernel
theorem own_d13_5 : decode jdk_42_method_54_code 5 = .ok (.aload_n 0, 1) := by decide +kernel
theorem own_d13_6 : decode jdk_42_method_54_code 6 = .ok (.invokevirtual 335, 3) := by decide +kernel
theorem own_d13_9 : decode jdk_42_method_54_code 9 = .ok (.ishr, 1) := by decide +kernel
theorem own_d13_10 : decode jdk_42_method_54_code 10 = .ok (.ireturn, 1) := by decide +kernel
theorem own_pd16 : parseMethodDescriptor "()B" = some ⟨[], some .byte⟩ := by decide +kernel
theorem own_ef13a (m : MethodId) (x0 : Addr) : entryFrame m #[(.ref x0)] 1 = mkF m 0 #[.val (.ref x0)] [] := by first | (simp [entryFrame, mkF, argsToLocals, Value.category]; done) | rfl
def own_Q13a (Z : State) (a1 : Addr) (t : Addr) (kt : ClassId) (cd : Int32) (n1 : Nat) (cs : Nat → Int32) (G1 : Int32) (h0 : Heap) (n0 : Nat) (v : Option Value) (h : Heap) (L : List Loc) : Prop := v = some (.int (Int32.ofNat n1)) ∧ Fr n0 L ∧ h = h0
set_option maxRecDepth 65536 in
set_option maxHeartbeats 40000000 in
theorem own_rm13a (l : Launch) (Z : State) (a0 : Array Value) (hw : ∀ d ∈ tables_1, d.before a0 Z = true) (ws : List Jvm.Cond) (a1 : Addr) (t : Addr) (kt : ClassId) (cd : Int32) (n1 : Nat) (cs : Nat → Int32) (G1 : Int32) (h0 : Heap) (n0 : Nat) (Z0 : n0 ≤ h0.size) (q0 : Exa Z h0 a1 "java/lang/String") (q1 : Fld Z h0 a1 "java/lang/String" "value" "[B" (.ref t)) (q2 : Fld Z h0 a1 "java/lang/String" "coder" "B" (.int cd)) (q3 : own_A Z h0 t kt .byte (own_bl cd n1) (fun i => .int ((own_by cd cs) i))) (hcd : ((cd = 0 ∧ ∀ q : Nat, q < n1 → ¬ (255 : Int32) < cs q) ∨ cd = 1)) (q5 : Old Z n0 h0) (q6 : Sta Z Z.heap "java/lang/String" "COMPACT_STRINGS" "Z" (.int G1)) (hG1 : (¬ G1 = (0 : Int32))) (hn12 : (n1 ≤ 12)) :
    MetFree l own_n27 (head1 (Jvm.Cond.code own_n27 jdk_42_method_54_code 1 (some .int) :: ws) ({ frames := 1, cells := 0, slots := 0, locals := 13 } : Room)) (fun a U => a = #[(.ref a1)] ∧ Z.Warmed39 U.vm ∧ U.heap = h0) (fun _ _ _ _ _ => True) (fun _ U o U' => ∃ v L, o = .returned v ∧ own_Q13a Z a1 t kt cd n1 cs G1 h0 n0 v U'.heap L ∧ FrameEnd U o U' L ({ frames := 1, cells := 0, slots := 0, locals := 13 } : Room).cells ({ frames := 1, cells := 0, slots := 0, locals := 13 } : Room).slots) := by
  refine MetFree.of_bodySF (plainFor_of_name own_pn1) hisR ?_
  intro p e s m args below meth c s₁ Bd hml0 hP hK
  obtain ⟨rfl, hZ, hh⟩ := hP
  have hx := Bd.exec
  have hby := Bd.bytes
  have hml : c.maxLocals = 1 := hml0
  have hown : s.vm.findClass "java/lang/String" = some m.cls := findClass_of_methodNamed Bd.named
  have hnm := (name_of_methodNamed Bd.named Bd.method).1
  have hnl : meth.locks = false := Bd.notSynchronized
  have X0 : Stand p l e ({ frames := 1, cells := 0, slots := 0, locals := 13 } : Room) s m #[(.ref a1)] below meth c s₁ [] 0 0 := Stand.of_body Bd
  have e0 : s₁.heap = h0 := by rw [← hh, Bd.state]; rfl
  have N0 := Fr.nil n0
  show own_Go p.tables e below (own_P below s (own_Q13a Z a1 t kt cd n1 cs G1 h0 n0) ({ frames := 1, cells := 0, slots := 0, locals := 13 } : Room).cells ({ frames := 1, cells := 0, slots := 0, locals := 13 } : Room).slots) _
  refine own_st (fun t_ k_ => castTop (own_ef13a m a1) k_) ?_
  refine own_st (fun t_ k_ => XS.aloadN X0.here hx rfl (hb hby own_d13_0) rfl rfl k_) ?_
  show own_at p e below _ s₁ m 1 #[oR a1] [(.ref a1)]
  obtain ⟨T192, X192, e192, st192⟩ := getF X0 hx hZ hown (host := "") (Or.inl (own_w hw 52 rfl)) Via.refl e0 q1 (g := (mkF m 1 #[oR a1] [(.ref a1)])) rfl rfl (hb hby own_d13_1)
  refine own_st (st192) ?_
  show own_at p e below _ T192 m 4 #[oR a1] [(.ref t)]
  refine own_st (own_len X192 hx hZ e192 q3 (g := (mkF m 4 #[oR a1] [(.ref t)])) rfl rfl (hb hby own_d13_4)) ?_
  refine own_st (fun t_ k_ => XS.aloadN X192.here hx rfl (hb hby own_d13_5) rfl rfl k_) ?_
  show own_at p e below _ T192 m 6 #[oR a1] [(.ref a1), (.int (Int32.ofNat (own_bl cd n1)))]
  obtain ⟨cq193, kq193, q193a, q193b, q193c⟩ := isOf hZ e192 q0
  obtain ⟨_, _, ⟨T193, L193, k193, n193⟩, -, X193, ⟨Lc193, hQ193, l193, y193, z193⟩, st193⟩ := X192.virtualBack hx (y := own_n26) (z := own_n26) hown (mvT hZ (own_w hw 76 rfl)) (mvT hZ (own_w hw 77 rfl)) (notFace_of_selects (args := #[]) (mvT hZ (own_w hw 79 rfl))) (mvT hZ (own_w hw 79 rfl)) (mvT hZ (own_w hw 78 rfl)) (by decide) (backOf (W := 1) (own_rm14 l Z a0 hw [] a1 cd G1 h0 n0 (Nat.le_trans Z0 (Keep.refl h0 []).1) q0 q2 (own_c01 hcd) q5 q6 hG1) hZ (own_w hw 80 rfl) (own_w hw 27 rfl) (by decide) (by decide)) q193a q193c (g := (mkF m 6 #[oR a1] [(.ref a1), (.int (Int32.ofNat (own_bl cd n1)))])) rfl (by rw [hml]; rfl) (Steps.refl _) (argsL := []) (rest := [(.int (Int32.ofNat (own_bl cd n1)))]) (lenOf own_pd16 rfl) rfl (own_hW rfl) (hb hby own_d13_6) (fun _ _ => ⟨rfl, e192, (by decide : 0 + 0 ≤ _), (by decide : 0 + 0 ≤ _)⟩)
  dsimp only [Pt.U, Pt.locs, Pt.cells, Pt.slots] at X193 l193 y193 z193 st193 hQ193
  subst y193 z193
  obtain ⟨rfl, N193q, eq193⟩ := hQ193
  have N193 : Fr n0 L193 := by rw [l193]; exact Fr.app N0 N193q
  refine own_tr st193 ?_
  refine own_st (fun t_ k_ => XS.ishr X193.here hx rfl (hb hby own_d13_9) rfl k_) ?_
  show own_at p e below _ T193 m 10 #[oR a1] [(.int ((Int32.ofNat (own_bl cd n1)) >>> (cd &&& 31)))]
  rw [show ((Int32.ofNat (own_bl cd n1)) >>> (cd &&& 31)) = (Int32.ofNat n1) from (own_lenc (own_c01 hcd) (by omega))]
  show own_at p e below _ T193 m 10 #[oR a1] [(.int (Int32.ofNat n1))]
  exact own_ret (w := (.int (Int32.ofNat n1))) X193 hx hnl Bd.returns rfl (Or.inl ⟨rfl, by decide, _, rfl⟩) (hb hby own_d13_10) ⟨rfl, N193, eq193⟩ (by decide) (by decide)

theorem own_ef13b (m : MethodId) (x0 : Addr) : entryFrame m #[(.ref x0)] 1 = mkF m 0 #[.val (.ref x0)] [] := by first | (simp [entryFrame, mkF, argsToLocals, Value.category]; done) | rfl
def own_Q13b (Z : State) (a1 : Addr) (u1 : Addr) (ku : ClassId) (n1 : Nat) (gb : Nat → Int32) (G1 : Int32) (h0 : Heap) (n0 : Nat) (v : Option Value) (h : Heap) (L : List Loc) : Prop := v = some (.int (Int32.ofNat n1)) ∧ Fr n0 L ∧ h = h0
set_option maxRecDepth 65536 in
set_option maxHeartbeats 40000000 in
theorem own_rm13b (l : Launch) (Z : State) (a0 : Array Value) (hw : ∀ d ∈ tables_1, d.before a0 Z = true) (ws : List Jvm.Cond) (a1 : Addr) (u1 : Addr) (ku : ClassId) (n1 : Nat) (gb : Nat → Int32) (G1 : Int32) (h0 : Heap) (n0 : Nat) (Z0 : n0 ≤ h0.size) (q0 : Exa Z h0 a1 "java/lang/String") (q1 : Fld Z h0 a1 "java/lang/String" "value" "[B" (.ref u1)) (q2 : Fld Z h0 a1 "java/lang/String" "coder" "B" (.int (0 : Int32))) (q3 : own_A Z h0 u1 ku .byte n1 (fun i => .int (gb i))) (q4 : Old Z n0 h0) (q5 : Sta Z Z.heap "java/lang/String" "COMPACT_STRINGS" "Z" (.int G1)) (hG1 : (¬ G1 = (0 : Int32))) :
    MetFree l own_n27 (head1 (Jvm.Cond.code own_n27 jdk_42_method_54_code 1 (some .int) :: ws) ({ frames := 1, cells := 0, slots := 0, locals := 13 } : Room)) (fun a U => a = #[(.ref a1)] ∧ Z.Warmed39 U.vm ∧ U.heap = h0) (fun _ _ _ _ _ => True) (fun _ U o U' => ∃ v L, o = .returned v ∧ own_Q13b Z a1 u1 ku n1 gb G1 h0 n0 v U'.heap L ∧ FrameEnd U o U' L ({ frames := 1, cells := 0, slots := 0, locals := 13 } : Room).cells ({ frames := 1, cells := 0, slots := 0, locals := 13 } : Room).slots) := by
  refine MetFree.of_bodySF (plainFor_of_name own_pn1) hisR ?_
  intro p e s m args below meth c s₁ Bd hml0 hP hK
  obtain ⟨rfl, hZ, hh⟩ := hP
  have hx := Bd.exec
  have hby := Bd.bytes
  have hml : c.maxLocals = 1 := hml0
  have hown : s.vm.findClass "java/lang/String" = some m.cls := findClass_of_methodNamed Bd.named
  have hnm := (name_of_methodNamed Bd.named Bd.method).1
  have hnl : meth.locks = false := Bd.notSynchronized
  have X0 : Stand p l e ({ frames := 1, cells := 0, slots := 0, locals := 13 } : Room) s m #[(.ref a1)] below meth c s₁ [] 0 0 := Stand.of_body Bd
  have e0 : s₁.heap = h0 := by rw [← hh, Bd.state]; rfl
  have N0 := Fr.nil n0
  show own_Go p.tables e below (own_P below s (own_Q13b Z a1 u1 ku n1 gb G1 h0 n0) ({ frames := 1, cells := 0, slots := 0, locals := 13 } : Room).cells ({ frames := 1, cells := 0, slots := 0, locals := 13 } : Room).slots) _
  refine own_st (fun t_ k_ => castTop (own_ef13b m a1) k_) ?_
  refine own_st (fun t_ k_ => XS.aloadN X0.here hx rfl (hb hby own_d13_0) rfl rfl k_) ?_
  show own_at p e below _ s₁ m 1 #[oR a1] [(.ref a1)]
  obtain ⟨T194, X194, e194, st194⟩ := getF X0 hx hZ hown (host := "") (Or.inl (own_w hw 52 rfl)) Via.refl e0 q1 (g := (mkF m 1 #[oR a1] [(.ref a1)])) rfl rfl (hb hby own_d13_1)
  refine own_st (st194) ?_
  show own_at p e below _ T194 m 4 #[oR a1] [(.ref u1)]
  refine own_st (own_len X194 hx hZ e194 q3 (g := (mkF m 4 #[oR a1] [(.ref u1)])) rfl rfl (hb hby own_d13_4)) ?_
  refine own_st (fun t_ k_ => XS.aloadN X194.here hx rfl (hb hby own_d13_5) rfl rfl k_) ?_
  show own_at p e below _ T194 m 6 #[oR a1] [(.ref a1), (.int (Int32.ofNat n1))]
  obtain ⟨cq195, kq195, q195a, q195b, q195c⟩ := isOf hZ e194 q0
  obtain ⟨_, _, ⟨T195, L195, k195, n195⟩, -, X195, ⟨Lc195, hQ195, l195, y195, z195⟩, st195⟩ := X194.virtualBack hx (y := own_n26) (z := own_n26) hown (mvT hZ (own_w hw 76 rfl)) (mvT hZ (own_w hw 77 rfl)) (notFace_of_selects (args := #[]) (mvT hZ (own_w hw 79 rfl))) (mvT hZ (own_w hw 79 rfl)) (mvT hZ (own_w hw 78 rfl)) (by decide) (backOf (W := 1) (own_rm14 l Z a0 hw [] a1 (0 : Int32) G1 h0 n0 (Nat.le_trans Z0 (Keep.refl h0 []).1) q0 q2 (Or.inl rfl) q4 q5 hG1) hZ (own_w hw 80 rfl) (own_w hw 27 rfl) (by decide) (by decide)) q195a q195c (g := (mkF m 6 #[oR a1] [(.ref a1), (.int (Int32.ofNat n1))])) rfl (by rw [hml]; rfl) (Steps.refl _) (argsL := []) (rest := [(.int (Int32.ofNat n1))]) (lenOf own_pd16 rfl) rfl (own_hW rfl) (hb hby own_d13_6) (fun _ _ => ⟨rfl, e194, (by decide : 0 + 0 ≤ _), (by decide : 0 + 0 ≤ _)⟩)
  dsimp only [Pt.U, Pt.locs, Pt.cells, Pt.slots] at X195 l195 y195 z195 st195 hQ195
  subst y195 z195
  obtain ⟨rfl, N195q, eq195⟩ := hQ195
  have N195 : Fr n0 L195 := by rw [l195]; exact Fr.app N0 N195q
  refine own_tr st195 ?_
  refine own_st (fun t_ k_ => XS.ishr X195.here hx rfl (hb hby own_d13_9) rfl k_) ?_
  show own_at p e below _ T195 m 10 #[oR a1] [(.int ((Int32.ofNat n1) >>> ((0 : Int32) &&& 31)))]
  rw [show ((Int32.ofNat n1) >>> ((0 : Int32) &&& 31)) = (Int32.ofNat n1) from (own_sh0 _)]
  show own_at p e below _ T195 m 10 #[oR a1] [(.int (Int32.ofNat n1))]
  exact own_ret (w := (.int (Int32.ofNat n1))) X195 hx hnl Bd.returns rfl (Or.inl ⟨rfl, by decide, _, rfl⟩) (hb hby own_d13_10) ⟨rfl, N195, eq195⟩ (by decide) (by decide)

theorem own_d15_0 : decode jdk_48_method_14_code 0 = .ok (.iconst 0, 1) := by decide +kernel
theorem own_d15_1 : decode jdk_48_method_14_code 1 = .ok (.istore 5, 2) := by decide +kernel
theorem own_d15_3 : decode jdk_48_method_14_code 3 = .ok (.iload 4, 2) := by decide +kernel
theorem own_d15_5 : decode jdk_48_method_14_code 5 = .ok (.bipush 7, 2) := by decide +kernel
theorem own_d15_7 : decode jdk_48_method_14_code 7 = .ok (.if_icmp .le 63, 3) := by decide +kernel
theorem own_d15_70 : decode jdk_48_method_14_code 70 = .ok (.iload 5, 2) := by decide +kernel
theorem own_d15_72 : decode jdk_48_method_14_code 72 = .ok (.iload 4, 2) := by decide +kernel
theorem own_d15_74 : decode jdk_48_method_14_code 74 = .ok (.if_icmp .ge 27, 3) := by decide +kernel
theorem own_d15_77 : decode jdk_48_method_14_code 77 = .ok (.aload_n 0, 1) := by decide +kernel
theorem own_d15_78 : decode jdk_48_method_14_code 78 = .ok (.iload_n 1, 1) := by decide +kernel
theorem own_d15_79 : decode jdk_48_method_14_code 79 = .ok (.iload 5, 2) := by decide +kernel
theorem own_d15_81 : decode jdk_48_method_14_code 81 = .ok (.iadd, 1) := by decide +kernel
theorem own_d15_82 : decode jdk_48_method_14_code 82 = .ok (.baload, 1) := by decide +kernel
theorem own_d15_83 : decode jdk_48_method_14_code 83 = .ok (.aload_n 2, 1) := by decide +kernel
theorem own_d15_84 : decode jdk_48_method_14_code 84 = .ok (.iload_n 3, 1) := by decide +kernel
theorem own_d15_85 : decode jdk_48_method_14_code 85 = .ok (.iload 5, 2) := by decide +kernel
theorem own_d15_87 : decode jdk_48_method_14_code 87 = .ok (.iadd, 1) := by decide +kernel
theorem own_d15_88 : decode jdk_48_method_14_code 88 = .ok (.baload, 1) := by decide +kernel
theorem own_d15_89 : decode jdk_48_method_14_code 89 = .ok (.if_icmp .eq 6, 3) := by decide +kernel
theorem own_d15_92 : decode jdk_48_method_14_code 92 = .ok (.iload 5, 2) := by decide +kernel
theorem own_d15_94 : decode jdk_48_method_14_code 94 = .ok (.ireturn, 1) := by decide +kernel
theorem own_d15_95 : decode jdk_48_method_14_code 95 = .ok (.iinc 5 1, 3) := by decide +kernel
theorem own_d15_98 : decode jdk_48_method_14_code 98 = .ok (.goto (-28), 3) := by decide +kernel
theorem own_d15_101 : decode jdk_48_method_14_code 101 = .ok (.iconst (-1), 1) := by decide +kernel
theorem own_d15_102 : decode jdk_48_method_14_code 102 = .ok (.ireturn, 1) := by decide +kernel
theorem own_pn6 : plainName "jdk/internal/util/ArraysSupport" = true := by first | (simp [plainName, overriddenIn]; done) | decide +kernel
theorem own_ef15 (m : MethodId) (x0 : Addr) (x1 : Int32) (x2 : Addr) (x3 : Int32) (x4 : Int32) : entryFrame m #[(.ref x0), (.int x1), (.ref x2), (.int x3), (.int x4)] 8 = mkF m 0 #[.val (.ref x0), .val (.int x1), .val (.ref x2), .val (.int x3), .val (.int x4), .unset, .unset, .unset] [] := by first | (simp [entryFrame, mkF, argsToLocals, Value.category]; done) | rfl
def own_Q15 (Z : State) (a1 : Addr) (a2 : Addr) (k1 : ClassId) (k2 : ClassId) (m1 : Nat) (f1 : Nat → Int32) (f2 : Nat → Int32) (h0 : Heap) (n0 : Nat) (v : Option Value) (h : Heap) (L : List Loc) : Prop := v = some (.int (own_mm1 (f1 0) (f2 0))) ∧ Fr n0 L ∧ h = h0
set_option maxRecDepth 65536 in
set_option maxHeartbeats 40000000 in
theorem own_rm15 (l : Launch) (Z : State) (a0 : Array Value) (hw : ∀ d ∈ tables_1, d.before a0 Z = true) (ws : List Jvm.Cond) (a1 : Addr) (a2 : Addr) (k1 : ClassId) (k2 : ClassId) (m1 : Nat) (f1 : Nat → Int32) (f2 : Nat → Int32) (h0 : Heap) (n0 : Nat) (Z0 : n0 ≤ h0.size) (q0 : own_A Z h0 a1 k1 .byte m1 (fun i => .int (f1 i))) (q1 : own_A Z h0 a2 k2 .byte 1 (fun i => .int (f2 i))) (hm1 : (0 < m1)) :
    MetFree l own_n28 (head1 (Jvm.Cond.code own_n28 jdk_48_method_14_code 8 (some .int) :: ws) ({ frames := 0, cells := 0, slots := 0, locals := 0 } : Room)) (fun a U => a = #[(.ref a1), (.int (0 : Int32)), (.ref a2), (.int (0 : Int32)), (.int (1 : Int32))] ∧ Z.Warmed39 U.vm ∧ U.heap = h0) (fun _ _ _ _ _ => True) (fun _ U o U' => ∃ v L, o = .returned v ∧ own_Q15 Z a1 a2 k1 k2 m1 f1 f2 h0 n0 v U'.heap L ∧ FrameEnd U o U' L ({ frames := 0, cells := 0, slots := 0, locals := 0 } : Room).cells ({ frames := 0, cells := 0, slots := 0, locals := 0 } : Room).slots) := by
  refine MetFree.of_bodySF (plainFor_of_name own_pn6) hisR ?_
  intro p e s m args below meth c s₁ Bd hml0 hP hK
  obtain ⟨rfl, hZ, hh⟩ := hP
  have hx := Bd.exec
  have hby := Bd.bytes
  have hml : c.maxLocals = 8 := hml0
  have hown : s.vm.findClass "jdk/internal/util/ArraysSupport" = some m.cls := findClass_of_methodNamed Bd.named
  have hnm := (name_of_methodNamed Bd.named Bd.method).1
  have hnl : meth.locks = false := Bd.notSynchronized
  have X0 : Stand p l e ({ frames := 0, cells := 0, slots := 0, locals := 0 } : Room) s m #[(.ref a1), (.int (0 : Int32)), (.ref a2), (.int (0 : Int32)), (.int (1 : Int32))] below meth c s₁ [] 0 0 := Stand.of_body Bd
  have e0 : s₁.heap = h0 := by rw [← hh, Bd.state]; rfl
  have N0 := Fr.nil n0
  show own_Go p.tables e below (own_P below s (own_Q15 Z a1 a2 k1 k2 m1 f1 f2 h0 n0) ({ frames := 0, cells := 0, slots := 0, locals := 0 } : Room).cells ({ frames := 0, cells := 0, slots := 0, locals := 0 } : Room).slots) _
  refine own_st (fun t_ k_ => castTop (own_ef15 m a1 (0 : Int32) a2 (0 : Int32) (1 : Int32)) k_) ?_
  refine own_st (fun t_ k_ => XS.iconst X0.here hx rfl (hb hby own_d15_0) (XS.istore X0.here hx rfl (hb hby own_d15_1) rfl (l' := #[oR a1, oI (0 : Int32), oR a2, oI (0 : Int32), oI (1 : Int32), oI (0 : Int32), oU, oU]) rfl (XS.iload X0.here hx rfl (hb hby own_d15_3) rfl (XS.bipush X0.here hx rfl (hb hby own_d15_5) (XS.icmpYes X0.here hx rfl (pc0 := 7) (pc' := 70) rfl (hb hby own_d15_7) rfl (flt (by decide : ¬ ((7 : Int32) < (1 : Int32)))).2.2.2 (by decide) (by decide) (XS.iload X0.here hx rfl (hb hby own_d15_70) rfl k_)))))) ?_
  show own_at p e below _ s₁ m 72 #[oR a1, oI (0 : Int32), oR a2, oI (0 : Int32), oI (1 : Int32), oI (0 : Int32), oU, oU] [(.int (0 : Int32))]
  refine own_st (fun t_ k_ => XS.iload X0.here hx rfl (hb hby own_d15_72) rfl (XS.icmpNo X0.here hx rfl (hb hby own_d15_74) rfl (tlt (by decide : (0 : Int32) < (1 : Int32))).2.1 (XS.aloadN X0.here hx rfl (hb hby own_d15_77) rfl rfl (XS.iloadN X0.here hx rfl (hb hby own_d15_78) rfl (XS.iload X0.here hx rfl (hb hby own_d15_79) rfl (XS.iadd X0.here hx rfl (hb hby own_d15_81) rfl k_)))))) ?_
  show own_at p e below _ s₁ m 82 #[oR a1, oI (0 : Int32), oR a2, oI (0 : Int32), oI (1 : Int32), oI (0 : Int32), oU, oU] [(.int ((0 : Int32) + (0 : Int32))), (.ref a1)]
  refine own_st (own_baload X0 hx hZ e0 q0 (i := 0) (by decide) hm1 (g := (mkF m 82 #[oR a1, oI (0 : Int32), oR a2, oI (0 : Int32), oI (1 : Int32), oI (0 : Int32), oU, oU] [(.int ((0 : Int32) + (0 : Int32))), (.ref a1)])) rfl rfl (hb hby own_d15_82)) ?_
  refine own_st (fun t_ k_ => XS.aloadN X0.here hx rfl (hb hby own_d15_83) rfl rfl (XS.iloadN X0.here hx rfl (hb hby own_d15_84) rfl (XS.iload X0.here hx rfl (hb hby own_d15_85) rfl (XS.iadd X0.here hx rfl (hb hby own_d15_87) rfl k_)))) ?_
  show own_at p e below _ s₁ m 88 #[oR a1, oI (0 : Int32), oR a2, oI (0 : Int32), oI (1 : Int32), oI (0 : Int32), oU, oU] [(.int ((0 : Int32) + (0 : Int32))), (.ref a2), (.int (f1 0))]
  refine own_st (own_baload X0 hx hZ e0 q1 (i := 0) (by decide) (by decide) (g := (mkF m 88 #[oR a1, oI (0 : Int32), oR a2, oI (0 : Int32), oI (1 : Int32), oI (0 : Int32), oU, oU] [(.int ((0 : Int32) + (0 : Int32))), (.ref a2), (.int (f1 0))])) rfl rfl (hb hby own_d15_88)) ?_
  show own_at p e below _ s₁ m 89 #[oR a1, oI (0 : Int32), oR a2, oI (0 : Int32), oI (1 : Int32), oI (0 : Int32), oU, oU] [(.int (f2 0)), (.int (f1 0))]
  by_cases c89_196 : (f1 0) = (f2 0)
  · skip
    refine own_st (fun t_ k_ => XS.icmpYes X0.here hx rfl (pc0 := 89) (pc' := 95) rfl (hb hby own_d15_89) rfl (teq c89_196).1 (by decide) (by decide) (XS.iinc X0.here hx rfl (hb hby own_d15_95) rfl (l' := #[oR a1, oI (0 : Int32), oR a2, oI (0 : Int32), oI (1 : Int32), oI ((0 : Int32) + (1 : Int32)), oU, oU]) rfl (XS.goto X0.here hx rfl (pc0 := 98) (pc' := 70) rfl (hb hby own_d15_98) (by decide) (by decide) (XS.iload X0.here hx rfl (hb hby own_d15_70) rfl (XS.iload X0.here hx rfl (hb hby own_d15_72) rfl (XS.icmpYes X0.here hx rfl (pc0 := 74) (pc' := 101) rfl (hb hby own_d15_74) rfl (flt (by decide)).2.1 (by decide) (by decide) k_)))))) ?_
    show own_at p e below _ s₁ m 101 #[oR a1, oI (0 : Int32), oR a2, oI (0 : Int32), oI (1 : Int32), oI ((0 : Int32) + (1 : Int32)), oU, oU] []
    refine own_st (fun t_ k_ => XS.iconst X0.here hx rfl (hb hby own_d15_101) k_) ?_
    show own_at p e below _ s₁ m 102 #[oR a1, oI (0 : Int32), oR a2, oI (0 : Int32), oI (1 : Int32), oI ((0 : Int32) + (1 : Int32)), oU, oU] [(.int (-1 : Int32))]
    exact own_ret (w := (.int (-1 : Int32))) X0 hx hnl Bd.returns rfl (Or.inl ⟨rfl, by decide, _, rfl⟩) (hb hby own_d15_102) ⟨(by unfold own_mm1; rw [if_pos c89_196]), N0, e0⟩ (by decide) (by decide)
  refine own_st (fun t_ k_ => XS.icmpNo X0.here hx rfl (hb hby own_d15_89) rfl (feq c89_196).1 (XS.iload X0.here hx rfl (hb hby own_d15_92) rfl k_)) ?_
  show own_at p e below _ s₁ m 94 #[oR a1, oI (0 : Int32), oR a2, oI (0 : Int32), oI (1 : Int32), oI (0 : Int32), oU, oU] [(.int (0 : Int32))]
  exact own_ret (w := (.int (0 : Int32))) X0 hx hnl Bd.returns rfl (Or.inl ⟨rfl, by decide, _, rfl⟩) (hb hby own_d15_94) ⟨(by unfold own_mm1; rw [if_neg c89_196]), N0, e0⟩ (by decide) (by decide)

theorem own_d12_0 : decode jdk_42_method_75_code 0 = .ok (.iload_n 2, 1) := by decide +kernel
theorem own_d12_1 : decode jdk_42_method_75_code 1 = .ok (.ifCond .lt 16, 3) := by decide +kernel
theorem own_d12_4 : decode jdk_42_method_75_code 4 = .ok (.iload_n 2, 1) := by decide +kernel
theorem own_d12_5 : decode jdk_42_method_75_code 5 = .ok (.aload_n 0, 1) := by decide +kernel
theorem own_d12_6 : decode jdk_42_method_75_code 6 = .ok (.invokevirtual 505, 3) := by decide +kernel
theorem own_d12_9 : decode jdk_42_method_75_code 9 = .ok (.aload_n 1, 1) := by decide +kernel
theorem own_d12_10 : decode jdk_42_method_75_code 10 = .ok (.invokevirtual 505, 3) := by decide +kernel
theorem own_d12_13 : decode jdk_42_method_75_code 13 = .ok (.isub, 1) := by decide +kernel
theorem own_d12_14 : decode jdk_42_method_75_code 14 = .ok (.if_icmp .le 5, 3) := by decide +kernel
theorem own_d12_17 : decode jdk_42_method_75_code 17 = .ok (.iconst 0, 1) := by decide +kernel
theorem own_d12_18 : decode jdk_42_method_75_code 18 = .ok (.ireturn, 1) := by decide +kernel
theorem own_d12_19 : decode jdk_42_method_75_code 19 = .ok (.aload_n 0, 1) := by decide +kernel
theorem own_d12_20 : decode jdk_42_method_75_code 20 = .ok (.getfield 9, 3) := by decide +kernel
theorem own_d12_23 : decode jdk_42_method_75_code 23 = .ok (.astore_n 3, 1) := by decide +kernel
theorem own_d12_24 : decode jdk_42_method_75_code 24 = .ok (.aload_n 1, 1) := by decide +kernel
theorem own_d12_25 : decode jdk_42_method_75_code 25 = .ok (.getfield 9, 3) := by decide +kernel
theorem own_d12_28 : decode jdk_42_method_75_code 28 = .ok (.astore 4, 2) := by decide +kernel
theorem own_d12_30 : decode jdk_42_method_75_code 30 = .ok (.iconst 0, 1) := by decide +kernel
theorem own_d12_31 : decode jdk_42_method_75_code 31 = .ok (.istore 5, 2) := by decide +kernel
theorem own_d12_33 : decode jdk_42_method_75_code 33 = .ok (.aload 4, 2) := by decide +kernel
theorem own_d12_35 : decode jdk_42_method_75_code 35 = .ok (.arraylength, 1) := by decide +kernel
theorem own_d12_36 : decode jdk_42_method_75_code 36 = .ok (.istore 6, 2) := by decide +kernel
theorem own_d12_38 : decode jdk_42_method_75_code 38 = .ok (.aload_n 0, 1) := by decide +kernel
theorem own_d12_39 : decode jdk_42_method_75_code 39 = .ok (.invokevirtual 335, 3) := by decide +kernel
theorem own_d12_42 : decode jdk_42_method_75_code 42 = .ok (.istore 7, 2) := by decide +kernel
theorem own_d12_44 : decode jdk_42_method_75_code 44 = .ok (.iload 7, 2) := by decide +kernel
theorem own_d12_46 : decode jdk_42_method_75_code 46 = .ok (.aload_n 1, 1) := by decide +kernel
theorem own_d12_47 : decode jdk_42_method_75_code 47 = .ok (.invokevirtual 335, 3) := by decide +kernel
theorem own_d12_50 : decode jdk_42_method_75_code 50 = .ok (.if_icmp .ne 32, 3) := by decide +kernel
theorem own_d12_53 : decode jdk_42_method_75_code 53 = .ok (.iload 7, 2) := by decide +kernel
theorem own_d12_55 : decode jdk_42_method_75_code 55 = .ok (.iconst 1, 1) := by decide +kernel
theorem own_d12_56 : decode jdk_42_method_75_code 56 = .ok (.if_icmp .ne 7, 3) := by decide +kernel
theorem own_d12_63 : decode jdk_42_method_75_code 63 = .ok (.aload_n 3, 1) := by decide +kernel
theorem own_d12_64 : decode jdk_42_method_75_code 64 = .ok (.iload_n 2, 1) := by decide +kernel
theorem own_d12_65 : decode jdk_42_method_75_code 65 = .ok (.aload 4, 2) := by decide +kernel
theorem own_d12_67 : decode jdk_42_method_75_code 67 = .ok (.iconst 0, 1) := by decide +kernel
theorem own_d12_68 : decode jdk_42_method_75_code 68 = .ok (.iload 6, 2) := by decide +kernel
theorem own_d12_70 : decode jdk_42_method_75_code 70 = .ok (.invokestatic 607, 3) := by decide +kernel
theorem own_d12_73 : decode jdk_42_method_75_code 73 = .ok (.ifCond .ge 7, 3) := by decide +kernel
theorem own_d12_76 : decode jdk_42_method_75_code 76 = .ok (.iconst 1, 1) := by decide +kernel
theorem own_d12_77 : decode jdk_42_method_75_code 77 = .ok (.goto 4, 3) := by decide +kernel
theorem own_d12_80 : decode jdk_42_method_75_code 80 = .ok (.iconst 0, 1) := by decide +kernel
theorem own_d12_81 : decode jdk_42_method_75_code 81 = .ok (.ireturn, 1) := by decide +kernel
theorem own_d12_82 : decode jdk_42_method_75_code 82 = .ok (.iload 7, 2) := by decide +kernel
theorem own_d12_84 : decode jdk_42_method_75_code 84 = .ok (.ifCond .ne 5, 3) := by decide +kernel
theorem own_d12_89 : decode jdk_42_method_75_code 89 = .ok (.iload 5, 2) := by decide +kernel
theorem own_d12_91 : decode jdk_42_method_75_code 91 = .ok (.iload 6, 2) := by decide +kernel
theorem own_d12_93 : decode jdk_42_method_75_code 93 = .ok (.if_icmp .ge 28, 3) := by decide +kernel
theorem own_d12_96 : decode jdk_42_method_75_code 96 = .ok (.aload_n 3, 1) := by decide +kernel
theorem own_d12_97 : decode jdk_42_method_75_code 97 = .ok (.iload_n 2, 1) := by decide +kernel
theorem own_d12_98 : decode jdk_42_method_75_code 98 = .ok (.iinc 2 1, 3) := by decide +kernel
theorem own_d12_101 : decode jdk_42_method_75_code 101 = .ok (.invokestatic 360, 3) := by decide +kernel
theorem own_d12_104 : decode jdk_42_method_75_code 104 = .ok (.aload 4, 2) := by decide +kernel
theorem own_d12_106 : decode jdk_42_method_75_code 106 = .ok (.iload 5, 2) := by decide +kernel
theorem own_d12_108 : decode jdk_42_method_75_code 108 = .ok (.iinc 5 1, 3) := by decide +kernel
theorem own_d12_111 : decode jdk_42_method_75_code 111 = .ok (.baload, 1) := by decide +kernel
theorem own_d12_112 : decode jdk_42_method_75_code 112 = .ok (.sipush 255, 3) := by decide +kernel
theorem own_d12_115 : decode jdk_42_method_75_code 115 = .ok (.iand, 1) := by decide +kernel
theorem own_d12_116 : decode jdk_42_method_75_code 116 = .ok (.if_icmp .eq (-27), 3) := by decide +kernel
theorem own_d12_119 : decode jdk_42_method_75_code 119 = .ok (.iconst 0, 1) := by decide +kernel
theorem own_d12_120 : decode jdk_42_method_75_code 120 = .ok (.ireturn, 1) := by decide +kernel
theorem own_d12_121 : decode jdk_42_method_75_code 121 = .ok (.iconst 1, 1) := by decide +kernel
theorem own_d12_122 : decode jdk_42_method_75_code 122 = .ok (.ireturn, 1) := by decide +kernel
theorem own_pd17 : parseMethodDescriptor "()I" = some ⟨[], some .int⟩ := by decide +kernel
theorem own_pd18 : parseMethodDescriptor "([BI[BII)I" = some ⟨[(.array .byte), .int, (.array .byte), .int, .int], some .int⟩ := by decide +kernel
theorem own_ef12 (m : MethodId) (x0 : Addr) (x1 : Addr) (x2 : Int32) : entryFrame m #[(.ref x0), (.ref x1), (.int x2)] 8 = mkF m 0 #[.val (.ref x0), .val (.ref x1), .val (.int x2), .unset, .unset, .unset, .unset, .unset] [] := by first | (simp [entryFrame, mkF, argsToLocals, Value.category]; done) | rfl
def own_Q12 (Z : State) (a1 : Addr) (a2 : Addr) (t : Addr) (kt : ClassId) (cd : Int32) (n1 : Nat) (cs : Nat → Int32) (u1 : Addr) (ku : ClassId) (gp : Nat → Int32) (G1 : Int32) (h0 : Heap) (n0 : Nat) (v : Option Value) (h : Heap) (L : List Loc) : Prop := v = some (.int (Int32.ofNat (own_swn cs n1))) ∧ Fr n0 L ∧ h = h0
set_option maxRecDepth 65536 in
set_option maxHeartbeats 40000000 in
theorem own_rm12 (l : Launch) (Z : State) (a0 : Array Value) (hw : ∀ d ∈ tables_1, d.before a0 Z = true) (ws : List Jvm.Cond) (a1 : Addr) (a2 : Addr) (t : Addr) (kt : ClassId) (cd : Int32) (n1 : Nat) (cs : Nat → Int32) (u1 : Addr) (ku : ClassId) (gp : Nat → Int32) (G1 : Int32) (h0 : Heap) (n0 : Nat) (Z0 : n0 ≤ h0.size) (q0 : Exa Z h0 a1 "java/lang/String") (q1 : Fld Z h0 a1 "java/lang/String" "value" "[B" (.ref t)) (q2 : Fld Z h0 a1 "java/lang/String" "coder" "B" (.int cd)) (q3 : own_A Z h0 t kt .byte (own_bl cd n1) (fun i => .int ((own_by cd cs) i))) (hcd : ((cd = 0 ∧ ∀ q : Nat, q < n1 → ¬ (255 : Int32) < cs q) ∨ cd = 1)) (q5 : Exa Z h0 a2 "java/lang/String") (q6 : Fld Z h0 a2 "java/lang/String" "value" "[B" (.ref u1)) (q7 : Fld Z h0 a2 "java/lang/String" "coder" "B" (.int (0 : Int32))) (q8 : own_A Z h0 u1 ku .byte 1 (fun i => .int (gp i))) (hgp : (gp 0 = (45 : Int32))) (q10 : Old Z n0 h0) (q11 : Sta Z Z.heap "java/lang/String" "COMPACT_STRINGS" "Z" (.int G1)) (hG1 : (¬ G1 = (0 : Int32))) (q13 : Sta Z Z.heap "java/lang/StringUTF16" "$assertionsDisabled" "Z" (.int (1 : Int32))) (q14 : Sta Z Z.heap "java/lang/StringUTF16" "HI_BYTE_SHIFT" "I" (.int (0 : Int32))) (q15 : Sta Z Z.heap "java/lang/StringUTF16" "LO_BYTE_SHIFT" "I" (.int (8 : Int32))) (hn12 : (n1 ≤ 12)) (hall : (∀ q : Nat, q < n1 → 0 ≤ (cs q).toInt ∧ (cs q).toInt ≤ 65535)) :
    MetFree l own_n29 (head1 (Jvm.Cond.code own_n29 jdk_42_method_75_code 8 (some .boolean) :: ws) ({ frames := 2, cells := 0, slots := 0, locals := 27 } : Room)) (fun a U => a = #[(.ref a1), (.ref a2), (.int (0 : Int32))] ∧ Z.Warmed39 U.vm ∧ U.heap = h0) (fun _ _ _ _ _ => True) (fun _ U o U' => ∃ v L, o = .returned v ∧ own_Q12 Z a1 a2 t kt cd n1 cs u1 ku gp G1 h0 n0 v U'.heap L ∧ FrameEnd U o U' L ({ frames := 2, cells := 0, slots := 0, locals := 27 } : Room).cells ({ frames := 2, cells := 0, slots := 0, locals := 27 } : Room).slots) := by
  refine MetFree.of_bodySF (plainFor_of_name own_pn1) hisR ?_
  intro p e s m args below meth c s₁ Bd hml0 hP hK
  obtain ⟨rfl, hZ, hh⟩ := hP
  have hx := Bd.exec
  have hby := Bd.bytes
  have hml : c.maxLocals = 8 := hml0
  have hown : s.vm.findClass "java/lang/String" = some m.cls := findClass_of_methodNamed Bd.named
  have hnm := (name_of_methodNamed Bd.named Bd.method).1
  have hnl : meth.locks = false := Bd.notSynchronized
  have X0 : Stand p l e ({ frames := 2, cells := 0, slots := 0, locals := 27 } : Room) s m #[(.ref a1), (.ref a2), (.int (0 : Int32))] below meth c s₁ [] 0 0 := Stand.of_body Bd
  have e0 : s₁.heap = h0 := by rw [← hh, Bd.state]; rfl
  have N0 := Fr.nil n0
  show own_Go p.tables e below (own_P below s (own_Q12 Z a1 a2 t kt cd n1 cs u1 ku gp G1 h0 n0) ({ frames := 2, cells := 0, slots := 0, locals := 27 } : Room).cells ({ frames := 2, cells := 0, slots := 0, locals := 27 } : Room).slots) _
  refine own_st (fun t_ k_ => castTop (own_ef12 m a1 a2 (0 : Int32)) k_) ?_
  refine own_st (fun t_ k_ => XS.iloadN X0.here hx rfl (hb hby own_d12_0) rfl (XS.ifNo X0.here hx rfl (hb hby own_d12_1) rfl ((if0 _ _).trans (flt (by decide : ¬ ((0 : Int32) < (0 : Int32)))).1) (XS.iloadN X0.here hx rfl (hb hby own_d12_4) rfl (XS.aloadN X0.here hx rfl (hb hby own_d12_5) rfl rfl k_)))) ?_
  show own_at p e below _ s₁ m 6 #[oR a1, oR a2, oI (0 : Int32), oU, oU, oU, oU, oU] [(.ref a1), (.int (0 : Int32))]
  obtain ⟨cq197, kq197, q197a, q197b, q197c⟩ := isOf hZ e0 q0
  obtain ⟨_, _, ⟨T197, L197, k197, n197⟩, -, X197, ⟨Lc197, hQ197, l197, y197, z197⟩, st197⟩ := X0.virtualBack hx (y := own_n27) (z := own_n27) hown (mvT hZ (own_w hw 71 rfl)) (mvT hZ (own_w hw 72 rfl)) (notFace_of_selects (args := #[]) (mvT hZ (own_w hw 74 rfl))) (mvT hZ (own_w hw 74 rfl)) (mvT hZ (own_w hw 73 rfl)) (by decide) (backOf (W := 1) (own_rm13a l Z a0 hw [] a1 t kt cd n1 cs G1 h0 n0 (Nat.le_trans Z0 (Keep.refl h0 []).1) q0 q1 q2 q3 hcd q10 q11 hG1 hn12) hZ (own_w hw 75 rfl) (own_w hw 27 rfl) (by decide) (by decide)) q197a q197c (g := (mkF m 6 #[oR a1, oR a2, oI (0 : Int32), oU, oU, oU, oU, oU] [(.ref a1), (.int (0 : Int32))])) rfl (by rw [hml]; rfl) (Steps.refl _) (argsL := []) (rest := [(.int (0 : Int32))]) (lenOf own_pd17 rfl) rfl (own_hW rfl) (hb hby own_d12_6) (fun _ _ => ⟨rfl, e0, (by decide : 0 + 0 ≤ _), (by decide : 0 + 0 ≤ _)⟩)
  dsimp only [Pt.U, Pt.locs, Pt.cells, Pt.slots] at X197 l197 y197 z197 st197 hQ197
  subst y197 z197
  obtain ⟨rfl, N197q, eq197⟩ := hQ197
  have N197 : Fr n0 L197 := by rw [l197]; exact Fr.app N0 N197q
  refine own_tr st197 ?_
  refine own_st (fun t_ k_ => XS.aloadN X197.here hx rfl (hb hby own_d12_9) rfl rfl k_) ?_
  show own_at p e below _ T197 m 10 #[oR a1, oR a2, oI (0 : Int32), oU, oU, oU, oU, oU] [(.ref a2), (.int (Int32.ofNat n1)), (.int (0 : Int32))]
  obtain ⟨cq198, kq198, q198a, q198b, q198c⟩ := isOf hZ eq197 q5
  obtain ⟨_, _, ⟨T198, L198, k198, n198⟩, -, X198, ⟨Lc198, hQ198, l198, y198, z198⟩, st198⟩ := X197.virtualBack hx (y := own_n27) (z := own_n27) hown (mvT hZ (own_w hw 71 rfl)) (mvT hZ (own_w hw 72 rfl)) (notFace_of_selects (args := #[]) (mvT hZ (own_w hw 74 rfl))) (mvT hZ (own_w hw 74 rfl)) (mvT hZ (own_w hw 73 rfl)) (by decide) (backOf (W := 2) (own_rm13b l Z a0 hw [] a2 u1 ku 1 gp G1 h0 n0 (Nat.le_trans Z0 (Keep.refl h0 []).1) q5 q6 q7 q8 q10 q11 hG1) hZ (own_w hw 75 rfl) (own_w hw 27 rfl) (by decide) (by decide)) q198a q198c (g := (mkF m 10 #[oR a1, oR a2, oI (0 : Int32), oU, oU, oU, oU, oU] [(.ref a2), (.int (Int32.ofNat n1)), (.int (0 : Int32))])) rfl (by rw [hml]; rfl) (Steps.refl _) (argsL := []) (rest := [(.int (Int32.ofNat n1)), (.int (0 : Int32))]) (lenOf own_pd17 rfl) rfl (own_hW rfl) (hb hby own_d12_10) (fun _ _ => ⟨rfl, eq197, (by decide : 0 + 0 ≤ _), (by decide : 0 + 0 ≤ _)⟩)
  dsimp only [Pt.U, Pt.locs, Pt.cells, Pt.slots] at X198 l198 y198 z198 st198 hQ198
  subst y198 z198
  obtain ⟨rfl, N198q, eq198⟩ := hQ198
  have N198 : Fr n0 L198 := by rw [l198]; exact Fr.app N197 N198q
  refine own_tr st198 ?_
  refine own_st (fun t_ k_ => XS.isub X198.here hx rfl (hb hby own_d12_13) rfl k_) ?_
  show own_at p e below _ T198 m 14 #[oR a1, oR a2, oI (0 : Int32), oU, oU, oU, oU, oU] [(.int ((Int32.ofNat n1) - (Int32.ofNat 1))), (.int (0 : Int32))]
  by_cases c14_199 : ((Int32.ofNat n1) - (Int32.ofNat 1)) < (0 : Int32)
  · skip
    have h1 : ¬ 1 ≤ n1 := (own_l1n hn12).mp c14_199
    refine own_st (fun t_ k_ => XS.icmpNo X198.here hx rfl (hb hby own_d12_14) rfl (tlt c14_199).2.2.2 (XS.iconst X198.here hx rfl (hb hby own_d12_17) k_)) ?_
    show own_at p e below _ T198 m 18 #[oR a1, oR a2, oI (0 : Int32), oU, oU, oU, oU, oU] [(.int (0 : Int32))]
    exact own_ret (w := (.int (0 : Int32))) X198 hx hnl Bd.returns rfl (Or.inl ⟨rfl, by decide, _, rfl⟩) (hb hby own_d12_18) ⟨(by rw [own_swN (fun z_ => h1 z_.1)]; rfl), N198, eq198⟩ (by decide) (by decide)
  have h1 : 1 ≤ n1 := Decidable.not_not.mp (fun z_ => c14_199 ((own_l1n hn12).mpr z_))
  refine own_st (fun t_ k_ => XS.icmpYes X198.here hx rfl (pc0 := 14) (pc' := 19) rfl (hb hby own_d12_14) rfl (flt c14_199).2.2.2 (by decide) (by decide) (XS.aloadN X198.here hx rfl (hb hby own_d12_19) rfl rfl k_)) ?_
  show own_at p e below _ T198 m 20 #[oR a1, oR a2, oI (0 : Int32), oU, oU, oU, oU, oU] [(.ref a1)]
  obtain ⟨T200, X200, e200, st200⟩ := getF X198 hx hZ hown (host := "") (Or.inl (own_w hw 52 rfl)) Via.refl eq198 q1 (g := (mkF m 20 #[oR a1, oR a2, oI (0 : Int32), oU, oU, oU, oU, oU] [(.ref a1)])) rfl rfl (hb hby own_d12_20)
  refine own_st (st200) ?_
  refine own_st (fun t_ k_ => XS.astoreN X200.here hx rfl (hb hby own_d12_23) rfl rfl (l' := #[oR a1, oR a2, oI (0 : Int32), oR t, oU, oU, oU, oU]) rfl (XS.aloadN X200.here hx rfl (hb hby own_d12_24) rfl rfl k_)) ?_
  show own_at p e below _ T200 m 25 #[oR a1, oR a2, oI (0 : Int32), oR t, oU, oU, oU, oU] [(.ref a2)]
  obtain ⟨T201, X201, e201, st201⟩ := getF X200 hx hZ hown (host := "") (Or.inl (own_w hw 52 rfl)) Via.refl e200 q6 (g := (mkF m 25 #[oR a1, oR a2, oI (0 : Int32), oR t, oU, oU, oU, oU] [(.ref a2)])) rfl rfl (hb hby own_d12_25)
  refine own_st (st201) ?_
  refine own_st (fun t_ k_ => XS.astore X201.here hx rfl (hb hby own_d12_28) rfl rfl (l' := #[oR a1, oR a2, oI (0 : Int32), oR t, oR u1, oU, oU, oU]) rfl (XS.iconst X201.here hx rfl (hb hby own_d12_30) (XS.istore X201.here hx rfl (hb hby own_d12_31) rfl (l' := #[oR a1, oR a2, oI (0 : Int32), oR t, oR u1, oI (0 : Int32), oU, oU]) rfl (XS.aload X201.here hx rfl (hb hby own_d12_33) rfl rfl k_)))) ?_
  show own_at p e below _ T201 m 35 #[oR a1, oR a2, oI (0 : Int32), oR t, oR u1, oI (0 : Int32), oU, oU] [(.ref u1)]
  refine own_st (own_len X201 hx hZ e201 q8 (g := (mkF m 35 #[oR a1, oR a2, oI (0 : Int32), oR t, oR u1, oI (0 : Int32), oU, oU] [(.ref u1)])) rfl rfl (hb hby own_d12_35)) ?_
  refine own_st (fun t_ k_ => XS.istore X201.here hx rfl (hb hby own_d12_36) rfl (l' := #[oR a1, oR a2, oI (0 : Int32), oR t, oR u1, oI (0 : Int32), oI (1 : Int32), oU]) rfl (XS.aloadN X201.here hx rfl (hb hby own_d12_38) rfl rfl k_)) ?_
  show own_at p e below _ T201 m 39 #[oR a1, oR a2, oI (0 : Int32), oR t, oR u1, oI (0 : Int32), oI (1 : Int32), oU] [(.ref a1)]
  obtain ⟨cq202, kq202, q202a, q202b, q202c⟩ := isOf hZ e201 q0
  obtain ⟨_, _, ⟨T202, L202, k202, n202⟩, -, X202, ⟨Lc202, hQ202, l202, y202, z202⟩, st202⟩ := X201.virtualBack hx (y := own_n26) (z := own_n26) hown (mvT hZ (own_w hw 76 rfl)) (mvT hZ (own_w hw 77 rfl)) (notFace_of_selects (args := #[]) (mvT hZ (own_w hw 79 rfl))) (mvT hZ (own_w hw 79 rfl)) (mvT hZ (own_w hw 78 rfl)) (by decide) (backOf (W := 0) (own_rm14 l Z a0 hw [] a1 cd G1 h0 n0 (Nat.le_trans Z0 (Keep.refl h0 []).1) q0 q2 (own_c01 hcd) q10 q11 hG1) hZ (own_w hw 80 rfl) (own_w hw 27 rfl) (by decide) (by decide)) q202a q202c (g := (mkF m 39 #[oR a1, oR a2, oI (0 : Int32), oR t, oR u1, oI (0 : Int32), oI (1 : Int32), oU] [(.ref a1)])) rfl (by rw [hml]; rfl) (Steps.refl _) (argsL := []) (rest := []) (lenOf own_pd16 rfl) rfl (own_hW rfl) (hb hby own_d12_39) (fun _ _ => ⟨rfl, e201, (by decide : 0 + 0 ≤ _), (by decide : 0 + 0 ≤ _)⟩)
  dsimp only [Pt.U, Pt.locs, Pt.cells, Pt.slots] at X202 l202 y202 z202 st202 hQ202
  subst y202 z202
  obtain ⟨rfl, N202q, eq202⟩ := hQ202
  have N202 : Fr n0 L202 := by rw [l202]; exact Fr.app N198 N202q
  refine own_tr st202 ?_
  refine own_st (fun t_ k_ => XS.istore X202.here hx rfl (hb hby own_d12_42) rfl (l' := #[oR a1, oR a2, oI (0 : Int32), oR t, oR u1, oI (0 : Int32), oI (1 : Int32), oI cd]) rfl (XS.iload X202.here hx rfl (hb hby own_d12_44) rfl (XS.aloadN X202.here hx rfl (hb hby own_d12_46) rfl rfl k_))) ?_
  show own_at p e below _ T202 m 47 #[oR a1, oR a2, oI (0 : Int32), oR t, oR u1, oI (0 : Int32), oI (1 : Int32), oI cd] [(.ref a2), (.int cd)]
  obtain ⟨cq203, kq203, q203a, q203b, q203c⟩ := isOf hZ eq202 q5
  obtain ⟨_, _, ⟨T203, L203, k203, n203⟩, -, X203, ⟨Lc203, hQ203, l203, y203, z203⟩, st203⟩ := X202.virtualBack hx (y := own_n26) (z := own_n26) hown (mvT hZ (own_w hw 76 rfl)) (mvT hZ (own_w hw 77 rfl)) (notFace_of_selects (args := #[]) (mvT hZ (own_w hw 79 rfl))) (mvT hZ (own_w hw 79 rfl)) (mvT hZ (own_w hw 78 rfl)) (by decide) (backOf (W := 1) (own_rm14 l Z a0 hw [] a2 (0 : Int32) G1 h0 n0 (Nat.le_trans Z0 (Keep.refl h0 []).1) q5 q7 (Or.inl rfl) q10 q11 hG1) hZ (own_w hw 80 rfl) (own_w hw 27 rfl) (by decide) (by decide)) q203a q203c (g := (mkF m 47 #[oR a1, oR a2, oI (0 : Int32), oR t, oR u1, oI (0 : Int32), oI (1 : Int32), oI cd] [(.ref a2), (.int cd)])) rfl (by rw [hml]; rfl) (Steps.refl _) (argsL := []) (rest := [(.int cd)]) (lenOf own_pd16 rfl) rfl (own_hW rfl) (hb hby own_d12_47) (fun _ _ => ⟨rfl, eq202, (by decide : 0 + 0 ≤ _), (by decide : 0 + 0 ≤ _)⟩)
  dsimp only [Pt.U, Pt.locs, Pt.cells, Pt.slots] at X203 l203 y203 z203 st203 hQ203
  subst y203 z203
  obtain ⟨rfl, N203q, eq203⟩ := hQ203
  have N203 : Fr n0 L203 := by rw [l203]; exact Fr.app N202 N203q
  refine own_tr st203 ?_
  show own_at p e below _ T203 m 50 #[oR a1, oR a2, oI (0 : Int32), oR t, oR u1, oI (0 : Int32), oI (1 : Int32), oI cd] [(.int (0 : Int32)), (.int cd)]
  by_cases c50_204 : cd = (0 : Int32)
  · skip
    have ecd : ∀ q : Nat, q < n1 → ¬ (255 : Int32) < cs q := by rcases hcd with z_ | z_; exact z_.2; exact absurd (c50_204.symm.trans z_) (by decide)
    have Au : own_A Z h0 t kt .byte n1 (fun i => .int ((own_l8 cs) i)) := by have z_ := q3; rw [c50_204, own_bl0] at z_; exact z_.congr (fun q _ => by rw [own_by0]; rfl)
    refine own_st (fun t_ k_ => XS.icmpNo X203.here hx rfl (hb hby own_d12_50) rfl (teq c50_204).2 (XS.iload X203.here hx rfl (hb hby own_d12_53) rfl (XS.iconst X203.here hx rfl (hb hby own_d12_55) (XS.icmpYes X203.here hx rfl (pc0 := 56) (pc' := 63) rfl (hb hby own_d12_56) rfl (feq (fun z_ => absurd (c50_204.symm.trans z_) (by decide))).2 (by decide) (by decide) (XS.aloadN X203.here hx rfl (hb hby own_d12_63) rfl rfl (XS.iloadN X203.here hx rfl (hb hby own_d12_64) rfl k_)))))) ?_
    show own_at p e below _ T203 m 65 #[oR a1, oR a2, oI (0 : Int32), oR t, oR u1, oI (0 : Int32), oI (1 : Int32), oI cd] [(.int (0 : Int32)), (.ref t)]
    refine own_st (fun t_ k_ => XS.aload X203.here hx rfl (hb hby own_d12_65) rfl rfl (XS.iconst X203.here hx rfl (hb hby own_d12_67) (XS.iload X203.here hx rfl (hb hby own_d12_68) rfl k_))) ?_
    show own_at p e below _ T203 m 70 #[oR a1, oR a2, oI (0 : Int32), oR t, oR u1, oI (0 : Int32), oI (1 : Int32), oI cd] [(.int (1 : Int32)), (.int (0 : Int32)), (.ref u1), (.int (0 : Int32)), (.ref t)]
    obtain ⟨_, _, ⟨T205, L205, k205, n205⟩, -, X205, ⟨Lc205, hQ205, l205, y205, z205⟩, st205⟩ := Jvm.LawKit.callS X203 hx (y := own_n28) hown (mvT hZ (own_w hw 81 rfl)) (mvT hZ (own_w hw 82 rfl)) (mvT hZ (own_w hw 83 rfl)) (mvT hZ (own_w hw 84 rfl)) (by decide) (backOf (W := 0) (own_rm15 l Z a0 hw [] t u1 kt ku n1 (own_l8 cs) gp h0 n0 (Nat.le_trans Z0 (Keep.refl h0 []).1) Au q8 h1) hZ (own_w hw 84 rfl) (own_w hw 83 rfl) (by decide) (by decide)) (g := (mkF m 70 #[oR a1, oR a2, oI (0 : Int32), oR t, oR u1, oI (0 : Int32), oI (1 : Int32), oI cd] [(.int (1 : Int32)), (.int (0 : Int32)), (.ref u1), (.int (0 : Int32)), (.ref t)])) rfl (by rw [hml]; rfl) (argsL := [(.ref t), (.int (0 : Int32)), (.ref u1), (.int (0 : Int32)), (.int (1 : Int32))]) (rest := []) (lenOf own_pd18 rfl) rfl (own_hW rfl) (hb hby own_d12_70) (fun _ _ => ⟨rfl, eq203, (by decide : 0 + 0 ≤ _), (by decide : 0 + 0 ≤ _)⟩)
    dsimp only [Pt.U, Pt.locs, Pt.cells, Pt.slots] at X205 l205 y205 z205 st205 hQ205
    subst y205 z205
    obtain ⟨rfl, N205q, eq205⟩ := hQ205
    have N205 : Fr n0 L205 := by rw [l205]; exact Fr.app N203 N205q
    refine own_st (st205) ?_
    show own_at p e below _ T205 m 73 #[oR a1, oR a2, oI (0 : Int32), oR t, oR u1, oI (0 : Int32), oI (1 : Int32), oI cd] [(.int (own_mm1 ((own_l8 cs) 0) (gp 0)))]
    by_cases c73_206 : (own_mm1 ((own_l8 cs) 0) (gp 0)) < (0 : Int32)
    · skip
      have h45 : (cs 0).toInt = 45 := (own_b45 (hall 0 h1).1 (ecd 0 h1)).mp (((own_mm1L _ _).mp c73_206).trans hgp)
      refine own_st (fun t_ k_ => XS.ifNo X205.here hx rfl (hb hby own_d12_73) rfl ((if0 _ _).trans (tlt c73_206).2.1) (XS.iconst X205.here hx rfl (hb hby own_d12_76) (XS.goto X205.here hx rfl (pc0 := 77) (pc' := 81) rfl (hb hby own_d12_77) (by decide) (by decide) k_))) ?_
      show own_at p e below _ T205 m 81 #[oR a1, oR a2, oI (0 : Int32), oR t, oR u1, oI (0 : Int32), oI (1 : Int32), oI cd] [(.int (1 : Int32))]
      exact own_ret (w := (.int (1 : Int32))) X205 hx hnl Bd.returns rfl (Or.inl ⟨rfl, by decide, _, rfl⟩) (hb hby own_d12_81) ⟨(by rw [own_swY h1 h45]; rfl), N205, eq205⟩ (by decide) (by decide)
    have h45 : ¬ (cs 0).toInt = 45 := fun z_ => c73_206 ((own_mm1L _ _).mpr (((own_b45 (hall 0 h1).1 (ecd 0 h1)).mpr z_).trans hgp.symm))
    refine own_st (fun t_ k_ => XS.ifYes X205.here hx rfl (pc0 := 73) (pc' := 80) rfl (hb hby own_d12_73) rfl ((if0 _ _).trans (flt c73_206).2.1) (by decide) (by decide) (XS.iconst X205.here hx rfl (hb hby own_d12_80) k_)) ?_
    show own_at p e below _ T205 m 81 #[oR a1, oR a2, oI (0 : Int32), oR t, oR u1, oI (0 : Int32), oI (1 : Int32), oI cd] [(.int (0 : Int32))]
    exact own_ret (w := (.int (0 : Int32))) X205 hx hnl Bd.returns rfl (Or.inl ⟨rfl, by decide, _, rfl⟩) (hb hby own_d12_81) ⟨(by rw [own_swN (fun z_ => h45 z_.2)]; rfl), N205, eq205⟩ (by decide) (by decide)
  have ecd : cd = 1 := by rcases hcd with z_ | z_; exact absurd z_.1 c50_204; exact z_
  have Au : own_A Z h0 t kt .byte (n1 + n1) (fun i => .int ((own_u16 cs) i)) := by have z_ := q3; rw [ecd, own_bl1] at z_; exact z_.congr (fun q _ => by rw [own_by1])
  refine own_st (fun t_ k_ => XS.icmpYes X203.here hx rfl (pc0 := 50) (pc' := 82) rfl (hb hby own_d12_50) rfl (feq c50_204).2 (by decide) (by decide) (XS.iload X203.here hx rfl (hb hby own_d12_82) rfl (XS.ifYes X203.here hx rfl (pc0 := 84) (pc' := 89) rfl (hb hby own_d12_84) rfl ((if0 _ _).trans (feq c50_204).2) (by decide) (by decide) (XS.iload X203.here hx rfl (hb hby own_d12_89) rfl (XS.iload X203.here hx rfl (hb hby own_d12_91) rfl (XS.icmpNo X203.here hx rfl (hb hby own_d12_93) rfl (tlt (by decide : (0 : Int32) < (1 : Int32))).2.1 k_)))))) ?_
  show own_at p e below _ T203 m 96 #[oR a1, oR a2, oI (0 : Int32), oR t, oR u1, oI (0 : Int32), oI (1 : Int32), oI cd] []
  refine own_st (fun t_ k_ => XS.aloadN X203.here hx rfl (hb hby own_d12_96) rfl rfl (XS.iloadN X203.here hx rfl (hb hby own_d12_97) rfl (XS.iinc X203.here hx rfl (hb hby own_d12_98) rfl (l' := #[oR a1, oR a2, oI ((0 : Int32) + (1 : Int32)), oR t, oR u1, oI (0 : Int32), oI (1 : Int32), oI cd]) rfl k_))) ?_
  show own_at p e below _ T203 m 101 #[oR a1, oR a2, oI ((0 : Int32) + (1 : Int32)), oR t, oR u1, oI (0 : Int32), oI (1 : Int32), oI cd] [(.int (0 : Int32)), (.ref t)]
  obtain ⟨_, _, ⟨T207, L207, k207, n207⟩, -, X207, ⟨Lc207, hQ207, l207, y207, z207⟩, st207⟩ := Jvm.LawKit.callS X203 hx (y := own_n5) hown (mvT hZ (own_w hw 157 rfl)) (mvT hZ (own_w hw 155 rfl)) (mvT hZ (own_w hw 41 rfl)) (mvT hZ (own_w hw 156 rfl)) (by decide) (backOf (W := 0) (own_rm30 l Z a0 hw [] t (0 : Int32) kt (n1 + n1) (own_u16 cs) 0 (cs 0) h0 n0 (Nat.le_trans Z0 (Keep.refl h0 []).1) q10 q13 q14 q15 Au ⟨(by decide), (by omega), (by omega)⟩ ⟨(hall 0 h1).1, (hall 0 h1).2, (own_u16e cs 0), (own_u16o cs 0)⟩) hZ (own_w hw 156 rfl) (own_w hw 41 rfl) (by decide) (by decide)) (g := (mkF m 101 #[oR a1, oR a2, oI ((0 : Int32) + (1 : Int32)), oR t, oR u1, oI (0 : Int32), oI (1 : Int32), oI cd] [(.int (0 : Int32)), (.ref t)])) rfl (by rw [hml]; rfl) (argsL := [(.ref t), (.int (0 : Int32))]) (rest := []) (lenOf own_pd5 rfl) rfl (own_hW rfl) (hb hby own_d12_101) (fun _ _ => ⟨rfl, eq203, (by decide : 0 + 0 ≤ _), (by decide : 0 + 0 ≤ _)⟩)
  dsimp only [Pt.U, Pt.locs, Pt.cells, Pt.slots] at X207 l207 y207 z207 st207 hQ207
  subst y207 z207
  obtain ⟨rfl, N207q, eq207⟩ := hQ207
  have N207 : Fr n0 L207 := by rw [l207]; exact Fr.app N203 N207q
  refine own_st (st207) ?_
  refine own_st (fun t_ k_ => XS.aload X207.here hx rfl (hb hby own_d12_104) rfl rfl (XS.iload X207.here hx rfl (hb hby own_d12_106) rfl (XS.iinc X207.here hx rfl (hb hby own_d12_108) rfl (l' := #[oR a1, oR a2, oI ((0 : Int32) + (1 : Int32)), oR t, oR u1, oI ((0 : Int32) + (1 : Int32)), oI (1 : Int32), oI cd]) rfl k_))) ?_
  show own_at p e below _ T207 m 111 #[oR a1, oR a2, oI ((0 : Int32) + (1 : Int32)), oR t, oR u1, oI ((0 : Int32) + (1 : Int32)), oI (1 : Int32), oI cd] [(.int (0 : Int32)), (.ref u1), (.int (cs 0))]
  refine own_st (own_baload X207 hx hZ eq207 q8 (i := 0) (by decide) (by decide) (g := (mkF m 111 #[oR a1, oR a2, oI ((0 : Int32) + (1 : Int32)), oR t, oR u1, oI ((0 : Int32) + (1 : Int32)), oI (1 : Int32), oI cd] [(.int (0 : Int32)), (.ref u1), (.int (cs 0))])) rfl rfl (hb hby own_d12_111)) ?_
  refine own_st (fun t_ k_ => XS.sipush X207.here hx rfl (hb hby own_d12_112) (XS.iand X207.here hx rfl (hb hby own_d12_115) rfl k_)) ?_
  show own_at p e below _ T207 m 116 #[oR a1, oR a2, oI ((0 : Int32) + (1 : Int32)), oR t, oR u1, oI ((0 : Int32) + (1 : Int32)), oI (1 : Int32), oI cd] [(.int ((gp 0) &&& (255 : Int32))), (.int (cs 0))]
  by_cases c116_208 : (cs 0) = ((gp 0) &&& (255 : Int32))
  · skip
    have h45 : (cs 0).toInt = 45 := own_45.mp (c116_208.trans (by rw [hgp]; decide))
    refine own_st (fun t_ k_ => XS.icmpYes X207.here hx rfl (pc0 := 116) (pc' := 89) rfl (hb hby own_d12_116) rfl (teq c116_208).1 (by decide) (by decide) (XS.iload X207.here hx rfl (hb hby own_d12_89) rfl (XS.iload X207.here hx rfl (hb hby own_d12_91) rfl (XS.icmpYes X207.here hx rfl (pc0 := 93) (pc' := 121) rfl (hb hby own_d12_93) rfl (flt (by decide)).2.1 (by decide) (by decide) (XS.iconst X207.here hx rfl (hb hby own_d12_121) k_))))) ?_
    show own_at p e below _ T207 m 122 #[oR a1, oR a2, oI ((0 : Int32) + (1 : Int32)), oR t, oR u1, oI ((0 : Int32) + (1 : Int32)), oI (1 : Int32), oI cd] [(.int (1 : Int32))]
    exact own_ret (w := (.int (1 : Int32))) X207 hx hnl Bd.returns rfl (Or.inl ⟨rfl, by decide, _, rfl⟩) (hb hby own_d12_122) ⟨(by rw [own_swY h1 h45]; rfl), N207, eq207⟩ (by decide) (by decide)
  have h45 : ¬ (cs 0).toInt = 45 := fun z_ => c116_208 ((own_45.mpr z_).trans (by rw [hgp]; decide))
  refine own_st (fun t_ k_ => XS.icmpNo X207.here hx rfl (hb hby own_d12_116) rfl (feq c116_208).1 (XS.iconst X207.here hx rfl (hb hby own_d12_119) k_)) ?_
  show own_at p e below _ T207 m 120 #[oR a1, oR a2, oI ((0 : Int32) + (1 : Int32)), oR t, oR u1, oI ((0 : Int32) + (1 : Int32)), oI (1 : Int32), oI cd] [(.int (0 : Int32))]
  exact own_ret (w := (.int (0 : Int32))) X207 hx hnl Bd.returns rfl (Or.inl ⟨rfl, by decide, _, rfl⟩) (hb hby own_d12_120) ⟨(by rw [own_swN (fun z_ => h45 z_.2)]; rfl), N207, eq207⟩ (by decide) (by decide)

theorem own_d11_0 : decode jdk_42_method_76_code 0 = .ok (.aload_n 0, 1) := by decide +kernel
theorem own_d11_1 : decode jdk_42_method_76_code 1 = .ok (.aload_n 1, 1) := by decide +kernel
theorem own_d11_2 : decode jdk_42_method_76_code 2 = .ok (.iconst 0, 1) := by decide +kernel
theorem own_d11_3 : decode jdk_42_method_76_code 3 = .ok (.invokevirtual 624, 3) := by decide +kernel
theorem own_d11_6 : decode jdk_42_method_76_code 6 = .ok (.ireturn, 1) := by decide +kernel
theorem own_pd19 : parseMethodDescriptor "(Ljava/lang/String;I)Z" = some ⟨[(.object "java/lang/String"), .int], some .boolean⟩ := by decide +kernel
theorem own_ef11 (m : MethodId) (x0 : Addr) (x1 : Addr) : entryFrame m #[(.ref x0), (.ref x1)] 2 = mkF m 0 #[.val (.ref x0), .val (.ref x1)] [] := by first | (simp [entryFrame, mkF, argsToLocals, Value.category]; done) | rfl
def own_Q11 (Z : State) (a1 : Addr) (a2 : Addr) (t : Addr) (kt : ClassId) (cd : Int32) (n1 : Nat) (cs : Nat → Int32) (u1 : Addr) (ku : ClassId) (gp : Nat → Int32) (G1 : Int32) (h0 : Heap) (n0 : Nat) (v : Option Value) (h : Heap) (L : List Loc) : Prop := v = some (.int (Int32.ofNat (own_swn cs n1))) ∧ Fr n0 L ∧ h = h0
set_option maxRecDepth 65536 in
set_option maxHeartbeats 40000000 in
theorem own_rm11 (l : Launch) (Z : State) (a0 : Array Value) (hw : ∀ d ∈ tables_1, d.before a0 Z = true) (ws : List Jvm.Cond) (a1 : Addr) (a2 : Addr) (t : Addr) (kt : ClassId) (cd : Int32) (n1 : Nat) (cs : Nat → Int32) (u1 : Addr) (ku : ClassId) (gp : Nat → Int32) (G1 : Int32) (h0 : Heap) (n0 : Nat) (Z0 : n0 ≤ h0.size) (q0 : Exa Z h0 a1 "java/lang/String") (q1 : Fld Z h0 a1 "java/lang/String" "value" "[B" (.ref t)) (q2 : Fld Z h0 a1 "java/lang/String" "coder" "B" (.int cd)) (q3 : own_A Z h0 t kt .byte (own_bl cd n1) (fun i => .int ((own_by cd cs) i))) (hcd : ((cd = 0 ∧ ∀ q : Nat, q < n1 → ¬ (255 : Int32) < cs q) ∨ cd = 1)) (q5 : Exa Z h0 a2 "java/lang/String") (q6 : Fld Z h0 a2 "java/lang/String" "value" "[B" (.ref u1)) (q7 : Fld Z h0 a2 "java/lang/String" "coder" "B" (.int (0 : Int32))) (q8 : own_A Z h0 u1 ku .byte 1 (fun i => .int (gp i))) (hgp : (gp 0 = (45 : Int32))) (q10 : Old Z n0 h0) (q11 : Sta Z Z.heap "java/lang/String" "COMPACT_STRINGS" "Z" (.int G1)) (hG1 : (¬ G1 = (0 : Int32))) (q13 : Sta Z Z.heap "java/lang/StringUTF16" "$assertionsDisabled" "Z" (.int (1 : Int32))) (q14 : Sta Z Z.heap "java/lang/StringUTF16" "HI_BYTE_SHIFT" "I" (.int (0 : Int32))) (q15 : Sta Z Z.heap "java/lang/StringUTF16" "LO_BYTE_SHIFT" "I" (.int (8 : Int32))) (hn12 : (n1 ≤ 12)) (hall : (∀ q : Nat, q < n1 → 0 ≤ (cs q).toInt ∧ (cs q).toInt ≤ 65535)) :
    MetFree l own_n30 (head1 (Jvm.Cond.code own_n30 jdk_42_method_76_code 2 (some .boolean) :: ws) ({ frames := 3, cells := 0, slots := 0, locals := 46 } : Room)) (fun a U => a = #[(.ref a1), (.ref a2)] ∧ Z.Warmed39 U.vm ∧ U.heap = h0) (fun _ _ _ _ _ => True) (fun _ U o U' => ∃ v L, o = .returned v ∧ own_Q11 Z a1 a2 t kt cd n1 cs u1 ku gp G1 h0 n0 v U'.heap L ∧ FrameEnd U o U' L ({ frames := 3, cells := 0, slots := 0, locals := 46 } : Room).cells ({ frames := 3, cells := 0, slots := 0, locals := 46 } : Room).slots) := by
  refine MetFree.of_bodySF (plainFor_of_name own_pn1) hisR ?_
  intro p e s m args below meth c s₁ Bd hml0 hP hK
  obtain ⟨rfl, hZ, hh⟩ := hP
  have hx := Bd.exec
  have hby := Bd.bytes
  have hml : c.maxLocals = 2 := hml0
  have hown : s.vm.findClass "java/lang/String" = some m.cls := findClass_of_methodNamed Bd.named
  have hnm := (name_of_methodNamed Bd.named Bd.method).1
  have hnl : meth.locks = false := Bd.notSynchronized
  have X0 : Stand p l e ({ frames := 3, cells := 0, slots := 0, locals := 46 } : Room) s m #[(.ref a1), (.ref a2)] below meth c s₁ [] 0 0 := Stand.of_body Bd
  have e0 : s₁.heap = h0 := by rw [← hh, Bd.state]; rfl
  have N0 := Fr.nil n0
  show own_Go p.tables e below (own_P below s (own_Q11 Z a1 a2 t kt cd n1 cs u1 ku gp G1 h0 n0) ({ frames := 3, cells := 0, slots := 0, locals := 46 } : Room).cells ({ frames := 3, cells := 0, slots := 0, locals := 46 } : Room).slots) _
  refine own_st (fun t_ k_ => castTop (own_ef11 m a1 a2) k_) ?_
  refine own_st (fun t_ k_ => XS.aloadN X0.here hx rfl (hb hby own_d11_0) rfl rfl (XS.aloadN X0.here hx rfl (hb hby own_d11_1) rfl rfl (XS.iconst X0.here hx rfl (hb hby own_d11_2) k_))) ?_
  show own_at p e below _ s₁ m 3 #[oR a1, oR a2] [(.int (0 : Int32)), (.ref a2), (.ref a1)]
  obtain ⟨cq209, kq209, q209a, q209b, q209c⟩ := isOf hZ e0 q0
  obtain ⟨_, _, ⟨T209, L209, k209, n209⟩, -, X209, ⟨Lc209, hQ209, l209, y209, z209⟩, st209⟩ := X0.virtualBack hx (y := own_n29) (z := own_n29) hown (mvT hZ (own_w hw 66 rfl)) (mvT hZ (own_w hw 67 rfl)) (notFace_of_selects (args := #[]) (mvT hZ (own_w hw 69 rfl))) (mvT hZ (own_w hw 69 rfl)) (mvT hZ (own_w hw 68 rfl)) (by decide) (backOf (W := 0) (own_rm12 l Z a0 hw [] a1 a2 t kt cd n1 cs u1 ku gp G1 h0 n0 (Nat.le_trans Z0 (Keep.refl h0 []).1) q0 q1 q2 q3 hcd q5 q6 q7 q8 hgp q10 q11 hG1 q13 q14 q15 hn12 hall) hZ (own_w hw 70 rfl) (own_w hw 27 rfl) (by decide) (by decide)) q209a q209c (g := (mkF m 3 #[oR a1, oR a2] [(.int (0 : Int32)), (.ref a2), (.ref a1)])) rfl (by rw [hml]; rfl) (Steps.refl _) (argsL := [(.ref a2), (.int (0 : Int32))]) (rest := []) (lenOf own_pd19 rfl) rfl (own_hW rfl) (hb hby own_d11_3) (fun _ _ => ⟨rfl, e0, (by decide : 0 + 0 ≤ _), (by decide : 0 + 0 ≤ _)⟩)
  dsimp only [Pt.U, Pt.locs, Pt.cells, Pt.slots] at X209 l209 y209 z209 st209 hQ209
  subst y209 z209
  obtain ⟨rfl, N209q, eq209⟩ := hQ209
  have N209 : Fr n0 L209 := by rw [l209]; exact Fr.app N0 N209q
  refine own_tr st209 ?_
  show own_at p e below _ T209 m 6 #[oR a1, oR a2] [(.int (Int32.ofNat (own_swn cs n1)))]
  exact own_ret (w := (.int (Int32.ofNat (own_swn cs n1)))) X209 hx hnl Bd.returns (own_nwzs _ _) (Or.inl ⟨rfl, by decide, _, rfl⟩) (hb hby own_d11_6) ⟨rfl, N209, eq209⟩ (by decide) (by decide)

theorem own_d10_0 : decode prog_18_method_2_code 0 = .ok (.aload_n 0, 1) := by decide +kernel
theorem own_d10_1 : decode prog_18_method_2_code 1 = .ok (.ldc 7, 2) := by decide +kernel
theorem own_d10_3 : decode prog_18_method_2_code 3 = .ok (.invokevirtual 9, 3) := by decide +kernel
theorem own_d10_6 : decode prog_18_method_2_code 6 = .ok (.ifCond .eq 7, 3) := by decide +kernel
theorem own_d10_9 : decode prog_18_method_2_code 9 = .ok (.iconst 1, 1) := by decide +kernel
theorem own_d10_10 : decode prog_18_method_2_code 10 = .ok (.goto 4, 3) := by decide +kernel
theorem own_d10_13 : decode prog_18_method_2_code 13 = .ok (.iconst 0, 1) := by decide +kernel
theorem own_d10_14 : decode prog_18_method_2_code 14 = .ok (.istore_n 3, 1) := by decide +kernel
theorem own_d10_15 : decode prog_18_method_2_code 15 = .ok (.aload_n 0, 1) := by decide +kernel
theorem own_d10_16 : decode prog_18_method_2_code 16 = .ok (.invokevirtual 15, 3) := by decide +kernel
theorem own_d10_19 : decode prog_18_method_2_code 19 = .ok (.iload_n 3, 1) := by decide +kernel
theorem own_d10_20 : decode prog_18_method_2_code 20 = .ok (.isub, 1) := by decide +kernel
theorem own_d10_21 : decode prog_18_method_2_code 21 = .ok (.istore 4, 2) := by decide +kernel
theorem own_d10_23 : decode prog_18_method_2_code 23 = .ok (.iload 4, 2) := by decide +kernel
theorem own_d10_25 : decode prog_18_method_2_code 25 = .ok (.iconst 1, 1) := by decide +kernel
theorem own_d10_26 : decode prog_18_method_2_code 26 = .ok (.if_icmp .lt 14, 3) := by decide +kernel
theorem own_d10_29 : decode prog_18_method_2_code 29 = .ok (.iload 4, 2) := by decide +kernel
theorem own_d10_31 : decode prog_18_method_2_code 31 = .ok (.bipush 10, 2) := by decide +kernel
theorem own_d10_33 : decode prog_18_method_2_code 33 = .ok (.if_icmp .gt 7, 3) := by decide +kernel
theorem own_d10_36 : decode prog_18_method_2_code 36 = .ok (.iconst 1, 1) := by decide +kernel
theorem own_d10_37 : decode prog_18_method_2_code 37 = .ok (.goto 4, 3) := by decide +kernel
theorem own_d10_40 : decode prog_18_method_2_code 40 = .ok (.iconst 0, 1) := by decide +kernel
theorem own_d10_41 : decode prog_18_method_2_code 41 = .ok (.istore 5, 2) := by decide +kernel
theorem own_d10_43 : decode prog_18_method_2_code 43 = .ok (.lconst 0, 1) := by decide +kernel
theorem own_d10_44 : decode prog_18_method_2_code 44 = .ok (.lstore 6, 2) := by decide +kernel
theorem own_d10_46 : decode prog_18_method_2_code 46 = .ok (.iload_n 3, 1) := by decide +kernel
theorem own_d10_47 : decode prog_18_method_2_code 47 = .ok (.istore 8, 2) := by decide +kernel
theorem own_d10_49 : decode prog_18_method_2_code 49 = .ok (.iload 5, 2) := by decide +kernel
theorem own_d10_51 : decode prog_18_method_2_code 51 = .ok (.ifCond .eq 62, 3) := by decide +kernel
theorem own_d10_54 : decode prog_18_method_2_code 54 = .ok (.iload 8, 2) := by decide +kernel
theorem own_d10_56 : decode prog_18_method_2_code 56 = .ok (.aload_n 0, 1) := by decide +kernel
theorem own_d10_57 : decode prog_18_method_2_code 57 = .ok (.invokevirtual 15, 3) := by decide +kernel
theorem own_d10_60 : decode prog_18_method_2_code 60 = .ok (.if_icmp .ge 53, 3) := by decide +kernel
theorem own_d10_63 : decode prog_18_method_2_code 63 = .ok (.aload_n 0, 1) := by decide +kernel
theorem own_d10_64 : decode prog_18_method_2_code 64 = .ok (.iload 8, 2) := by decide +kernel
theorem own_d10_66 : decode prog_18_method_2_code 66 = .ok (.invokevirtual 21, 3) := by decide +kernel
theorem own_d10_69 : decode prog_18_method_2_code 69 = .ok (.istore 9, 2) := by decide +kernel
theorem own_d10_71 : decode prog_18_method_2_code 71 = .ok (.iload 9, 2) := by decide +kernel
theorem own_d10_73 : decode prog_18_method_2_code 73 = .ok (.bipush 48, 2) := by decide +kernel
theorem own_d10_75 : decode prog_18_method_2_code 75 = .ok (.if_icmp .lt 14, 3) := by decide +kernel
theorem own_d10_78 : decode prog_18_method_2_code 78 = .ok (.iload 9, 2) := by decide +kernel
theorem own_d10_80 : decode prog_18_method_2_code 80 = .ok (.bipush 57, 2) := by decide +kernel
theorem own_d10_82 : decode prog_18_method_2_code 82 = .ok (.if_icmp .gt 7, 3) := by decide +kernel
theorem own_d10_85 : decode prog_18_method_2_code 85 = .ok (.iconst 1, 1) := by decide +kernel
theorem own_d10_86 : decode prog_18_method_2_code 86 = .ok (.goto 4, 3) := by decide +kernel
theorem own_d10_89 : decode prog_18_method_2_code 89 = .ok (.iconst 0, 1) := by decide +kernel
theorem own_d10_90 : decode prog_18_method_2_code 90 = .ok (.istore 5, 2) := by decide +kernel
theorem own_d10_92 : decode prog_18_method_2_code 92 = .ok (.lload 6, 2) := by decide +kernel
theorem own_d10_94 : decode prog_18_method_2_code 94 = .ok (.ldc2_w 25, 3) := by decide +kernel
theorem own_d10_97 : decode prog_18_method_2_code 97 = .ok (.lmul, 1) := by decide +kernel
theorem own_d10_98 : decode prog_18_method_2_code 98 = .ok (.iload 9, 2) := by decide +kernel
theorem own_d10_100 : decode prog_18_method_2_code 100 = .ok (.bipush 48, 2) := by decide +kernel
theorem own_d10_102 : decode prog_18_method_2_code 102 = .ok (.isub, 1) := by decide +kernel
theorem own_d10_103 : decode prog_18_method_2_code 103 = .ok (.i2l, 1) := by decide +kernel
theorem own_d10_104 : decode prog_18_method_2_code 104 = .ok (.ladd, 1) := by decide +kernel
theorem own_d10_105 : decode prog_18_method_2_code 105 = .ok (.lstore 6, 2) := by decide +kernel
theorem own_d10_107 : decode prog_18_method_2_code 107 = .ok (.iinc 8 1, 3) := by decide +kernel
theorem own_d10_110 : decode prog_18_method_2_code 110 = .ok (.goto (-61), 3) := by decide +kernel
theorem own_d10_113 : decode prog_18_method_2_code 113 = .ok (.iload_n 3, 1) := by decide +kernel
theorem own_d10_114 : decode prog_18_method_2_code 114 = .ok (.iconst 1, 1) := by decide +kernel
theorem own_d10_115 : decode prog_18_method_2_code 115 = .ok (.if_icmp .ne 8, 3) := by decide +kernel
theorem own_d10_118 : decode prog_18_method_2_code 118 = .ok (.lload 6, 2) := by decide +kernel
theorem own_d10_120 : decode prog_18_method_2_code 120 = .ok (.lneg, 1) := by decide +kernel
theorem own_d10_121 : decode prog_18_method_2_code 121 = .ok (.lstore 6, 2) := by decide +kernel
theorem own_d10_123 : decode prog_18_method_2_code 123 = .ok (.invokestatic 27, 3) := by decide +kernel
theorem own_d10_126 : decode prog_18_method_2_code 126 = .ok (.astore 8, 2) := by decide +kernel
theorem own_d10_128 : decode prog_18_method_2_code 128 = .ok (.iload 5, 2) := by decide +kernel
theorem own_d10_130 : decode prog_18_method_2_code 130 = .ok (.ifCond .eq 27, 3) := by decide +kernel
theorem own_d10_133 : decode prog_18_method_2_code 133 = .ok (.lload 6, 2) := by decide +kernel
theorem own_d10_135 : decode prog_18_method_2_code 135 = .ok (.iload_n 1, 1) := by decide +kernel
theorem own_d10_136 : decode prog_18_method_2_code 136 = .ok (.i2l, 1) := by decide +kernel
theorem own_d10_137 : decode prog_18_method_2_code 137 = .ok (.lcmp, 1) := by decide +kernel
theorem own_d10_138 : decode prog_18_method_2_code 138 = .ok (.ifCond .lt 19, 3) := by decide +kernel
theorem own_d10_141 : decode prog_18_method_2_code 141 = .ok (.lload 6, 2) := by decide +kernel
theorem own_d10_143 : decode prog_18_method_2_code 143 = .ok (.iload_n 2, 1) := by decide +kernel
theorem own_d10_144 : decode prog_18_method_2_code 144 = .ok (.i2l, 1) := by decide +kernel
theorem own_d10_145 : decode prog_18_method_2_code 145 = .ok (.lcmp, 1) := by decide +kernel
theorem own_d10_146 : decode prog_18_method_2_code 146 = .ok (.ifCond .gt 11, 3) := by decide +kernel
theorem own_d10_149 : decode prog_18_method_2_code 149 = .ok (.lload 6, 2) := by decide +kernel
theorem own_d10_151 : decode prog_18_method_2_code 151 = .ok (.l2i, 1) := by decide +kernel
theorem own_d10_152 : decode prog_18_method_2_code 152 = .ok (.invokestatic 33, 3) := by decide +kernel
theorem own_d10_155 : decode prog_18_method_2_code 155 = .ok (.astore 8, 2) := by decide +kernel
theorem own_d10_157 : decode prog_18_method_2_code 157 = .ok (.aload 8, 2) := by decide +kernel
theorem own_d10_159 : decode prog_18_method_2_code 159 = .ok (.areturn, 1) := by decide +kernel
theorem own_pn7 : plainName "com/example/marshalyard/marshalyard/engine/DecimalInteger" = true := by first | (simp [plainName, overriddenIn]; done) | decide +kernel
theorem own_pd20 : parseMethodDescriptor "(Ljava/lang/String;)Z" = some ⟨[(.object "java/lang/String")], some .boolean⟩ := by decide +kernel
theorem own_pd21 : parseMethodDescriptor "()Ljava/util/OptionalInt;" = some ⟨[], some (.object "java/util/OptionalInt")⟩ := by decide +kernel
theorem own_pd22 : parseMethodDescriptor "(I)C" = some ⟨[.int], some .char⟩ := by decide +kernel
theorem own_pd23 : parseMethodDescriptor "(I)Ljava/util/OptionalInt;" = some ⟨[.int], some (.object "java/util/OptionalInt")⟩ := by decide +kernel
theorem own_ef10 (m : MethodId) (x0 : Addr) (x1 : Int32) (x2 : Int32) : entryFrame m #[(.ref x0), (.int x1), (.int x2)] 10 = mkF m 0 #[.val (.ref x0), .val (.int x1), .val (.int x2), .unset, .unset, .unset, .unset, .unset, .unset, .unset] [] := by first | (simp [entryFrame, mkF, argsToLocals, Value.category]; done) | rfl
def own_Q10 (Z : State) (a1 : Addr) (mn_ : Int32) (mx_ : Int32) (t : Addr) (kt : ClassId) (cd : Int32) (n1 : Nat) (cs : Nat → Int32) (G1 : Int32) (G3 : Value) (aE : Addr) (h0 : Heap) (n0 : Nat) (v : Option Value) (h : Heap) (L : List Loc) : Prop := ∃ (o : Addr) (pz : Int32) (vz : Int32), v = some (.ref o) ∧ Fr n0 L ∧ Keep h0 h [] ∧ Exa Z h o "java/util/OptionalInt" ∧ Fld Z h o "java/util/OptionalInt" "isPresent" "Z" (.int pz) ∧ Fld Z h o "java/util/OptionalInt" "value" "I" (.int vz) ∧ ((own_good cs n1 mn_ mx_ → pz = 1 ∧ ∃ X : Int64, vz = X.toInt32 ∧ X.toInt = own_pv cs (own_swn cs n1) n1) ∧ (¬ own_good cs n1 mn_ mx_ → pz = 0))
set_option maxRecDepth 65536 in
set_option maxHeartbeats 40000000 in
theorem own_rm10 (l : Launch) (Z : State) (a0 : Array Value) (hw : ∀ d ∈ tables_1, d.before a0 Z = true) (ws : List Jvm.Cond) (a1 : Addr) (mn_ : Int32) (mx_ : Int32) (t : Addr) (kt : ClassId) (cd : Int32) (n1 : Nat) (cs : Nat → Int32) (G1 : Int32) (G3 : Value) (aE : Addr) (h0 : Heap) (n0 : Nat) (Z0 : n0 ≤ h0.size) (q0 : Exa Z h0 a1 "java/lang/String") (q1 : Fld Z h0 a1 "java/lang/String" "value" "[B" (.ref t)) (q2 : Fld Z h0 a1 "java/lang/String" "coder" "B" (.int cd)) (q3 : own_A Z h0 t kt .byte (own_bl cd n1) (fun i => .int ((own_by cd cs) i))) (hcd : ((cd = 0 ∧ ∀ q : Nat, q < n1 → ¬ (255 : Int32) < cs q) ∨ cd = 1)) (q5 : Old Z n0 h0) (q6 : Sta Z Z.heap "java/lang/String" "COMPACT_STRINGS" "Z" (.int G1)) (hG1 : (¬ G1 = (0 : Int32))) (q8 : Sta Z Z.heap "jdk/internal/util/Preconditions" "SIOOBE_FORMATTER" "Ljava/util/function/BiFunction;" G3) (rG3 : (G3.isRef = true)) (q10 : Sta Z Z.heap "java/lang/StringUTF16" "$assertionsDisabled" "Z" (.int (1 : Int32))) (q11 : Sta Z Z.heap "java/lang/StringUTF16" "HI_BYTE_SHIFT" "I" (.int (0 : Int32))) (q12 : Sta Z Z.heap "java/lang/StringUTF16" "LO_BYTE_SHIFT" "I" (.int (8 : Int32))) (q13 : Sta Z Z.heap "java/util/OptionalInt" "EMPTY" "Ljava/util/OptionalInt;" (.ref aE)) (q14 : Exa Z Z.heap aE "java/util/OptionalInt") (q15 : Fld Z Z.heap aE "java/util/OptionalInt" "isPresent" "Z" (.int (0 : Int32))) (q16 : Fld Z Z.heap aE "java/util/OptionalInt" "value" "I" (.int (0 : Int32))) (hn12 : (n1 ≤ 12)) (hall : (∀ q : Nat, q < n1 → 0 ≤ (cs q).toInt ∧ (cs q).toInt ≤ 65535)) :
    MetFree l own_n31 (head1 (Jvm.Cond.code own_n31 prog_18_method_2_code 10 (some (.object "java/util/OptionalInt")) :: ws) ({ frames := 5, cells := 3, slots := 10, locals := 66 } : Room)) (fun a U => a = #[(.ref a1), (.int mn_), (.int mx_)] ∧ Z.Warmed39 U.vm ∧ U.heap = h0 ∧ CHv Z own_EL U.vm h0 ∧ ∀ x ∈ ([] : List Addr), Safe Z own_EL U.vm h0 x) (fun _ _ _ _ _ => True) (fun _ U o U' => ∃ v L, o = .returned v ∧ own_Q10 Z a1 mn_ mx_ t kt cd n1 cs G1 G3 aE h0 n0 v U'.heap L ∧ CHr Z own_EL U.vm U.heap U'.vm U'.heap ∧ ReturnedEndW U o U' L ({ frames := 5, cells := 3, slots := 10, locals := 66 } : Room).cells ({ frames := 5, cells := 3, slots := 10, locals := 66 } : Room).slots) := by
  refine MetFree.of_bodySF (plainFor_of_name own_pn7) hisR ?_
  intro p e s m args below meth c s₁ Bd hml0 hP hK
  obtain ⟨rfl, hZ, hh, hC0, hSf⟩ := hP
  have hx := Bd.exec
  have hby := Bd.bytes
  have hml : c.maxLocals = 10 := hml0
  have hown : s.vm.findClass "com/example/marshalyard/marshalyard/engine/DecimalInteger" = some m.cls := findClass_of_methodNamed Bd.named
  have hnm := (name_of_methodNamed Bd.named Bd.method).1
  have hnl : meth.locks = false := Bd.notSynchronized
  have X0 : Stand p l e ({ frames := 5, cells := 3, slots := 10, locals := 66 } : Room) s m #[(.ref a1), (.int mn_), (.int mx_)] below meth c s₁ [] 0 0 := Stand.of_body Bd
  have e0 : s₁.heap = h0 := by rw [← hh, Bd.state]; rfl
  have N0 := Fr.nil n0
  have X0 := (show Stand p l e _ (s.setVm s.vm) m _ below meth c s₁ [] 0 0 from X0)
  have hZ : Z.Warmed39 (s.setVm s.vm).vm := hZ
  have hown : (s.setVm s.vm).vm.findClass "com/example/marshalyard/marshalyard/engine/DecimalInteger" = some m.cls := hown
  have C0 : CHr Z own_EL s.vm s.heap s.vm h0 := by rw [hh]; exact CHr.refl hC0
  have S0 : s.Since s.vm h0.size := (State.WarmedH.refl s).since _
  have k0 := Nat.le_refl h0.size
  show own_Go p.tables e below (own_PW below s Z own_EL (own_Q10 Z a1 mn_ mx_ t kt cd n1 cs G1 G3 aE h0 n0) ({ frames := 5, cells := 3, slots := 10, locals := 66 } : Room).cells ({ frames := 5, cells := 3, slots := 10, locals := 66 } : Room).slots) _
  refine own_st (fun t_ k_ => castTop (own_ef10 m a1 mn_ mx_) k_) ?_
  refine own_st (fun t_ k_ => XS.aloadN X0.here hx rfl (hb hby own_d10_0) rfl rfl k_) ?_
  show own_at p e below _ s₁ m 1 #[oR a1, oI mn_, oI mx_, oU, oU, oU, oU, oU, oU, oU] [(.ref a1)]
  obtain ⟨a210, T210, h210, kn210, b210, kb210, X210, e210, E210, S210, kk210, hZ, hown, xa210, fc210, fv210, A210, la210, lb210, c210, -, ne210, st210⟩ := ldcCH X0 hx hZ hown (own_w hw 58 rfl) (own_wS hw) e0 S0 k0 (own_hEL hw) (List.mem_of_getElem? (i := 0) rfl) C0.1 (vs := [(.int (45 : Int32))]) (z := 1) (by decide +kernel) (by decide) (by decide) (g := (mkF m 1 #[oR a1, oI mn_, oI mx_, oU, oU, oU, oU, oU, oU, oU] [(.ref a1)])) rfl (hb hby own_d10_1) (n := 4) (by decide) (by decide) (by decide) (by decide)
  have K210 : Keep h0 h210 [] := (Keep.refl h0 []).ext E210
  have C210 := C0.trans c210
  have Ab210 : own_A Z h210 b210 kb210 .byte 1 (fun i => .int ((fun q => ([45] : List Int32).getD q 0) i)) := own_A.ofArv A210 (by decide) (by decide) (by decide)
  refine own_st (st210) ?_
  obtain ⟨cq211, kq211, q211a, q211b, q211c⟩ := isOf hZ e210 (q0.ext E210)
  obtain ⟨_, _, ⟨T211, L211, k211, n211⟩, -, X211, ⟨Lc211, hQ211, l211, y211, z211⟩, st211⟩ := X210.virtualBack hx (y := own_n30) (z := own_n30) hown (mvT hZ (own_w hw 61 rfl)) (mvT hZ (own_w hw 62 rfl)) (notFace_of_selects (args := #[]) (mvT hZ (own_w hw 64 rfl))) (mvT hZ (own_w hw 64 rfl)) (mvT hZ (own_w hw 63 rfl)) (by decide) (backOf (W := 0) (own_rm11 l Z a0 hw [] a1 a210 t kt cd n1 cs b210 kb210 (fun q => ([45] : List Int32).getD q 0) G1 h210 n0 (Nat.le_trans Z0 K210.1) (q0.ext E210) (q1.ext E210) (q2.ext E210) (q3.ext E210) hcd xa210 fv210 fc210 Ab210 rfl (q5.ext E210) q6 hG1 q10 q11 q12 hn12 hall) hZ (own_w hw 65 rfl) (own_w hw 27 rfl) (by decide) (by decide)) q211a q211c (g := (mkF m 3 #[oR a1, oI mn_, oI mx_, oU, oU, oU, oU, oU, oU, oU] [(.ref a210), (.ref a1)])) rfl (by rw [hml]; rfl) (Steps.refl _) (argsL := [(.ref a210)]) (rest := []) (lenOf own_pd20 rfl) rfl (own_hW rfl) (hb hby own_d10_3) (fun _ _ => ⟨rfl, e210, (by decide : 2 + 0 ≤ _), (by decide : 8 + 0 ≤ _)⟩)
  show own_at p e below _ T210 m 3 #[oR a1, oI mn_, oI mx_, oU, oU, oU, oU, oU, oU, oU] [(.ref a210), (.ref a1)]
  dsimp only [Pt.U, Pt.locs, Pt.cells, Pt.slots] at X211 l211 y211 z211 st211 hQ211
  subst y211 z211
  obtain ⟨rfl, N211q, eq211⟩ := hQ211
  have N211 : Fr n0 L211 := by rw [l211]; exact Fr.app N0 N211q
  refine own_tr st211 ?_
  show own_at p e below _ T211 m 6 #[oR a1, oI mn_, oI mx_, oU, oU, oU, oU, oU, oU, oU] [(.int (Int32.ofNat (own_swn cs n1)))]
  by_cases c6_212 : (Int32.ofNat (own_swn cs n1)) = (0 : Int32)
  · skip
    have hS : own_swn cs n1 = 0 := own_sw0.mp c6_212
    have hS1 : 0 ≤ n1 := Nat.zero_le _
    refine own_st (fun t_ k_ => XS.ifYes X211.here hx rfl (pc0 := 6) (pc' := 13) rfl (hb hby own_d10_6) rfl ((if0 _ _).trans (teq c6_212).1) (by decide) (by decide) (XS.iconst X211.here hx rfl (hb hby own_d10_13) (XS.istoreN X211.here hx rfl (hb hby own_d10_14) rfl (l' := #[oR a1, oI mn_, oI mx_, oI (0 : Int32), oU, oU, oU, oU, oU, oU]) rfl (XS.aloadN X211.here hx rfl (hb hby own_d10_15) rfl rfl k_)))) ?_
    show own_at p e below _ T211 m 16 #[oR a1, oI mn_, oI mx_, oI (0 : Int32), oU, oU, oU, oU, oU, oU] [(.ref a1)]
    obtain ⟨cq213, kq213, q213a, q213b, q213c⟩ := isOf hZ eq211 (q0.ext E210)
    obtain ⟨_, _, ⟨T213, L213, k213, n213⟩, -, X213, ⟨Lc213, hQ213, l213, y213, z213⟩, st213⟩ := X211.virtualBack hx (y := own_n27) (z := own_n27) hown (mvT hZ (own_w hw 85 rfl)) (mvT hZ (own_w hw 72 rfl)) (notFace_of_selects (args := #[]) (mvT hZ (own_w hw 74 rfl))) (mvT hZ (own_w hw 74 rfl)) (mvT hZ (own_w hw 73 rfl)) (by decide) (backOf (W := 0) (own_rm13a l Z a0 hw [] a1 t kt cd n1 cs G1 h210 n0 (Nat.le_trans Z0 K210.1) (q0.ext E210) (q1.ext E210) (q2.ext E210) (q3.ext E210) hcd (q5.ext E210) q6 hG1 hn12) hZ (own_w hw 75 rfl) (own_w hw 27 rfl) (by decide) (by decide)) q213a q213c (g := (mkF m 16 #[oR a1, oI mn_, oI mx_, oI (0 : Int32), oU, oU, oU, oU, oU, oU] [(.ref a1)])) rfl (by rw [hml]; rfl) (Steps.refl _) (argsL := []) (rest := []) (lenOf own_pd17 rfl) rfl (own_hW rfl) (hb hby own_d10_16) (fun _ _ => ⟨rfl, eq211, (by decide : 2 + 0 ≤ _), (by decide : 8 + 0 ≤ _)⟩)
    dsimp only [Pt.U, Pt.locs, Pt.cells, Pt.slots] at X213 l213 y213 z213 st213 hQ213
    subst y213 z213
    obtain ⟨rfl, N213q, eq213⟩ := hQ213
    have N213 : Fr n0 L213 := by rw [l213]; exact Fr.app N211 N213q
    refine own_tr st213 ?_
    refine own_st (fun t_ k_ => XS.iloadN X213.here hx rfl (hb hby own_d10_19) rfl (XS.isub X213.here hx rfl (hb hby own_d10_20) rfl (XS.istore X213.here hx rfl (hb hby own_d10_21) rfl (l' := #[oR a1, oI mn_, oI mx_, oI (0 : Int32), oI ((Int32.ofNat n1) - (0 : Int32)), oU, oU, oU, oU, oU]) rfl k_))) ?_
    show own_at p e below _ T213 m 23 #[oR a1, oI mn_, oI mx_, oI (0 : Int32), oI ((Int32.ofNat n1) - (0 : Int32)), oU, oU, oU, oU, oU] []
    have hd4 : (((Int32.ofNat n1) - (0 : Int32))).toInt = ((n1 - 0 : Nat) : Int) := own_csub (own_toN (by omega)) (by decide) (by omega) (by omega)
    have e1 : (1 : Int32).toInt = ((1 : Nat) : Int) := by decide
    have e10 : (10 : Int32).toInt = ((10 : Nat) : Int) := by decide
    refine own_st (fun t_ k_ => XS.iload X213.here hx rfl (hb hby own_d10_23) rfl (XS.iconst X213.here hx rfl (hb hby own_d10_25) k_)) ?_
    show own_at p e below _ T213 m 26 #[oR a1, oI mn_, oI mx_, oI (0 : Int32), oI ((Int32.ofNat n1) - (0 : Int32)), oU, oU, oU, oU, oU] [(.int (1 : Int32)), (.int ((Int32.ofNat n1) - (0 : Int32)))]
    by_cases c26_214 : ((Int32.ofNat n1) - (0 : Int32)) < (1 : Int32)
    · skip
      have r26 := (own_ltp hd4 e1).mp c26_214
      have hng : ¬ own_good cs n1 mn_ mx_ := fun z_ => by unfold own_good at z_; rw [hS] at z_; have y_ := z_.1.1; omega
      refine own_st (fun t_ k_ => XS.icmpYes X213.here hx rfl (pc0 := 26) (pc' := 40) rfl (hb hby own_d10_26) rfl (tlt c26_214).1 (by decide) (by decide) (XS.iconst X213.here hx rfl (hb hby own_d10_40) (XS.istore X213.here hx rfl (hb hby own_d10_41) rfl (l' := #[oR a1, oI mn_, oI mx_, oI (0 : Int32), oI ((Int32.ofNat n1) - (0 : Int32)), oI (0 : Int32), oU, oU, oU, oU]) rfl (XS.lconst X213.here hx rfl (hb hby own_d10_43) (XS.lstore X213.here hx rfl (hb hby own_d10_44) rfl (l' := #[oR a1, oI mn_, oI mx_, oI (0 : Int32), oI ((Int32.ofNat n1) - (0 : Int32)), oI (0 : Int32), oJ (0 : Int64), oS, oU, oU]) rfl (XS.iloadN X213.here hx rfl (hb hby own_d10_46) rfl k_)))))) ?_
      show own_at p e below _ T213 m 47 #[oR a1, oI mn_, oI mx_, oI (0 : Int32), oI ((Int32.ofNat n1) - (0 : Int32)), oI (0 : Int32), oJ (0 : Int64), oS, oU, oU] [(.int (0 : Int32))]
      refine own_st (fun t_ k_ => XS.istore X213.here hx rfl (hb hby own_d10_47) rfl (l' := #[oR a1, oI mn_, oI mx_, oI (0 : Int32), oI ((Int32.ofNat n1) - (0 : Int32)), oI (0 : Int32), oJ (0 : Int64), oS, oI (0 : Int32), oU]) rfl (XS.iload X213.here hx rfl (hb hby own_d10_49) rfl (XS.ifYes X213.here hx rfl (pc0 := 51) (pc' := 113) rfl (hb hby own_d10_51) rfl ((if0 _ _).trans (teq (by decide : (0 : Int32) = (0 : Int32))).1) (by decide) (by decide) (XS.iloadN X213.here hx rfl (hb hby own_d10_113) rfl (XS.iconst X213.here hx rfl (hb hby own_d10_114) (XS.icmpYes X213.here hx rfl (pc0 := 115) (pc' := 123) rfl (hb hby own_d10_115) rfl (feq (by decide : ¬ ((0 : Int32) = (1 : Int32)))).2 (by decide) (by decide) k_)))))) ?_
      show own_at p e below _ T213 m 123 #[oR a1, oI mn_, oI mx_, oI (0 : Int32), oI ((Int32.ofNat n1) - (0 : Int32)), oI (0 : Int32), oJ (0 : Int64), oS, oI (0 : Int32), oU] []
      obtain ⟨_, _, ⟨T215, L215, k215, n215⟩, -, X215, ⟨Lc215, hQ215, l215, y215, z215⟩, st215⟩ := Jvm.LawKit.callS X213 hx (y := own_n23) hown (mvT hZ (own_w hw 109 rfl)) (mvT hZ (own_w hw 110 rfl)) (mvT hZ (own_w hw 111 rfl)) (mvT hZ (own_w hw 112 rfl)) (by decide) (backOf (W := 0) (own_rm21 l Z a0 hw [] aE h210 n0 (Nat.le_trans Z0 K210.1) (q5.ext E210) q13) hZ (own_w hw 112 rfl) (own_w hw 111 rfl) (by decide) (by decide)) (g := (mkF m 123 #[oR a1, oI mn_, oI mx_, oI (0 : Int32), oI ((Int32.ofNat n1) - (0 : Int32)), oI (0 : Int32), oJ (0 : Int64), oS, oI (0 : Int32), oU] [])) rfl (by rw [hml]; rfl) (argsL := []) (rest := []) (lenOf own_pd21 rfl) rfl (own_hW rfl) (hb hby own_d10_123) (fun _ _ => ⟨rfl, eq213, (by decide : 2 + 0 ≤ _), (by decide : 8 + 0 ≤ _)⟩)
      dsimp only [Pt.U, Pt.locs, Pt.cells, Pt.slots] at X215 l215 y215 z215 st215 hQ215
      subst y215 z215
      obtain ⟨rfl, N215q, eq215⟩ := hQ215
      have N215 : Fr n0 L215 := by rw [l215]; exact Fr.app N213 N215q
      refine own_st (st215) ?_
      refine own_st (fun t_ k_ => XS.astore X215.here hx rfl (hb hby own_d10_126) rfl rfl (l' := #[oR a1, oI mn_, oI mx_, oI (0 : Int32), oI ((Int32.ofNat n1) - (0 : Int32)), oI (0 : Int32), oJ (0 : Int64), oS, oR aE, oU]) rfl (XS.iload X215.here hx rfl (hb hby own_d10_128) rfl (XS.ifYes X215.here hx rfl (pc0 := 130) (pc' := 157) rfl (hb hby own_d10_130) rfl ((if0 _ _).trans (teq (by decide : (0 : Int32) = (0 : Int32))).1) (by decide) (by decide) (XS.aload X215.here hx rfl (hb hby own_d10_157) rfl rfl k_)))) ?_
      show own_at p e below _ T215 m 159 #[oR a1, oI mn_, oI mx_, oI (0 : Int32), oI ((Int32.ofNat n1) - (0 : Int32)), oI (0 : Int32), oJ (0 : Int64), oS, oR aE, oU] [(.ref aE)]
      exact own_retW (w := (.ref aE)) X215 hx hnl hZ (own_hEL hw) S210 (by rw [eq215]; exact kk210) (by rw [eq215]; exact C210) Bd.returns rfl (Or.inr (Or.inr (Or.inr (Or.inr ⟨rfl, rfl, rfl⟩)))) (hb hby own_d10_159) ⟨aE, (0 : Int32), (0 : Int32), rfl, N215, (by rw [eq215]; exact K210), (by rw [eq215]; exact (q14.ext (q5.ext E210).2)), (by rw [eq215]; exact (q15.ext (q5.ext E210).2)), (by rw [eq215]; exact (q16.ext (q5.ext E210).2)), ⟨fun z_ => absurd z_ hng, fun _ => rfl⟩⟩ (by decide) (by decide)
    have r26 := mt (own_ltp hd4 e1).mpr c26_214
    refine own_st (fun t_ k_ => XS.icmpNo X213.here hx rfl (hb hby own_d10_26) rfl (flt c26_214).1 (XS.iload X213.here hx rfl (hb hby own_d10_29) rfl (XS.bipush X213.here hx rfl (hb hby own_d10_31) k_))) ?_
    show own_at p e below _ T213 m 33 #[oR a1, oI mn_, oI mx_, oI (0 : Int32), oI ((Int32.ofNat n1) - (0 : Int32)), oU, oU, oU, oU, oU] [(.int (10 : Int32)), (.int ((Int32.ofNat n1) - (0 : Int32)))]
    by_cases c33_216 : (10 : Int32) < ((Int32.ofNat n1) - (0 : Int32))
    · skip
      have r33 := (own_ltp e10 hd4).mp c33_216
      have hng : ¬ own_good cs n1 mn_ mx_ := fun z_ => by unfold own_good at z_; rw [hS] at z_; have y_ := z_.1.2.1; omega
      refine own_st (fun t_ k_ => XS.icmpYes X213.here hx rfl (pc0 := 33) (pc' := 40) rfl (hb hby own_d10_33) rfl (tlt c33_216).2.2.1 (by decide) (by decide) (XS.iconst X213.here hx rfl (hb hby own_d10_40) (XS.istore X213.here hx rfl (hb hby own_d10_41) rfl (l' := #[oR a1, oI mn_, oI mx_, oI (0 : Int32), oI ((Int32.ofNat n1) - (0 : Int32)), oI (0 : Int32), oU, oU, oU, oU]) rfl (XS.lconst X213.here hx rfl (hb hby own_d10_43) (XS.lstore X213.here hx rfl (hb hby own_d10_44) rfl (l' := #[oR a1, oI mn_, oI mx_, oI (0 : Int32), oI ((Int32.ofNat n1) - (0 : Int32)), oI (0 : Int32), oJ (0 : Int64), oS, oU, oU]) rfl (XS.iloadN X213.here hx rfl (hb hby own_d10_46) rfl k_)))))) ?_
      show own_at p e below _ T213 m 47 #[oR a1, oI mn_, oI mx_, oI (0 : Int32), oI ((Int32.ofNat n1) - (0 : Int32)), oI (0 : Int32), oJ (0 : Int64), oS, oU, oU] [(.int (0 : Int32))]
      refine own_st (fun t_ k_ => XS.istore X213.here hx rfl (hb hby own_d10_47) rfl (l' := #[oR a1, oI mn_, oI mx_, oI (0 : Int32), oI ((Int32.ofNat n1) - (0 : Int32)), oI (0 : Int32), oJ (0 : Int64), oS, oI (0 : Int32), oU]) rfl (XS.iload X213.here hx rfl (hb hby own_d10_49) rfl (XS.ifYes X213.here hx rfl (pc0 := 51) (pc' := 113) rfl (hb hby own_d10_51) rfl ((if0 _ _).trans (teq (by decide : (0 : Int32) = (0 : Int32))).1) (by decide) (by decide) (XS.iloadN X213.here hx rfl (hb hby own_d10_113) rfl (XS.iconst X213.here hx rfl (hb hby own_d10_114) (XS.icmpYes X213.here hx rfl (pc0 := 115) (pc' := 123) rfl (hb hby own_d10_115) rfl (feq (by decide : ¬ ((0 : Int32) = (1 : Int32)))).2 (by decide) (by decide) k_)))))) ?_
      show own_at p e below _ T213 m 123 #[oR a1, oI mn_, oI mx_, oI (0 : Int32), oI ((Int32.ofNat n1) - (0 : Int32)), oI (0 : Int32), oJ (0 : Int64), oS, oI (0 : Int32), oU] []
      obtain ⟨_, _, ⟨T217, L217, k217, n217⟩, -, X217, ⟨Lc217, hQ217, l217, y217, z217⟩, st217⟩ := Jvm.LawKit.callS X213 hx (y := own_n23) hown (mvT hZ (own_w hw 109 rfl)) (mvT hZ (own_w hw 110 rfl)) (mvT hZ (own_w hw 111 rfl)) (mvT hZ (own_w hw 112 rfl)) (by decide) (backOf (W := 0) (own_rm21 l Z a0 hw [] aE h210 n0 (Nat.le_trans Z0 K210.1) (q5.ext E210) q13) hZ (own_w hw 112 rfl) (own_w hw 111 rfl) (by decide) (by decide)) (g := (mkF m 123 #[oR a1, oI mn_, oI mx_, oI (0 : Int32), oI ((Int32.ofNat n1) - (0 : Int32)), oI (0 : Int32), oJ (0 : Int64), oS, oI (0 : Int32), oU] [])) rfl (by rw [hml]; rfl) (argsL := []) (rest := []) (lenOf own_pd21 rfl) rfl (own_hW rfl) (hb hby own_d10_123) (fun _ _ => ⟨rfl, eq213, (by decide : 2 + 0 ≤ _), (by decide : 8 + 0 ≤ _)⟩)
      dsimp only [Pt.U, Pt.locs, Pt.cells, Pt.slots] at X217 l217 y217 z217 st217 hQ217
      subst y217 z217
      obtain ⟨rfl, N217q, eq217⟩ := hQ217
      have N217 : Fr n0 L217 := by rw [l217]; exact Fr.app N213 N217q
      refine own_st (st217) ?_
      refine own_st (fun t_ k_ => XS.astore X217.here hx rfl (hb hby own_d10_126) rfl rfl (l' := #[oR a1, oI mn_, oI mx_, oI (0 : Int32), oI ((Int32.ofNat n1) - (0 : Int32)), oI (0 : Int32), oJ (0 : Int64), oS, oR aE, oU]) rfl (XS.iload X217.here hx rfl (hb hby own_d10_128) rfl (XS.ifYes X217.here hx rfl (pc0 := 130) (pc' := 157) rfl (hb hby own_d10_130) rfl ((if0 _ _).trans (teq (by decide : (0 : Int32) = (0 : Int32))).1) (by decide) (by decide) (XS.aload X217.here hx rfl (hb hby own_d10_157) rfl rfl k_)))) ?_
      show own_at p e below _ T217 m 159 #[oR a1, oI mn_, oI mx_, oI (0 : Int32), oI ((Int32.ofNat n1) - (0 : Int32)), oI (0 : Int32), oJ (0 : Int64), oS, oR aE, oU] [(.ref aE)]
      exact own_retW (w := (.ref aE)) X217 hx hnl hZ (own_hEL hw) S210 (by rw [eq217]; exact kk210) (by rw [eq217]; exact C210) Bd.returns rfl (Or.inr (Or.inr (Or.inr (Or.inr ⟨rfl, rfl, rfl⟩)))) (hb hby own_d10_159) ⟨aE, (0 : Int32), (0 : Int32), rfl, N217, (by rw [eq217]; exact K210), (by rw [eq217]; exact (q14.ext (q5.ext E210).2)), (by rw [eq217]; exact (q15.ext (q5.ext E210).2)), (by rw [eq217]; exact (q16.ext (q5.ext E210).2)), ⟨fun z_ => absurd z_ hng, fun _ => rfl⟩⟩ (by decide) (by decide)
    have r33 := mt (own_ltp e10 hd4).mpr c33_216
    refine own_st (fun t_ k_ => XS.icmpNo X213.here hx rfl (hb hby own_d10_33) rfl (flt c33_216).2.2.1 (XS.iconst X213.here hx rfl (hb hby own_d10_36) (XS.goto X213.here hx rfl (pc0 := 37) (pc' := 41) rfl (hb hby own_d10_37) (by decide) (by decide) (XS.istore X213.here hx rfl (hb hby own_d10_41) rfl (l' := #[oR a1, oI mn_, oI mx_, oI (0 : Int32), oI ((Int32.ofNat n1) - (0 : Int32)), oI (1 : Int32), oU, oU, oU, oU]) rfl (XS.lconst X213.here hx rfl (hb hby own_d10_43) (XS.lstore X213.here hx rfl (hb hby own_d10_44) rfl (l' := #[oR a1, oI mn_, oI mx_, oI (0 : Int32), oI ((Int32.ofNat n1) - (0 : Int32)), oI (1 : Int32), oJ (0 : Int64), oS, oU, oU]) rfl k_)))))) ?_
    show own_at p e below _ T213 m 46 #[oR a1, oI mn_, oI mx_, oI (0 : Int32), oI ((Int32.ofNat n1) - (0 : Int32)), oI (1 : Int32), oJ (0 : Int64), oS, oU, oU] []
    refine own_st (fun t_ k_ => XS.iloadN X213.here hx rfl (hb hby own_d10_46) rfl (XS.istore X213.here hx rfl (hb hby own_d10_47) rfl (l' := #[oR a1, oI mn_, oI mx_, oI (0 : Int32), oI ((Int32.ofNat n1) - (0 : Int32)), oI (1 : Int32), oJ (0 : Int64), oS, oI (0 : Int32), oU]) rfl k_)) ?_
    show own_at p e below _ T213 m 49 #[oR a1, oI mn_, oI mx_, oI (0 : Int32), oI ((Int32.ofNat n1) - (0 : Int32)), oI (1 : Int32), oJ (0 : Int64), oS, oI (0 : Int32), oU] []
    have loop218 : ∀ (mm : Nat) (j : Nat) (i : Int32) (vb : Int32) (vv : Int64) (s9 : Slot) (T218 : State) (Lo218 : List Loc), n1 - (0 + j) = mm → Stand p l e ({ frames := 5, cells := 3, slots := 10, locals := 66 } : Room) (s.setVm T210.vm) m #[(.ref a1), (.int mn_), (.int mx_)] below meth c T218 Lo218 2 8 → T218.heap = h210 → Fr n0 Lo218 → (i.toInt = ((0 + j : Nat) : Int)) → (0 + j ≤ n1) → (One s9) → ((vb = 1 ∧ vv.toInt = own_vl cs 0 j ∧ ∀ q : Nat, 0 ≤ q → q < 0 + j → own_isd (cs q)) ∨ (vb = 0 ∧ ¬ own_okd cs 0 n1)) → own_Go p.tables e below (own_PW below s Z own_EL (own_Q10 Z a1 mn_ mx_ t kt cd n1 cs G1 G3 aE h0 n0) ({ frames := 5, cells := 3, slots := 10, locals := 66 } : Room).cells ({ frames := 5, cells := 3, slots := 10, locals := 66 } : Room).slots) (T218.setTop (mkF m 49 #[oR a1, oI mn_, oI mx_, oI (0 : Int32), oI ((Int32.ofNat n1) - (0 : Int32)), oI vb, oJ vv, oS, oI i, s9] [])) := by
      intro mm
      induction mm using Nat.strongRecOn with
      | _ mm ih218 =>
        intro j i vb vv s9 T218 Lo218 hm218 X218 e218 N218 hi hj hs9 hvb
        refine own_st (fun t_ k_ => XS.iload X218.here hx rfl (hb hby own_d10_49) rfl k_) ?_
        show own_at p e below _ T218 m 51 #[oR a1, oI mn_, oI mx_, oI (0 : Int32), oI ((Int32.ofNat n1) - (0 : Int32)), oI vb, oJ vv, oS, oI i, s9] [(.int vb)]
        by_cases c51_219 : vb = (0 : Int32)
        · skip
          have hx5 : ¬ own_okd cs 0 n1 := by rcases hvb with z_ | z_; exact absurd (c51_219.symm.trans z_.1) (by decide); exact z_.2
          have hng : ¬ own_good cs n1 mn_ mx_ := fun z_ => by unfold own_good at z_; rw [hS] at z_; exact hx5 z_.1
          refine own_st (fun t_ k_ => XS.ifYes X218.here hx rfl (pc0 := 51) (pc' := 113) rfl (hb hby own_d10_51) rfl ((if0 _ _).trans (teq c51_219).1) (by decide) (by decide) (XS.iloadN X218.here hx rfl (hb hby own_d10_113) rfl (XS.iconst X218.here hx rfl (hb hby own_d10_114) (XS.icmpYes X218.here hx rfl (pc0 := 115) (pc' := 123) rfl (hb hby own_d10_115) rfl (feq (by decide : ¬ ((0 : Int32) = (1 : Int32)))).2 (by decide) (by decide) k_)))) ?_
          show own_at p e below _ T218 m 123 #[oR a1, oI mn_, oI mx_, oI (0 : Int32), oI ((Int32.ofNat n1) - (0 : Int32)), oI vb, oJ vv, oS, oI i, s9] []
          obtain ⟨_, _, ⟨T220, L220, k220, n220⟩, -, X220, ⟨Lc220, hQ220, l220, y220, z220⟩, st220⟩ := Jvm.LawKit.callS X218 hx (y := own_n23) hown (mvT hZ (own_w hw 109 rfl)) (mvT hZ (own_w hw 110 rfl)) (mvT hZ (own_w hw 111 rfl)) (mvT hZ (own_w hw 112 rfl)) (by decide) (backOf (W := 0) (own_rm21 l Z a0 hw [] aE h210 n0 (Nat.le_trans Z0 K210.1) (q5.ext E210) q13) hZ (own_w hw 112 rfl) (own_w hw 111 rfl) (by decide) (by decide)) (g := (mkF m 123 #[oR a1, oI mn_, oI mx_, oI (0 : Int32), oI ((Int32.ofNat n1) - (0 : Int32)), oI vb, oJ vv, oS, oI i, s9] [])) rfl (by rw [hml]; rfl) (argsL := []) (rest := []) (lenOf own_pd21 rfl) rfl (own_hW rfl) (hb hby own_d10_123) (fun _ _ => ⟨rfl, e218, (by decide : 2 + 0 ≤ _), (by decide : 8 + 0 ≤ _)⟩)
          dsimp only [Pt.U, Pt.locs, Pt.cells, Pt.slots] at X220 l220 y220 z220 st220 hQ220
          subst y220 z220
          obtain ⟨rfl, N220q, eq220⟩ := hQ220
          have N220 : Fr n0 L220 := by rw [l220]; exact Fr.app N218 N220q
          refine own_st (st220) ?_
          refine own_st (fun t_ k_ => XS.astore X220.here hx rfl (hb hby own_d10_126) rfl rfl (l' := #[oR a1, oI mn_, oI mx_, oI (0 : Int32), oI ((Int32.ofNat n1) - (0 : Int32)), oI vb, oJ vv, oS, oR aE, s9]) rfl (XS.iload X220.here hx rfl (hb hby own_d10_128) rfl (XS.ifYes X220.here hx rfl (pc0 := 130) (pc' := 157) rfl (hb hby own_d10_130) rfl ((if0 _ _).trans (teq c51_219).1) (by decide) (by decide) (XS.aload X220.here hx rfl (hb hby own_d10_157) rfl rfl k_)))) ?_
          show own_at p e below _ T220 m 159 #[oR a1, oI mn_, oI mx_, oI (0 : Int32), oI ((Int32.ofNat n1) - (0 : Int32)), oI vb, oJ vv, oS, oR aE, s9] [(.ref aE)]
          exact own_retW (w := (.ref aE)) X220 hx hnl hZ (own_hEL hw) S210 (by rw [eq220]; exact kk210) (by rw [eq220]; exact C210) Bd.returns rfl (Or.inr (Or.inr (Or.inr (Or.inr ⟨rfl, rfl, rfl⟩)))) (hb hby own_d10_159) ⟨aE, (0 : Int32), (0 : Int32), rfl, N220, (by rw [eq220]; exact K210), (by rw [eq220]; exact (q14.ext (q5.ext E210).2)), (by rw [eq220]; exact (q15.ext (q5.ext E210).2)), (by rw [eq220]; exact (q16.ext (q5.ext E210).2)), ⟨fun z_ => absurd z_ hng, fun _ => rfl⟩⟩ (by decide) (by decide)
        have hin := (hvb.resolve_right (fun z_ => c51_219 z_.1)).2
        refine own_st (fun t_ k_ => XS.ifNo X218.here hx rfl (hb hby own_d10_51) rfl ((if0 _ _).trans (feq c51_219).1) (XS.iload X218.here hx rfl (hb hby own_d10_54) rfl (XS.aloadN X218.here hx rfl (hb hby own_d10_56) rfl rfl k_))) ?_
        show own_at p e below _ T218 m 57 #[oR a1, oI mn_, oI mx_, oI (0 : Int32), oI ((Int32.ofNat n1) - (0 : Int32)), oI vb, oJ vv, oS, oI i, s9] [(.ref a1), (.int i)]
        obtain ⟨cq221, kq221, q221a, q221b, q221c⟩ := isOf hZ e218 (q0.ext E210)
        obtain ⟨_, _, ⟨T221, L221, k221, n221⟩, -, X221, ⟨Lc221, hQ221, l221, y221, z221⟩, st221⟩ := X218.virtualBack hx (y := own_n27) (z := own_n27) hown (mvT hZ (own_w hw 85 rfl)) (mvT hZ (own_w hw 72 rfl)) (notFace_of_selects (args := #[]) (mvT hZ (own_w hw 74 rfl))) (mvT hZ (own_w hw 74 rfl)) (mvT hZ (own_w hw 73 rfl)) (by decide) (backOf (W := 1) (own_rm13a l Z a0 hw [] a1 t kt cd n1 cs G1 h210 n0 (Nat.le_trans Z0 K210.1) (q0.ext E210) (q1.ext E210) (q2.ext E210) (q3.ext E210) hcd (q5.ext E210) q6 hG1 hn12) hZ (own_w hw 75 rfl) (own_w hw 27 rfl) (by decide) (by decide)) q221a q221c (g := (mkF m 57 #[oR a1, oI mn_, oI mx_, oI (0 : Int32), oI ((Int32.ofNat n1) - (0 : Int32)), oI vb, oJ vv, oS, oI i, s9] [(.ref a1), (.int i)])) rfl (by rw [hml]; rfl) (Steps.refl _) (argsL := []) (rest := [(.int i)]) (lenOf own_pd17 rfl) rfl (own_hW rfl) (hb hby own_d10_57) (fun _ _ => ⟨rfl, e218, (by decide : 2 + 0 ≤ _), (by decide : 8 + 0 ≤ _)⟩)
        dsimp only [Pt.U, Pt.locs, Pt.cells, Pt.slots] at X221 l221 y221 z221 st221 hQ221
        subst y221 z221
        obtain ⟨rfl, N221q, eq221⟩ := hQ221
        have N221 : Fr n0 L221 := by rw [l221]; exact Fr.app N218 N221q
        refine own_tr st221 ?_
        show own_at p e below _ T221 m 60 #[oR a1, oI mn_, oI mx_, oI (0 : Int32), oI ((Int32.ofNat n1) - (0 : Int32)), oI vb, oJ vv, oS, oI i, s9] [(.int (Int32.ofNat n1)), (.int i)]
        by_cases c60_222 : i < (Int32.ofNat n1)
        · skip
          have hkn : 0 + j < n1 := (own_ltp hi (own_toN (by omega))).mp c60_222
          refine own_st (fun t_ k_ => XS.icmpNo X221.here hx rfl (hb hby own_d10_60) rfl (tlt c60_222).2.1 (XS.aloadN X221.here hx rfl (hb hby own_d10_63) rfl rfl (XS.iload X221.here hx rfl (hb hby own_d10_64) rfl k_))) ?_
          show own_at p e below _ T221 m 66 #[oR a1, oI mn_, oI mx_, oI (0 : Int32), oI ((Int32.ofNat n1) - (0 : Int32)), oI vb, oJ vv, oS, oI i, s9] [(.int i), (.ref a1)]
          obtain ⟨cq223, kq223, q223a, q223b, q223c⟩ := isOf hZ eq221 (q0.ext E210)
          obtain ⟨_, _, ⟨T223, L223, k223, n223⟩, -, X223, ⟨Lc223, hQ223, l223, y223, z223⟩, st223⟩ := X221.virtualBack hx (y := own_n17) (z := own_n17) hown (mvT hZ (own_w hw 86 rfl)) (mvT hZ (own_w hw 87 rfl)) (notFace_of_selects (args := #[]) (mvT hZ (own_w hw 89 rfl))) (mvT hZ (own_w hw 89 rfl)) (mvT hZ (own_w hw 88 rfl)) (by decide) (backOf (W := 0) (own_rm16 l Z a0 hw [] a1 i t kt cd n1 cs (0 + j) G1 G3 h210 n0 (Nat.le_trans Z0 K210.1) (q0.ext E210) (q1.ext E210) (q2.ext E210) (q3.ext E210) hcd (q5.ext E210) q6 hG1 q8 rG3 q10 q11 q12 ⟨hi, hkn, (by omega)⟩ (hall _ hkn)) hZ (own_w hw 90 rfl) (own_w hw 27 rfl) (by decide) (by decide)) q223a q223c (g := (mkF m 66 #[oR a1, oI mn_, oI mx_, oI (0 : Int32), oI ((Int32.ofNat n1) - (0 : Int32)), oI vb, oJ vv, oS, oI i, s9] [(.int i), (.ref a1)])) rfl (by rw [hml]; rfl) (Steps.refl _) (argsL := [(.int i)]) (rest := []) (lenOf own_pd22 rfl) rfl (own_hW rfl) (hb hby own_d10_66) (fun _ _ => ⟨rfl, eq221, (by decide : 2 + 0 ≤ _), (by decide : 8 + 0 ≤ _)⟩)
          dsimp only [Pt.U, Pt.locs, Pt.cells, Pt.slots] at X223 l223 y223 z223 st223 hQ223
          subst y223 z223
          obtain ⟨rfl, N223q, eq223⟩ := hQ223
          have N223 : Fr n0 L223 := by rw [l223]; exact Fr.app N221 N223q
          refine own_tr st223 ?_
          refine own_st (fun t_ k_ => XS.istoreS X223.here hx rfl (hb hby own_d10_69) rfl rfl hs9 (XS.iload X223.here hx rfl (hb hby own_d10_71) rfl (XS.bipush X223.here hx rfl (hb hby own_d10_73) k_))) ?_
          show own_at p e below _ T223 m 75 #[oR a1, oI mn_, oI mx_, oI (0 : Int32), oI ((Int32.ofNat n1) - (0 : Int32)), oI vb, oJ vv, oS, oI i, oI (cs (0 + j))] [(.int (48 : Int32)), (.int (cs (0 + j)))]
          by_cases c75_224 : (cs (0 + j)) < (48 : Int32)
          · skip
            refine own_st (fun t_ k_ => XS.icmpYes X223.here hx rfl (pc0 := 75) (pc' := 89) rfl (hb hby own_d10_75) rfl (tlt c75_224).1 (by decide) (by decide) (XS.iconst X223.here hx rfl (hb hby own_d10_89) (XS.istore X223.here hx rfl (hb hby own_d10_90) rfl (l' := #[oR a1, oI mn_, oI mx_, oI (0 : Int32), oI ((Int32.ofNat n1) - (0 : Int32)), oI (0 : Int32), oJ vv, oS, oI i, oI (cs (0 + j))]) rfl (XS.lload X223.here hx rfl (hb hby own_d10_92) rfl k_)))) ?_
            show own_at p e below _ T223 m 94 #[oR a1, oI mn_, oI mx_, oI (0 : Int32), oI ((Int32.ofNat n1) - (0 : Int32)), oI (0 : Int32), oJ vv, oS, oI i, oI (cs (0 + j))] [(.long vv)]
            refine own_st (X223.ldc2Long hx hown (mvT hZ (own_w hw 108 rfl)) (g := (mkF m 94 #[oR a1, oI mn_, oI mx_, oI (0 : Int32), oI ((Int32.ofNat n1) - (0 : Int32)), oI (0 : Int32), oJ vv, oS, oI i, oI (cs (0 + j))] [(.long vv)])) rfl (hb hby own_d10_94)) ?_
            refine own_st (fun t_ k_ => XS.lmul X223.here hx rfl (hb hby own_d10_97) rfl (XS.iload X223.here hx rfl (hb hby own_d10_98) rfl (XS.bipush X223.here hx rfl (hb hby own_d10_100) (XS.isub X223.here hx rfl (hb hby own_d10_102) rfl (XS.i2l X223.here hx rfl (hb hby own_d10_103) rfl (XS.ladd X223.here hx rfl (hb hby own_d10_104) rfl k_)))))) ?_
            show own_at p e below _ T223 m 105 #[oR a1, oI mn_, oI mx_, oI (0 : Int32), oI ((Int32.ofNat n1) - (0 : Int32)), oI (0 : Int32), oJ vv, oS, oI i, oI (cs (0 + j))] [(.long ((vv * (10 : Int64)) + (((cs (0 + j)) - (48 : Int32)).toInt64)))]
            refine own_st (fun t_ k_ => XS.lstore X223.here hx rfl (hb hby own_d10_105) rfl (l' := #[oR a1, oI mn_, oI mx_, oI (0 : Int32), oI ((Int32.ofNat n1) - (0 : Int32)), oI (0 : Int32), oJ ((vv * (10 : Int64)) + (((cs (0 + j)) - (48 : Int32)).toInt64)), oS, oI i, oI (cs (0 + j))]) rfl (XS.iinc X223.here hx rfl (hb hby own_d10_107) rfl (l' := #[oR a1, oI mn_, oI mx_, oI (0 : Int32), oI ((Int32.ofNat n1) - (0 : Int32)), oI (0 : Int32), oJ ((vv * (10 : Int64)) + (((cs (0 + j)) - (48 : Int32)).toInt64)), oS, oI (i + (1 : Int32)), oI (cs (0 + j))]) rfl (XS.goto X223.here hx rfl (pc0 := 110) (pc' := 49) rfl (hb hby own_d10_110) (by decide) (by decide) k_))) ?_
            show own_at p e below _ T223 m 49 #[oR a1, oI mn_, oI mx_, oI (0 : Int32), oI ((Int32.ofNat n1) - (0 : Int32)), oI (0 : Int32), oJ ((vv * (10 : Int64)) + (((cs (0 + j)) - (48 : Int32)).toInt64)), oS, oI (i + (1 : Int32)), oI (cs (0 + j))] []
            exact ih218 _ (by omega) (j + 1) (i + (1 : Int32)) (0 : Int32) ((vv * (10 : Int64)) + (((cs (0 + j)) - (48 : Int32)).toInt64)) (.val (.int (cs (0 + j)))) T223 _ rfl X223 eq223 N223 (own_inc (k := 0 + j) hi (by omega)) (by omega) (One.val rfl) (Or.inr ⟨rfl, fun z_ => (own_isd1 c75_224) (z_.2.2 _ (by omega) (by omega))⟩)
          refine own_st (fun t_ k_ => XS.icmpNo X223.here hx rfl (hb hby own_d10_75) rfl (flt c75_224).1 (XS.iload X223.here hx rfl (hb hby own_d10_78) rfl (XS.bipush X223.here hx rfl (hb hby own_d10_80) k_))) ?_
          show own_at p e below _ T223 m 82 #[oR a1, oI mn_, oI mx_, oI (0 : Int32), oI ((Int32.ofNat n1) - (0 : Int32)), oI vb, oJ vv, oS, oI i, oI (cs (0 + j))] [(.int (57 : Int32)), (.int (cs (0 + j)))]
          by_cases c82_225 : (57 : Int32) < (cs (0 + j))
          · skip
            refine own_st (fun t_ k_ => XS.icmpYes X223.here hx rfl (pc0 := 82) (pc' := 89) rfl (hb hby own_d10_82) rfl (tlt c82_225).2.2.1 (by decide) (by decide) (XS.iconst X223.here hx rfl (hb hby own_d10_89) (XS.istore X223.here hx rfl (hb hby own_d10_90) rfl (l' := #[oR a1, oI mn_, oI mx_, oI (0 : Int32), oI ((Int32.ofNat n1) - (0 : Int32)), oI (0 : Int32), oJ vv, oS, oI i, oI (cs (0 + j))]) rfl (XS.lload X223.here hx rfl (hb hby own_d10_92) rfl k_)))) ?_
            show own_at p e below _ T223 m 94 #[oR a1, oI mn_, oI mx_, oI (0 : Int32), oI ((Int32.ofNat n1) - (0 : Int32)), oI (0 : Int32), oJ vv, oS, oI i, oI (cs (0 + j))] [(.long vv)]
            refine own_st (X223.ldc2Long hx hown (mvT hZ (own_w hw 108 rfl)) (g := (mkF m 94 #[oR a1, oI mn_, oI mx_, oI (0 : Int32), oI ((Int32.ofNat n1) - (0 : Int32)), oI (0 : Int32), oJ vv, oS, oI i, oI (cs (0 + j))] [(.long vv)])) rfl (hb hby own_d10_94)) ?_
            refine own_st (fun t_ k_ => XS.lmul X223.here hx rfl (hb hby own_d10_97) rfl (XS.iload X223.here hx rfl (hb hby own_d10_98) rfl (XS.bipush X223.here hx rfl (hb hby own_d10_100) (XS.isub X223.here hx rfl (hb hby own_d10_102) rfl (XS.i2l X223.here hx rfl (hb hby own_d10_103) rfl (XS.ladd X223.here hx rfl (hb hby own_d10_104) rfl k_)))))) ?_
            show own_at p e below _ T223 m 105 #[oR a1, oI mn_, oI mx_, oI (0 : Int32), oI ((Int32.ofNat n1) - (0 : Int32)), oI (0 : Int32), oJ vv, oS, oI i, oI (cs (0 + j))] [(.long ((vv * (10 : Int64)) + (((cs (0 + j)) - (48 : Int32)).toInt64)))]
            refine own_st (fun t_ k_ => XS.lstore X223.here hx rfl (hb hby own_d10_105) rfl (l' := #[oR a1, oI mn_, oI mx_, oI (0 : Int32), oI ((Int32.ofNat n1) - (0 : Int32)), oI (0 : Int32), oJ ((vv * (10 : Int64)) + (((cs (0 + j)) - (48 : Int32)).toInt64)), oS, oI i, oI (cs (0 + j))]) rfl (XS.iinc X223.here hx rfl (hb hby own_d10_107) rfl (l' := #[oR a1, oI mn_, oI mx_, oI (0 : Int32), oI ((Int32.ofNat n1) - (0 : Int32)), oI (0 : Int32), oJ ((vv * (10 : Int64)) + (((cs (0 + j)) - (48 : Int32)).toInt64)), oS, oI (i + (1 : Int32)), oI (cs (0 + j))]) rfl (XS.goto X223.here hx rfl (pc0 := 110) (pc' := 49) rfl (hb hby own_d10_110) (by decide) (by decide) k_))) ?_
            show own_at p e below _ T223 m 49 #[oR a1, oI mn_, oI mx_, oI (0 : Int32), oI ((Int32.ofNat n1) - (0 : Int32)), oI (0 : Int32), oJ ((vv * (10 : Int64)) + (((cs (0 + j)) - (48 : Int32)).toInt64)), oS, oI (i + (1 : Int32)), oI (cs (0 + j))] []
            exact ih218 _ (by omega) (j + 1) (i + (1 : Int32)) (0 : Int32) ((vv * (10 : Int64)) + (((cs (0 + j)) - (48 : Int32)).toInt64)) (.val (.int (cs (0 + j)))) T223 _ rfl X223 eq223 N223 (own_inc (k := 0 + j) hi (by omega)) (by omega) (One.val rfl) (Or.inr ⟨rfl, fun z_ => (own_isd2 c82_225) (z_.2.2 _ (by omega) (by omega))⟩)
          refine own_st (fun t_ k_ => XS.icmpNo X223.here hx rfl (hb hby own_d10_82) rfl (flt c82_225).2.2.1 (XS.iconst X223.here hx rfl (hb hby own_d10_85) (XS.goto X223.here hx rfl (pc0 := 86) (pc' := 90) rfl (hb hby own_d10_86) (by decide) (by decide) (XS.istore X223.here hx rfl (hb hby own_d10_90) rfl (l' := #[oR a1, oI mn_, oI mx_, oI (0 : Int32), oI ((Int32.ofNat n1) - (0 : Int32)), oI (1 : Int32), oJ vv, oS, oI i, oI (cs (0 + j))]) rfl (XS.lload X223.here hx rfl (hb hby own_d10_92) rfl k_))))) ?_
          show own_at p e below _ T223 m 94 #[oR a1, oI mn_, oI mx_, oI (0 : Int32), oI ((Int32.ofNat n1) - (0 : Int32)), oI (1 : Int32), oJ vv, oS, oI i, oI (cs (0 + j))] [(.long vv)]
          refine own_st (X223.ldc2Long hx hown (mvT hZ (own_w hw 108 rfl)) (g := (mkF m 94 #[oR a1, oI mn_, oI mx_, oI (0 : Int32), oI ((Int32.ofNat n1) - (0 : Int32)), oI (1 : Int32), oJ vv, oS, oI i, oI (cs (0 + j))] [(.long vv)])) rfl (hb hby own_d10_94)) ?_
          refine own_st (fun t_ k_ => XS.lmul X223.here hx rfl (hb hby own_d10_97) rfl (XS.iload X223.here hx rfl (hb hby own_d10_98) rfl (XS.bipush X223.here hx rfl (hb hby own_d10_100) (XS.isub X223.here hx rfl (hb hby own_d10_102) rfl (XS.i2l X223.here hx rfl (hb hby own_d10_103) rfl (XS.ladd X223.here hx rfl (hb hby own_d10_104) rfl k_)))))) ?_
          show own_at p e below _ T223 m 105 #[oR a1, oI mn_, oI mx_, oI (0 : Int32), oI ((Int32.ofNat n1) - (0 : Int32)), oI (1 : Int32), oJ vv, oS, oI i, oI (cs (0 + j))] [(.long ((vv * (10 : Int64)) + (((cs (0 + j)) - (48 : Int32)).toInt64)))]
          refine own_st (fun t_ k_ => XS.lstore X223.here hx rfl (hb hby own_d10_105) rfl (l' := #[oR a1, oI mn_, oI mx_, oI (0 : Int32), oI ((Int32.ofNat n1) - (0 : Int32)), oI (1 : Int32), oJ ((vv * (10 : Int64)) + (((cs (0 + j)) - (48 : Int32)).toInt64)), oS, oI i, oI (cs (0 + j))]) rfl (XS.iinc X223.here hx rfl (hb hby own_d10_107) rfl (l' := #[oR a1, oI mn_, oI mx_, oI (0 : Int32), oI ((Int32.ofNat n1) - (0 : Int32)), oI (1 : Int32), oJ ((vv * (10 : Int64)) + (((cs (0 + j)) - (48 : Int32)).toInt64)), oS, oI (i + (1 : Int32)), oI (cs (0 + j))]) rfl (XS.goto X223.here hx rfl (pc0 := 110) (pc' := 49) rfl (hb hby own_d10_110) (by decide) (by decide) k_))) ?_
          show own_at p e below _ T223 m 49 #[oR a1, oI mn_, oI mx_, oI (0 : Int32), oI ((Int32.ofNat n1) - (0 : Int32)), oI (1 : Int32), oJ ((vv * (10 : Int64)) + (((cs (0 + j)) - (48 : Int32)).toInt64)), oS, oI (i + (1 : Int32)), oI (cs (0 + j))] []
          have hcd_ := (own_isdI c75_224 c82_225)
          exact ih218 _ (by omega) (j + 1) (i + (1 : Int32)) (1 : Int32) ((vv * (10 : Int64)) + (((cs (0 + j)) - (48 : Int32)).toInt64)) (.val (.int (cs (0 + j)))) T223 _ rfl X223 eq223 N223 (own_inc (k := 0 + j) hi (by omega)) (by omega) (One.val rfl) (Or.inl ⟨rfl, (by have b_ := own_vlB hin.2; exact own_vst hin.1 b_.1 (Int.lt_of_lt_of_le b_.2 (by have y_ : 10 ^ j ≤ 10 ^ 10 := Nat.pow_le_pow_right (by decide) (by omega); have x_ : (10 : Nat) ^ 10 = 10000000000 := (by decide); omega)) hcd_), (fun q h1_ h2_ => by by_cases e_ : q = 0 + j; exact e_ ▸ hcd_; exact hin.2 q h1_ (by omega))⟩)
        have hkn : 0 + j = n1 := by have q := mt (own_ltp hi (own_toN (by omega))).mpr c60_222; omega
        refine own_st (fun t_ k_ => XS.icmpYes X221.here hx rfl (pc0 := 60) (pc' := 113) rfl (hb hby own_d10_60) rfl (flt c60_222).2.1 (by decide) (by decide) (XS.iloadN X221.here hx rfl (hb hby own_d10_113) rfl (XS.iconst X221.here hx rfl (hb hby own_d10_114) (XS.icmpYes X221.here hx rfl (pc0 := 115) (pc' := 123) rfl (hb hby own_d10_115) rfl (feq (by decide : ¬ ((0 : Int32) = (1 : Int32)))).2 (by decide) (by decide) k_)))) ?_
        show own_at p e below _ T221 m 123 #[oR a1, oI mn_, oI mx_, oI (0 : Int32), oI ((Int32.ofNat n1) - (0 : Int32)), oI vb, oJ vv, oS, oI i, s9] []
        obtain ⟨_, _, ⟨T226, L226, k226, n226⟩, -, X226, ⟨Lc226, hQ226, l226, y226, z226⟩, st226⟩ := Jvm.LawKit.callS X221 hx (y := own_n23) hown (mvT hZ (own_w hw 109 rfl)) (mvT hZ (own_w hw 110 rfl)) (mvT hZ (own_w hw 111 rfl)) (mvT hZ (own_w hw 112 rfl)) (by decide) (backOf (W := 0) (own_rm21 l Z a0 hw [] aE h210 n0 (Nat.le_trans Z0 K210.1) (q5.ext E210) q13) hZ (own_w hw 112 rfl) (own_w hw 111 rfl) (by decide) (by decide)) (g := (mkF m 123 #[oR a1, oI mn_, oI mx_, oI (0 : Int32), oI ((Int32.ofNat n1) - (0 : Int32)), oI vb, oJ vv, oS, oI i, s9] [])) rfl (by rw [hml]; rfl) (argsL := []) (rest := []) (lenOf own_pd21 rfl) rfl (own_hW rfl) (hb hby own_d10_123) (fun _ _ => ⟨rfl, eq221, (by decide : 2 + 0 ≤ _), (by decide : 8 + 0 ≤ _)⟩)
        dsimp only [Pt.U, Pt.locs, Pt.cells, Pt.slots] at X226 l226 y226 z226 st226 hQ226
        subst y226 z226
        obtain ⟨rfl, N226q, eq226⟩ := hQ226
        have N226 : Fr n0 L226 := by rw [l226]; exact Fr.app N221 N226q
        refine own_st (st226) ?_
        refine own_st (fun t_ k_ => XS.astore X226.here hx rfl (hb hby own_d10_126) rfl rfl (l' := #[oR a1, oI mn_, oI mx_, oI (0 : Int32), oI ((Int32.ofNat n1) - (0 : Int32)), oI vb, oJ vv, oS, oR aE, s9]) rfl k_) ?_
        show own_at p e below _ T226 m 128 #[oR a1, oI mn_, oI mx_, oI (0 : Int32), oI ((Int32.ofNat n1) - (0 : Int32)), oI vb, oJ vv, oS, oR aE, s9] []
        have b_ := own_vlB hin.2
        have y_ : 10 ^ j ≤ 10 ^ 10 := Nat.pow_le_pow_right (by decide) (by omega)
        have x_ : (10 : Nat) ^ 10 = 10000000000 := by decide
        have hokd : own_okd cs 0 n1 := ⟨by omega, by omega, fun q h1_ h2_ => hin.2 q h1_ (by omega)⟩
        have hval : (vv).toInt = own_pv cs 0 n1 := by unfold own_pv; rw [show n1 - 0 = j by omega]; rw [if_neg (by decide)]; exact hin.1
        refine own_st (fun t_ k_ => XS.iload X226.here hx rfl (hb hby own_d10_128) rfl (XS.ifNo X226.here hx rfl (hb hby own_d10_130) rfl ((if0 _ _).trans (feq c51_219).1) (XS.lload X226.here hx rfl (hb hby own_d10_133) rfl (XS.iloadN X226.here hx rfl (hb hby own_d10_135) rfl (XS.i2l X226.here hx rfl (hb hby own_d10_136) rfl (XS.lcmp X226.here hx rfl (hb hby own_d10_137) rfl k_)))))) ?_
        show own_at p e below _ T226 m 138 #[oR a1, oI mn_, oI mx_, oI (0 : Int32), oI ((Int32.ofNat n1) - (0 : Int32)), oI vb, oJ vv, oS, oR aE, s9] [(.int (lcmpW vv (mn_.toInt64)))]
        by_cases c138_227 : (lcmpW vv (mn_.toInt64)) < (0 : Int32)
        · skip
          have hng : ¬ own_good cs n1 mn_ mx_ := fun z_ => by unfold own_good at z_; rw [hS] at z_; exact absurd z_.2.1 (Int.not_le.mpr ((own_lcL hval).mp c138_227))
          refine own_st (fun t_ k_ => XS.ifYes X226.here hx rfl (pc0 := 138) (pc' := 157) rfl (hb hby own_d10_138) rfl ((if0 _ _).trans (tlt c138_227).1) (by decide) (by decide) (XS.aload X226.here hx rfl (hb hby own_d10_157) rfl rfl k_)) ?_
          show own_at p e below _ T226 m 159 #[oR a1, oI mn_, oI mx_, oI (0 : Int32), oI ((Int32.ofNat n1) - (0 : Int32)), oI vb, oJ vv, oS, oR aE, s9] [(.ref aE)]
          exact own_retW (w := (.ref aE)) X226 hx hnl hZ (own_hEL hw) S210 (by rw [eq226]; exact kk210) (by rw [eq226]; exact C210) Bd.returns rfl (Or.inr (Or.inr (Or.inr (Or.inr ⟨rfl, rfl, rfl⟩)))) (hb hby own_d10_159) ⟨aE, (0 : Int32), (0 : Int32), rfl, N226, (by rw [eq226]; exact K210), (by rw [eq226]; exact (q14.ext (q5.ext E210).2)), (by rw [eq226]; exact (q15.ext (q5.ext E210).2)), (by rw [eq226]; exact (q16.ext (q5.ext E210).2)), ⟨fun z_ => absurd z_ hng, fun _ => rfl⟩⟩ (by decide) (by decide)
        refine own_st (fun t_ k_ => XS.ifNo X226.here hx rfl (hb hby own_d10_138) rfl ((if0 _ _).trans (flt c138_227).1) (XS.lload X226.here hx rfl (hb hby own_d10_141) rfl (XS.iloadN X226.here hx rfl (hb hby own_d10_143) rfl (XS.i2l X226.here hx rfl (hb hby own_d10_144) rfl (XS.lcmp X226.here hx rfl (hb hby own_d10_145) rfl k_))))) ?_
        show own_at p e below _ T226 m 146 #[oR a1, oI mn_, oI mx_, oI (0 : Int32), oI ((Int32.ofNat n1) - (0 : Int32)), oI vb, oJ vv, oS, oR aE, s9] [(.int (lcmpW vv (mx_.toInt64)))]
        by_cases c146_228 : (0 : Int32) < (lcmpW vv (mx_.toInt64))
        · skip
          have hng : ¬ own_good cs n1 mn_ mx_ := fun z_ => by unfold own_good at z_; rw [hS] at z_; exact absurd z_.2.2 (Int.not_le.mpr ((own_lcG hval).mp c146_228))
          refine own_st (fun t_ k_ => XS.ifYes X226.here hx rfl (pc0 := 146) (pc' := 157) rfl (hb hby own_d10_146) rfl ((if0 _ _).trans (tlt c146_228).2.2.1) (by decide) (by decide) (XS.aload X226.here hx rfl (hb hby own_d10_157) rfl rfl k_)) ?_
          show own_at p e below _ T226 m 159 #[oR a1, oI mn_, oI mx_, oI (0 : Int32), oI ((Int32.ofNat n1) - (0 : Int32)), oI vb, oJ vv, oS, oR aE, s9] [(.ref aE)]
          exact own_retW (w := (.ref aE)) X226 hx hnl hZ (own_hEL hw) S210 (by rw [eq226]; exact kk210) (by rw [eq226]; exact C210) Bd.returns rfl (Or.inr (Or.inr (Or.inr (Or.inr ⟨rfl, rfl, rfl⟩)))) (hb hby own_d10_159) ⟨aE, (0 : Int32), (0 : Int32), rfl, N226, (by rw [eq226]; exact K210), (by rw [eq226]; exact (q14.ext (q5.ext E210).2)), (by rw [eq226]; exact (q15.ext (q5.ext E210).2)), (by rw [eq226]; exact (q16.ext (q5.ext E210).2)), ⟨fun z_ => absurd z_ hng, fun _ => rfl⟩⟩ (by decide) (by decide)
        have hgg : own_good cs n1 mn_ mx_ := by unfold own_good; rw [hS]; exact ⟨hokd, Int.not_lt.mp (mt (own_lcL hval).mpr c138_227), Int.not_lt.mp (mt (own_lcG hval).mpr c146_228)⟩
        refine own_st (fun t_ k_ => XS.ifNo X226.here hx rfl (hb hby own_d10_146) rfl ((if0 _ _).trans (flt c146_228).2.2.1) (XS.lload X226.here hx rfl (hb hby own_d10_149) rfl (XS.l2i X226.here hx rfl (hb hby own_d10_151) rfl k_))) ?_
        show own_at p e below _ T226 m 152 #[oR a1, oI mn_, oI mx_, oI (0 : Int32), oI ((Int32.ofNat n1) - (0 : Int32)), oI vb, oJ vv, oS, oR aE, s9] [(.int (vv.toInt32))]
        obtain ⟨_, _, ⟨T229, L229, k229, n229⟩, -, X229, ⟨Lc229, hQ229, l229, y229, z229⟩, st229⟩ := Jvm.LawKit.callS X226 hx (y := own_n22) hown (mvT hZ (own_w hw 114 rfl)) (mvT hZ (own_w hw 115 rfl)) (mvT hZ (own_w hw 111 rfl)) (mvT hZ (own_w hw 116 rfl)) (by decide) (backOf (W := 0) (own_rm22 l Z a0 hw [] (vv.toInt32) h210 n0 (Nat.le_trans Z0 K210.1)) hZ (own_w hw 116 rfl) (own_w hw 111 rfl) (by decide) (by decide)) (g := (mkF m 152 #[oR a1, oI mn_, oI mx_, oI (0 : Int32), oI ((Int32.ofNat n1) - (0 : Int32)), oI vb, oJ vv, oS, oR aE, s9] [(.int (vv.toInt32))])) rfl (by rw [hml]; rfl) (argsL := [(.int (vv.toInt32))]) (rest := []) (lenOf own_pd23 rfl) rfl (own_hW rfl) (hb hby own_d10_152) (fun _ _ => ⟨rfl, eq226, (by decide : 2 + 1 ≤ _), (by decide : 8 + 2 ≤ _)⟩)
        dsimp only [Pt.U, Pt.locs, Pt.cells, Pt.slots] at X229 l229 y229 z229 st229 hQ229
        subst y229 z229
        obtain ⟨o_229, rfl, N229q, Kq229, P229_0, P229_1, P229_2, P229_3⟩ := hQ229
        have N229 : Fr n0 L229 := by rw [l229]; exact Fr.app N226 N229q
        have K229 : Keep h0 T229.heap [] := K210.trans Kq229 all0
        have c229 : CHr Z own_EL _ h210 _ T229.heap := CHr.keep Kq229 own_sl0 C210.1
        have C229 := C210.trans c229
        have kk229 := Nat.le_trans kk210 c229.2.1
        have fr229_0 : h0.size ≤ o_229 := Nat.le_trans K210.1 P229_0
        have ge229_0 : n0 ≤ o_229 := Nat.le_trans Z0 fr229_0
        have Sf229_o_229 : Safe Z own_EL _ T229.heap o_229 := Safe.keep Kq229 own_sl0 C210.1 (Safe.new P229_0)
        refine own_st (st229) ?_
        refine own_st (fun t_ k_ => XS.astore X229.here hx rfl (hb hby own_d10_155) rfl rfl (l' := #[oR a1, oI mn_, oI mx_, oI (0 : Int32), oI ((Int32.ofNat n1) - (0 : Int32)), oI vb, oJ vv, oS, oR o_229, s9]) rfl (XS.aload X229.here hx rfl (hb hby own_d10_157) rfl rfl k_)) ?_
        show own_at p e below _ T229 m 159 #[oR a1, oI mn_, oI mx_, oI (0 : Int32), oI ((Int32.ofNat n1) - (0 : Int32)), oI vb, oJ vv, oS, oR o_229, s9] [(.ref o_229)]
        exact own_retW (w := (.ref o_229)) X229 hx hnl hZ (own_hEL hw) S210 (kk229) (C229) Bd.returns rfl (Or.inr (Or.inr (Or.inr (Or.inr ⟨rfl, rfl, rfl⟩)))) (hb hby own_d10_159) ⟨o_229, (1 : Int32), (vv.toInt32), rfl, N229, (K229), (P229_1), (P229_2), (P229_3), ⟨fun _ => ⟨rfl, _, rfl, (by rw [hS]; exact hval)⟩, fun z_ => absurd hgg z_⟩⟩ (by decide) (by decide)
    exact loop218 _ 0 (0 : Int32) (1 : Int32) (0 : Int64) .unset T213 _ rfl X213 eq213 N213 (by decide) (by omega) One.u (Or.inl ⟨rfl, (by simp only [own_vl]; decide), fun q h1_ h2_ => absurd h2_ (by omega)⟩)
  have hS2 := own_sw1 (mt own_sw0.mpr c6_212)
  have hS : own_swn cs n1 = 1 := hS2.1
  have hS1 : 1 ≤ n1 := hS2.2
  refine own_st (fun t_ k_ => XS.ifNo X211.here hx rfl (hb hby own_d10_6) rfl ((if0 _ _).trans (feq c6_212).1) (XS.iconst X211.here hx rfl (hb hby own_d10_9) (XS.goto X211.here hx rfl (pc0 := 10) (pc' := 14) rfl (hb hby own_d10_10) (by decide) (by decide) (XS.istoreN X211.here hx rfl (hb hby own_d10_14) rfl (l' := #[oR a1, oI mn_, oI mx_, oI (1 : Int32), oU, oU, oU, oU, oU, oU]) rfl (XS.aloadN X211.here hx rfl (hb hby own_d10_15) rfl rfl k_))))) ?_
  show own_at p e below _ T211 m 16 #[oR a1, oI mn_, oI mx_, oI (1 : Int32), oU, oU, oU, oU, oU, oU] [(.ref a1)]
  obtain ⟨cq230, kq230, q230a, q230b, q230c⟩ := isOf hZ eq211 (q0.ext E210)
  obtain ⟨_, _, ⟨T230, L230, k230, n230⟩, -, X230, ⟨Lc230, hQ230, l230, y230, z230⟩, st230⟩ := X211.virtualBack hx (y := own_n27) (z := own_n27) hown (mvT hZ (own_w hw 85 rfl)) (mvT hZ (own_w hw 72 rfl)) (notFace_of_selects (args := #[]) (mvT hZ (own_w hw 74 rfl))) (mvT hZ (own_w hw 74 rfl)) (mvT hZ (own_w hw 73 rfl)) (by decide) (backOf (W := 0) (own_rm13a l Z a0 hw [] a1 t kt cd n1 cs G1 h210 n0 (Nat.le_trans Z0 K210.1) (q0.ext E210) (q1.ext E210) (q2.ext E210) (q3.ext E210) hcd (q5.ext E210) q6 hG1 hn12) hZ (own_w hw 75 rfl) (own_w hw 27 rfl) (by decide) (by decide)) q230a q230c (g := (mkF m 16 #[oR a1, oI mn_, oI mx_, oI (1 : Int32), oU, oU, oU, oU, oU, oU] [(.ref a1)])) rfl (by rw [hml]; rfl) (Steps.refl _) (argsL := []) (rest := []) (lenOf own_pd17 rfl) rfl (own_hW rfl) (hb hby own_d10_16) (fun _ _ => ⟨rfl, eq211, (by decide : 2 + 0 ≤ _), (by decide : 8 + 0 ≤ _)⟩)
  dsimp only [Pt.U, Pt.locs, Pt.cells, Pt.slots] at X230 l230 y230 z230 st230 hQ230
  subst y230 z230
  obtain ⟨rfl, N230q, eq230⟩ := hQ230
  have N230 : Fr n0 L230 := by rw [l230]; exact Fr.app N211 N230q
  refine own_tr st230 ?_
  refine own_st (fun t_ k_ => XS.iloadN X230.here hx rfl (hb hby own_d10_19) rfl (XS.isub X230.here hx rfl (hb hby own_d10_20) rfl (XS.istore X230.here hx rfl (hb hby own_d10_21) rfl (l' := #[oR a1, oI mn_, oI mx_, oI (1 : Int32), oI ((Int32.ofNat n1) - (1 : Int32)), oU, oU, oU, oU, oU]) rfl k_))) ?_
  show own_at p e below _ T230 m 23 #[oR a1, oI mn_, oI mx_, oI (1 : Int32), oI ((Int32.ofNat n1) - (1 : Int32)), oU, oU, oU, oU, oU] []
  have hd4 : (((Int32.ofNat n1) - (1 : Int32))).toInt = ((n1 - 1 : Nat) : Int) := own_csub (own_toN (by omega)) (by decide) (by omega) (by omega)
  have e1 : (1 : Int32).toInt = ((1 : Nat) : Int) := by decide
  have e10 : (10 : Int32).toInt = ((10 : Nat) : Int) := by decide
  refine own_st (fun t_ k_ => XS.iload X230.here hx rfl (hb hby own_d10_23) rfl (XS.iconst X230.here hx rfl (hb hby own_d10_25) k_)) ?_
  show own_at p e below _ T230 m 26 #[oR a1, oI mn_, oI mx_, oI (1 : Int32), oI ((Int32.ofNat n1) - (1 : Int32)), oU, oU, oU, oU, oU] [(.int (1 : Int32)), (.int ((Int32.ofNat n1) - (1 : Int32)))]
  by_cases c26_231 : ((Int32.ofNat n1) - (1 : Int32)) < (1 : Int32)
  · skip
    have r26 := (own_ltp hd4 e1).mp c26_231
    have hng : ¬ own_good cs n1 mn_ mx_ := fun z_ => by unfold own_good at z_; rw [hS] at z_; have y_ := z_.1.1; omega
    refine own_st (fun t_ k_ => XS.icmpYes X230.here hx rfl (pc0 := 26) (pc' := 40) rfl (hb hby own_d10_26) rfl (tlt c26_231).1 (by decide) (by decide) (XS.iconst X230.here hx rfl (hb hby own_d10_40) (XS.istore X230.here hx rfl (hb hby own_d10_41) rfl (l' := #[oR a1, oI mn_, oI mx_, oI (1 : Int32), oI ((Int32.ofNat n1) - (1 : Int32)), oI (0 : Int32), oU, oU, oU, oU]) rfl (XS.lconst X230.here hx rfl (hb hby own_d10_43) (XS.lstore X230.here hx rfl (hb hby own_d10_44) rfl (l' := #[oR a1, oI mn_, oI mx_, oI (1 : Int32), oI ((Int32.ofNat n1) - (1 : Int32)), oI (0 : Int32), oJ (0 : Int64), oS, oU, oU]) rfl (XS.iloadN X230.here hx rfl (hb hby own_d10_46) rfl k_)))))) ?_
    show own_at p e below _ T230 m 47 #[oR a1, oI mn_, oI mx_, oI (1 : Int32), oI ((Int32.ofNat n1) - (1 : Int32)), oI (0 : Int32), oJ (0 : Int64), oS, oU, oU] [(.int (1 : Int32))]
    refine own_st (fun t_ k_ => XS.istore X230.here hx rfl (hb hby own_d10_47) rfl (l' := #[oR a1, oI mn_, oI mx_, oI (1 : Int32), oI ((Int32.ofNat n1) - (1 : Int32)), oI (0 : Int32), oJ (0 : Int64), oS, oI (1 : Int32), oU]) rfl (XS.iload X230.here hx rfl (hb hby own_d10_49) rfl (XS.ifYes X230.here hx rfl (pc0 := 51) (pc' := 113) rfl (hb hby own_d10_51) rfl ((if0 _ _).trans (teq (by decide : (0 : Int32) = (0 : Int32))).1) (by decide) (by decide) (XS.iloadN X230.here hx rfl (hb hby own_d10_113) rfl (XS.iconst X230.here hx rfl (hb hby own_d10_114) (XS.icmpNo X230.here hx rfl (hb hby own_d10_115) rfl (teq (by decide : (1 : Int32) = (1 : Int32))).2 k_)))))) ?_
    show own_at p e below _ T230 m 118 #[oR a1, oI mn_, oI mx_, oI (1 : Int32), oI ((Int32.ofNat n1) - (1 : Int32)), oI (0 : Int32), oJ (0 : Int64), oS, oI (1 : Int32), oU] []
    refine own_st (fun t_ k_ => XS.lload X230.here hx rfl (hb hby own_d10_118) rfl (XS.lneg X230.here hx rfl (hb hby own_d10_120) rfl (XS.lstore X230.here hx rfl (hb hby own_d10_121) rfl (l' := #[oR a1, oI mn_, oI mx_, oI (1 : Int32), oI ((Int32.ofNat n1) - (1 : Int32)), oI (0 : Int32), oJ (-(0 : Int64)), oS, oI (1 : Int32), oU]) rfl k_))) ?_
    show own_at p e below _ T230 m 123 #[oR a1, oI mn_, oI mx_, oI (1 : Int32), oI ((Int32.ofNat n1) - (1 : Int32)), oI (0 : Int32), oJ (-(0 : Int64)), oS, oI (1 : Int32), oU] []
    obtain ⟨_, _, ⟨T232, L232, k232, n232⟩, -, X232, ⟨Lc232, hQ232, l232, y232, z232⟩, st232⟩ := Jvm.LawKit.callS X230 hx (y := own_n23) hown (mvT hZ (own_w hw 109 rfl)) (mvT hZ (own_w hw 110 rfl)) (mvT hZ (own_w hw 111 rfl)) (mvT hZ (own_w hw 112 rfl)) (by decide) (backOf (W := 0) (own_rm21 l Z a0 hw [] aE h210 n0 (Nat.le_trans Z0 K210.1) (q5.ext E210) q13) hZ (own_w hw 112 rfl) (own_w hw 111 rfl) (by decide) (by decide)) (g := (mkF m 123 #[oR a1, oI mn_, oI mx_, oI (1 : Int32), oI ((Int32.ofNat n1) - (1 : Int32)), oI (0 : Int32), oJ (-(0 : Int64)), oS, oI (1 : Int32), oU] [])) rfl (by rw [hml]; rfl) (argsL := []) (rest := []) (lenOf own_pd21 rfl) rfl (own_hW rfl) (hb hby own_d10_123) (fun _ _ => ⟨rfl, eq230, (by decide : 2 + 0 ≤ _), (by decide : 8 + 0 ≤ _)⟩)
    dsimp only [Pt.U, Pt.locs, Pt.cells, Pt.slots] at X232 l232 y232 z232 st232 hQ232
    subst y232 z232
    obtain ⟨rfl, N232q, eq232⟩ := hQ232
    have N232 : Fr n0 L232 := by rw [l232]; exact Fr.app N230 N232q
    refine own_st (st232) ?_
    refine own_st (fun t_ k_ => XS.astore X232.here hx rfl (hb hby own_d10_126) rfl rfl (l' := #[oR a1, oI mn_, oI mx_, oI (1 : Int32), oI ((Int32.ofNat n1) - (1 : Int32)), oI (0 : Int32), oJ (-(0 : Int64)), oS, oR aE, oU]) rfl (XS.iload X232.here hx rfl (hb hby own_d10_128) rfl (XS.ifYes X232.here hx rfl (pc0 := 130) (pc' := 157) rfl (hb hby own_d10_130) rfl ((if0 _ _).trans (teq (by decide : (0 : Int32) = (0 : Int32))).1) (by decide) (by decide) (XS.aload X232.here hx rfl (hb hby own_d10_157) rfl rfl k_)))) ?_
    show own_at p e below _ T232 m 159 #[oR a1, oI mn_, oI mx_, oI (1 : Int32), oI ((Int32.ofNat n1) - (1 : Int32)), oI (0 : Int32), oJ (-(0 : Int64)), oS, oR aE, oU] [(.ref aE)]
    exact own_retW (w := (.ref aE)) X232 hx hnl hZ (own_hEL hw) S210 (by rw [eq232]; exact kk210) (by rw [eq232]; exact C210) Bd.returns rfl (Or.inr (Or.inr (Or.inr (Or.inr ⟨rfl, rfl, rfl⟩)))) (hb hby own_d10_159) ⟨aE, (0 : Int32), (0 : Int32), rfl, N232, (by rw [eq232]; exact K210), (by rw [eq232]; exact (q14.ext (q5.ext E210).2)), (by rw [eq232]; exact (q15.ext (q5.ext E210).2)), (by rw [eq232]; exact (q16.ext (q5.ext E210).2)), ⟨fun z_ => absurd z_ hng, fun _ => rfl⟩⟩ (by decide) (by decide)
  have r26 := mt (own_ltp hd4 e1).mpr c26_231
  refine own_st (fun t_ k_ => XS.icmpNo X230.here hx rfl (hb hby own_d10_26) rfl (flt c26_231).1 (XS.iload X230.here hx rfl (hb hby own_d10_29) rfl (XS.bipush X230.here hx rfl (hb hby own_d10_31) k_))) ?_
  show own_at p e below _ T230 m 33 #[oR a1, oI mn_, oI mx_, oI (1 : Int32), oI ((Int32.ofNat n1) - (1 : Int32)), oU, oU, oU, oU, oU] [(.int (10 : Int32)), (.int ((Int32.ofNat n1) - (1 : Int32)))]
  by_cases c33_233 : (10 : Int32) < ((Int32.ofNat n1) - (1 : Int32))
  · skip
    have r33 := (own_ltp e10 hd4).mp c33_233
    have hng : ¬ own_good cs n1 mn_ mx_ := fun z_ => by unfold own_good at z_; rw [hS] at z_; have y_ := z_.1.2.1; omega
    refine own_st (fun t_ k_ => XS.icmpYes X230.here hx rfl (pc0 := 33) (pc' := 40) rfl (hb hby own_d10_33) rfl (tlt c33_233).2.2.1 (by decide) (by decide) (XS.iconst X230.here hx rfl (hb hby own_d10_40) (XS.istore X230.here hx rfl (hb hby own_d10_41) rfl (l' := #[oR a1, oI mn_, oI mx_, oI (1 : Int32), oI ((Int32.ofNat n1) - (1 : Int32)), oI (0 : Int32), oU, oU, oU, oU]) rfl (XS.lconst X230.here hx rfl (hb hby own_d10_43) (XS.lstore X230.here hx rfl (hb hby own_d10_44) rfl (l' := #[oR a1, oI mn_, oI mx_, oI (1 : Int32), oI ((Int32.ofNat n1) - (1 : Int32)), oI (0 : Int32), oJ (0 : Int64), oS, oU, oU]) rfl (XS.iloadN X230.here hx rfl (hb hby own_d10_46) rfl k_)))))) ?_
    show own_at p e below _ T230 m 47 #[oR a1, oI mn_, oI mx_, oI (1 : Int32), oI ((Int32.ofNat n1) - (1 : Int32)), oI (0 : Int32), oJ (0 : Int64), oS, oU, oU] [(.int (1 : Int32))]
    refine own_st (fun t_ k_ => XS.istore X230.here hx rfl (hb hby own_d10_47) rfl (l' := #[oR a1, oI mn_, oI mx_, oI (1 : Int32), oI ((Int32.ofNat n1) - (1 : Int32)), oI (0 : Int32), oJ (0 : Int64), oS, oI (1 : Int32), oU]) rfl (XS.iload X230.here hx rfl (hb hby own_d10_49) rfl (XS.ifYes X230.here hx rfl (pc0 := 51) (pc' := 113) rfl (hb hby own_d10_51) rfl ((if0 _ _).trans (teq (by decide : (0 : Int32) = (0 : Int32))).1) (by decide) (by decide) (XS.iloadN X230.here hx rfl (hb hby own_d10_113) rfl (XS.iconst X230.here hx rfl (hb hby own_d10_114) (XS.icmpNo X230.here hx rfl (hb hby own_d10_115) rfl (teq (by decide : (1 : Int32) = (1 : Int32))).2 k_)))))) ?_
    show own_at p e below _ T230 m 118 #[oR a1, oI mn_, oI mx_, oI (1 : Int32), oI ((Int32.ofNat n1) - (1 : Int32)), oI (0 : Int32), oJ (0 : Int64), oS, oI (1 : Int32), oU] []
    refine own_st (fun t_ k_ => XS.lload X230.here hx rfl (hb hby own_d10_118) rfl (XS.lneg X230.here hx rfl (hb hby own_d10_120) rfl (XS.lstore X230.here hx rfl (hb hby own_d10_121) rfl (l' := #[oR a1, oI mn_, oI mx_, oI (1 : Int32), oI ((Int32.ofNat n1) - (1 : Int32)), oI (0 : Int32), oJ (-(0 : Int64)), oS, oI (1 : Int32), oU]) rfl k_))) ?_
    show own_at p e below _ T230 m 123 #[oR a1, oI mn_, oI mx_, oI (1 : Int32), oI ((Int32.ofNat n1) - (1 : Int32)), oI (0 : Int32), oJ (-(0 : Int64)), oS, oI (1 : Int32), oU] []
    obtain ⟨_, _, ⟨T234, L234, k234, n234⟩, -, X234, ⟨Lc234, hQ234, l234, y234, z234⟩, st234⟩ := Jvm.LawKit.callS X230 hx (y := own_n23) hown (mvT hZ (own_w hw 109 rfl)) (mvT hZ (own_w hw 110 rfl)) (mvT hZ (own_w hw 111 rfl)) (mvT hZ (own_w hw 112 rfl)) (by decide) (backOf (W := 0) (own_rm21 l Z a0 hw [] aE h210 n0 (Nat.le_trans Z0 K210.1) (q5.ext E210) q13) hZ (own_w hw 112 rfl) (own_w hw 111 rfl) (by decide) (by decide)) (g := (mkF m 123 #[oR a1, oI mn_, oI mx_, oI (1 : Int32), oI ((Int32.ofNat n1) - (1 : Int32)), oI (0 : Int32), oJ (-(0 : Int64)), oS, oI (1 : Int32), oU] [])) rfl (by rw [hml]; rfl) (argsL := []) (rest := []) (lenOf own_pd21 rfl) rfl (own_hW rfl) (hb hby own_d10_123) (fun _ _ => ⟨rfl, eq230, (by decide : 2 + 0 ≤ _), (by decide : 8 + 0 ≤ _)⟩)
    dsimp only [Pt.U, Pt.locs, Pt.cells, Pt.slots] at X234 l234 y234 z234 st234 hQ234
    subst y234 z234
    obtain ⟨rfl, N234q, eq234⟩ := hQ234
    have N234 : Fr n0 L234 := by rw [l234]; exact Fr.app N230 N234q
    refine own_st (st234) ?_
    refine own_st (fun t_ k_ => XS.astore X234.here hx rfl (hb hby own_d10_126) rfl rfl (l' := #[oR a1, oI mn_, oI mx_, oI (1 : Int32), oI ((Int32.ofNat n1) - (1 : Int32)), oI (0 : Int32), oJ (-(0 : Int64)), oS, oR aE, oU]) rfl (XS.iload X234.here hx rfl (hb hby own_d10_128) rfl (XS.ifYes X234.here hx rfl (pc0 := 130) (pc' := 157) rfl (hb hby own_d10_130) rfl ((if0 _ _).trans (teq (by decide : (0 : Int32) = (0 : Int32))).1) (by decide) (by decide) (XS.aload X234.here hx rfl (hb hby own_d10_157) rfl rfl k_)))) ?_
    show own_at p e below _ T234 m 159 #[oR a1, oI mn_, oI mx_, oI (1 : Int32), oI ((Int32.ofNat n1) - (1 : Int32)), oI (0 : Int32), oJ (-(0 : Int64)), oS, oR aE, oU] [(.ref aE)]
    exact own_retW (w := (.ref aE)) X234 hx hnl hZ (own_hEL hw) S210 (by rw [eq234]; exact kk210) (by rw [eq234]; exact C210) Bd.returns rfl (Or.inr (Or.inr (Or.inr (Or.inr ⟨rfl, rfl, rfl⟩)))) (hb hby own_d10_159) ⟨aE, (0 : Int32), (0 : Int32), rfl, N234, (by rw [eq234]; exact K210), (by rw [eq234]; exact (q14.ext (q5.ext E210).2)), (by rw [eq234]; exact (q15.ext (q5.ext E210).2)), (by rw [eq234]; exact (q16.ext (q5.ext E210).2)), ⟨fun z_ => absurd z_ hng, fun _ => rfl⟩⟩ (by decide) (by decide)
  have r33 := mt (own_ltp e10 hd4).mpr c33_233
  refine own_st (fun t_ k_ => XS.icmpNo X230.here hx rfl (hb hby own_d10_33) rfl (flt c33_233).2.2.1 (XS.iconst X230.here hx rfl (hb hby own_d10_36) (XS.goto X230.here hx rfl (pc0 := 37) (pc' := 41) rfl (hb hby own_d10_37) (by decide) (by decide) (XS.istore X230.here hx rfl (hb hby own_d10_41) rfl (l' := #[oR a1, oI mn_, oI mx_, oI (1 : Int32), oI ((Int32.ofNat n1) - (1 : Int32)), oI (1 : Int32), oU, oU, oU, oU]) rfl (XS.lconst X230.here hx rfl (hb hby own_d10_43) (XS.lstore X230.here hx rfl (hb hby own_d10_44) rfl (l' := #[oR a1, oI mn_, oI mx_, oI (1 : Int32), oI ((Int32.ofNat n1) - (1 : Int32)), oI (1 : Int32), oJ (0 : Int64), oS, oU, oU]) rfl k_)))))) ?_
  show own_at p e below _ T230 m 46 #[oR a1, oI mn_, oI mx_, oI (1 : Int32), oI ((Int32.ofNat n1) - (1 : Int32)), oI (1 : Int32), oJ (0 : Int64), oS, oU, oU] []
  refine own_st (fun t_ k_ => XS.iloadN X230.here hx rfl (hb hby own_d10_46) rfl (XS.istore X230.here hx rfl (hb hby own_d10_47) rfl (l' := #[oR a1, oI mn_, oI mx_, oI (1 : Int32), oI ((Int32.ofNat n1) - (1 : Int32)), oI (1 : Int32), oJ (0 : Int64), oS, oI (1 : Int32), oU]) rfl k_)) ?_
  show own_at p e below _ T230 m 49 #[oR a1, oI mn_, oI mx_, oI (1 : Int32), oI ((Int32.ofNat n1) - (1 : Int32)), oI (1 : Int32), oJ (0 : Int64), oS, oI (1 : Int32), oU] []
  have loop235 : ∀ (mm : Nat) (j : Nat) (i : Int32) (vb : Int32) (vv : Int64) (s9 : Slot) (T235 : State) (Lo235 : List Loc), n1 - (1 + j) = mm → Stand p l e ({ frames := 5, cells := 3, slots := 10, locals := 66 } : Room) (s.setVm T210.vm) m #[(.ref a1), (.int mn_), (.int mx_)] below meth c T235 Lo235 2 8 → T235.heap = h210 → Fr n0 Lo235 → (i.toInt = ((1 + j : Nat) : Int)) → (1 + j ≤ n1) → (One s9) → ((vb = 1 ∧ vv.toInt = own_vl cs 1 j ∧ ∀ q : Nat, 1 ≤ q → q < 1 + j → own_isd (cs q)) ∨ (vb = 0 ∧ ¬ own_okd cs 1 n1)) → own_Go p.tables e below (own_PW below s Z own_EL (own_Q10 Z a1 mn_ mx_ t kt cd n1 cs G1 G3 aE h0 n0) ({ frames := 5, cells := 3, slots := 10, locals := 66 } : Room).cells ({ frames := 5, cells := 3, slots := 10, locals := 66 } : Room).slots) (T235.setTop (mkF m 49 #[oR a1, oI mn_, oI mx_, oI (1 : Int32), oI ((Int32.ofNat n1) - (1 : Int32)), oI vb, oJ vv, oS, oI i, s9] [])) := by
    intro mm
    induction mm using Nat.strongRecOn with
    | _ mm ih235 =>
      intro j i vb vv s9 T235 Lo235 hm235 X235 e235 N235 hi hj hs9 hvb
      refine own_st (fun t_ k_ => XS.iload X235.here hx rfl (hb hby own_d10_49) rfl k_) ?_
      show own_at p e below _ T235 m 51 #[oR a1, oI mn_, oI mx_, oI (1 : Int32), oI ((Int32.ofNat n1) - (1 : Int32)), oI vb, oJ vv, oS, oI i, s9] [(.int vb)]
      by_cases c51_236 : vb = (0 : Int32)
      · skip
        have hx5 : ¬ own_okd cs 1 n1 := by rcases hvb with z_ | z_; exact absurd (c51_236.symm.trans z_.1) (by decide); exact z_.2
        have hng : ¬ own_good cs n1 mn_ mx_ := fun z_ => by unfold own_good at z_; rw [hS] at z_; exact hx5 z_.1
        refine own_st (fun t_ k_ => XS.ifYes X235.here hx rfl (pc0 := 51) (pc' := 113) rfl (hb hby own_d10_51) rfl ((if0 _ _).trans (teq c51_236).1) (by decide) (by decide) (XS.iloadN X235.here hx rfl (hb hby own_d10_113) rfl (XS.iconst X235.here hx rfl (hb hby own_d10_114) (XS.icmpNo X235.here hx rfl (hb hby own_d10_115) rfl (teq (by decide : (1 : Int32) = (1 : Int32))).2 (XS.lload X235.here hx rfl (hb hby own_d10_118) rfl (XS.lneg X235.here hx rfl (hb hby own_d10_120) rfl k_)))))) ?_
        show own_at p e below _ T235 m 121 #[oR a1, oI mn_, oI mx_, oI (1 : Int32), oI ((Int32.ofNat n1) - (1 : Int32)), oI vb, oJ vv, oS, oI i, s9] [(.long (-vv))]
        refine own_st (fun t_ k_ => XS.lstore X235.here hx rfl (hb hby own_d10_121) rfl (l' := #[oR a1, oI mn_, oI mx_, oI (1 : Int32), oI ((Int32.ofNat n1) - (1 : Int32)), oI vb, oJ (-vv), oS, oI i, s9]) rfl k_) ?_
        show own_at p e below _ T235 m 123 #[oR a1, oI mn_, oI mx_, oI (1 : Int32), oI ((Int32.ofNat n1) - (1 : Int32)), oI vb, oJ (-vv), oS, oI i, s9] []
        obtain ⟨_, _, ⟨T237, L237, k237, n237⟩, -, X237, ⟨Lc237, hQ237, l237, y237, z237⟩, st237⟩ := Jvm.LawKit.callS X235 hx (y := own_n23) hown (mvT hZ (own_w hw 109 rfl)) (mvT hZ (own_w hw 110 rfl)) (mvT hZ (own_w hw 111 rfl)) (mvT hZ (own_w hw 112 rfl)) (by decide) (backOf (W := 0) (own_rm21 l Z a0 hw [] aE h210 n0 (Nat.le_trans Z0 K210.1) (q5.ext E210) q13) hZ (own_w hw 112 rfl) (own_w hw 111 rfl) (by decide) (by decide)) (g := (mkF m 123 #[oR a1, oI mn_, oI mx_, oI (1 : Int32), oI ((Int32.ofNat n1) - (1 : Int32)), oI vb, oJ (-vv), oS, oI i, s9] [])) rfl (by rw [hml]; rfl) (argsL := []) (rest := []) (lenOf own_pd21 rfl) rfl (own_hW rfl) (hb hby own_d10_123) (fun _ _ => ⟨rfl, e235, (by decide : 2 + 0 ≤ _), (by decide : 8 + 0 ≤ _)⟩)
        dsimp only [Pt.U, Pt.locs, Pt.cells, Pt.slots] at X237 l237 y237 z237 st237 hQ237
        subst y237 z237
        obtain ⟨rfl, N237q, eq237⟩ := hQ237
        have N237 : Fr n0 L237 := by rw [l237]; exact Fr.app N235 N237q
        refine own_st (st237) ?_
        refine own_st (fun t_ k_ => XS.astore X237.here hx rfl (hb hby own_d10_126) rfl rfl (l' := #[oR a1, oI mn_, oI mx_, oI (1 : Int32), oI ((Int32.ofNat n1) - (1 : Int32)), oI vb, oJ (-vv), oS, oR aE, s9]) rfl (XS.iload X237.here hx rfl (hb hby own_d10_128) rfl (XS.ifYes X237.here hx rfl (pc0 := 130) (pc' := 157) rfl (hb hby own_d10_130) rfl ((if0 _ _).trans (teq c51_236).1) (by decide) (by decide) (XS.aload X237.here hx rfl (hb hby own_d10_157) rfl rfl k_)))) ?_
        show own_at p e below _ T237 m 159 #[oR a1, oI mn_, oI mx_, oI (1 : Int32), oI ((Int32.ofNat n1) - (1 : Int32)), oI vb, oJ (-vv), oS, oR aE, s9] [(.ref aE)]
        exact own_retW (w := (.ref aE)) X237 hx hnl hZ (own_hEL hw) S210 (by rw [eq237]; exact kk210) (by rw [eq237]; exact C210) Bd.returns rfl (Or.inr (Or.inr (Or.inr (Or.inr ⟨rfl, rfl, rfl⟩)))) (hb hby own_d10_159) ⟨aE, (0 : Int32), (0 : Int32), rfl, N237, (by rw [eq237]; exact K210), (by rw [eq237]; exact (q14.ext (q5.ext E210).2)), (by rw [eq237]; exact (q15.ext (q5.ext E210).2)), (by rw [eq237]; exact (q16.ext (q5.ext E210).2)), ⟨fun z_ => absurd z_ hng, fun _ => rfl⟩⟩ (by decide) (by decide)
      have hin := (hvb.resolve_right (fun z_ => c51_236 z_.1)).2
      refine own_st (fun t_ k_ => XS.ifNo X235.here hx rfl (hb hby own_d10_51) rfl ((if0 _ _).trans (feq c51_236).1) (XS.iload X235.here hx rfl (hb hby own_d10_54) rfl (XS.aloadN X235.here hx rfl (hb hby own_d10_56) rfl rfl k_))) ?_
      show own_at p e below _ T235 m 57 #[oR a1, oI mn_, oI mx_, oI (1 : Int32), oI ((Int32.ofNat n1) - (1 : Int32)), oI vb, oJ vv, oS, oI i, s9] [(.ref a1), (.int i)]
      obtain ⟨cq238, kq238, q238a, q238b, q238c⟩ := isOf hZ e235 (q0.ext E210)
      obtain ⟨_, _, ⟨T238, L238, k238, n238⟩, -, X238, ⟨Lc238, hQ238, l238, y238, z238⟩, st238⟩ := X235.virtualBack hx (y := own_n27) (z := own_n27) hown (mvT hZ (own_w hw 85 rfl)) (mvT hZ (own_w hw 72 rfl)) (notFace_of_selects (args := #[]) (mvT hZ (own_w hw 74 rfl))) (mvT hZ (own_w hw 74 rfl)) (mvT hZ (own_w hw 73 rfl)) (by decide) (backOf (W := 1) (own_rm13a l Z a0 hw [] a1 t kt cd n1 cs G1 h210 n0 (Nat.le_trans Z0 K210.1) (q0.ext E210) (q1.ext E210) (q2.ext E210) (q3.ext E210) hcd (q5.ext E210) q6 hG1 hn12) hZ (own_w hw 75 rfl) (own_w hw 27 rfl) (by decide) (by decide)) q238a q238c (g := (mkF m 57 #[oR a1, oI mn_, oI mx_, oI (1 : Int32), oI ((Int32.ofNat n1) - (1 : Int32)), oI vb, oJ vv, oS, oI i, s9] [(.ref a1), (.int i)])) rfl (by rw [hml]; rfl) (Steps.refl _) (argsL := []) (rest := [(.int i)]) (lenOf own_pd17 rfl) rfl (own_hW rfl) (hb hby own_d10_57) (fun _ _ => ⟨rfl, e235, (by decide : 2 + 0 ≤ _), (by decide : 8 + 0 ≤ _)⟩)
      dsimp only [Pt.U, Pt.locs, Pt.cells, Pt.slots] at X238 l238 y238 z238 st238 hQ238
      subst y238 z238
      obtain ⟨rfl, N238q, eq238⟩ := hQ238
      have N238 : Fr n0 L238 := by rw [l238]; exact Fr.app N235 N238q
      refine own_tr st238 ?_
      show own_at p e below _ T238 m 60 #[oR a1, oI mn_, oI mx_, oI (1 : Int32), oI ((Int32.ofNat n1) - (1 : Int32)), oI vb, oJ vv, oS, oI i, s9] [(.int (Int32.ofNat n1)), (.int i)]
      by_cases c60_239 : i < (Int32.ofNat n1)
      · skip
        have hkn : 1 + j < n1 := (own_ltp hi (own_toN (by omega))).mp c60_239
        refine own_st (fun t_ k_ => XS.icmpNo X238.here hx rfl (hb hby own_d10_60) rfl (tlt c60_239).2.1 (XS.aloadN X238.here hx rfl (hb hby own_d10_63) rfl rfl (XS.iload X238.here hx rfl (hb hby own_d10_64) rfl k_))) ?_
        show own_at p e below _ T238 m 66 #[oR a1, oI mn_, oI mx_, oI (1 : Int32), oI ((Int32.ofNat n1) - (1 : Int32)), oI vb, oJ vv, oS, oI i, s9] [(.int i), (.ref a1)]
        obtain ⟨cq240, kq240, q240a, q240b, q240c⟩ := isOf hZ eq238 (q0.ext E210)
        obtain ⟨_, _, ⟨T240, L240, k240, n240⟩, -, X240, ⟨Lc240, hQ240, l240, y240, z240⟩, st240⟩ := X238.virtualBack hx (y := own_n17) (z := own_n17) hown (mvT hZ (own_w hw 86 rfl)) (mvT hZ (own_w hw 87 rfl)) (notFace_of_selects (args := #[]) (mvT hZ (own_w hw 89 rfl))) (mvT hZ (own_w hw 89 rfl)) (mvT hZ (own_w hw 88 rfl)) (by decide) (backOf (W := 0) (own_rm16 l Z a0 hw [] a1 i t kt cd n1 cs (1 + j) G1 G3 h210 n0 (Nat.le_trans Z0 K210.1) (q0.ext E210) (q1.ext E210) (q2.ext E210) (q3.ext E210) hcd (q5.ext E210) q6 hG1 q8 rG3 q10 q11 q12 ⟨hi, hkn, (by omega)⟩ (hall _ hkn)) hZ (own_w hw 90 rfl) (own_w hw 27 rfl) (by decide) (by decide)) q240a q240c (g := (mkF m 66 #[oR a1, oI mn_, oI mx_, oI (1 : Int32), oI ((Int32.ofNat n1) - (1 : Int32)), oI vb, oJ vv, oS, oI i, s9] [(.int i), (.ref a1)])) rfl (by rw [hml]; rfl) (Steps.refl _) (argsL := [(.int i)]) (rest := []) (lenOf own_pd22 rfl) rfl (own_hW rfl) (hb hby own_d10_66) (fun _ _ => ⟨rfl, eq238, (by decide : 2 + 0 ≤ _), (by decide : 8 + 0 ≤ _)⟩)
        dsimp only [Pt.U, Pt.locs, Pt.cells, Pt.slots] at X240 l240 y240 z240 st240 hQ240
        subst y240 z240
        obtain ⟨rfl, N240q, eq240⟩ := hQ240
        have N240 : Fr n0 L240 := by rw [l240]; exact Fr.app N238 N240q
        refine own_tr st240 ?_
        refine own_st (fun t_ k_ => XS.istoreS X240.here hx rfl (hb hby own_d10_69) rfl rfl hs9 (XS.iload X240.here hx rfl (hb hby own_d10_71) rfl (XS.bipush X240.here hx rfl (hb hby own_d10_73) k_))) ?_
        show own_at p e below _ T240 m 75 #[oR a1, oI mn_, oI mx_, oI (1 : Int32), oI ((Int32.ofNat n1) - (1 : Int32)), oI vb, oJ vv, oS, oI i, oI (cs (1 + j))] [(.int (48 : Int32)), (.int (cs (1 + j)))]
        by_cases c75_241 : (cs (1 + j)) < (48 : Int32)
        · skip
          refine own_st (fun t_ k_ => XS.icmpYes X240.here hx rfl (pc0 := 75) (pc' := 89) rfl (hb hby own_d10_75) rfl (tlt c75_241).1 (by decide) (by decide) (XS.iconst X240.here hx rfl (hb hby own_d10_89) (XS.istore X240.here hx rfl (hb hby own_d10_90) rfl (l' := #[oR a1, oI mn_, oI mx_, oI (1 : Int32), oI ((Int32.ofNat n1) - (1 : Int32)), oI (0 : Int32), oJ vv, oS, oI i, oI (cs (1 + j))]) rfl (XS.lload X240.here hx rfl (hb hby own_d10_92) rfl k_)))) ?_
          show own_at p e below _ T240 m 94 #[oR a1, oI mn_, oI mx_, oI (1 : Int32), oI ((Int32.ofNat n1) - (1 : Int32)), oI (0 : Int32), oJ vv, oS, oI i, oI (cs (1 + j))] [(.long vv)]
          refine own_st (X240.ldc2Long hx hown (mvT hZ (own_w hw 108 rfl)) (g := (mkF m 94 #[oR a1, oI mn_, oI mx_, oI (1 : Int32), oI ((Int32.ofNat n1) - (1 : Int32)), oI (0 : Int32), oJ vv, oS, oI i, oI (cs (1 + j))] [(.long vv)])) rfl (hb hby own_d10_94)) ?_
          refine own_st (fun t_ k_ => XS.lmul X240.here hx rfl (hb hby own_d10_97) rfl (XS.iload X240.here hx rfl (hb hby own_d10_98) rfl (XS.bipush X240.here hx rfl (hb hby own_d10_100) (XS.isub X240.here hx rfl (hb hby own_d10_102) rfl (XS.i2l X240.here hx rfl (hb hby own_d10_103) rfl (XS.ladd X240.here hx rfl (hb hby own_d10_104) rfl k_)))))) ?_
          show own_at p e below _ T240 m 105 #[oR a1, oI mn_, oI mx_, oI (1 : Int32), oI ((Int32.ofNat n1) - (1 : Int32)), oI (0 : Int32), oJ vv, oS, oI i, oI (cs (1 + j))] [(.long ((vv * (10 : Int64)) + (((cs (1 + j)) - (48 : Int32)).toInt64)))]
          refine own_st (fun t_ k_ => XS.lstore X240.here hx rfl (hb hby own_d10_105) rfl (l' := #[oR a1, oI mn_, oI mx_, oI (1 : Int32), oI ((Int32.ofNat n1) - (1 : Int32)), oI (0 : Int32), oJ ((vv * (10 : Int64)) + (((cs (1 + j)) - (48 : Int32)).toInt64)), oS, oI i, oI (cs (1 + j))]) rfl (XS.iinc X240.here hx rfl (hb hby own_d10_107) rfl (l' := #[oR a1, oI mn_, oI mx_, oI (1 : Int32), oI ((Int32.ofNat n1) - (1 : Int32)), oI (0 : Int32), oJ ((vv * (10 : Int64)) + (((cs (1 + j)) - (48 : Int32)).toInt64)), oS, oI (i + (1 : Int32)), oI (cs (1 + j))]) rfl (XS.goto X240.here hx rfl (pc0 := 110) (pc' := 49) rfl (hb hby own_d10_110) (by decide) (by decide) k_))) ?_
          show own_at p e below _ T240 m 49 #[oR a1, oI mn_, oI mx_, oI (1 : Int32), oI ((Int32.ofNat n1) - (1 : Int32)), oI (0 : Int32), oJ ((vv * (10 : Int64)) + (((cs (1 + j)) - (48 : Int32)).toInt64)), oS, oI (i + (1 : Int32)), oI (cs (1 + j))] []
          exact ih235 _ (by omega) (j + 1) (i + (1 : Int32)) (0 : Int32) ((vv * (10 : Int64)) + (((cs (1 + j)) - (48 : Int32)).toInt64)) (.val (.int (cs (1 + j)))) T240 _ rfl X240 eq240 N240 (own_inc (k := 1 + j) hi (by omega)) (by omega) (One.val rfl) (Or.inr ⟨rfl, fun z_ => (own_isd1 c75_241) (z_.2.2 _ (by omega) (by omega))⟩)
        refine own_st (fun t_ k_ => XS.icmpNo X240.here hx rfl (hb hby own_d10_75) rfl (flt c75_241).1 (XS.iload X240.here hx rfl (hb hby own_d10_78) rfl (XS.bipush X240.here hx rfl (hb hby own_d10_80) k_))) ?_
        show own_at p e below _ T240 m 82 #[oR a1, oI mn_, oI mx_, oI (1 : Int32), oI ((Int32.ofNat n1) - (1 : Int32)), oI vb, oJ vv, oS, oI i, oI (cs (1 + j))] [(.int (57 : Int32)), (.int (cs (1 + j)))]
        by_cases c82_242 : (57 : Int32) < (cs (1 + j))
        · skip
          refine own_st (fun t_ k_ => XS.icmpYes X240.here hx rfl (pc0 := 82) (pc' := 89) rfl (hb hby own_d10_82) rfl (tlt c82_242).2.2.1 (by decide) (by decide) (XS.iconst X240.here hx rfl (hb hby own_d10_89) (XS.istore X240.here hx rfl (hb hby own_d10_90) rfl (l' := #[oR a1, oI mn_, oI mx_, oI (1 : Int32), oI ((Int32.ofNat n1) - (1 : Int32)), oI (0 : Int32), oJ vv, oS, oI i, oI (cs (1 + j))]) rfl (XS.lload X240.here hx rfl (hb hby own_d10_92) rfl k_)))) ?_
          show own_at p e below _ T240 m 94 #[oR a1, oI mn_, oI mx_, oI (1 : Int32), oI ((Int32.ofNat n1) - (1 : Int32)), oI (0 : Int32), oJ vv, oS, oI i, oI (cs (1 + j))] [(.long vv)]
          refine own_st (X240.ldc2Long hx hown (mvT hZ (own_w hw 108 rfl)) (g := (mkF m 94 #[oR a1, oI mn_, oI mx_, oI (1 : Int32), oI ((Int32.ofNat n1) - (1 : Int32)), oI (0 : Int32), oJ vv, oS, oI i, oI (cs (1 + j))] [(.long vv)])) rfl (hb hby own_d10_94)) ?_
          refine own_st (fun t_ k_ => XS.lmul X240.here hx rfl (hb hby own_d10_97) rfl (XS.iload X240.here hx rfl (hb hby own_d10_98) rfl (XS.bipush X240.here hx rfl (hb hby own_d10_100) (XS.isub X240.here hx rfl (hb hby own_d10_102) rfl (XS.i2l X240.here hx rfl (hb hby own_d10_103) rfl (XS.ladd X240.here hx rfl (hb hby own_d10_104) rfl k_)))))) ?_
          show own_at p e below _ T240 m 105 #[oR a1, oI mn_, oI mx_, oI (1 : Int32), oI ((Int32.ofNat n1) - (1 : Int32)), oI (0 : Int32), oJ vv, oS, oI i, oI (cs (1 + j))] [(.long ((vv * (10 : Int64)) + (((cs (1 + j)) - (48 : Int32)).toInt64)))]
          refine own_st (fun t_ k_ => XS.lstore X240.here hx rfl (hb hby own_d10_105) rfl (l' := #[oR a1, oI mn_, oI mx_, oI (1 : Int32), oI ((Int32.ofNat n1) - (1 : Int32)), oI (0 : Int32), oJ ((vv * (10 : Int64)) + (((cs (1 + j)) - (48 : Int32)).toInt64)), oS, oI i, oI (cs (1 + j))]) rfl (XS.iinc X240.here hx rfl (hb hby own_d10_107) rfl (l' := #[oR a1, oI mn_, oI mx_, oI (1 : Int32), oI ((Int32.ofNat n1) - (1 : Int32)), oI (0 : Int32), oJ ((vv * (10 : Int64)) + (((cs (1 + j)) - (48 : Int32)).toInt64)), oS, oI (i + (1 : Int32)), oI (cs (1 + j))]) rfl (XS.goto X240.here hx rfl (pc0 := 110) (pc' := 49) rfl (hb hby own_d10_110) (by decide) (by decide) k_))) ?_
          show own_at p e below _ T240 m 49 #[oR a1, oI mn_, oI mx_, oI (1 : Int32), oI ((Int32.ofNat n1) - (1 : Int32)), oI (0 : Int32), oJ ((vv * (10 : Int64)) + (((cs (1 + j)) - (48 : Int32)).toInt64)), oS, oI (i + (1 : Int32)), oI (cs (1 + j))] []
          exact ih235 _ (by omega) (j + 1) (i + (1 : Int32)) (0 : Int32) ((vv * (10 : Int64)) + (((cs (1 + j)) - (48 : Int32)).toInt64)) (.val (.int (cs (1 + j)))) T240 _ rfl X240 eq240 N240 (own_inc (k := 1 + j) hi (by omega)) (by omega) (One.val rfl) (Or.inr ⟨rfl, fun z_ => (own_isd2 c82_242) (z_.2.2 _ (by omega) (by omega))⟩)
        refine own_st (fun t_ k_ => XS.icmpNo X240.here hx rfl (hb hby own_d10_82) rfl (flt c82_242).2.2.1 (XS.iconst X240.here hx rfl (hb hby own_d10_85) (XS.goto X240.here hx rfl (pc0 := 86) (pc' := 90) rfl (hb hby own_d10_86) (by decide) (by decide) (XS.istore X240.here hx rfl (hb hby own_d10_90) rfl (l' := #[oR a1, oI mn_, oI mx_, oI (1 : Int32), oI ((Int32.ofNat n1) - (1 : Int32)), oI (1 : Int32), oJ vv, oS, oI i, oI (cs (1 + j))]) rfl (XS.lload X240.here hx rfl (hb hby own_d10_92) rfl k_))))) ?_
        show own_at p e below _ T240 m 94 #[oR a1, oI mn_, oI mx_, oI (1 : Int32), oI ((Int32.ofNat n1) - (1 : Int32)), oI (1 : Int32), oJ vv, oS, oI i, oI (cs (1 + j))] [(.long vv)]
        refine own_st (X240.ldc2Long hx hown (mvT hZ (own_w hw 108 rfl)) (g := (mkF m 94 #[oR a1, oI mn_, oI mx_, oI (1 : Int32), oI ((Int32.ofNat n1) - (1 : Int32)), oI (1 : Int32), oJ vv, oS, oI i, oI (cs (1 + j))] [(.long vv)])) rfl (hb hby own_d10_94)) ?_
        refine own_st (fun t_ k_ => XS.lmul X240.here hx rfl (hb hby own_d10_97) rfl (XS.iload X240.here hx rfl (hb hby own_d10_98) rfl (XS.bipush X240.here hx rfl (hb hby own_d10_100) (XS.isub X240.here hx rfl (hb hby own_d10_102) rfl (XS.i2l X240.here hx rfl (hb hby own_d10_103) rfl (XS.ladd X240.here hx rfl (hb hby own_d10_104) rfl k_)))))) ?_
        show own_at p e below _ T240 m 105 #[oR a1, oI mn_, oI mx_, oI (1 : Int32), oI ((Int32.ofNat n1) - (1 : Int32)), oI (1 : Int32), oJ vv, oS, oI i, oI (cs (1 + j))] [(.long ((vv * (10 : Int64)) + (((cs (1 + j)) - (48 : Int32)).toInt64)))]
        refine own_st (fun t_ k_ => XS.lstore X240.here hx rfl (hb hby own_d10_105) rfl (l' := #[oR a1, oI mn_, oI mx_, oI (1 : Int32), oI ((Int32.ofNat n1) - (1 : Int32)), oI (1 : Int32), oJ ((vv * (10 : Int64)) + (((cs (1 + j)) - (48 : Int32)).toInt64)), oS, oI i, oI (cs (1 + j))]) rfl (XS.iinc X240.here hx rfl (hb hby own_d10_107) rfl (l' := #[oR a1, oI mn_, oI mx_, oI (1 : Int32), oI ((Int32.ofNat n1) - (1 : Int32)), oI (1 : Int32), oJ ((vv * (10 : Int64)) + (((cs (1 + j)) - (48 : Int32)).toInt64)), oS, oI (i + (1 : Int32)), oI (cs (1 + j))]) rfl (XS.goto X240.here hx rfl (pc0 := 110) (pc' := 49) rfl (hb hby own_d10_110) (by decide) (by decide) k_))) ?_
        show own_at p e below _ T240 m 49 #[oR a1, oI mn_, oI mx_, oI (1 : Int32), oI ((Int32.ofNat n1) - (1 : Int32)), oI (1 : Int32), oJ ((vv * (10 : Int64)) + (((cs (1 + j)) - (48 : Int32)).toInt64)), oS, oI (i + (1 : Int32)), oI (cs (1 + j))] []
        have hcd_ := (own_isdI c75_241 c82_242)
        exact ih235 _ (by omega) (j + 1) (i + (1 : Int32)) (1 : Int32) ((vv * (10 : Int64)) + (((cs (1 + j)) - (48 : Int32)).toInt64)) (.val (.int (cs (1 + j)))) T240 _ rfl X240 eq240 N240 (own_inc (k := 1 + j) hi (by omega)) (by omega) (One.val rfl) (Or.inl ⟨rfl, (by have b_ := own_vlB hin.2; exact own_vst hin.1 b_.1 (Int.lt_of_lt_of_le b_.2 (by have y_ : 10 ^ j ≤ 10 ^ 10 := Nat.pow_le_pow_right (by decide) (by omega); have x_ : (10 : Nat) ^ 10 = 10000000000 := (by decide); omega)) hcd_), (fun q h1_ h2_ => by by_cases e_ : q = 1 + j; exact e_ ▸ hcd_; exact hin.2 q h1_ (by omega))⟩)
      have hkn : 1 + j = n1 := by have q := mt (own_ltp hi (own_toN (by omega))).mpr c60_239; omega
      refine own_st (fun t_ k_ => XS.icmpYes X238.here hx rfl (pc0 := 60) (pc' := 113) rfl (hb hby own_d10_60) rfl (flt c60_239).2.1 (by decide) (by decide) (XS.iloadN X238.here hx rfl (hb hby own_d10_113) rfl (XS.iconst X238.here hx rfl (hb hby own_d10_114) (XS.icmpNo X238.here hx rfl (hb hby own_d10_115) rfl (teq (by decide : (1 : Int32) = (1 : Int32))).2 (XS.lload X238.here hx rfl (hb hby own_d10_118) rfl (XS.lneg X238.here hx rfl (hb hby own_d10_120) rfl k_)))))) ?_
      show own_at p e below _ T238 m 121 #[oR a1, oI mn_, oI mx_, oI (1 : Int32), oI ((Int32.ofNat n1) - (1 : Int32)), oI vb, oJ vv, oS, oI i, s9] [(.long (-vv))]
      refine own_st (fun t_ k_ => XS.lstore X238.here hx rfl (hb hby own_d10_121) rfl (l' := #[oR a1, oI mn_, oI mx_, oI (1 : Int32), oI ((Int32.ofNat n1) - (1 : Int32)), oI vb, oJ (-vv), oS, oI i, s9]) rfl k_) ?_
      show own_at p e below _ T238 m 123 #[oR a1, oI mn_, oI mx_, oI (1 : Int32), oI ((Int32.ofNat n1) - (1 : Int32)), oI vb, oJ (-vv), oS, oI i, s9] []
      obtain ⟨_, _, ⟨T243, L243, k243, n243⟩, -, X243, ⟨Lc243, hQ243, l243, y243, z243⟩, st243⟩ := Jvm.LawKit.callS X238 hx (y := own_n23) hown (mvT hZ (own_w hw 109 rfl)) (mvT hZ (own_w hw 110 rfl)) (mvT hZ (own_w hw 111 rfl)) (mvT hZ (own_w hw 112 rfl)) (by decide) (backOf (W := 0) (own_rm21 l Z a0 hw [] aE h210 n0 (Nat.le_trans Z0 K210.1) (q5.ext E210) q13) hZ (own_w hw 112 rfl) (own_w hw 111 rfl) (by decide) (by decide)) (g := (mkF m 123 #[oR a1, oI mn_, oI mx_, oI (1 : Int32), oI ((Int32.ofNat n1) - (1 : Int32)), oI vb, oJ (-vv), oS, oI i, s9] [])) rfl (by rw [hml]; rfl) (argsL := []) (rest := []) (lenOf own_pd21 rfl) rfl (own_hW rfl) (hb hby own_d10_123) (fun _ _ => ⟨rfl, eq238, (by decide : 2 + 0 ≤ _), (by decide : 8 + 0 ≤ _)⟩)
      dsimp only [Pt.U, Pt.locs, Pt.cells, Pt.slots] at X243 l243 y243 z243 st243 hQ243
      subst y243 z243
      obtain ⟨rfl, N243q, eq243⟩ := hQ243
      have N243 : Fr n0 L243 := by rw [l243]; exact Fr.app N238 N243q
      refine own_st (st243) ?_
      refine own_st (fun t_ k_ => XS.astore X243.here hx rfl (hb hby own_d10_126) rfl rfl (l' := #[oR a1, oI mn_, oI mx_, oI (1 : Int32), oI ((Int32.ofNat n1) - (1 : Int32)), oI vb, oJ (-vv), oS, oR aE, s9]) rfl k_) ?_
      show own_at p e below _ T243 m 128 #[oR a1, oI mn_, oI mx_, oI (1 : Int32), oI ((Int32.ofNat n1) - (1 : Int32)), oI vb, oJ (-vv), oS, oR aE, s9] []
      have b_ := own_vlB hin.2
      have y_ : 10 ^ j ≤ 10 ^ 10 := Nat.pow_le_pow_right (by decide) (by omega)
      have x_ : (10 : Nat) ^ 10 = 10000000000 := by decide
      have hokd : own_okd cs 1 n1 := ⟨by omega, by omega, fun q h1_ h2_ => hin.2 q h1_ (by omega)⟩
      have hval : ((-vv)).toInt = own_pv cs 1 n1 := by unfold own_pv; rw [show n1 - 1 = j by omega]; rw [if_pos rfl]; exact own_lneg hin.1 (by omega) (by omega)
      refine own_st (fun t_ k_ => XS.iload X243.here hx rfl (hb hby own_d10_128) rfl (XS.ifNo X243.here hx rfl (hb hby own_d10_130) rfl ((if0 _ _).trans (feq c51_236).1) (XS.lload X243.here hx rfl (hb hby own_d10_133) rfl (XS.iloadN X243.here hx rfl (hb hby own_d10_135) rfl (XS.i2l X243.here hx rfl (hb hby own_d10_136) rfl (XS.lcmp X243.here hx rfl (hb hby own_d10_137) rfl k_)))))) ?_
      show own_at p e below _ T243 m 138 #[oR a1, oI mn_, oI mx_, oI (1 : Int32), oI ((Int32.ofNat n1) - (1 : Int32)), oI vb, oJ (-vv), oS, oR aE, s9] [(.int (lcmpW (-vv) (mn_.toInt64)))]
      by_cases c138_244 : (lcmpW (-vv) (mn_.toInt64)) < (0 : Int32)
      · skip
        have hng : ¬ own_good cs n1 mn_ mx_ := fun z_ => by unfold own_good at z_; rw [hS] at z_; exact absurd z_.2.1 (Int.not_le.mpr ((own_lcL hval).mp c138_244))
        refine own_st (fun t_ k_ => XS.ifYes X243.here hx rfl (pc0 := 138) (pc' := 157) rfl (hb hby own_d10_138) rfl ((if0 _ _).trans (tlt c138_244).1) (by decide) (by decide) (XS.aload X243.here hx rfl (hb hby own_d10_157) rfl rfl k_)) ?_
        show own_at p e below _ T243 m 159 #[oR a1, oI mn_, oI mx_, oI (1 : Int32), oI ((Int32.ofNat n1) - (1 : Int32)), oI vb, oJ (-vv), oS, oR aE, s9] [(.ref aE)]
        exact own_retW (w := (.ref aE)) X243 hx hnl hZ (own_hEL hw) S210 (by rw [eq243]; exact kk210) (by rw [eq243]; exact C210) Bd.returns rfl (Or.inr (Or.inr (Or.inr (Or.inr ⟨rfl, rfl, rfl⟩)))) (hb hby own_d10_159) ⟨aE, (0 : Int32), (0 : Int32), rfl, N243, (by rw [eq243]; exact K210), (by rw [eq243]; exact (q14.ext (q5.ext E210).2)), (by rw [eq243]; exact (q15.ext (q5.ext E210).2)), (by rw [eq243]; exact (q16.ext (q5.ext E210).2)), ⟨fun z_ => absurd z_ hng, fun _ => rfl⟩⟩ (by decide) (by decide)
      refine own_st (fun t_ k_ => XS.ifNo X243.here hx rfl (hb hby own_d10_138) rfl ((if0 _ _).trans (flt c138_244).1) (XS.lload X243.here hx rfl (hb hby own_d10_141) rfl (XS.iloadN X243.here hx rfl (hb hby own_d10_143) rfl (XS.i2l X243.here hx rfl (hb hby own_d10_144) rfl (XS.lcmp X243.here hx rfl (hb hby own_d10_145) rfl k_))))) ?_
      show own_at p e below _ T243 m 146 #[oR a1, oI mn_, oI mx_, oI (1 : Int32), oI ((Int32.ofNat n1) - (1 : Int32)), oI vb, oJ (-vv), oS, oR aE, s9] [(.int (lcmpW (-vv) (mx_.toInt64)))]
      by_cases c146_245 : (0 : Int32) < (lcmpW (-vv) (mx_.toInt64))
      · skip
        have hng : ¬ own_good cs n1 mn_ mx_ := fun z_ => by unfold own_good at z_; rw [hS] at z_; exact absurd z_.2.2 (Int.not_le.mpr ((own_lcG hval).mp c146_245))
        refine own_st (fun t_ k_ => XS.ifYes X243.here hx rfl (pc0 := 146) (pc' := 157) rfl (hb hby own_d10_146) rfl ((if0 _ _).trans (tlt c146_245).2.2.1) (by decide) (by decide) (XS.aload X243.here hx rfl (hb hby own_d10_157) rfl rfl k_)) ?_
        show own_at p e below _ T243 m 159 #[oR a1, oI mn_, oI mx_, oI (1 : Int32), oI ((Int32.ofNat n1) - (1 : Int32)), oI vb, oJ (-vv), oS, oR aE, s9] [(.ref aE)]
        exact own_retW (w := (.ref aE)) X243 hx hnl hZ (own_hEL hw) S210 (by rw [eq243]; exact kk210) (by rw [eq243]; exact C210) Bd.returns rfl (Or.inr (Or.inr (Or.inr (Or.inr ⟨rfl, rfl, rfl⟩)))) (hb hby own_d10_159) ⟨aE, (0 : Int32), (0 : Int32), rfl, N243, (by rw [eq243]; exact K210), (by rw [eq243]; exact (q14.ext (q5.ext E210).2)), (by rw [eq243]; exact (q15.ext (q5.ext E210).2)), (by rw [eq243]; exact (q16.ext (q5.ext E210).2)), ⟨fun z_ => absurd z_ hng, fun _ => rfl⟩⟩ (by decide) (by decide)
      have hgg : own_good cs n1 mn_ mx_ := by unfold own_good; rw [hS]; exact ⟨hokd, Int.not_lt.mp (mt (own_lcL hval).mpr c138_244), Int.not_lt.mp (mt (own_lcG hval).mpr c146_245)⟩
      refine own_st (fun t_ k_ => XS.ifNo X243.here hx rfl (hb hby own_d10_146) rfl ((if0 _ _).trans (flt c146_245).2.2.1) (XS.lload X243.here hx rfl (hb hby own_d10_149) rfl (XS.l2i X243.here hx rfl (hb hby own_d10_151) rfl k_))) ?_
      show own_at p e below _ T243 m 152 #[oR a1, oI mn_, oI mx_, oI (1 : Int32), oI ((Int32.ofNat n1) - (1 : Int32)), oI vb, oJ (-vv), oS, oR aE, s9] [(.int ((-vv).toInt32))]
      obtain ⟨_, _, ⟨T246, L246, k246, n246⟩, -, X246, ⟨Lc246, hQ246, l246, y246, z246⟩, st246⟩ := Jvm.LawKit.callS X243 hx (y := own_n22) hown (mvT hZ (own_w hw 114 rfl)) (mvT hZ (own_w hw 115 rfl)) (mvT hZ (own_w hw 111 rfl)) (mvT hZ (own_w hw 116 rfl)) (by decide) (backOf (W := 0) (own_rm22 l Z a0 hw [] ((-vv).toInt32) h210 n0 (Nat.le_trans Z0 K210.1)) hZ (own_w hw 116 rfl) (own_w hw 111 rfl) (by decide) (by decide)) (g := (mkF m 152 #[oR a1, oI mn_, oI mx_, oI (1 : Int32), oI ((Int32.ofNat n1) - (1 : Int32)), oI vb, oJ (-vv), oS, oR aE, s9] [(.int ((-vv).toInt32))])) rfl (by rw [hml]; rfl) (argsL := [(.int ((-vv).toInt32))]) (rest := []) (lenOf own_pd23 rfl) rfl (own_hW rfl) (hb hby own_d10_152) (fun _ _ => ⟨rfl, eq243, (by decide : 2 + 1 ≤ _), (by decide : 8 + 2 ≤ _)⟩)
      dsimp only [Pt.U, Pt.locs, Pt.cells, Pt.slots] at X246 l246 y246 z246 st246 hQ246
      subst y246 z246
      obtain ⟨o_246, rfl, N246q, Kq246, P246_0, P246_1, P246_2, P246_3⟩ := hQ246
      have N246 : Fr n0 L246 := by rw [l246]; exact Fr.app N243 N246q
      have K246 : Keep h0 T246.heap [] := K210.trans Kq246 all0
      have c246 : CHr Z own_EL _ h210 _ T246.heap := CHr.keep Kq246 own_sl0 C210.1
      have C246 := C210.trans c246
      have kk246 := Nat.le_trans kk210 c246.2.1
      have fr246_0 : h0.size ≤ o_246 := Nat.le_trans K210.1 P246_0
      have ge246_0 : n0 ≤ o_246 := Nat.le_trans Z0 fr246_0
      have Sf246_o_246 : Safe Z own_EL _ T246.heap o_246 := Safe.keep Kq246 own_sl0 C210.1 (Safe.new P246_0)
      refine own_st (st246) ?_
      refine own_st (fun t_ k_ => XS.astore X246.here hx rfl (hb hby own_d10_155) rfl rfl (l' := #[oR a1, oI mn_, oI mx_, oI (1 : Int32), oI ((Int32.ofNat n1) - (1 : Int32)), oI vb, oJ (-vv), oS, oR o_246, s9]) rfl (XS.aload X246.here hx rfl (hb hby own_d10_157) rfl rfl k_)) ?_
      show own_at p e below _ T246 m 159 #[oR a1, oI mn_, oI mx_, oI (1 : Int32), oI ((Int32.ofNat n1) - (1 : Int32)), oI vb, oJ (-vv), oS, oR o_246, s9] [(.ref o_246)]
      exact own_retW (w := (.ref o_246)) X246 hx hnl hZ (own_hEL hw) S210 (kk246) (C246) Bd.returns rfl (Or.inr (Or.inr (Or.inr (Or.inr ⟨rfl, rfl, rfl⟩)))) (hb hby own_d10_159) ⟨o_246, (1 : Int32), ((-vv).toInt32), rfl, N246, (K246), (P246_1), (P246_2), (P246_3), ⟨fun _ => ⟨rfl, _, rfl, (by rw [hS]; exact hval)⟩, fun z_ => absurd hgg z_⟩⟩ (by decide) (by decide)
  exact loop235 _ 0 (1 : Int32) (1 : Int32) (0 : Int64) .unset T230 _ rfl X230 eq230 N230 (by decide) (by omega) One.u (Or.inl ⟨rfl, (by simp only [own_vl]; decide), fun q h1_ h2_ => absurd h2_ (by omega)⟩)


theorem own_bit {x : Int32} : (x &&& (1 : Int32)) = (0 : Int32) ∨ (x &&& (1 : Int32)) = (1 : Int32) := by
  have m := c_mask x 1 1 (by decide) (by decide)
  have p : ((2 ^ 1 : Nat) : Int) = 2 := by decide
  have e0 : (0 : Int32).toInt = 0 := by decide
  have e1 : (1 : Int32).toInt = 1 := by decide
  rw [p] at m
  rcases Int.emod_two_eq x.toInt with q | q
  · exact Or.inl (Int32.toInt_inj.mp (by rw [e0]; omega))
  · exact Or.inr (Int32.toInt_inj.mp (by rw [e1]; omega))
theorem own_uN (x : Int64) : ∃ U : Nat, (x &&& (9223372036854775807 : Int64)).toInt = (U : Int) := by
  have m := c_maskL x 9223372036854775807 63 (by decide) (by decide)
  refine ⟨(x &&& (9223372036854775807 : Int64)).toInt.toNat, (Int.toNat_of_nonneg ?_).symm⟩
  rw [m]; exact Int.emod_nonneg _ (by decide)
theorem own_dN (x : Int32) : ∃ n : Nat, ((x &&& (15 : Int32)) % (12 : Int32)).toInt = (n : Int) ∧ n ≤ 11 := by
  have m := c_mask x 15 4 (by decide) (by decide)
  have p : ((2 ^ 4 : Nat) : Int) = 16 := by decide
  rw [p] at m
  have r := (c_irem (x &&& 15) 12 12 (by decide)).1 (by omega)
  exact ⟨((x &&& (15 : Int32)) % (12 : Int32)).toInt.toNat, by omega, by omega⟩
theorem own_psN (x : Int32) : 0 ≤ ((x.toUInt32 >>> ((6 : Int32) &&& 31).toUInt32).toInt32).toInt := by
  have r := c_iushr x 6 6 (by decide) (by decide)
  have p : ((2 ^ 6 : Nat) : Int) = 64 := by decide
  rw [p] at r; omega
theorem own_qN {x y : Int32} {n : Nat} (hx : 0 ≤ x.toInt) (hy : y.toInt = (n : Int)) (hn : 1 ≤ n) : ∃ q : Nat, (x % y).toInt = (q : Int) ∧ q < n := by
  have r := (c_irem x y n hy).1 hx
  have a := Int.emod_nonneg x.toInt (show (n : Int) ≠ 0 by omega)
  have b := Int.emod_lt_of_pos x.toInt (show (0 : Int) < n by omega)
  exact ⟨(x % y).toInt.toNat, by omega, by omega⟩
theorem own_low {u : Int64} {U n : Nat} (hu : u.toInt = (U : Int)) (hn : n < 12) : (u % own_p10 n).toInt = ((U % 10 ^ n : Nat) : Int) ∧ U % 10 ^ n < 100000000000 := by
  have e := own_p10I hn
  have p := own_p10p n
  have b := own_p10b hn
  have l := Nat.mod_lt U p
  refine ⟨?_, by omega⟩
  rw [Int64.toInt_mod, e, hu, (tr _ _).1 (by omega)]
  omega
theorem own_mulI {x y : Int64} {a P : Int} (hx : x.toInt = a) (hy : y.toInt = P) (a0 : -65535 ≤ a) (a1 : a ≤ 65535) (p0 : 0 ≤ P) (p1 : P ≤ 100000000000) : (x * y).toInt = a * P ∧ -6553500000000000 ≤ a * P ∧ a * P ≤ 6553500000000000 := by
  have m := c_lmul x y
  have r := rng64 (x * y)
  have u1 : a * P ≤ 65535 * P := Int.mul_le_mul_of_nonneg_right a1 p0
  have u2 : -65535 * P ≤ a * P := Int.mul_le_mul_of_nonneg_right a0 p0
  rw [hx, hy] at m
  generalize a * P = z at m u1 u2 ⊢
  omega
theorem own_addI {x y : Int64} {a b : Int} (hx : x.toInt = a) (hy : y.toInt = b) (a0 : -1000000000000000000 ≤ a) (a1 : a ≤ 1000000000000000000) (b0 : -1000000000000000000 ≤ b) (b1 : b ≤ 1000000000000000000) : (x + y).toInt = a + b := by
  have m := c_ladd x y
  have r := rng64 (x + y)
  omega
theorem own_subI {x y : Int64} {a b : Int} (hx : x.toInt = a) (hy : y.toInt = b) (a0 : -1000000000000000000 ≤ a) (a1 : a ≤ 1000000000000000000) (b0 : -1000000000000000000 ≤ b) (b1 : b ≤ 1000000000000000000) : (x - y).toInt = a - b := by
  have m := c_lsub x y
  have r := rng64 (x - y)
  omega
theorem own_cvI {c : Int32} (h0 : 0 ≤ c.toInt) (h1 : c.toInt ≤ 65535) : ((c - (48 : Int32)).toInt64).toInt = c.toInt - 48 := by
  have s := c_isub c 48
  have l := c_i2l (c - 48)
  have e48 : (48 : Int32).toInt = 48 := by decide
  have r2 := rng32 (c - 48)
  omega
theorem own_VB {c : Int32} {u : Int64} {U n : Nat} (hu : u.toInt = (U : Int)) (hn : n < 12) (h0 : 0 ≤ c.toInt) (h1 : c.toInt ≤ 65535) : (((c - (48 : Int32)).toInt64 * own_p10 n) + (u % own_p10 n)).toInt = (c.toInt - 48) * ((10 ^ n : Nat) : Int) + ((U % 10 ^ n : Nat) : Int) := by
  have l := own_low hu hn
  have b := own_p10b hn
  have m := own_mulI (own_cvI h0 h1) (own_p10I hn) (by omega) (by omega) (by omega) (by omega)
  exact own_addI m.1 l.1 (by omega) (by omega) (by omega) (by omega)
theorem own_VC {c : Int32} {u : Int64} {U n k : Nat} (hu : u.toInt = (U : Int)) (hn : n < 12) (hk : k < 12) (h0 : 0 ≤ c.toInt) (h1 : c.toInt ≤ 65535) :
    (((u % own_p10 n) - (((own_d10 u k).toInt64) * own_p10 k)) + (((c - (48 : Int32)).toInt64) * own_p10 k)).toInt = ((U % 10 ^ n : Nat) : Int) + (c.toInt - 48 - ((U / 10 ^ k % 10 : Nat) : Int)) * ((10 ^ k : Nat) : Int)
      ∧ -100000000000000000 ≤ ((U % 10 ^ n : Nat) : Int) + (c.toInt - 48 - ((U / 10 ^ k % 10 : Nat) : Int)) * ((10 ^ k : Nat) : Int) ∧ ((U % 10 ^ n : Nat) : Int) + (c.toInt - 48 - ((U / 10 ^ k % 10 : Nat) : Int)) * ((10 ^ k : Nat) : Int) ≤ 100000000000000000 := by
  have l := own_low hu hn
  have b := own_p10b hk
  have d := (c_i2l (own_d10 u k)).trans (own_d10I hu hk)
  have d9 : U / 10 ^ k % 10 < 10 := Nat.mod_lt _ (by decide)
  have e := own_p10I hk
  generalize U / 10 ^ k % 10 = D at d d9 ⊢
  generalize U % 10 ^ n = M at l ⊢
  have p0 : (0 : Int) ≤ ((10 ^ k : Nat) : Int) := Int.natCast_nonneg _
  have p1 : ((10 ^ k : Nat) : Int) ≤ 100000000000 := Int.ofNat_le.mpr b
  generalize ((10 ^ k : Nat) : Int) = P at e p0 p1 ⊢
  have m1 := own_mulI d e (by omega) (by omega) p0 p1
  have m2 := own_mulI (own_cvI h0 h1) e (by omega) (by omega) p0 p1
  have s := own_subI l.1 m1.1 (by omega) (by omega) (Int.le_trans (by decide) m1.2.1) (Int.le_trans m1.2.2 (by decide))
  have a := own_addI s m2.1 (by have := m1.2.1; have := m1.2.2; omega) (by have := m1.2.1; have := m1.2.2; omega) (Int.le_trans (by decide) m2.2.1) (Int.le_trans m2.2.2 (by decide))
  have key : (c.toInt - 48 - (D : Int)) * P = (c.toInt - 48) * P - (D : Int) * P := Int.sub_mul ..
  rw [a, key]
  obtain ⟨X, hX⟩ : ∃ X, X = (D : Int) * P := ⟨_, rfl⟩
  obtain ⟨Y, hY⟩ : ∃ Y, Y = (c.toInt - 48) * P := ⟨_, rfl⟩
  rw [← hX] at m1 ⊢
  rw [← hY] at m2 ⊢
  clear hX hY key a s d e
  omega
theorem own_VN {x : Int64} {v : Int} (h : x.toInt = v ∧ -100000000000000000 ≤ v ∧ v ≤ 100000000000000000) : (-x).toInt = -v := own_lneg h.1 (by omega) (by omega)
theorem own_gA {cs : Nat → Int32} {s N : Nat} {mn mx : Int32} {P : Prop} {v : Int} (h : own_swn cs N = s ∧ (own_okd cs s N ↔ P) ∧ own_vl cs s (N - s) = v) : own_good cs N mn mx ↔ P ∧ mn.toInt ≤ (if s = 1 then -v else v) ∧ (if s = 1 then -v else v) ≤ mx.toInt := by
  unfold own_good own_pv
  rw [h.1, h.2.1, h.2.2]
theorem own_pvE {cs : Nat → Int32} {s N : Nat} {P : Prop} {v : Int} (h : own_swn cs N = s ∧ (own_okd cs s N ↔ P) ∧ own_vl cs s (N - s) = v) : own_pv cs (own_swn cs N) N = if s = 1 then -v else v := by
  unfold own_pv
  rw [h.1, h.2.2]

theorem own_pd24 : parseMethodDescriptor "([CIIJI)V" = some ⟨[(.array .char), .int, .int, .long, .int], none⟩ := by decide +kernel
theorem own_pd25 : parseMethodDescriptor "([C)V" = some ⟨[(.array .char)], none⟩ := by decide +kernel
theorem own_pd26 : parseMethodDescriptor "(Ljava/lang/String;II)Ljava/util/OptionalInt;" = some ⟨[(.object "java/lang/String"), .int, .int], some (.object "java/util/OptionalInt")⟩ := by decide +kernel
theorem own_ef0 (m : MethodId) (x0 : Int64) (x1 : Int32) (x2 : Int32) (x3 : Int32) (x4 : Int32) : entryFrame m #[(.long x0), (.int x1), (.int x2), (.int x3), (.int x4)] maxLocals = mkF m 0 #[.val (.long x0), .second, .val (.int x1), .val (.int x2), .val (.int x3), .val (.int x4), .unset, .unset, .unset, .unset, .unset, .unset, .unset, .unset, .unset, .unset, .unset, .unset, .unset, .unset, .unset, .unset, .unset, .unset, .unset, .unset, .unset, .unset, .unset, .unset, .unset] [] := by first | (simp [entryFrame, mkF, argsToLocals, Value.category, maxLocals]; done) | rfl
def own_Q0 (Z : State) (p0 : Int64) (p1 : Int32) (p2 : Int32) (p3 : Int32) (p4 : Int32) (G1 : Int32) (G3 : Value) (aE : Addr) (h0 : Heap) (n0 : Nat) (v : Option Value) (h : Heap) (L : List Loc) : Prop := v = some (.int (1 : Int32)) ∧ Fr n0 L ∧ Keep h0 h []
set_option maxRecDepth 65536 in
set_option maxHeartbeats 40000000 in
theorem own_rm0 (l : Launch) (Z : State) (a0 : Array Value) (hw : ∀ d ∈ tables_1, d.before a0 Z = true) (ws : List Jvm.Cond) (p0 : Int64) (p1 : Int32) (p2 : Int32) (p3 : Int32) (p4 : Int32) (G1 : Int32) (G3 : Value) (aE : Addr) (h0 : Heap) (n0 : Nat) (Z0 : n0 ≤ h0.size) (q0 : Old Z n0 h0) (q1 : Sta Z Z.heap "java/lang/String" "COMPACT_STRINGS" "Z" (.int G1)) (hG1 : (¬ G1 = (0 : Int32))) (q3 : Sta Z Z.heap "jdk/internal/util/Preconditions" "SIOOBE_FORMATTER" "Ljava/util/function/BiFunction;" G3) (rG3 : (G3.isRef = true)) (q5 : Sta Z Z.heap "java/lang/StringUTF16" "$assertionsDisabled" "Z" (.int (1 : Int32))) (q6 : Sta Z Z.heap "java/lang/StringUTF16" "HI_BYTE_SHIFT" "I" (.int (0 : Int32))) (q7 : Sta Z Z.heap "java/lang/StringUTF16" "LO_BYTE_SHIFT" "I" (.int (8 : Int32))) (q8 : Sta Z Z.heap "java/util/OptionalInt" "EMPTY" "Ljava/util/OptionalInt;" (.ref aE)) (q9 : Exa Z Z.heap aE "java/util/OptionalInt") (q10 : Fld Z Z.heap aE "java/util/OptionalInt" "isPresent" "Z" (.int (0 : Int32))) (q11 : Fld Z Z.heap aE "java/util/OptionalInt" "value" "I" (.int (0 : Int32))) :
    MetFree l x (head1 (Jvm.Cond.code x code maxLocals ret :: ws) room_1) (fun a U => a = #[(.long p0), (.int p1), (.int p2), (.int p3), (.int p4)] ∧ Z.Warmed39 U.vm ∧ U.heap = h0 ∧ CHv Z own_EL U.vm h0 ∧ ∀ x ∈ ([] : List Addr), Safe Z own_EL U.vm h0 x) (fun _ _ _ _ _ => True) (fun _ U o U' => ∃ v L, o = .returned v ∧ own_Q0 Z p0 p1 p2 p3 p4 G1 G3 aE h0 n0 v U'.heap L ∧ CHr Z own_EL U.vm U.heap U'.vm U'.heap ∧ ReturnedEndW U o U' L room_1.cells room_1.slots) := by
  refine MetFree.of_bodySF (plainFor_of_name own_pn4) hisR ?_
  intro p e s m args below meth c s₁ Bd hml0 hP hK
  obtain ⟨rfl, hZ, hh, hC0, hSf⟩ := hP
  have hx := Bd.exec
  have hby := Bd.bytes
  have hml : c.maxLocals = 31 := hml0
  have hown : s.vm.findClass "com/example/marshalyard/marshalyard/engine/DecimalIntegerParsePinLaw" = some m.cls := findClass_of_methodNamed Bd.named
  have hnm := (name_of_methodNamed Bd.named Bd.method).1
  have hnl : meth.locks = false := Bd.notSynchronized
  have X0 : Stand p l e room_1 s m #[(.long p0), (.int p1), (.int p2), (.int p3), (.int p4)] below meth c s₁ [] 0 0 := Stand.of_body Bd
  have e0 : s₁.heap = h0 := by rw [← hh, Bd.state]; rfl
  have N0 := Fr.nil n0
  have X0 := (show Stand p l e _ (s.setVm s.vm) m _ below meth c s₁ [] 0 0 from X0)
  have hZ : Z.Warmed39 (s.setVm s.vm).vm := hZ
  have hown : (s.setVm s.vm).vm.findClass "com/example/marshalyard/marshalyard/engine/DecimalIntegerParsePinLaw" = some m.cls := hown
  have C0 : CHr Z own_EL s.vm s.heap s.vm h0 := by rw [hh]; exact CHr.refl hC0
  have S0 : s.Since s.vm h0.size := (State.WarmedH.refl s).since _
  have k0 := Nat.le_refl h0.size
  show own_Go p.tables e below (own_PW below s Z own_EL (own_Q0 Z p0 p1 p2 p3 p4 G1 G3 aE h0 n0) room_1.cells room_1.slots) _
  refine own_st (fun t_ k_ => castTop (own_ef0 m p0 p1 p2 p3 p4) k_) ?_
  show own_at p e below _ s₁ m 0 #[oJ p0, oS, oI p1, oI p2, oI p3, oI p4, oU, oU, oU, oU, oU, oU, oU, oU, oU, oU, oU, oU, oU, oU, oU, oU, oU, oU, oU, oU, oU, oU, oU, oU, oU] []
  have j562 : ∀ (vmJ : Vm) (kJ : Nat) (TJ : State) (LJ : List Loc) (HJ : Heap) (kc ks : Nat) (vb : Int32) (vl : Int64) (oJ_ : Addr) (pzJ vzJ : Int32) (GJ : Prop) (VJ : Int) (g0 g1 g2 g3 g6 g7 g8 g9 g10 g11 g12 g13 g14 g15 g16 g17 g19 g20 g21 g22 g26 g27 g28 g29 g30 : Slot), Z.Warmed39 (s.setVm vmJ).vm → (s.setVm vmJ).vm.findClass "com/example/marshalyard/marshalyard/engine/DecimalIntegerParsePinLaw" = some m.cls → s.Since vmJ kJ → Stand p l e room_1 (s.setVm vmJ) m #[(.long p0), (.int p1), (.int p2), (.int p3), (.int p4)] below meth c TJ LJ kc ks → TJ.heap = HJ → Fr n0 LJ → Keep h0 HJ [] → CHr Z own_EL s.vm s.heap vmJ HJ → kJ ≤ HJ.size → kc ≤ 48 → ks ≤ 2560 → Old Z n0 HJ → Exa Z HJ oJ_ "java/util/OptionalInt" → Fld Z HJ oJ_ "java/util/OptionalInt" "isPresent" "Z" (.int pzJ) → Fld Z HJ oJ_ "java/util/OptionalInt" "value" "I" (.int vzJ) → One g26 → (vb = 0 ∨ vb = 1) → (GJ ↔ (vb = 1 ∧ p3.toInt ≤ vl.toInt ∧ vl.toInt ≤ p4.toInt)) → (GJ → vl.toInt = VJ) → ((GJ → pzJ = 1 ∧ ∃ X : Int64, vzJ = X.toInt32 ∧ X.toInt = VJ) ∧ (¬ GJ → pzJ = 0)) → own_at p e below (own_PW below s Z own_EL (own_Q0 Z p0 p1 p2 p3 p4 G1 G3 aE h0 n0) room_1.cells room_1.slots) TJ m 562 #[g0, g1, g2, g3, oI p3, oI p4, g6, g7, g8, g9, g10, g11, g12, g13, g14, g15, g16, g17, oR oJ_, g19, g20, g21, g22, oI vb, oJ vl, oS, g26, g27, g28, g29, g30] [] := by
    intro vmJ kJ TJ LJ HJ kc ks vb vl oJ_ pzJ vzJ GJ VJ g0 g1 g2 g3 g6 g7 g8 g9 g10 g11 g12 g13 g14 g15 g16 g17 g19 g20 g21 g22 g26 g27 g28 g29 g30 hZ hown SJ XJ eJ NJ KJ CJ kkJ hkc hks fJ0 fJ1 fJ2 fJ3 hg26 hvb hgo hgv hres
    refine own_st (fun t_ k_ => XS.iload XJ.here hx rfl (hb hby at_562) rfl k_) ?_
    show own_at p e below _ TJ m 564 #[g0, g1, g2, g3, oI p3, oI p4, g6, g7, g8, g9, g10, g11, g12, g13, g14, g15, g16, g17, oR oJ_, g19, g20, g21, g22, oI vb, oJ vl, oS, g26, g27, g28, g29, g30] [(.int vb)]
    by_cases c564_247 : vb = (0 : Int32)
    · skip
      have hngd : ¬ GJ := fun z_ => absurd (c564_247.symm.trans (hgo.mp z_).1) (by decide)
      refine own_st (fun t_ k_ => XS.ifYes XJ.here hx rfl (pc0 := 564) (pc' := 589) rfl (hb hby at_564) rfl ((if0 _ _).trans (teq c564_247).1) (by decide) (by decide) (XS.iconst XJ.here hx rfl (hb hby at_589) (XS.istoreS XJ.here hx rfl (hb hby at_590) rfl rfl hg26 (XS.iload XJ.here hx rfl (hb hby at_592) rfl (XS.ifNo XJ.here hx rfl (hb hby at_594) rfl ((if0 _ _).trans (teq (by decide : (0 : Int32) = (0 : Int32))).2) k_))))) ?_
      show own_at p e below _ TJ m 597 #[g0, g1, g2, g3, oI p3, oI p4, g6, g7, g8, g9, g10, g11, g12, g13, g14, g15, g16, g17, oR oJ_, g19, g20, g21, g22, oI vb, oJ vl, oS, oI (0 : Int32), g27, g28, g29, g30] []
      have Fp0 : Fld Z HJ oJ_ "java/util/OptionalInt" "isPresent" "Z" (.int (0 : Int32)) := by have z_ := fJ2; rw [hres.2 hngd] at z_; exact z_
      refine own_st (fun t_ k_ => XS.aload XJ.here hx rfl (hb hby at_597) rfl rfl k_) ?_
      show own_at p e below _ TJ m 599 #[g0, g1, g2, g3, oI p3, oI p4, g6, g7, g8, g9, g10, g11, g12, g13, g14, g15, g16, g17, oR oJ_, g19, g20, g21, g22, oI vb, oJ vl, oS, oI (0 : Int32), g27, g28, g29, g30] [(.ref oJ_)]
      obtain ⟨cq248, kq248, q248a, q248b, q248c⟩ := isOf hZ eJ fJ1
      obtain ⟨_, _, ⟨T248, L248, k248, n248⟩, -, X248, ⟨Lc248, hQ248, l248, y248, z248⟩, st248⟩ := XJ.virtualBack hx (y := own_n24) (z := own_n24) hown (mvT hZ (own_w hw 128 rfl)) (mvT hZ (own_w hw 129 rfl)) (notFace_of_selects (args := #[]) (mvT hZ (own_w hw 131 rfl))) (mvT hZ (own_w hw 131 rfl)) (mvT hZ (own_w hw 130 rfl)) (by decide) (backOf (W := 0) (own_rm24 l Z a0 hw [] oJ_ (0 : Int32) HJ n0 (Nat.le_trans Z0 KJ.1) fJ1 Fp0 (Or.inl rfl)) hZ (own_w hw 132 rfl) (own_w hw 111 rfl) (by decide) (by decide)) q248a q248c (g := (mkF m 599 #[g0, g1, g2, g3, oI p3, oI p4, g6, g7, g8, g9, g10, g11, g12, g13, g14, g15, g16, g17, oR oJ_, g19, g20, g21, g22, oI vb, oJ vl, oS, oI (0 : Int32), g27, g28, g29, g30] [(.ref oJ_)])) rfl (by rw [hml]; rfl) (Steps.refl _) (argsL := []) (rest := []) (lenOf own_pd12 rfl) rfl (own_hW rfl) (hb hby at_599) (fun _ _ => ⟨rfl, eJ, (Nat.le_trans hkc (by decide)), (Nat.le_trans hks (by decide))⟩)
      dsimp only [Pt.U, Pt.locs, Pt.cells, Pt.slots] at X248 l248 y248 z248 st248 hQ248
      subst y248 z248
      obtain ⟨rfl, N248q, eq248⟩ := hQ248
      have N248 : Fr n0 L248 := by rw [l248]; exact Fr.app NJ N248q
      refine own_tr st248 ?_
      refine own_st (fun t_ k_ => XS.ifNo X248.here hx rfl (hb hby at_602) rfl ((if0 _ _).trans (teq (by decide : (0 : Int32) = (0 : Int32))).2) (XS.iconst X248.here hx rfl (hb hby at_605) (XS.goto X248.here hx rfl (pc0 := 606) (pc' := 610) rfl (hb hby at_606) (by decide) (by decide) k_))) ?_
      show own_at p e below _ T248 m 610 #[g0, g1, g2, g3, oI p3, oI p4, g6, g7, g8, g9, g10, g11, g12, g13, g14, g15, g16, g17, oR oJ_, g19, g20, g21, g22, oI vb, oJ vl, oS, oI (0 : Int32), g27, g28, g29, g30] [(.int (1 : Int32))]
      exact own_retW (w := (.int (1 : Int32))) X248 hx hnl hZ (own_hEL hw) SJ (by rw [eq248]; exact kkJ) (by rw [eq248]; exact CJ) Bd.returns rfl (Or.inl ⟨rfl, by decide, _, rfl⟩) (hb hby at_610) ⟨rfl, N248, (by rw [eq248]; exact KJ)⟩ (Nat.le_trans hkc (by decide)) (Nat.le_trans hks (by decide))
    have hv1 : vb = 1 := hvb.resolve_left c564_247
    refine own_st (fun t_ k_ => XS.ifNo XJ.here hx rfl (hb hby at_564) rfl ((if0 _ _).trans (feq c564_247).1) (XS.lload XJ.here hx rfl (hb hby at_567) rfl (XS.iload XJ.here hx rfl (hb hby at_569) rfl (XS.i2l XJ.here hx rfl (hb hby at_571) rfl (XS.lcmp XJ.here hx rfl (hb hby at_572) rfl k_))))) ?_
    show own_at p e below _ TJ m 573 #[g0, g1, g2, g3, oI p3, oI p4, g6, g7, g8, g9, g10, g11, g12, g13, g14, g15, g16, g17, oR oJ_, g19, g20, g21, g22, oI vb, oJ vl, oS, g26, g27, g28, g29, g30] [(.int (lcmpW vl (p3.toInt64)))]
    by_cases c573_249 : (lcmpW vl (p3.toInt64)) < (0 : Int32)
    · skip
      have hngd : ¬ GJ := fun z_ => absurd (hgo.mp z_).2.1 (Int.not_le.mpr ((own_lcL rfl).mp c573_249))
      refine own_st (fun t_ k_ => XS.ifYes XJ.here hx rfl (pc0 := 573) (pc' := 589) rfl (hb hby at_573) rfl ((if0 _ _).trans (tlt c573_249).1) (by decide) (by decide) (XS.iconst XJ.here hx rfl (hb hby at_589) (XS.istoreS XJ.here hx rfl (hb hby at_590) rfl rfl hg26 (XS.iload XJ.here hx rfl (hb hby at_592) rfl (XS.ifNo XJ.here hx rfl (hb hby at_594) rfl ((if0 _ _).trans (teq (by decide : (0 : Int32) = (0 : Int32))).2) k_))))) ?_
      show own_at p e below _ TJ m 597 #[g0, g1, g2, g3, oI p3, oI p4, g6, g7, g8, g9, g10, g11, g12, g13, g14, g15, g16, g17, oR oJ_, g19, g20, g21, g22, oI vb, oJ vl, oS, oI (0 : Int32), g27, g28, g29, g30] []
      have Fp0 : Fld Z HJ oJ_ "java/util/OptionalInt" "isPresent" "Z" (.int (0 : Int32)) := by have z_ := fJ2; rw [hres.2 hngd] at z_; exact z_
      refine own_st (fun t_ k_ => XS.aload XJ.here hx rfl (hb hby at_597) rfl rfl k_) ?_
      show own_at p e below _ TJ m 599 #[g0, g1, g2, g3, oI p3, oI p4, g6, g7, g8, g9, g10, g11, g12, g13, g14, g15, g16, g17, oR oJ_, g19, g20, g21, g22, oI vb, oJ vl, oS, oI (0 : Int32), g27, g28, g29, g30] [(.ref oJ_)]
      obtain ⟨cq250, kq250, q250a, q250b, q250c⟩ := isOf hZ eJ fJ1
      obtain ⟨_, _, ⟨T250, L250, k250, n250⟩, -, X250, ⟨Lc250, hQ250, l250, y250, z250⟩, st250⟩ := XJ.virtualBack hx (y := own_n24) (z := own_n24) hown (mvT hZ (own_w hw 128 rfl)) (mvT hZ (own_w hw 129 rfl)) (notFace_of_selects (args := #[]) (mvT hZ (own_w hw 131 rfl))) (mvT hZ (own_w hw 131 rfl)) (mvT hZ (own_w hw 130 rfl)) (by decide) (backOf (W := 0) (own_rm24 l Z a0 hw [] oJ_ (0 : Int32) HJ n0 (Nat.le_trans Z0 KJ.1) fJ1 Fp0 (Or.inl rfl)) hZ (own_w hw 132 rfl) (own_w hw 111 rfl) (by decide) (by decide)) q250a q250c (g := (mkF m 599 #[g0, g1, g2, g3, oI p3, oI p4, g6, g7, g8, g9, g10, g11, g12, g13, g14, g15, g16, g17, oR oJ_, g19, g20, g21, g22, oI vb, oJ vl, oS, oI (0 : Int32), g27, g28, g29, g30] [(.ref oJ_)])) rfl (by rw [hml]; rfl) (Steps.refl _) (argsL := []) (rest := []) (lenOf own_pd12 rfl) rfl (own_hW rfl) (hb hby at_599) (fun _ _ => ⟨rfl, eJ, (Nat.le_trans hkc (by decide)), (Nat.le_trans hks (by decide))⟩)
      dsimp only [Pt.U, Pt.locs, Pt.cells, Pt.slots] at X250 l250 y250 z250 st250 hQ250
      subst y250 z250
      obtain ⟨rfl, N250q, eq250⟩ := hQ250
      have N250 : Fr n0 L250 := by rw [l250]; exact Fr.app NJ N250q
      refine own_tr st250 ?_
      refine own_st (fun t_ k_ => XS.ifNo X250.here hx rfl (hb hby at_602) rfl ((if0 _ _).trans (teq (by decide : (0 : Int32) = (0 : Int32))).2) (XS.iconst X250.here hx rfl (hb hby at_605) (XS.goto X250.here hx rfl (pc0 := 606) (pc' := 610) rfl (hb hby at_606) (by decide) (by decide) k_))) ?_
      show own_at p e below _ T250 m 610 #[g0, g1, g2, g3, oI p3, oI p4, g6, g7, g8, g9, g10, g11, g12, g13, g14, g15, g16, g17, oR oJ_, g19, g20, g21, g22, oI vb, oJ vl, oS, oI (0 : Int32), g27, g28, g29, g30] [(.int (1 : Int32))]
      exact own_retW (w := (.int (1 : Int32))) X250 hx hnl hZ (own_hEL hw) SJ (by rw [eq250]; exact kkJ) (by rw [eq250]; exact CJ) Bd.returns rfl (Or.inl ⟨rfl, by decide, _, rfl⟩) (hb hby at_610) ⟨rfl, N250, (by rw [eq250]; exact KJ)⟩ (Nat.le_trans hkc (by decide)) (Nat.le_trans hks (by decide))
    refine own_st (fun t_ k_ => XS.ifNo XJ.here hx rfl (hb hby at_573) rfl ((if0 _ _).trans (flt c573_249).1) (XS.lload XJ.here hx rfl (hb hby at_576) rfl (XS.iload XJ.here hx rfl (hb hby at_578) rfl (XS.i2l XJ.here hx rfl (hb hby at_580) rfl (XS.lcmp XJ.here hx rfl (hb hby at_581) rfl k_))))) ?_
    show own_at p e below _ TJ m 582 #[g0, g1, g2, g3, oI p3, oI p4, g6, g7, g8, g9, g10, g11, g12, g13, g14, g15, g16, g17, oR oJ_, g19, g20, g21, g22, oI vb, oJ vl, oS, g26, g27, g28, g29, g30] [(.int (lcmpW vl (p4.toInt64)))]
    by_cases c582_251 : (0 : Int32) < (lcmpW vl (p4.toInt64))
    · skip
      have hngd : ¬ GJ := fun z_ => absurd (hgo.mp z_).2.2 (Int.not_le.mpr ((own_lcG rfl).mp c582_251))
      refine own_st (fun t_ k_ => XS.ifYes XJ.here hx rfl (pc0 := 582) (pc' := 589) rfl (hb hby at_582) rfl ((if0 _ _).trans (tlt c582_251).2.2.1) (by decide) (by decide) (XS.iconst XJ.here hx rfl (hb hby at_589) (XS.istoreS XJ.here hx rfl (hb hby at_590) rfl rfl hg26 (XS.iload XJ.here hx rfl (hb hby at_592) rfl (XS.ifNo XJ.here hx rfl (hb hby at_594) rfl ((if0 _ _).trans (teq (by decide : (0 : Int32) = (0 : Int32))).2) k_))))) ?_
      show own_at p e below _ TJ m 597 #[g0, g1, g2, g3, oI p3, oI p4, g6, g7, g8, g9, g10, g11, g12, g13, g14, g15, g16, g17, oR oJ_, g19, g20, g21, g22, oI vb, oJ vl, oS, oI (0 : Int32), g27, g28, g29, g30] []
      have Fp0 : Fld Z HJ oJ_ "java/util/OptionalInt" "isPresent" "Z" (.int (0 : Int32)) := by have z_ := fJ2; rw [hres.2 hngd] at z_; exact z_
      refine own_st (fun t_ k_ => XS.aload XJ.here hx rfl (hb hby at_597) rfl rfl k_) ?_
      show own_at p e below _ TJ m 599 #[g0, g1, g2, g3, oI p3, oI p4, g6, g7, g8, g9, g10, g11, g12, g13, g14, g15, g16, g17, oR oJ_, g19, g20, g21, g22, oI vb, oJ vl, oS, oI (0 : Int32), g27, g28, g29, g30] [(.ref oJ_)]
      obtain ⟨cq252, kq252, q252a, q252b, q252c⟩ := isOf hZ eJ fJ1
      obtain ⟨_, _, ⟨T252, L252, k252, n252⟩, -, X252, ⟨Lc252, hQ252, l252, y252, z252⟩, st252⟩ := XJ.virtualBack hx (y := own_n24) (z := own_n24) hown (mvT hZ (own_w hw 128 rfl)) (mvT hZ (own_w hw 129 rfl)) (notFace_of_selects (args := #[]) (mvT hZ (own_w hw 131 rfl))) (mvT hZ (own_w hw 131 rfl)) (mvT hZ (own_w hw 130 rfl)) (by decide) (backOf (W := 0) (own_rm24 l Z a0 hw [] oJ_ (0 : Int32) HJ n0 (Nat.le_trans Z0 KJ.1) fJ1 Fp0 (Or.inl rfl)) hZ (own_w hw 132 rfl) (own_w hw 111 rfl) (by decide) (by decide)) q252a q252c (g := (mkF m 599 #[g0, g1, g2, g3, oI p3, oI p4, g6, g7, g8, g9, g10, g11, g12, g13, g14, g15, g16, g17, oR oJ_, g19, g20, g21, g22, oI vb, oJ vl, oS, oI (0 : Int32), g27, g28, g29, g30] [(.ref oJ_)])) rfl (by rw [hml]; rfl) (Steps.refl _) (argsL := []) (rest := []) (lenOf own_pd12 rfl) rfl (own_hW rfl) (hb hby at_599) (fun _ _ => ⟨rfl, eJ, (Nat.le_trans hkc (by decide)), (Nat.le_trans hks (by decide))⟩)
      dsimp only [Pt.U, Pt.locs, Pt.cells, Pt.slots] at X252 l252 y252 z252 st252 hQ252
      subst y252 z252
      obtain ⟨rfl, N252q, eq252⟩ := hQ252
      have N252 : Fr n0 L252 := by rw [l252]; exact Fr.app NJ N252q
      refine own_tr st252 ?_
      refine own_st (fun t_ k_ => XS.ifNo X252.here hx rfl (hb hby at_602) rfl ((if0 _ _).trans (teq (by decide : (0 : Int32) = (0 : Int32))).2) (XS.iconst X252.here hx rfl (hb hby at_605) (XS.goto X252.here hx rfl (pc0 := 606) (pc' := 610) rfl (hb hby at_606) (by decide) (by decide) k_))) ?_
      show own_at p e below _ T252 m 610 #[g0, g1, g2, g3, oI p3, oI p4, g6, g7, g8, g9, g10, g11, g12, g13, g14, g15, g16, g17, oR oJ_, g19, g20, g21, g22, oI vb, oJ vl, oS, oI (0 : Int32), g27, g28, g29, g30] [(.int (1 : Int32))]
      exact own_retW (w := (.int (1 : Int32))) X252 hx hnl hZ (own_hEL hw) SJ (by rw [eq252]; exact kkJ) (by rw [eq252]; exact CJ) Bd.returns rfl (Or.inl ⟨rfl, by decide, _, rfl⟩) (hb hby at_610) ⟨rfl, N252, (by rw [eq252]; exact KJ)⟩ (Nat.le_trans hkc (by decide)) (Nat.le_trans hks (by decide))
    have hgd : GJ := hgo.mpr ⟨hv1, Int.not_lt.mp (mt (own_lcL rfl).mpr c573_249), Int.not_lt.mp (mt (own_lcG rfl).mpr c582_251)⟩
    have hres1 := hres.1 hgd
    have Fp1 : Fld Z HJ oJ_ "java/util/OptionalInt" "isPresent" "Z" (.int (1 : Int32)) := by have z_ := fJ2; rw [hres1.1] at z_; exact z_
    refine own_st (fun t_ k_ => XS.ifNo XJ.here hx rfl (hb hby at_582) rfl ((if0 _ _).trans (flt c582_251).2.2.1) (XS.iconst XJ.here hx rfl (hb hby at_585) (XS.goto XJ.here hx rfl (pc0 := 586) (pc' := 590) rfl (hb hby at_586) (by decide) (by decide) (XS.istoreS XJ.here hx rfl (hb hby at_590) rfl rfl hg26 (XS.iload XJ.here hx rfl (hb hby at_592) rfl (XS.ifYes XJ.here hx rfl (pc0 := 594) (pc' := 611) rfl (hb hby at_594) rfl ((if0 _ _).trans (feq (by decide : ¬ ((1 : Int32) = (0 : Int32)))).2) (by decide) (by decide) k_)))))) ?_
    show own_at p e below _ TJ m 611 #[g0, g1, g2, g3, oI p3, oI p4, g6, g7, g8, g9, g10, g11, g12, g13, g14, g15, g16, g17, oR oJ_, g19, g20, g21, g22, oI vb, oJ vl, oS, oI (1 : Int32), g27, g28, g29, g30] []
    refine own_st (fun t_ k_ => XS.aload XJ.here hx rfl (hb hby at_611) rfl rfl k_) ?_
    show own_at p e below _ TJ m 613 #[g0, g1, g2, g3, oI p3, oI p4, g6, g7, g8, g9, g10, g11, g12, g13, g14, g15, g16, g17, oR oJ_, g19, g20, g21, g22, oI vb, oJ vl, oS, oI (1 : Int32), g27, g28, g29, g30] [(.ref oJ_)]
    obtain ⟨cq253, kq253, q253a, q253b, q253c⟩ := isOf hZ eJ fJ1
    obtain ⟨_, _, ⟨T253, L253, k253, n253⟩, -, X253, ⟨Lc253, hQ253, l253, y253, z253⟩, st253⟩ := XJ.virtualBack hx (y := own_n24) (z := own_n24) hown (mvT hZ (own_w hw 128 rfl)) (mvT hZ (own_w hw 129 rfl)) (notFace_of_selects (args := #[]) (mvT hZ (own_w hw 131 rfl))) (mvT hZ (own_w hw 131 rfl)) (mvT hZ (own_w hw 130 rfl)) (by decide) (backOf (W := 0) (own_rm24 l Z a0 hw [] oJ_ (1 : Int32) HJ n0 (Nat.le_trans Z0 KJ.1) fJ1 Fp1 (Or.inr rfl)) hZ (own_w hw 132 rfl) (own_w hw 111 rfl) (by decide) (by decide)) q253a q253c (g := (mkF m 613 #[g0, g1, g2, g3, oI p3, oI p4, g6, g7, g8, g9, g10, g11, g12, g13, g14, g15, g16, g17, oR oJ_, g19, g20, g21, g22, oI vb, oJ vl, oS, oI (1 : Int32), g27, g28, g29, g30] [(.ref oJ_)])) rfl (by rw [hml]; rfl) (Steps.refl _) (argsL := []) (rest := []) (lenOf own_pd12 rfl) rfl (own_hW rfl) (hb hby at_613) (fun _ _ => ⟨rfl, eJ, (Nat.le_trans hkc (by decide)), (Nat.le_trans hks (by decide))⟩)
    dsimp only [Pt.U, Pt.locs, Pt.cells, Pt.slots] at X253 l253 y253 z253 st253 hQ253
    subst y253 z253
    obtain ⟨rfl, N253q, eq253⟩ := hQ253
    have N253 : Fr n0 L253 := by rw [l253]; exact Fr.app NJ N253q
    refine own_tr st253 ?_
    refine own_st (fun t_ k_ => XS.ifNo X253.here hx rfl (hb hby at_616) rfl ((if0 _ _).trans (feq (by decide : ¬ ((1 : Int32) = (0 : Int32)))).1) (XS.aload X253.here hx rfl (hb hby at_619) rfl rfl k_)) ?_
    show own_at p e below _ T253 m 621 #[g0, g1, g2, g3, oI p3, oI p4, g6, g7, g8, g9, g10, g11, g12, g13, g14, g15, g16, g17, oR oJ_, g19, g20, g21, g22, oI vb, oJ vl, oS, oI (1 : Int32), g27, g28, g29, g30] [(.ref oJ_)]
    obtain ⟨cq254, kq254, q254a, q254b, q254c⟩ := isOf hZ eq253 fJ1
    obtain ⟨_, _, ⟨T254, L254, k254, n254⟩, -, X254, ⟨Lc254, hQ254, l254, y254, z254⟩, st254⟩ := X253.virtualBack hx (y := own_n25) (z := own_n25) hown (mvT hZ (own_w hw 133 rfl)) (mvT hZ (own_w hw 134 rfl)) (notFace_of_selects (args := #[]) (mvT hZ (own_w hw 136 rfl))) (mvT hZ (own_w hw 136 rfl)) (mvT hZ (own_w hw 135 rfl)) (by decide) (backOf (W := 0) (own_rm25 l Z a0 hw [] oJ_ vzJ HJ n0 (Nat.le_trans Z0 KJ.1) fJ1 Fp1 fJ3) hZ (own_w hw 137 rfl) (own_w hw 111 rfl) (by decide) (by decide)) q254a q254c (g := (mkF m 621 #[g0, g1, g2, g3, oI p3, oI p4, g6, g7, g8, g9, g10, g11, g12, g13, g14, g15, g16, g17, oR oJ_, g19, g20, g21, g22, oI vb, oJ vl, oS, oI (1 : Int32), g27, g28, g29, g30] [(.ref oJ_)])) rfl (by rw [hml]; rfl) (Steps.refl _) (argsL := []) (rest := []) (lenOf own_pd17 rfl) rfl (own_hW rfl) (hb hby at_621) (fun _ _ => ⟨rfl, eq253, (Nat.le_trans hkc (by decide)), (Nat.le_trans hks (by decide))⟩)
    dsimp only [Pt.U, Pt.locs, Pt.cells, Pt.slots] at X254 l254 y254 z254 st254 hQ254
    subst y254 z254
    obtain ⟨rfl, N254q, eq254⟩ := hQ254
    have N254 : Fr n0 L254 := by rw [l254]; exact Fr.app N253 N254q
    refine own_tr st254 ?_
    refine own_st (fun t_ k_ => XS.lload X254.here hx rfl (hb hby at_624) rfl (XS.l2i X254.here hx rfl (hb hby at_626) rfl (XS.icmpNo X254.here hx rfl (hb hby at_627) rfl (teq (by obtain ⟨X_, h1_, h2_⟩ := hres1.2; rw [h1_]; congr 1; refine Int64.toInt_inj.mp ?_; rw [h2_, hgv hgd] : vzJ = (vl.toInt32))).2 (XS.iconst X254.here hx rfl (hb hby at_630) (XS.goto X254.here hx rfl (pc0 := 631) (pc' := 635) rfl (hb hby at_631) (by decide) (by decide) k_))))) ?_
    show own_at p e below _ T254 m 635 #[g0, g1, g2, g3, oI p3, oI p4, g6, g7, g8, g9, g10, g11, g12, g13, g14, g15, g16, g17, oR oJ_, g19, g20, g21, g22, oI vb, oJ vl, oS, oI (1 : Int32), g27, g28, g29, g30] [(.int (1 : Int32))]
    exact own_retW (w := (.int (1 : Int32))) X254 hx hnl hZ (own_hEL hw) SJ (by rw [eq254]; exact kkJ) (by rw [eq254]; exact CJ) Bd.returns rfl (Or.inl ⟨rfl, by decide, _, rfl⟩) (hb hby at_635) ⟨rfl, N254, (by rw [eq254]; exact KJ)⟩ (Nat.le_trans hkc (by decide)) (Nat.le_trans hks (by decide))
  refine own_st (fun t_ k_ => XS.lloadN X0.here hx rfl (hb hby at_0) rfl k_) ?_
  show own_at p e below _ s₁ m 1 #[oJ p0, oS, oI p1, oI p2, oI p3, oI p4, oU, oU, oU, oU, oU, oU, oU, oU, oU, oU, oU, oU, oU, oU, oU, oU, oU, oU, oU, oU, oU, oU, oU, oU, oU] [(.long p0)]
  refine own_st (X0.ldc2Long hx hown (mvT hZ (own_w hw 0 rfl)) (g := (mkF m 1 #[oJ p0, oS, oI p1, oI p2, oI p3, oI p4, oU, oU, oU, oU, oU, oU, oU, oU, oU, oU, oU, oU, oU, oU, oU, oU, oU, oU, oU, oU, oU, oU, oU, oU, oU] [(.long p0)])) rfl (hb hby at_1)) ?_
  refine own_st (fun t_ k_ => XS.land X0.here hx rfl (hb hby at_4) rfl k_) ?_
  show own_at p e below _ s₁ m 5 #[oJ p0, oS, oI p1, oI p2, oI p3, oI p4, oU, oU, oU, oU, oU, oU, oU, oU, oU, oU, oU, oU, oU, oU, oU, oU, oU, oU, oU, oU, oU, oU, oU, oU, oU] [(.long (p0 &&& (9223372036854775807 : Int64)))]
  obtain ⟨uu, e_uu⟩ : ∃ z, z = (p0 &&& (9223372036854775807 : Int64)) := ⟨_, rfl⟩
  rw [show (p0 &&& (9223372036854775807 : Int64)) = uu from e_uu.symm]
  obtain ⟨U, hU⟩ : ∃ U : Nat, uu.toInt = (U : Int) := by rw [e_uu]; exact own_uN _
  refine own_st (fun t_ k_ => XS.lstore X0.here hx rfl (hb hby at_5) rfl (l' := #[oJ p0, oS, oI p1, oI p2, oI p3, oI p4, oJ uu, oS, oU, oU, oU, oU, oU, oU, oU, oU, oU, oU, oU, oU, oU, oU, oU, oU, oU, oU, oU, oU, oU, oU, oU]) rfl (XS.iloadN X0.here hx rfl (hb hby at_7) rfl (XS.bipush X0.here hx rfl (hb hby at_8) (XS.iand X0.here hx rfl (hb hby at_10) rfl (XS.bipush X0.here hx rfl (hb hby at_11) k_))))) ?_
  show own_at p e below _ s₁ m 13 #[oJ p0, oS, oI p1, oI p2, oI p3, oI p4, oJ uu, oS, oU, oU, oU, oU, oU, oU, oU, oU, oU, oU, oU, oU, oU, oU, oU, oU, oU, oU, oU, oU, oU, oU, oU] [(.int (12 : Int32)), (.int (p1 &&& (15 : Int32)))]
  refine own_st (fun t_ k_ => iremM X0 hx rfl (hb hby at_13) rfl (by decide) k_) ?_
  obtain ⟨dg, e_dg⟩ : ∃ z, z = ((p1 &&& (15 : Int32)) % (12 : Int32)) := ⟨_, rfl⟩
  show own_at p e below _ s₁ m 14 #[oJ p0, oS, oI p1, oI p2, oI p3, oI p4, oJ uu, oS, oU, oU, oU, oU, oU, oU, oU, oU, oU, oU, oU, oU, oU, oU, oU, oU, oU, oU, oU, oU, oU, oU, oU] [(.int ((p1 &&& (15 : Int32)) % (12 : Int32)))]
  rw [show ((p1 &&& (15 : Int32)) % (12 : Int32)) = dg from e_dg.symm]
  obtain ⟨nD, hD⟩ : ∃ n : Nat, dg.toInt = (n : Int) ∧ n ≤ 11 := by rw [e_dg]; exact own_dN _
  refine own_st (fun t_ k_ => XS.istore X0.here hx rfl (hb hby at_14) rfl (l' := #[oJ p0, oS, oI p1, oI p2, oI p3, oI p4, oJ uu, oS, oI dg, oU, oU, oU, oU, oU, oU, oU, oU, oU, oU, oU, oU, oU, oU, oU, oU, oU, oU, oU, oU, oU, oU]) rfl (XS.iloadN X0.here hx rfl (hb hby at_16) rfl (XS.iconst X0.here hx rfl (hb hby at_17) (XS.iushr X0.here hx rfl (hb hby at_18) rfl (XS.iconst X0.here hx rfl (hb hby at_19) (XS.iand X0.here hx rfl (hb hby at_20) rfl k_)))))) ?_
  show own_at p e below _ s₁ m 21 #[oJ p0, oS, oI p1, oI p2, oI p3, oI p4, oJ uu, oS, oI dg, oU, oU, oU, oU, oU, oU, oU, oU, oU, oU, oU, oU, oU, oU, oU, oU, oU, oU, oU, oU, oU, oU] [(.int (((p1.toUInt32 >>> ((4 : Int32) &&& 31).toUInt32).toInt32) &&& (1 : Int32)))]
  rcases (own_bit : (((p1.toUInt32 >>> ((4 : Int32) &&& 31).toUInt32).toInt32) &&& (1 : Int32)) = (0 : Int32) ∨ _) with hbt | hbt
  · skip
    rw [show (((p1.toUInt32 >>> ((4 : Int32) &&& 31).toUInt32).toInt32) &&& (1 : Int32)) = (0 : Int32) from hbt]
    refine own_st (fun t_ k_ => XS.istore X0.here hx rfl (hb hby at_21) rfl (l' := #[oJ p0, oS, oI p1, oI p2, oI p3, oI p4, oJ uu, oS, oI dg, oI (0 : Int32), oU, oU, oU, oU, oU, oU, oU, oU, oU, oU, oU, oU, oU, oU, oU, oU, oU, oU, oU, oU, oU]) rfl k_) ?_
    show own_at p e below _ s₁ m 23 #[oJ p0, oS, oI p1, oI p2, oI p3, oI p4, oJ uu, oS, oI dg, oI (0 : Int32), oU, oU, oU, oU, oU, oU, oU, oU, oU, oU, oU, oU, oU, oU, oU, oU, oU, oU, oU, oU, oU] []
    have j36 : ∀ xb : Int32, own_at p e below (own_PW below s Z own_EL (own_Q0 Z p0 p1 p2 p3 p4 G1 G3 aE h0 n0) room_1.cells room_1.slots) s₁ m 36 #[oJ p0, oS, oI p1, oI p2, oI p3, oI p4, oJ uu, oS, oI dg, oI (0 : Int32), oU, oU, oU, oU, oU, oU, oU, oU, oU, oU, oU, oU, oU, oU, oU, oU, oU, oU, oU, oU, oU] [(.int xb)] := by
      intro xb
      refine own_st (fun t_ k_ => XS.istore X0.here hx rfl (hb hby at_36) rfl (l' := #[oJ p0, oS, oI p1, oI p2, oI p3, oI p4, oJ uu, oS, oI dg, oI (0 : Int32), oI xb, oU, oU, oU, oU, oU, oU, oU, oU, oU, oU, oU, oU, oU, oU, oU, oU, oU, oU, oU, oU]) rfl (XS.iloadN X0.here hx rfl (hb hby at_38) rfl (XS.bipush X0.here hx rfl (hb hby at_39) (XS.iushr X0.here hx rfl (hb hby at_41) rfl k_)))) ?_
      show own_at p e below _ s₁ m 42 #[oJ p0, oS, oI p1, oI p2, oI p3, oI p4, oJ uu, oS, oI dg, oI (0 : Int32), oI xb, oU, oU, oU, oU, oU, oU, oU, oU, oU, oU, oU, oU, oU, oU, oU, oU, oU, oU, oU, oU] [(.int ((p1.toUInt32 >>> ((6 : Int32) &&& 31).toUInt32).toInt32))]
      obtain ⟨ps, e_ps⟩ : ∃ z, z = ((p1.toUInt32 >>> ((6 : Int32) &&& 31).toUInt32).toInt32) := ⟨_, rfl⟩
      rw [show ((p1.toUInt32 >>> ((6 : Int32) &&& 31).toUInt32).toInt32) = ps from e_ps.symm]
      have hps : 0 ≤ ps.toInt := by rw [e_ps]; exact own_psN _
      refine own_st (fun t_ k_ => XS.istore X0.here hx rfl (hb hby at_42) rfl (l' := #[oJ p0, oS, oI p1, oI p2, oI p3, oI p4, oJ uu, oS, oI dg, oI (0 : Int32), oI xb, oI ps, oU, oU, oU, oU, oU, oU, oU, oU, oU, oU, oU, oU, oU, oU, oU, oU, oU, oU, oU]) rfl (XS.iloadN X0.here hx rfl (hb hby at_44) rfl k_)) ?_
      show own_at p e below _ s₁ m 45 #[oJ p0, oS, oI p1, oI p2, oI p3, oI p4, oJ uu, oS, oI dg, oI (0 : Int32), oI xb, oI ps, oU, oU, oU, oU, oU, oU, oU, oU, oU, oU, oU, oU, oU, oU, oU, oU, oU, oU, oU] [(.int p2)]
      refine own_st (X0.ldcInt hx hown (mvT hZ (own_w hw 1 rfl)) (g := (mkF m 45 #[oJ p0, oS, oI p1, oI p2, oI p3, oI p4, oJ uu, oS, oI dg, oI (0 : Int32), oI xb, oI ps, oU, oU, oU, oU, oU, oU, oU, oU, oU, oU, oU, oU, oU, oU, oU, oU, oU, oU, oU] [(.int p2)])) rfl (hb hby at_45)) ?_
      refine own_st (fun t_ k_ => XS.iand X0.here hx rfl (hb hby at_47) rfl (XS.i2c X0.here hx rfl (hb hby at_48) rfl k_)) ?_
      show own_at p e below _ s₁ m 49 #[oJ p0, oS, oI p1, oI p2, oI p3, oI p4, oJ uu, oS, oI dg, oI (0 : Int32), oI xb, oI ps, oU, oU, oU, oU, oU, oU, oU, oU, oU, oU, oU, oU, oU, oU, oU, oU, oU, oU, oU] [(.int ((p2 &&& (65535 : Int32)).toUInt32.toUInt16.toUInt32.toInt32))]
      obtain ⟨cc, e_cc⟩ : ∃ z, z = ((p2 &&& (65535 : Int32)).toUInt32.toUInt16.toUInt32.toInt32) := ⟨_, rfl⟩
      rw [show ((p2 &&& (65535 : Int32)).toUInt32.toUInt16.toUInt32.toInt32) = cc from e_cc.symm]
      have hcc : 0 ≤ cc.toInt ∧ cc.toInt ≤ 65535 := by rw [e_cc]; have z_ := c_i2c (p2 &&& (65535 : Int32)); omega
      have hccn : nar .char cc = cc := own_narc hcc.1 hcc.2
      refine own_st (fun t_ k_ => XS.istore X0.here hx rfl (hb hby at_49) rfl (l' := #[oJ p0, oS, oI p1, oI p2, oI p3, oI p4, oJ uu, oS, oI dg, oI (0 : Int32), oI xb, oI ps, oI cc, oU, oU, oU, oU, oU, oU, oU, oU, oU, oU, oU, oU, oU, oU, oU, oU, oU, oU]) rfl (XS.iload X0.here hx rfl (hb hby at_51) rfl (XS.iload X0.here hx rfl (hb hby at_53) rfl (XS.iadd X0.here hx rfl (hb hby at_55) rfl k_)))) ?_
      show own_at p e below _ s₁ m 56 #[oJ p0, oS, oI p1, oI p2, oI p3, oI p4, oJ uu, oS, oI dg, oI (0 : Int32), oI xb, oI ps, oI cc, oU, oU, oU, oU, oU, oU, oU, oU, oU, oU, oU, oU, oU, oU, oU, oU, oU, oU] [(.int ((0 : Int32) + dg))]
      obtain ⟨ln, e_ln⟩ : ∃ z, z = ((0 : Int32) + dg) := ⟨_, rfl⟩
      rw [show ((0 : Int32) + dg) = ln from e_ln.symm]
      have hln : ln.toInt = ((0 + nD : Nat) : Int) := by rw [e_ln]; exact own_cadd (by decide) hD.1 (by omega)
      refine own_st (fun t_ k_ => XS.istore X0.here hx rfl (hb hby at_56) rfl (l' := #[oJ p0, oS, oI p1, oI p2, oI p3, oI p4, oJ uu, oS, oI dg, oI (0 : Int32), oI xb, oI ps, oI cc, oI ln, oU, oU, oU, oU, oU, oU, oU, oU, oU, oU, oU, oU, oU, oU, oU, oU, oU]) rfl (XS.iload X0.here hx rfl (hb hby at_58) rfl k_)) ?_
      show own_at p e below _ s₁ m 60 #[oJ p0, oS, oI p1, oI p2, oI p3, oI p4, oJ uu, oS, oI dg, oI (0 : Int32), oI xb, oI ps, oI cc, oI ln, oU, oU, oU, oU, oU, oU, oU, oU, oU, oU, oU, oU, oU, oU, oU, oU, oU] [(.int ln)]
      obtain ⟨T255, h255, k255, X255, e255, E255, A255, st255⟩ := newP X0 hx hZ (own_w hw 2 rfl) e0 (g := (mkF m 60 #[oJ p0, oS, oI p1, oI p2, oI p3, oI p4, oJ uu, oS, oI dg, oI (0 : Int32), oI xb, oI ps, oI cc, oI ln, oU, oU, oU, oU, oU, oU, oU, oU, oU, oU, oU, oU, oU, oU, oU, oU, oU] [(.int ln)])) rfl (hb hby at_60) rfl (own_nn hln) (cap := 12) (own_cl hln (by omega)) (by decide) (by decide) (by decide)
      obtain ⟨b255, g255⟩ : ∃ z, z = h0.size := ⟨_, rfl⟩
      rw [← g255] at A255 st255
      have fr255 : h0.size ≤ b255 := Nat.le_trans (Keep.refl h0 []).1 (Nat.le_of_eq g255.symm)
      have ge255 : n0 ≤ b255 := Nat.le_trans Z0 fr255
      have K255 : Keep h0 h255 [] := (Keep.refl h0 []).ext E255
      have c255 : CHr Z own_EL _ h0 _ h255 := CHr.ext E255 C0.1
      have C255 := C0.trans c255
      have kk255 := Nat.le_trans k0 c255.2.1
      have Sf255_b255 : Safe Z own_EL _ h255 b255 := Safe.ext E255 C0.1 (Safe.new (Nat.le_of_eq g255.symm))
      have Ar255 : own_A Z h255 b255 k255 .char (0 + nD) (fun i => .int ((fun _ => (0 : Int32)) i)) := own_A.new A255 (own_asN hln) (own_nn hln) (hn := by omega)
      refine own_st (st255) ?_
      refine own_st (fun t_ k_ => XS.astore X255.here hx rfl (hb hby at_62) rfl rfl (l' := #[oJ p0, oS, oI p1, oI p2, oI p3, oI p4, oJ uu, oS, oI dg, oI (0 : Int32), oI xb, oI ps, oI cc, oI ln, oR b255, oU, oU, oU, oU, oU, oU, oU, oU, oU, oU, oU, oU, oU, oU, oU, oU]) rfl (XS.iload X255.here hx rfl (hb hby at_64) rfl (XS.iconst X255.here hx rfl (hb hby at_66) (XS.icmpYes X255.here hx rfl (pc0 := 67) (pc' := 76) rfl (hb hby at_67) rfl (feq (by decide : ¬ ((0 : Int32) = (1 : Int32)))).2 (by decide) (by decide) k_)))) ?_
      show own_at p e below _ T255 m 76 #[oJ p0, oS, oI p1, oI p2, oI p3, oI p4, oJ uu, oS, oI dg, oI (0 : Int32), oI xb, oI ps, oI cc, oI ln, oR b255, oU, oU, oU, oU, oU, oU, oU, oU, oU, oU, oU, oU, oU, oU, oU, oU] []
      obtain ⟨g9, e_g9⟩ : ∃ f_ : Nat → Int32, f_ = (fun _ => (0 : Int32)) := ⟨_, rfl⟩
      have Ag9 : own_A Z h255 b255 k255 .char (0 + nD) (fun i => .int ((own_pk 0 nD uu 0 g9) i)) := (Ar255).congr (fun q _ => by rw [own_pk0, e_g9])
      refine own_st (fun t_ k_ => XS.aload X255.here hx rfl (hb hby at_76) rfl rfl (XS.iload X255.here hx rfl (hb hby at_78) rfl (XS.iload X255.here hx rfl (hb hby at_80) rfl (XS.lload X255.here hx rfl (hb hby at_82) rfl (XS.iconst X255.here hx rfl (hb hby at_84) k_))))) ?_
      show own_at p e below _ T255 m 85 #[oJ p0, oS, oI p1, oI p2, oI p3, oI p4, oJ uu, oS, oI dg, oI (0 : Int32), oI xb, oI ps, oI cc, oI ln, oR b255, oU, oU, oU, oU, oU, oU, oU, oU, oU, oU, oU, oU, oU, oU, oU, oU] [(.int (0 : Int32)), (.long uu), (.int dg), (.int (0 : Int32)), (.ref b255)]
      obtain ⟨_, _, ⟨T256, L256, k256, n256⟩, -, X256, ⟨Lc256, hQ256, l256, y256, z256⟩, st256⟩ := Jvm.LawKit.callS X255 hx (y := own_n20) hown (mvT hZ (own_w hw 3 rfl)) (mvT hZ (own_w hw 4 rfl)) (mvT hZ (own_w hw 5 rfl)) (mvT hZ (own_w hw 6 rfl)) (by decide) (backOf (W := 0) (own_rm1 l Z a0 hw [] b255 (0 : Int32) dg uu (0 : Int32) k255 0 nD 0 g9 h255 n0 (Nat.le_trans Z0 K255.1) Ag9 ge255 ⟨(by decide), hD.1, (by decide), (by decide), hD.2, (by decide)⟩) hZ (own_w hw 6 rfl) (own_w hw 5 rfl) (by decide) (by decide)) (g := (mkF m 85 #[oJ p0, oS, oI p1, oI p2, oI p3, oI p4, oJ uu, oS, oI dg, oI (0 : Int32), oI xb, oI ps, oI cc, oI ln, oR b255, oU, oU, oU, oU, oU, oU, oU, oU, oU, oU, oU, oU, oU, oU, oU, oU] [(.int (0 : Int32)), (.long uu), (.int dg), (.int (0 : Int32)), (.ref b255)])) rfl (by rw [hml]; rfl) (argsL := [(.ref b255), (.int (0 : Int32)), (.int dg), (.long uu), (.int (0 : Int32))]) (rest := []) (lenOf own_pd24 rfl) rfl (own_hW rfl) (hb hby at_85) (fun _ _ => ⟨rfl, e255, (by decide : 1 + 1 ≤ _), (by decide : 12 + 12 ≤ _)⟩)
      dsimp only [Pt.U, Pt.locs, Pt.cells, Pt.slots] at X256 l256 y256 z256 st256 hQ256
      subst y256 z256
      obtain ⟨rfl, N256q, Kq256, P256_0⟩ := hQ256
      have N256 : Fr n0 L256 := by rw [l256]; exact Fr.app N0 N256q
      have K256 : Keep h0 T256.heap [] := K255.trans Kq256 (allS (P := fun x => x ∈ [] ∨ h0.size ≤ x) (Or.inr fr255) all0)
      have c256 : CHr Z own_EL _ h255 _ T256.heap := CHr.keep Kq256 (own_slS (own_safeA hZ.alike Ag9 (by decide)) own_sl0) C255.1
      have C256 := C255.trans c256
      have kk256 := Nat.le_trans kk255 c256.2.1
      refine own_st (st256) ?_
      refine own_st (fun t_ k_ => XS.aload X256.here hx rfl (hb hby at_88) rfl rfl (XS.iload X256.here hx rfl (hb hby at_90) rfl (XS.iload X256.here hx rfl (hb hby at_92) rfl (XS.lload X256.here hx rfl (hb hby at_94) rfl (XS.iconst X256.here hx rfl (hb hby at_96) k_))))) ?_
      show own_at p e below _ T256 m 97 #[oJ p0, oS, oI p1, oI p2, oI p3, oI p4, oJ uu, oS, oI dg, oI (0 : Int32), oI xb, oI ps, oI cc, oI ln, oR b255, oU, oU, oU, oU, oU, oU, oU, oU, oU, oU, oU, oU, oU, oU, oU, oU] [(.int (1 : Int32)), (.long uu), (.int dg), (.int (0 : Int32)), (.ref b255)]
      obtain ⟨_, _, ⟨T257, L257, k257, n257⟩, -, X257, ⟨Lc257, hQ257, l257, y257, z257⟩, st257⟩ := Jvm.LawKit.callS X256 hx (y := own_n20) hown (mvT hZ (own_w hw 3 rfl)) (mvT hZ (own_w hw 4 rfl)) (mvT hZ (own_w hw 5 rfl)) (mvT hZ (own_w hw 6 rfl)) (by decide) (backOf (W := 0) (own_rm1 l Z a0 hw [] b255 (0 : Int32) dg uu (1 : Int32) k255 0 nD (0 + 1) g9 T256.heap n0 (Nat.le_trans Z0 K256.1) P256_0 ge255 ⟨(by decide), hD.1, (by decide), (by decide), hD.2, (by decide)⟩) hZ (own_w hw 6 rfl) (own_w hw 5 rfl) (by decide) (by decide)) (g := (mkF m 97 #[oJ p0, oS, oI p1, oI p2, oI p3, oI p4, oJ uu, oS, oI dg, oI (0 : Int32), oI xb, oI ps, oI cc, oI ln, oR b255, oU, oU, oU, oU, oU, oU, oU, oU, oU, oU, oU, oU, oU, oU, oU, oU] [(.int (1 : Int32)), (.long uu), (.int dg), (.int (0 : Int32)), (.ref b255)])) rfl (by rw [hml]; rfl) (argsL := [(.ref b255), (.int (0 : Int32)), (.int dg), (.long uu), (.int (1 : Int32))]) (rest := []) (lenOf own_pd24 rfl) rfl (own_hW rfl) (hb hby at_97) (fun _ _ => ⟨rfl, rfl, (by decide : 2 + 1 ≤ _), (by decide : 24 + 12 ≤ _)⟩)
      dsimp only [Pt.U, Pt.locs, Pt.cells, Pt.slots] at X257 l257 y257 z257 st257 hQ257
      subst y257 z257
      obtain ⟨rfl, N257q, Kq257, P257_0⟩ := hQ257
      have N257 : Fr n0 L257 := by rw [l257]; exact Fr.app N256 N257q
      have K257 : Keep h0 T257.heap [] := K256.trans Kq257 (allS (P := fun x => x ∈ [] ∨ h0.size ≤ x) (Or.inr fr255) all0)
      have c257 : CHr Z own_EL _ T256.heap _ T257.heap := CHr.keep Kq257 (own_slS (own_safeA hZ.alike P256_0 (by decide)) own_sl0) C256.1
      have C257 := C256.trans c257
      have kk257 := Nat.le_trans kk256 c257.2.1
      refine own_st (st257) ?_
      refine own_st (fun t_ k_ => XS.aload X257.here hx rfl (hb hby at_100) rfl rfl (XS.iload X257.here hx rfl (hb hby at_102) rfl (XS.iload X257.here hx rfl (hb hby at_104) rfl (XS.lload X257.here hx rfl (hb hby at_106) rfl (XS.iconst X257.here hx rfl (hb hby at_108) k_))))) ?_
      show own_at p e below _ T257 m 109 #[oJ p0, oS, oI p1, oI p2, oI p3, oI p4, oJ uu, oS, oI dg, oI (0 : Int32), oI xb, oI ps, oI cc, oI ln, oR b255, oU, oU, oU, oU, oU, oU, oU, oU, oU, oU, oU, oU, oU, oU, oU, oU] [(.int (2 : Int32)), (.long uu), (.int dg), (.int (0 : Int32)), (.ref b255)]
      obtain ⟨_, _, ⟨T258, L258, k258, n258⟩, -, X258, ⟨Lc258, hQ258, l258, y258, z258⟩, st258⟩ := Jvm.LawKit.callS X257 hx (y := own_n20) hown (mvT hZ (own_w hw 3 rfl)) (mvT hZ (own_w hw 4 rfl)) (mvT hZ (own_w hw 5 rfl)) (mvT hZ (own_w hw 6 rfl)) (by decide) (backOf (W := 0) (own_rm1 l Z a0 hw [] b255 (0 : Int32) dg uu (2 : Int32) k255 0 nD ((0 + 1) + 1) g9 T257.heap n0 (Nat.le_trans Z0 K257.1) P257_0 ge255 ⟨(by decide), hD.1, (by decide), (by decide), hD.2, (by decide)⟩) hZ (own_w hw 6 rfl) (own_w hw 5 rfl) (by decide) (by decide)) (g := (mkF m 109 #[oJ p0, oS, oI p1, oI p2, oI p3, oI p4, oJ uu, oS, oI dg, oI (0 : Int32), oI xb, oI ps, oI cc, oI ln, oR b255, oU, oU, oU, oU, oU, oU, oU, oU, oU, oU, oU, oU, oU, oU, oU, oU] [(.int (2 : Int32)), (.long uu), (.int dg), (.int (0 : Int32)), (.ref b255)])) rfl (by rw [hml]; rfl) (argsL := [(.ref b255), (.int (0 : Int32)), (.int dg), (.long uu), (.int (2 : Int32))]) (rest := []) (lenOf own_pd24 rfl) rfl (own_hW rfl) (hb hby at_109) (fun _ _ => ⟨rfl, rfl, (by decide : 3 + 1 ≤ _), (by decide : 36 + 12 ≤ _)⟩)
      dsimp only [Pt.U, Pt.locs, Pt.cells, Pt.slots] at X258 l258 y258 z258 st258 hQ258
      subst y258 z258
      obtain ⟨rfl, N258q, Kq258, P258_0⟩ := hQ258
      have N258 : Fr n0 L258 := by rw [l258]; exact Fr.app N257 N258q
      have K258 : Keep h0 T258.heap [] := K257.trans Kq258 (allS (P := fun x => x ∈ [] ∨ h0.size ≤ x) (Or.inr fr255) all0)
      have c258 : CHr Z own_EL _ T257.heap _ T258.heap := CHr.keep Kq258 (own_slS (own_safeA hZ.alike P257_0 (by decide)) own_sl0) C257.1
      have C258 := C257.trans c258
      have kk258 := Nat.le_trans kk257 c258.2.1
      refine own_st (st258) ?_
      refine own_st (fun t_ k_ => XS.aload X258.here hx rfl (hb hby at_112) rfl rfl (XS.iload X258.here hx rfl (hb hby at_114) rfl (XS.iload X258.here hx rfl (hb hby at_116) rfl (XS.lload X258.here hx rfl (hb hby at_118) rfl (XS.iconst X258.here hx rfl (hb hby at_120) k_))))) ?_
      show own_at p e below _ T258 m 121 #[oJ p0, oS, oI p1, oI p2, oI p3, oI p4, oJ uu, oS, oI dg, oI (0 : Int32), oI xb, oI ps, oI cc, oI ln, oR b255, oU, oU, oU, oU, oU, oU, oU, oU, oU, oU, oU, oU, oU, oU, oU, oU] [(.int (3 : Int32)), (.long uu), (.int dg), (.int (0 : Int32)), (.ref b255)]
      obtain ⟨_, _, ⟨T259, L259, k259, n259⟩, -, X259, ⟨Lc259, hQ259, l259, y259, z259⟩, st259⟩ := Jvm.LawKit.callS X258 hx (y := own_n20) hown (mvT hZ (own_w hw 3 rfl)) (mvT hZ (own_w hw 4 rfl)) (mvT hZ (own_w hw 5 rfl)) (mvT hZ (own_w hw 6 rfl)) (by decide) (backOf (W := 0) (own_rm1 l Z a0 hw [] b255 (0 : Int32) dg uu (3 : Int32) k255 0 nD (((0 + 1) + 1) + 1) g9 T258.heap n0 (Nat.le_trans Z0 K258.1) P258_0 ge255 ⟨(by decide), hD.1, (by decide), (by decide), hD.2, (by decide)⟩) hZ (own_w hw 6 rfl) (own_w hw 5 rfl) (by decide) (by decide)) (g := (mkF m 121 #[oJ p0, oS, oI p1, oI p2, oI p3, oI p4, oJ uu, oS, oI dg, oI (0 : Int32), oI xb, oI ps, oI cc, oI ln, oR b255, oU, oU, oU, oU, oU, oU, oU, oU, oU, oU, oU, oU, oU, oU, oU, oU] [(.int (3 : Int32)), (.long uu), (.int dg), (.int (0 : Int32)), (.ref b255)])) rfl (by rw [hml]; rfl) (argsL := [(.ref b255), (.int (0 : Int32)), (.int dg), (.long uu), (.int (3 : Int32))]) (rest := []) (lenOf own_pd24 rfl) rfl (own_hW rfl) (hb hby at_121) (fun _ _ => ⟨rfl, rfl, (by decide : 4 + 1 ≤ _), (by decide : 48 + 12 ≤ _)⟩)
      dsimp only [Pt.U, Pt.locs, Pt.cells, Pt.slots] at X259 l259 y259 z259 st259 hQ259
      subst y259 z259
      obtain ⟨rfl, N259q, Kq259, P259_0⟩ := hQ259
      have N259 : Fr n0 L259 := by rw [l259]; exact Fr.app N258 N259q
      have K259 : Keep h0 T259.heap [] := K258.trans Kq259 (allS (P := fun x => x ∈ [] ∨ h0.size ≤ x) (Or.inr fr255) all0)
      have c259 : CHr Z own_EL _ T258.heap _ T259.heap := CHr.keep Kq259 (own_slS (own_safeA hZ.alike P258_0 (by decide)) own_sl0) C258.1
      have C259 := C258.trans c259
      have kk259 := Nat.le_trans kk258 c259.2.1
      refine own_st (st259) ?_
      refine own_st (fun t_ k_ => XS.aload X259.here hx rfl (hb hby at_124) rfl rfl (XS.iload X259.here hx rfl (hb hby at_126) rfl (XS.iload X259.here hx rfl (hb hby at_128) rfl (XS.lload X259.here hx rfl (hb hby at_130) rfl (XS.iconst X259.here hx rfl (hb hby at_132) k_))))) ?_
      show own_at p e below _ T259 m 133 #[oJ p0, oS, oI p1, oI p2, oI p3, oI p4, oJ uu, oS, oI dg, oI (0 : Int32), oI xb, oI ps, oI cc, oI ln, oR b255, oU, oU, oU, oU, oU, oU, oU, oU, oU, oU, oU, oU, oU, oU, oU, oU] [(.int (4 : Int32)), (.long uu), (.int dg), (.int (0 : Int32)), (.ref b255)]
      obtain ⟨_, _, ⟨T260, L260, k260, n260⟩, -, X260, ⟨Lc260, hQ260, l260, y260, z260⟩, st260⟩ := Jvm.LawKit.callS X259 hx (y := own_n20) hown (mvT hZ (own_w hw 3 rfl)) (mvT hZ (own_w hw 4 rfl)) (mvT hZ (own_w hw 5 rfl)) (mvT hZ (own_w hw 6 rfl)) (by decide) (backOf (W := 0) (own_rm1 l Z a0 hw [] b255 (0 : Int32) dg uu (4 : Int32) k255 0 nD ((((0 + 1) + 1) + 1) + 1) g9 T259.heap n0 (Nat.le_trans Z0 K259.1) P259_0 ge255 ⟨(by decide), hD.1, (by decide), (by decide), hD.2, (by decide)⟩) hZ (own_w hw 6 rfl) (own_w hw 5 rfl) (by decide) (by decide)) (g := (mkF m 133 #[oJ p0, oS, oI p1, oI p2, oI p3, oI p4, oJ uu, oS, oI dg, oI (0 : Int32), oI xb, oI ps, oI cc, oI ln, oR b255, oU, oU, oU, oU, oU, oU, oU, oU, oU, oU, oU, oU, oU, oU, oU, oU] [(.int (4 : Int32)), (.long uu), (.int dg), (.int (0 : Int32)), (.ref b255)])) rfl (by rw [hml]; rfl) (argsL := [(.ref b255), (.int (0 : Int32)), (.int dg), (.long uu), (.int (4 : Int32))]) (rest := []) (lenOf own_pd24 rfl) rfl (own_hW rfl) (hb hby at_133) (fun _ _ => ⟨rfl, rfl, (by decide : 5 + 1 ≤ _), (by decide : 60 + 12 ≤ _)⟩)
      dsimp only [Pt.U, Pt.locs, Pt.cells, Pt.slots] at X260 l260 y260 z260 st260 hQ260
      subst y260 z260
      obtain ⟨rfl, N260q, Kq260, P260_0⟩ := hQ260
      have N260 : Fr n0 L260 := by rw [l260]; exact Fr.app N259 N260q
      have K260 : Keep h0 T260.heap [] := K259.trans Kq260 (allS (P := fun x => x ∈ [] ∨ h0.size ≤ x) (Or.inr fr255) all0)
      have c260 : CHr Z own_EL _ T259.heap _ T260.heap := CHr.keep Kq260 (own_slS (own_safeA hZ.alike P259_0 (by decide)) own_sl0) C259.1
      have C260 := C259.trans c260
      have kk260 := Nat.le_trans kk259 c260.2.1
      refine own_st (st260) ?_
      refine own_st (fun t_ k_ => XS.aload X260.here hx rfl (hb hby at_136) rfl rfl (XS.iload X260.here hx rfl (hb hby at_138) rfl (XS.iload X260.here hx rfl (hb hby at_140) rfl (XS.lload X260.here hx rfl (hb hby at_142) rfl (XS.iconst X260.here hx rfl (hb hby at_144) k_))))) ?_
      show own_at p e below _ T260 m 145 #[oJ p0, oS, oI p1, oI p2, oI p3, oI p4, oJ uu, oS, oI dg, oI (0 : Int32), oI xb, oI ps, oI cc, oI ln, oR b255, oU, oU, oU, oU, oU, oU, oU, oU, oU, oU, oU, oU, oU, oU, oU, oU] [(.int (5 : Int32)), (.long uu), (.int dg), (.int (0 : Int32)), (.ref b255)]
      obtain ⟨_, _, ⟨T261, L261, k261, n261⟩, -, X261, ⟨Lc261, hQ261, l261, y261, z261⟩, st261⟩ := Jvm.LawKit.callS X260 hx (y := own_n20) hown (mvT hZ (own_w hw 3 rfl)) (mvT hZ (own_w hw 4 rfl)) (mvT hZ (own_w hw 5 rfl)) (mvT hZ (own_w hw 6 rfl)) (by decide) (backOf (W := 0) (own_rm1 l Z a0 hw [] b255 (0 : Int32) dg uu (5 : Int32) k255 0 nD (((((0 + 1) + 1) + 1) + 1) + 1) g9 T260.heap n0 (Nat.le_trans Z0 K260.1) P260_0 ge255 ⟨(by decide), hD.1, (by decide), (by decide), hD.2, (by decide)⟩) hZ (own_w hw 6 rfl) (own_w hw 5 rfl) (by decide) (by decide)) (g := (mkF m 145 #[oJ p0, oS, oI p1, oI p2, oI p3, oI p4, oJ uu, oS, oI dg, oI (0 : Int32), oI xb, oI ps, oI cc, oI ln, oR b255, oU, oU, oU, oU, oU, oU, oU, oU, oU, oU, oU, oU, oU, oU, oU, oU] [(.int (5 : Int32)), (.long uu), (.int dg), (.int (0 : Int32)), (.ref b255)])) rfl (by rw [hml]; rfl) (argsL := [(.ref b255), (.int (0 : Int32)), (.int dg), (.long uu), (.int (5 : Int32))]) (rest := []) (lenOf own_pd24 rfl) rfl (own_hW rfl) (hb hby at_145) (fun _ _ => ⟨rfl, rfl, (by decide : 6 + 1 ≤ _), (by decide : 72 + 12 ≤ _)⟩)
      dsimp only [Pt.U, Pt.locs, Pt.cells, Pt.slots] at X261 l261 y261 z261 st261 hQ261
      subst y261 z261
      obtain ⟨rfl, N261q, Kq261, P261_0⟩ := hQ261
      have N261 : Fr n0 L261 := by rw [l261]; exact Fr.app N260 N261q
      have K261 : Keep h0 T261.heap [] := K260.trans Kq261 (allS (P := fun x => x ∈ [] ∨ h0.size ≤ x) (Or.inr fr255) all0)
      have c261 : CHr Z own_EL _ T260.heap _ T261.heap := CHr.keep Kq261 (own_slS (own_safeA hZ.alike P260_0 (by decide)) own_sl0) C260.1
      have C261 := C260.trans c261
      have kk261 := Nat.le_trans kk260 c261.2.1
      refine own_st (st261) ?_
      refine own_st (fun t_ k_ => XS.aload X261.here hx rfl (hb hby at_148) rfl rfl (XS.iload X261.here hx rfl (hb hby at_150) rfl (XS.iload X261.here hx rfl (hb hby at_152) rfl (XS.lload X261.here hx rfl (hb hby at_154) rfl (XS.bipush X261.here hx rfl (hb hby at_156) k_))))) ?_
      show own_at p e below _ T261 m 158 #[oJ p0, oS, oI p1, oI p2, oI p3, oI p4, oJ uu, oS, oI dg, oI (0 : Int32), oI xb, oI ps, oI cc, oI ln, oR b255, oU, oU, oU, oU, oU, oU, oU, oU, oU, oU, oU, oU, oU, oU, oU, oU] [(.int (6 : Int32)), (.long uu), (.int dg), (.int (0 : Int32)), (.ref b255)]
      obtain ⟨_, _, ⟨T262, L262, k262, n262⟩, -, X262, ⟨Lc262, hQ262, l262, y262, z262⟩, st262⟩ := Jvm.LawKit.callS X261 hx (y := own_n20) hown (mvT hZ (own_w hw 3 rfl)) (mvT hZ (own_w hw 4 rfl)) (mvT hZ (own_w hw 5 rfl)) (mvT hZ (own_w hw 6 rfl)) (by decide) (backOf (W := 0) (own_rm1 l Z a0 hw [] b255 (0 : Int32) dg uu (6 : Int32) k255 0 nD ((((((0 + 1) + 1) + 1) + 1) + 1) + 1) g9 T261.heap n0 (Nat.le_trans Z0 K261.1) P261_0 ge255 ⟨(by decide), hD.1, (by decide), (by decide), hD.2, (by decide)⟩) hZ (own_w hw 6 rfl) (own_w hw 5 rfl) (by decide) (by decide)) (g := (mkF m 158 #[oJ p0, oS, oI p1, oI p2, oI p3, oI p4, oJ uu, oS, oI dg, oI (0 : Int32), oI xb, oI ps, oI cc, oI ln, oR b255, oU, oU, oU, oU, oU, oU, oU, oU, oU, oU, oU, oU, oU, oU, oU, oU] [(.int (6 : Int32)), (.long uu), (.int dg), (.int (0 : Int32)), (.ref b255)])) rfl (by rw [hml]; rfl) (argsL := [(.ref b255), (.int (0 : Int32)), (.int dg), (.long uu), (.int (6 : Int32))]) (rest := []) (lenOf own_pd24 rfl) rfl (own_hW rfl) (hb hby at_158) (fun _ _ => ⟨rfl, rfl, (by decide : 7 + 1 ≤ _), (by decide : 84 + 12 ≤ _)⟩)
      dsimp only [Pt.U, Pt.locs, Pt.cells, Pt.slots] at X262 l262 y262 z262 st262 hQ262
      subst y262 z262
      obtain ⟨rfl, N262q, Kq262, P262_0⟩ := hQ262
      have N262 : Fr n0 L262 := by rw [l262]; exact Fr.app N261 N262q
      have K262 : Keep h0 T262.heap [] := K261.trans Kq262 (allS (P := fun x => x ∈ [] ∨ h0.size ≤ x) (Or.inr fr255) all0)
      have c262 : CHr Z own_EL _ T261.heap _ T262.heap := CHr.keep Kq262 (own_slS (own_safeA hZ.alike P261_0 (by decide)) own_sl0) C261.1
      have C262 := C261.trans c262
      have kk262 := Nat.le_trans kk261 c262.2.1
      refine own_st (st262) ?_
      refine own_st (fun t_ k_ => XS.aload X262.here hx rfl (hb hby at_161) rfl rfl (XS.iload X262.here hx rfl (hb hby at_163) rfl (XS.iload X262.here hx rfl (hb hby at_165) rfl (XS.lload X262.here hx rfl (hb hby at_167) rfl (XS.bipush X262.here hx rfl (hb hby at_169) k_))))) ?_
      show own_at p e below _ T262 m 171 #[oJ p0, oS, oI p1, oI p2, oI p3, oI p4, oJ uu, oS, oI dg, oI (0 : Int32), oI xb, oI ps, oI cc, oI ln, oR b255, oU, oU, oU, oU, oU, oU, oU, oU, oU, oU, oU, oU, oU, oU, oU, oU] [(.int (7 : Int32)), (.long uu), (.int dg), (.int (0 : Int32)), (.ref b255)]
      obtain ⟨_, _, ⟨T263, L263, k263, n263⟩, -, X263, ⟨Lc263, hQ263, l263, y263, z263⟩, st263⟩ := Jvm.LawKit.callS X262 hx (y := own_n20) hown (mvT hZ (own_w hw 3 rfl)) (mvT hZ (own_w hw 4 rfl)) (mvT hZ (own_w hw 5 rfl)) (mvT hZ (own_w hw 6 rfl)) (by decide) (backOf (W := 0) (own_rm1 l Z a0 hw [] b255 (0 : Int32) dg uu (7 : Int32) k255 0 nD (((((((0 + 1) + 1) + 1) + 1) + 1) + 1) + 1) g9 T262.heap n0 (Nat.le_trans Z0 K262.1) P262_0 ge255 ⟨(by decide), hD.1, (by decide), (by decide), hD.2, (by decide)⟩) hZ (own_w hw 6 rfl) (own_w hw 5 rfl) (by decide) (by decide)) (g := (mkF m 171 #[oJ p0, oS, oI p1, oI p2, oI p3, oI p4, oJ uu, oS, oI dg, oI (0 : Int32), oI xb, oI ps, oI cc, oI ln, oR b255, oU, oU, oU, oU, oU, oU, oU, oU, oU, oU, oU, oU, oU, oU, oU, oU] [(.int (7 : Int32)), (.long uu), (.int dg), (.int (0 : Int32)), (.ref b255)])) rfl (by rw [hml]; rfl) (argsL := [(.ref b255), (.int (0 : Int32)), (.int dg), (.long uu), (.int (7 : Int32))]) (rest := []) (lenOf own_pd24 rfl) rfl (own_hW rfl) (hb hby at_171) (fun _ _ => ⟨rfl, rfl, (by decide : 8 + 1 ≤ _), (by decide : 96 + 12 ≤ _)⟩)
      dsimp only [Pt.U, Pt.locs, Pt.cells, Pt.slots] at X263 l263 y263 z263 st263 hQ263
      subst y263 z263
      obtain ⟨rfl, N263q, Kq263, P263_0⟩ := hQ263
      have N263 : Fr n0 L263 := by rw [l263]; exact Fr.app N262 N263q
      have K263 : Keep h0 T263.heap [] := K262.trans Kq263 (allS (P := fun x => x ∈ [] ∨ h0.size ≤ x) (Or.inr fr255) all0)
      have c263 : CHr Z own_EL _ T262.heap _ T263.heap := CHr.keep Kq263 (own_slS (own_safeA hZ.alike P262_0 (by decide)) own_sl0) C262.1
      have C263 := C262.trans c263
      have kk263 := Nat.le_trans kk262 c263.2.1
      refine own_st (st263) ?_
      refine own_st (fun t_ k_ => XS.aload X263.here hx rfl (hb hby at_174) rfl rfl (XS.iload X263.here hx rfl (hb hby at_176) rfl (XS.iload X263.here hx rfl (hb hby at_178) rfl (XS.lload X263.here hx rfl (hb hby at_180) rfl (XS.bipush X263.here hx rfl (hb hby at_182) k_))))) ?_
      show own_at p e below _ T263 m 184 #[oJ p0, oS, oI p1, oI p2, oI p3, oI p4, oJ uu, oS, oI dg, oI (0 : Int32), oI xb, oI ps, oI cc, oI ln, oR b255, oU, oU, oU, oU, oU, oU, oU, oU, oU, oU, oU, oU, oU, oU, oU, oU] [(.int (8 : Int32)), (.long uu), (.int dg), (.int (0 : Int32)), (.ref b255)]
      obtain ⟨_, _, ⟨T264, L264, k264, n264⟩, -, X264, ⟨Lc264, hQ264, l264, y264, z264⟩, st264⟩ := Jvm.LawKit.callS X263 hx (y := own_n20) hown (mvT hZ (own_w hw 3 rfl)) (mvT hZ (own_w hw 4 rfl)) (mvT hZ (own_w hw 5 rfl)) (mvT hZ (own_w hw 6 rfl)) (by decide) (backOf (W := 0) (own_rm1 l Z a0 hw [] b255 (0 : Int32) dg uu (8 : Int32) k255 0 nD ((((((((0 + 1) + 1) + 1) + 1) + 1) + 1) + 1) + 1) g9 T263.heap n0 (Nat.le_trans Z0 K263.1) P263_0 ge255 ⟨(by decide), hD.1, (by decide), (by decide), hD.2, (by decide)⟩) hZ (own_w hw 6 rfl) (own_w hw 5 rfl) (by decide) (by decide)) (g := (mkF m 184 #[oJ p0, oS, oI p1, oI p2, oI p3, oI p4, oJ uu, oS, oI dg, oI (0 : Int32), oI xb, oI ps, oI cc, oI ln, oR b255, oU, oU, oU, oU, oU, oU, oU, oU, oU, oU, oU, oU, oU, oU, oU, oU] [(.int (8 : Int32)), (.long uu), (.int dg), (.int (0 : Int32)), (.ref b255)])) rfl (by rw [hml]; rfl) (argsL := [(.ref b255), (.int (0 : Int32)), (.int dg), (.long uu), (.int (8 : Int32))]) (rest := []) (lenOf own_pd24 rfl) rfl (own_hW rfl) (hb hby at_184) (fun _ _ => ⟨rfl, rfl, (by decide : 9 + 1 ≤ _), (by decide : 108 + 12 ≤ _)⟩)
      dsimp only [Pt.U, Pt.locs, Pt.cells, Pt.slots] at X264 l264 y264 z264 st264 hQ264
      subst y264 z264
      obtain ⟨rfl, N264q, Kq264, P264_0⟩ := hQ264
      have N264 : Fr n0 L264 := by rw [l264]; exact Fr.app N263 N264q
      have K264 : Keep h0 T264.heap [] := K263.trans Kq264 (allS (P := fun x => x ∈ [] ∨ h0.size ≤ x) (Or.inr fr255) all0)
      have c264 : CHr Z own_EL _ T263.heap _ T264.heap := CHr.keep Kq264 (own_slS (own_safeA hZ.alike P263_0 (by decide)) own_sl0) C263.1
      have C264 := C263.trans c264
      have kk264 := Nat.le_trans kk263 c264.2.1
      refine own_st (st264) ?_
      refine own_st (fun t_ k_ => XS.aload X264.here hx rfl (hb hby at_187) rfl rfl (XS.iload X264.here hx rfl (hb hby at_189) rfl (XS.iload X264.here hx rfl (hb hby at_191) rfl (XS.lload X264.here hx rfl (hb hby at_193) rfl (XS.bipush X264.here hx rfl (hb hby at_195) k_))))) ?_
      show own_at p e below _ T264 m 197 #[oJ p0, oS, oI p1, oI p2, oI p3, oI p4, oJ uu, oS, oI dg, oI (0 : Int32), oI xb, oI ps, oI cc, oI ln, oR b255, oU, oU, oU, oU, oU, oU, oU, oU, oU, oU, oU, oU, oU, oU, oU, oU] [(.int (9 : Int32)), (.long uu), (.int dg), (.int (0 : Int32)), (.ref b255)]
      obtain ⟨_, _, ⟨T265, L265, k265, n265⟩, -, X265, ⟨Lc265, hQ265, l265, y265, z265⟩, st265⟩ := Jvm.LawKit.callS X264 hx (y := own_n20) hown (mvT hZ (own_w hw 3 rfl)) (mvT hZ (own_w hw 4 rfl)) (mvT hZ (own_w hw 5 rfl)) (mvT hZ (own_w hw 6 rfl)) (by decide) (backOf (W := 0) (own_rm1 l Z a0 hw [] b255 (0 : Int32) dg uu (9 : Int32) k255 0 nD (((((((((0 + 1) + 1) + 1) + 1) + 1) + 1) + 1) + 1) + 1) g9 T264.heap n0 (Nat.le_trans Z0 K264.1) P264_0 ge255 ⟨(by decide), hD.1, (by decide), (by decide), hD.2, (by decide)⟩) hZ (own_w hw 6 rfl) (own_w hw 5 rfl) (by decide) (by decide)) (g := (mkF m 197 #[oJ p0, oS, oI p1, oI p2, oI p3, oI p4, oJ uu, oS, oI dg, oI (0 : Int32), oI xb, oI ps, oI cc, oI ln, oR b255, oU, oU, oU, oU, oU, oU, oU, oU, oU, oU, oU, oU, oU, oU, oU, oU] [(.int (9 : Int32)), (.long uu), (.int dg), (.int (0 : Int32)), (.ref b255)])) rfl (by rw [hml]; rfl) (argsL := [(.ref b255), (.int (0 : Int32)), (.int dg), (.long uu), (.int (9 : Int32))]) (rest := []) (lenOf own_pd24 rfl) rfl (own_hW rfl) (hb hby at_197) (fun _ _ => ⟨rfl, rfl, (by decide : 10 + 1 ≤ _), (by decide : 120 + 12 ≤ _)⟩)
      dsimp only [Pt.U, Pt.locs, Pt.cells, Pt.slots] at X265 l265 y265 z265 st265 hQ265
      subst y265 z265
      obtain ⟨rfl, N265q, Kq265, P265_0⟩ := hQ265
      have N265 : Fr n0 L265 := by rw [l265]; exact Fr.app N264 N265q
      have K265 : Keep h0 T265.heap [] := K264.trans Kq265 (allS (P := fun x => x ∈ [] ∨ h0.size ≤ x) (Or.inr fr255) all0)
      have c265 : CHr Z own_EL _ T264.heap _ T265.heap := CHr.keep Kq265 (own_slS (own_safeA hZ.alike P264_0 (by decide)) own_sl0) C264.1
      have C265 := C264.trans c265
      have kk265 := Nat.le_trans kk264 c265.2.1
      refine own_st (st265) ?_
      refine own_st (fun t_ k_ => XS.aload X265.here hx rfl (hb hby at_200) rfl rfl (XS.iload X265.here hx rfl (hb hby at_202) rfl (XS.iload X265.here hx rfl (hb hby at_204) rfl (XS.lload X265.here hx rfl (hb hby at_206) rfl (XS.bipush X265.here hx rfl (hb hby at_208) k_))))) ?_
      show own_at p e below _ T265 m 210 #[oJ p0, oS, oI p1, oI p2, oI p3, oI p4, oJ uu, oS, oI dg, oI (0 : Int32), oI xb, oI ps, oI cc, oI ln, oR b255, oU, oU, oU, oU, oU, oU, oU, oU, oU, oU, oU, oU, oU, oU, oU, oU] [(.int (10 : Int32)), (.long uu), (.int dg), (.int (0 : Int32)), (.ref b255)]
      obtain ⟨_, _, ⟨T266, L266, k266, n266⟩, -, X266, ⟨Lc266, hQ266, l266, y266, z266⟩, st266⟩ := Jvm.LawKit.callS X265 hx (y := own_n20) hown (mvT hZ (own_w hw 3 rfl)) (mvT hZ (own_w hw 4 rfl)) (mvT hZ (own_w hw 5 rfl)) (mvT hZ (own_w hw 6 rfl)) (by decide) (backOf (W := 0) (own_rm1 l Z a0 hw [] b255 (0 : Int32) dg uu (10 : Int32) k255 0 nD ((((((((((0 + 1) + 1) + 1) + 1) + 1) + 1) + 1) + 1) + 1) + 1) g9 T265.heap n0 (Nat.le_trans Z0 K265.1) P265_0 ge255 ⟨(by decide), hD.1, (by decide), (by decide), hD.2, (by decide)⟩) hZ (own_w hw 6 rfl) (own_w hw 5 rfl) (by decide) (by decide)) (g := (mkF m 210 #[oJ p0, oS, oI p1, oI p2, oI p3, oI p4, oJ uu, oS, oI dg, oI (0 : Int32), oI xb, oI ps, oI cc, oI ln, oR b255, oU, oU, oU, oU, oU, oU, oU, oU, oU, oU, oU, oU, oU, oU, oU, oU] [(.int (10 : Int32)), (.long uu), (.int dg), (.int (0 : Int32)), (.ref b255)])) rfl (by rw [hml]; rfl) (argsL := [(.ref b255), (.int (0 : Int32)), (.int dg), (.long uu), (.int (10 : Int32))]) (rest := []) (lenOf own_pd24 rfl) rfl (own_hW rfl) (hb hby at_210) (fun _ _ => ⟨rfl, rfl, (by decide : 11 + 1 ≤ _), (by decide : 132 + 12 ≤ _)⟩)
      dsimp only [Pt.U, Pt.locs, Pt.cells, Pt.slots] at X266 l266 y266 z266 st266 hQ266
      subst y266 z266
      obtain ⟨rfl, N266q, Kq266, P266_0⟩ := hQ266
      have N266 : Fr n0 L266 := by rw [l266]; exact Fr.app N265 N266q
      have K266 : Keep h0 T266.heap [] := K265.trans Kq266 (allS (P := fun x => x ∈ [] ∨ h0.size ≤ x) (Or.inr fr255) all0)
      have c266 : CHr Z own_EL _ T265.heap _ T266.heap := CHr.keep Kq266 (own_slS (own_safeA hZ.alike P265_0 (by decide)) own_sl0) C265.1
      have C266 := C265.trans c266
      have kk266 := Nat.le_trans kk265 c266.2.1
      refine own_st (st266) ?_
      obtain ⟨c0, e_c0⟩ : ∃ f_ : Nat → Int32, f_ = own_pk 0 nD uu 11 g9 := ⟨_, rfl⟩
      have Ac0 : own_A Z T266.heap b255 k255 .char (0 + nD) (fun i => .int (c0 i)) := by rw [e_c0]; exact P266_0
      have hd0 : ∀ q : Nat, 0 ≤ q → q < 0 + nD → (c0 q).toInt = 48 + ((U / 10 ^ (0 + nD - 1 - q) % 10 : Nat) : Int) := by rw [e_c0]; exact fun q h1_ h2_ => own_pkI hU hD.2 h1_ h2_
      have h45 : (0 : Nat) = 1 → (c0 0).toInt = 45 := fun z_ => absurd z_ (by decide)
      refine own_st (fun t_ k_ => XS.iload X266.here hx rfl (hb hby at_213) rfl k_) ?_
      show own_at p e below _ T266 m 215 #[oJ p0, oS, oI p1, oI p2, oI p3, oI p4, oJ uu, oS, oI dg, oI (0 : Int32), oI xb, oI ps, oI cc, oI ln, oR b255, oU, oU, oU, oU, oU, oU, oU, oU, oU, oU, oU, oU, oU, oU, oU, oU] [(.int xb)]
      by_cases c215_267 : xb = (0 : Int32)
      · skip
        refine own_st (fun t_ k_ => XS.ifYes X266.here hx rfl (pc0 := 215) (pc' := 227) rfl (hb hby at_215) rfl ((if0 _ _).trans (teq c215_267).1) (by decide) (by decide) (XS.iconst X266.here hx rfl (hb hby at_227) (XS.istore X266.here hx rfl (hb hby at_228) rfl (l' := #[oJ p0, oS, oI p1, oI p2, oI p3, oI p4, oJ uu, oS, oI dg, oI (0 : Int32), oI xb, oI ps, oI cc, oI ln, oR b255, oI (0 : Int32), oU, oU, oU, oU, oU, oU, oU, oU, oU, oU, oU, oU, oU, oU, oU]) rfl (XS.iload X266.here hx rfl (hb hby at_230) rfl (XS.ifYes X266.here hx rfl (pc0 := 232) (pc' := 243) rfl (hb hby at_232) rfl ((if0 _ _).trans (teq (by decide : (0 : Int32) = (0 : Int32))).1) (by decide) (by decide) (XS.iconst X266.here hx rfl (hb hby at_243) k_)))))) ?_
        show own_at p e below _ T266 m 244 #[oJ p0, oS, oI p1, oI p2, oI p3, oI p4, oJ uu, oS, oI dg, oI (0 : Int32), oI xb, oI ps, oI cc, oI ln, oR b255, oI (0 : Int32), oU, oU, oU, oU, oU, oU, oU, oU, oU, oU, oU, oU, oU, oU, oU] [(.int (0 : Int32))]
        refine own_st (fun t_ k_ => XS.istore X266.here hx rfl (hb hby at_244) rfl (l' := #[oJ p0, oS, oI p1, oI p2, oI p3, oI p4, oJ uu, oS, oI dg, oI (0 : Int32), oI xb, oI ps, oI cc, oI ln, oR b255, oI (0 : Int32), oI (0 : Int32), oU, oU, oU, oU, oU, oU, oU, oU, oU, oU, oU, oU, oU, oU]) rfl (XS.iload X266.here hx rfl (hb hby at_246) rfl (XS.ifYes X266.here hx rfl (pc0 := 248) (pc' := 258) rfl (hb hby at_248) rfl ((if0 _ _).trans (teq (by decide : (0 : Int32) = (0 : Int32))).1) (by decide) (by decide) k_))) ?_
        show own_at p e below _ T266 m 258 #[oJ p0, oS, oI p1, oI p2, oI p3, oI p4, oJ uu, oS, oI dg, oI (0 : Int32), oI xb, oI ps, oI cc, oI ln, oR b255, oI (0 : Int32), oI (0 : Int32), oU, oU, oU, oU, oU, oU, oU, oU, oU, oU, oU, oU, oU, oU] []
        obtain ⟨cs, e_cs⟩ : ∃ f_ : Nat → Int32, f_ = c0 := ⟨_, rfl⟩
        have Acs : own_A Z T266.heap b255 k255 .char (0 + nD) (fun i => .int (cs i)) := by rw [e_cs]; exact Ac0
        have hall : ∀ q : Nat, q < 0 + nD → 0 ≤ (cs q).toInt ∧ (cs q).toInt ≤ 65535 := fun q hq => own_char (Acs.fit hq)
        rcases Nat.eq_zero_or_pos nD with hn0 | hn0
        · skip
          have Az : own_A Z T266.heap b255 k255 .char 0 (fun i => .int (cs i)) := by have z_ := Acs; rw [hn0] at z_; exact z_
          have hall : ∀ q : Nat, q < 0 → 0 ≤ (cs q).toInt ∧ (cs q).toInt ≤ 65535 := fun q hq => absurd hq (Nat.not_lt_zero _)
          obtain ⟨T268, h268, X268, e268, E268, A268, D268, -, st268⟩ := newO X266 hx hZ hown (own_w hw 25 rfl) (own_w hw 26 rfl) (own_w hw 27 rfl) rfl (g := (mkF m 258 #[oJ p0, oS, oI p1, oI p2, oI p3, oI p4, oJ uu, oS, oI dg, oI (0 : Int32), oI xb, oI ps, oI cc, oI ln, oR b255, oI (0 : Int32), oI (0 : Int32), oU, oU, oU, oU, oU, oU, oU, oU, oU, oU, oU, oU, oU, oU] [])) rfl (hb hby at_258) (by decide) (by decide)
          obtain ⟨b268, g268⟩ : ∃ z, z = T266.heap.size := ⟨_, rfl⟩
          rw [← g268] at A268 D268 st268
          have fr268 : h0.size ≤ b268 := Nat.le_trans K266.1 (Nat.le_of_eq g268.symm)
          have ge268 : n0 ≤ b268 := Nat.le_trans Z0 fr268
          have K268 : Keep h0 h268 [] := K266.ext E268
          have c268 : CHr Z own_EL _ T266.heap _ h268 := CHr.ext E268 C266.1
          have C268 := C266.trans c268
          have kk268 := Nat.le_trans kk266 c268.2.1
          have Sf268_b268 : Safe Z own_EL _ h268 b268 := Safe.ext E268 C266.1 (Safe.new (Nat.le_of_eq g268.symm))
          have F268_51 : Fld Z h268 b268 "java/lang/String" "coder" "B" (.int (0 : Int32)) := D268 (Or.inr (own_w hw 51 rfl)) (ty := .byte) (by decide)
          have F268_53 : Fld Z h268 b268 "java/lang/String" "value" "[B" .null := D268 (Or.inr (own_w hw 53 rfl)) (ty := (.array .byte)) (by decide)
          refine own_st (st268) ?_
          refine own_st (fun t_ k_ => XS.dup X268.here hx rfl (hb hby at_261) rfl rfl (XS.aload X268.here hx rfl (hb hby at_262) rfl rfl k_)) ?_
          show own_at p e below _ T268 m 264 #[oJ p0, oS, oI p1, oI p2, oI p3, oI p4, oJ uu, oS, oI dg, oI (0 : Int32), oI xb, oI ps, oI cc, oI ln, oR b255, oI (0 : Int32), oI (0 : Int32), oU, oU, oU, oU, oU, oU, oU, oU, oU, oU, oU, oU, oU, oU] [(.ref b255), (.ref b268), (.ref b268)]
          obtain ⟨_, _, ⟨T269, L269, k269, n269⟩, -, X269, Sq269, gq269, ⟨Lc269, hQ269, l269, y269, z269, c269⟩, st269⟩ := X268.specialBackS hx (y := own_n9) rfl hown (mvT hZ (own_w hw 28 rfl)) (mvT hZ (own_w hw 29 rfl)) (mvT hZ (own_w hw 30 rfl)) (by decide) (own_backSH (W := 1) (own_rm4e l Z a0 hw [] b268 b255 k255 cs h268 n0 (Nat.le_trans Z0 K268.1) A268 F268_53 F268_51 (Az.ext E268) ge268) hZ (own_w hw 30 rfl) (own_w hw 27 rfl) (by decide) (by decide) (own_hEL hw) C268.1 (own_slS ⟨A268.lt, Sf268_b268⟩ own_sl0)) (g := (mkF m 264 #[oJ p0, oS, oI p1, oI p2, oI p3, oI p4, oJ uu, oS, oI dg, oI (0 : Int32), oI xb, oI ps, oI cc, oI ln, oR b255, oI (0 : Int32), oI (0 : Int32), oU, oU, oU, oU, oU, oU, oU, oU, oU, oU, oU, oU, oU, oU] [(.ref b255), (.ref b268), (.ref b268)])) rfl (by rw [hml]; rfl) (Steps.refl _) (a := b268) (argsL := [(.ref b255)]) (rest := [(.ref b268)]) (lenOf own_pd25 rfl) rfl (own_hW rfl) (hb hby at_264) (fun _ _ => ⟨rfl, e268, (by decide : 13 + 4 ≤ _), (by decide : 148 + 8 ≤ _)⟩)
          dsimp only [Pt.U, Pt.locs, Pt.cells, Pt.slots] at X269 l269 y269 z269 st269 hQ269 Sq269 gq269 c269
          subst y269 z269
          obtain ⟨t_269, kt_269, rfl, N269q, Kq269, P269_0, P269_1, P269_2⟩ := hQ269
          have N269 : Fr n0 L269 := by rw [l269]; exact Fr.app N266 N269q
          have S269 := foldS S0 (by rw [e268]; exact kk268) Sq269 gq269
          have X269 := (show Stand p l e _ (s.setVm T269.vm) m _ below meth c T269 L269 _ _ from X269)
          have hZ : Z.Warmed39 (s.setVm T269.vm).vm := State.Warmed39.trans (t := s.setVm s.vm) hZ Sq269.1
          have hown : (s.setVm T269.vm).vm.findClass "com/example/marshalyard/marshalyard/engine/DecimalIntegerParsePinLaw" = some m.cls := by rw [show (s.setVm T269.vm).vm = T269.vm from rfl, Sq269.1.alike.findClass]; exact hown
          have kk269 := Nat.le_refl T269.heap.size
          have K269 : Keep h0 T269.heap [] := K268.trans Kq269 (allS (P := fun x => x ∈ [] ∨ h0.size ≤ x) (Or.inr fr268) all0)
          have C269 := C268.trans c269
          refine own_tr st269 ?_
          have hcd269 : ((0 : Int32) = 0 ∧ ∀ q : Nat, q < 0 → ¬ (255 : Int32) < cs q) ∨ (0 : Int32) = 1 := Or.inl ⟨rfl, fun q hq => absurd hq (Nat.not_lt_zero _)⟩
          refine own_st (fun t_ k_ => XS.astore X269.here hx rfl (hb hby at_267) rfl rfl (l' := #[oJ p0, oS, oI p1, oI p2, oI p3, oI p4, oJ uu, oS, oI dg, oI (0 : Int32), oI xb, oI ps, oI cc, oI ln, oR b255, oI (0 : Int32), oI (0 : Int32), oR b268, oU, oU, oU, oU, oU, oU, oU, oU, oU, oU, oU, oU, oU]) rfl (XS.aload X269.here hx rfl (hb hby at_269) rfl rfl (XS.iload X269.here hx rfl (hb hby at_271) rfl (XS.iload X269.here hx rfl (hb hby at_273) rfl k_)))) ?_
          show own_at p e below _ T269 m 275 #[oJ p0, oS, oI p1, oI p2, oI p3, oI p4, oJ uu, oS, oI dg, oI (0 : Int32), oI xb, oI ps, oI cc, oI ln, oR b255, oI (0 : Int32), oI (0 : Int32), oR b268, oU, oU, oU, oU, oU, oU, oU, oU, oU, oU, oU, oU, oU] [(.int p4), (.int p3), (.ref b268)]
          have f270 : Old Z n0 T269.heap := ((((((((((((((q0.ext E255).keep Kq256 (allS ge255 all0)).keep Kq257 (allS ge255 all0)).keep Kq258 (allS ge255 all0)).keep Kq259 (allS ge255 all0)).keep Kq260 (allS ge255 all0)).keep Kq261 (allS ge255 all0)).keep Kq262 (allS ge255 all0)).keep Kq263 (allS ge255 all0)).keep Kq264 (allS ge255 all0)).keep Kq265 (allS ge255 all0)).keep Kq266 (allS ge255 all0)).ext E268).keep Kq269 (allS ge268 all0))
          obtain ⟨_, _, ⟨T271, L271, k271, n271⟩, -, X271, Sq271, gq271, ⟨Lc271, hQ271, l271, y271, z271, c271⟩, st271⟩ := callSS X269 hx (y := own_n31) hown (mvT hZ (own_w hw 54 rfl)) (mvT hZ (own_w hw 55 rfl)) (mvT hZ (own_w hw 56 rfl)) (mvT hZ (own_w hw 57 rfl)) (by decide) (own_backSH (W := 0) (own_rm10 l Z a0 hw [] b268 p3 p4 t_269 kt_269 (0 : Int32) 0 cs G1 G3 aE T269.heap n0 (Nat.le_trans Z0 K269.1) (A268.keep Kq269) P269_0 P269_1 P269_2 hcd269 f270 q1 hG1 q3 rG3 q5 q6 q7 q8 q9 q10 q11 (by omega) hall) hZ (own_w hw 57 rfl) (own_w hw 56 rfl) (by decide) (by decide) (own_hEL hw) C269.1 own_sl0) (g := (mkF m 275 #[oJ p0, oS, oI p1, oI p2, oI p3, oI p4, oJ uu, oS, oI dg, oI (0 : Int32), oI xb, oI ps, oI cc, oI ln, oR b255, oI (0 : Int32), oI (0 : Int32), oR b268, oU, oU, oU, oU, oU, oU, oU, oU, oU, oU, oU, oU, oU] [(.int p4), (.int p3), (.ref b268)])) rfl (by rw [hml]; rfl) (argsL := [(.ref b268), (.int p3), (.int p4)]) (rest := []) (lenOf own_pd26 rfl) rfl (own_hW rfl) (hb hby at_275) (fun _ _ => ⟨rfl, rfl, (by decide : 17 + 3 ≤ _), (by decide : 156 + 10 ≤ _)⟩)
          dsimp only [Pt.U, Pt.locs, Pt.cells, Pt.slots] at X271 l271 y271 z271 st271 hQ271 Sq271 gq271 c271
          subst y271 z271
          obtain ⟨o_271, pz_271, vz_271, rfl, N271q, Kq271, P271_0, P271_1, P271_2, P271_3⟩ := hQ271
          have N271 : Fr n0 L271 := by rw [l271]; exact Fr.app N269 N271q
          have S271 := foldS S269 (kk269) Sq271 gq271
          have X271 := (show Stand p l e _ (s.setVm T271.vm) m _ below meth c T271 L271 _ _ from X271)
          have hZ : Z.Warmed39 (s.setVm T271.vm).vm := State.Warmed39.trans (t := s.setVm T269.vm) hZ Sq271.1
          have hown : (s.setVm T271.vm).vm.findClass "com/example/marshalyard/marshalyard/engine/DecimalIntegerParsePinLaw" = some m.cls := by rw [show (s.setVm T271.vm).vm = T271.vm from rfl, Sq271.1.alike.findClass]; exact hown
          have kk271 := Nat.le_refl T271.heap.size
          have K271 : Keep h0 T271.heap [] := K269.trans Kq271 all0
          have C271 := C269.trans c271
          refine own_tr st271 ?_
          refine own_st (fun t_ k_ => XS.astore X271.here hx rfl (hb hby at_278) rfl rfl (l' := #[oJ p0, oS, oI p1, oI p2, oI p3, oI p4, oJ uu, oS, oI dg, oI (0 : Int32), oI xb, oI ps, oI cc, oI ln, oR b255, oI (0 : Int32), oI (0 : Int32), oR b268, oR o_271, oU, oU, oU, oU, oU, oU, oU, oU, oU, oU, oU, oU]) rfl (XS.lload X271.here hx rfl (hb hby at_280) rfl (XS.iload X271.here hx rfl (hb hby at_282) rfl k_))) ?_
          show own_at p e below _ T271 m 284 #[oJ p0, oS, oI p1, oI p2, oI p3, oI p4, oJ uu, oS, oI dg, oI (0 : Int32), oI xb, oI ps, oI cc, oI ln, oR b255, oI (0 : Int32), oI (0 : Int32), oR b268, oR o_271, oU, oU, oU, oU, oU, oU, oU, oU, oU, oU, oU, oU] [(.int dg), (.long uu)]
          obtain ⟨_, _, ⟨T272, L272, k272, n272⟩, -, X272, ⟨Lc272, hQ272, l272, y272, z272⟩, st272⟩ := Jvm.LawKit.callS X271 hx (y := own_n18) hown (mvT hZ (own_w hw 10 rfl)) (mvT hZ (own_w hw 11 rfl)) (mvT hZ (own_w hw 5 rfl)) (mvT hZ (own_w hw 12 rfl)) (by decide) (backOf (W := 2) (own_rm3 l Z a0 hw [] dg nD T271.heap n0 (Nat.le_trans Z0 K271.1) ⟨hD.1, (by omega)⟩) hZ (own_w hw 12 rfl) (own_w hw 5 rfl) (by decide) (by decide)) (g := (mkF m 284 #[oJ p0, oS, oI p1, oI p2, oI p3, oI p4, oJ uu, oS, oI dg, oI (0 : Int32), oI xb, oI ps, oI cc, oI ln, oR b255, oI (0 : Int32), oI (0 : Int32), oR b268, oR o_271, oU, oU, oU, oU, oU, oU, oU, oU, oU, oU, oU, oU] [(.int dg), (.long uu)])) rfl (by rw [hml]; rfl) (argsL := [(.int dg)]) (rest := [(.long uu)]) (lenOf own_pd13 rfl) rfl (own_hW rfl) (hb hby at_284) (fun _ _ => ⟨rfl, rfl, (by decide : 20 + 1 ≤ _), (by decide : 166 + 12 ≤ _)⟩)
          dsimp only [Pt.U, Pt.locs, Pt.cells, Pt.slots] at X272 l272 y272 z272 st272 hQ272
          subst y272 z272
          obtain ⟨rfl, N272q, Kq272⟩ := hQ272
          have N272 : Fr n0 L272 := by rw [l272]; exact Fr.app N271 N272q
          have K272 : Keep h0 T272.heap [] := K271.trans Kq272 all0
          have c272 : CHr Z own_EL _ T271.heap _ T272.heap := CHr.keep Kq272 own_sl0 C271.1
          have C272 := C271.trans c272
          have kk272 := Nat.le_trans kk271 c272.2.1
          refine own_st (st272) ?_
          show own_at p e below _ T272 m 287 #[oJ p0, oS, oI p1, oI p2, oI p3, oI p4, oJ uu, oS, oI dg, oI (0 : Int32), oI xb, oI ps, oI cc, oI ln, oR b255, oI (0 : Int32), oI (0 : Int32), oR b268, oR o_271, oU, oU, oU, oU, oU, oU, oU, oU, oU, oU, oU, oU] [(.long (own_p10 nD)), (.long uu)]
          refine own_st (fun t_ k_ => own_lrem X272 hx rfl (hb hby at_287) rfl (own_p10z (by omega)) k_) ?_
          refine own_st (fun t_ k_ => XS.lstore X272.here hx rfl (hb hby at_288) rfl (l' := #[oJ p0, oS, oI p1, oI p2, oI p3, oI p4, oJ uu, oS, oI dg, oI (0 : Int32), oI xb, oI ps, oI cc, oI ln, oR b255, oI (0 : Int32), oI (0 : Int32), oR b268, oR o_271, oJ (uu % (own_p10 nD)), oS, oU, oU, oU, oU, oU, oU, oU, oU, oU, oU]) rfl k_) ?_
          show own_at p e below _ T272 m 290 #[oJ p0, oS, oI p1, oI p2, oI p3, oI p4, oJ uu, oS, oI dg, oI (0 : Int32), oI xb, oI ps, oI cc, oI ln, oR b255, oI (0 : Int32), oI (0 : Int32), oR b268, oR o_271, oJ (uu % (own_p10 nD)), oS, oU, oU, oU, oU, oU, oU, oU, oU, oU, oU] []
          have j309 : ∀ xd : Int32, own_at p e below (own_PW below s Z own_EL (own_Q0 Z p0 p1 p2 p3 p4 G1 G3 aE h0 n0) room_1.cells room_1.slots) T272 m 309 #[oJ p0, oS, oI p1, oI p2, oI p3, oI p4, oJ uu, oS, oI dg, oI (0 : Int32), oI xb, oI ps, oI cc, oI ln, oR b255, oI (0 : Int32), oI (0 : Int32), oR b268, oR o_271, oJ (uu % (own_p10 nD)), oS, oU, oU, oU, oU, oU, oU, oU, oU, oU, oU] [(.int xd)] := by
            intro xd
            have hk : own_swn cs 0 = 0 ∧ (own_okd cs 0 0 ↔ 1 ≤ 0 ∧ 0 ≤ 10) ∧ own_vl cs 0 (0 - 0) = ((U % 10 ^ 0 : Nat) : Int) := own_kA (s := 0) (n := 0) (cs := cs) (by decide) (fun z_ => absurd z_ (by decide)) (fun q _ h2_ => absurd h2_ (Nat.not_lt_zero _))
            have hiff := own_gA (mn := p3) (mx := p4) hk
            have hiff : own_good cs 0 p3 p4 ↔ (1 ≤ 0 ∧ 0 ≤ 10) ∧ p3.toInt ≤ ((U % 10 ^ 0 : Nat) : Int) ∧ ((U % 10 ^ 0 : Nat) : Int) ≤ p4.toInt := hiff
            have hpvE : own_pv cs (own_swn cs 0) 0 = ((U % 10 ^ 0 : Nat) : Int) := own_pvE hk
            refine own_st (fun t_ k_ => XS.istore X272.here hx rfl (hb hby at_309) rfl (l' := #[oJ p0, oS, oI p1, oI p2, oI p3, oI p4, oJ uu, oS, oI dg, oI (0 : Int32), oI xb, oI ps, oI cc, oI ln, oR b255, oI (0 : Int32), oI (0 : Int32), oR b268, oR o_271, oJ (uu % (own_p10 nD)), oS, oI xd, oU, oU, oU, oU, oU, oU, oU, oU, oU]) rfl (XS.iload X272.here hx rfl (hb hby at_311) rfl (XS.bipush X272.here hx rfl (hb hby at_313) (XS.isub X272.here hx rfl (hb hby at_315) rfl (XS.istore X272.here hx rfl (hb hby at_316) rfl (l' := #[oJ p0, oS, oI p1, oI p2, oI p3, oI p4, oJ uu, oS, oI dg, oI (0 : Int32), oI xb, oI ps, oI cc, oI ln, oR b255, oI (0 : Int32), oI (0 : Int32), oR b268, oR o_271, oJ (uu % (own_p10 nD)), oS, oI xd, oI (cc - (48 : Int32)), oU, oU, oU, oU, oU, oU, oU, oU]) rfl (XS.iload X272.here hx rfl (hb hby at_318) rfl k_)))))) ?_
            show own_at p e below _ T272 m 320 #[oJ p0, oS, oI p1, oI p2, oI p3, oI p4, oJ uu, oS, oI dg, oI (0 : Int32), oI xb, oI ps, oI cc, oI ln, oR b255, oI (0 : Int32), oI (0 : Int32), oR b268, oR o_271, oJ (uu % (own_p10 nD)), oS, oI xd, oI (cc - (48 : Int32)), oU, oU, oU, oU, oU, oU, oU, oU] [(.int (0 : Int32))]
            refine own_st (fun t_ k_ => XS.ifYes X272.here hx rfl (pc0 := 320) (pc' := 337) rfl (hb hby at_320) rfl ((if0 _ _).trans (teq (by decide : (0 : Int32) = (0 : Int32))).1) (by decide) (by decide) (XS.iload X272.here hx rfl (hb hby at_337) rfl (XS.iconst X272.here hx rfl (hb hby at_339) k_))) ?_
            show own_at p e below _ T272 m 340 #[oJ p0, oS, oI p1, oI p2, oI p3, oI p4, oJ uu, oS, oI dg, oI (0 : Int32), oI xb, oI ps, oI cc, oI ln, oR b255, oI (0 : Int32), oI (0 : Int32), oR b268, oR o_271, oJ (uu % (own_p10 nD)), oS, oI xd, oI (cc - (48 : Int32)), oU, oU, oU, oU, oU, oU, oU, oU] [(.int (1 : Int32)), (.int dg)]
            by_cases c340_273 : dg < (1 : Int32)
            · skip
              have rlo_340 := (own_ltp hD.1 (by decide : (1 : Int32).toInt = ((1 : Nat) : Int))).mp c340_273
              refine own_st (fun t_ k_ => XS.icmpYes X272.here hx rfl (pc0 := 340) (pc' := 354) rfl (hb hby at_340) rfl (tlt c340_273).1 (by decide) (by decide) (XS.iconst X272.here hx rfl (hb hby at_354) (XS.istore X272.here hx rfl (hb hby at_355) rfl (l' := #[oJ p0, oS, oI p1, oI p2, oI p3, oI p4, oJ uu, oS, oI dg, oI (0 : Int32), oI xb, oI ps, oI cc, oI ln, oR b255, oI (0 : Int32), oI (0 : Int32), oR b268, oR o_271, oJ (uu % (own_p10 nD)), oS, oI xd, oI (cc - (48 : Int32)), oI (0 : Int32), oU, oU, oU, oU, oU, oU, oU]) rfl (XS.iload X272.here hx rfl (hb hby at_357) rfl (XS.iconst X272.here hx rfl (hb hby at_359) (XS.icmpYes X272.here hx rfl (pc0 := 360) (pc' := 369) rfl (hb hby at_360) rfl (feq (by decide : ¬ ((0 : Int32) = (1 : Int32)))).2 (by decide) (by decide) k_)))))) ?_
              show own_at p e below _ T272 m 369 #[oJ p0, oS, oI p1, oI p2, oI p3, oI p4, oJ uu, oS, oI dg, oI (0 : Int32), oI xb, oI ps, oI cc, oI ln, oR b255, oI (0 : Int32), oI (0 : Int32), oR b268, oR o_271, oJ (uu % (own_p10 nD)), oS, oI xd, oI (cc - (48 : Int32)), oI (0 : Int32), oU, oU, oU, oU, oU, oU, oU] []
              refine own_st (fun t_ k_ => XS.lload X272.here hx rfl (hb hby at_369) rfl k_) ?_
              show own_at p e below _ T272 m 371 #[oJ p0, oS, oI p1, oI p2, oI p3, oI p4, oJ uu, oS, oI dg, oI (0 : Int32), oI xb, oI ps, oI cc, oI ln, oR b255, oI (0 : Int32), oI (0 : Int32), oR b268, oR o_271, oJ (uu % (own_p10 nD)), oS, oI xd, oI (cc - (48 : Int32)), oI (0 : Int32), oU, oU, oU, oU, oU, oU, oU] [(.long (uu % (own_p10 nD)))]
              obtain ⟨vl, e_vl⟩ : ∃ z, z = (uu % (own_p10 nD)) := ⟨_, rfl⟩
              rw [show (uu % (own_p10 nD)) = vl from e_vl.symm]
              have hvl : vl.toInt = ((U % 10 ^ 0 : Nat) : Int) := (by rw [e_vl]; have z_ := (own_low hU (by omega : nD < 12)); have y_ : U % 10 ^ nD = U % 10 ^ 0 := (by rw [hn0]); omega)
              refine own_st (fun t_ k_ => XS.lstore X272.here hx rfl (hb hby at_371) rfl (l' := #[oJ p0, oS, oI p1, oI p2, oI p3, oI p4, oJ uu, oS, oI dg, oI (0 : Int32), oI xb, oI ps, oI cc, oI ln, oR b255, oI (0 : Int32), oI (0 : Int32), oR b268, oR o_271, oJ vl, oS, oI xd, oI (cc - (48 : Int32)), oI (0 : Int32), oJ vl, oS, oU, oU, oU, oU, oU]) rfl (XS.goto X272.here hx rfl (pc0 := 373) (pc' := 562) rfl (hb hby at_373) (by decide) (by decide) k_)) ?_
              show own_at p e below _ T272 m 562 #[oJ p0, oS, oI p1, oI p2, oI p3, oI p4, oJ uu, oS, oI dg, oI (0 : Int32), oI xb, oI ps, oI cc, oI ln, oR b255, oI (0 : Int32), oI (0 : Int32), oR b268, oR o_271, oJ vl, oS, oI xd, oI (cc - (48 : Int32)), oI (0 : Int32), oJ vl, oS, oU, oU, oU, oU, oU] []
              have hgd : ¬ own_good cs 0 p3 p4 := fun z_ => by have y_ := (hiff.mp z_).1; omega
              exact j562 _ _ _ _ _ _ _ _ _ _ _ _ _ _ _ _ _ _ _ _ _ _ _ _ _ _ _ _ _ _ _ _ _ _ _ _ _ _ _ hZ hown S271 X272 rfl N272 K272 C272 kk272 (by decide) (by decide) (((f270.keep Kq271 all0).keep Kq272 all0)) ((P271_0.keep Kq272)) ((P271_1.keep Kq272 nin0)) ((P271_2.keep Kq272 nin0)) One.u (Or.inl rfl) ⟨fun z_ => absurd z_ hgd, fun z_ => absurd z_.1 (by decide)⟩ (fun z_ => absurd z_ hgd) P271_3
            have rlo_340 := mt (own_ltp hD.1 (by decide : (1 : Int32).toInt = ((1 : Nat) : Int))).mpr c340_273
            refine own_st (fun t_ k_ => XS.icmpNo X272.here hx rfl (hb hby at_340) rfl (flt c340_273).1 (XS.iload X272.here hx rfl (hb hby at_343) rfl (XS.bipush X272.here hx rfl (hb hby at_345) k_))) ?_
            show own_at p e below _ T272 m 347 #[oJ p0, oS, oI p1, oI p2, oI p3, oI p4, oJ uu, oS, oI dg, oI (0 : Int32), oI xb, oI ps, oI cc, oI ln, oR b255, oI (0 : Int32), oI (0 : Int32), oR b268, oR o_271, oJ (uu % (own_p10 nD)), oS, oI xd, oI (cc - (48 : Int32)), oU, oU, oU, oU, oU, oU, oU, oU] [(.int (10 : Int32)), (.int dg)]
            by_cases c347_274 : (10 : Int32) < dg
            · skip
              have rhi_347 := (own_ltp (by decide : (10 : Int32).toInt = ((10 : Nat) : Int)) hD.1).mp c347_274
              refine own_st (fun t_ k_ => XS.icmpYes X272.here hx rfl (pc0 := 347) (pc' := 354) rfl (hb hby at_347) rfl (tlt c347_274).2.2.1 (by decide) (by decide) (XS.iconst X272.here hx rfl (hb hby at_354) (XS.istore X272.here hx rfl (hb hby at_355) rfl (l' := #[oJ p0, oS, oI p1, oI p2, oI p3, oI p4, oJ uu, oS, oI dg, oI (0 : Int32), oI xb, oI ps, oI cc, oI ln, oR b255, oI (0 : Int32), oI (0 : Int32), oR b268, oR o_271, oJ (uu % (own_p10 nD)), oS, oI xd, oI (cc - (48 : Int32)), oI (0 : Int32), oU, oU, oU, oU, oU, oU, oU]) rfl (XS.iload X272.here hx rfl (hb hby at_357) rfl (XS.iconst X272.here hx rfl (hb hby at_359) (XS.icmpYes X272.here hx rfl (pc0 := 360) (pc' := 369) rfl (hb hby at_360) rfl (feq (by decide : ¬ ((0 : Int32) = (1 : Int32)))).2 (by decide) (by decide) k_)))))) ?_
              show own_at p e below _ T272 m 369 #[oJ p0, oS, oI p1, oI p2, oI p3, oI p4, oJ uu, oS, oI dg, oI (0 : Int32), oI xb, oI ps, oI cc, oI ln, oR b255, oI (0 : Int32), oI (0 : Int32), oR b268, oR o_271, oJ (uu % (own_p10 nD)), oS, oI xd, oI (cc - (48 : Int32)), oI (0 : Int32), oU, oU, oU, oU, oU, oU, oU] []
              refine own_st (fun t_ k_ => XS.lload X272.here hx rfl (hb hby at_369) rfl k_) ?_
              show own_at p e below _ T272 m 371 #[oJ p0, oS, oI p1, oI p2, oI p3, oI p4, oJ uu, oS, oI dg, oI (0 : Int32), oI xb, oI ps, oI cc, oI ln, oR b255, oI (0 : Int32), oI (0 : Int32), oR b268, oR o_271, oJ (uu % (own_p10 nD)), oS, oI xd, oI (cc - (48 : Int32)), oI (0 : Int32), oU, oU, oU, oU, oU, oU, oU] [(.long (uu % (own_p10 nD)))]
              obtain ⟨vl, e_vl⟩ : ∃ z, z = (uu % (own_p10 nD)) := ⟨_, rfl⟩
              rw [show (uu % (own_p10 nD)) = vl from e_vl.symm]
              have hvl : vl.toInt = ((U % 10 ^ 0 : Nat) : Int) := (by rw [e_vl]; have z_ := (own_low hU (by omega : nD < 12)); have y_ : U % 10 ^ nD = U % 10 ^ 0 := (by rw [hn0]); omega)
              refine own_st (fun t_ k_ => XS.lstore X272.here hx rfl (hb hby at_371) rfl (l' := #[oJ p0, oS, oI p1, oI p2, oI p3, oI p4, oJ uu, oS, oI dg, oI (0 : Int32), oI xb, oI ps, oI cc, oI ln, oR b255, oI (0 : Int32), oI (0 : Int32), oR b268, oR o_271, oJ vl, oS, oI xd, oI (cc - (48 : Int32)), oI (0 : Int32), oJ vl, oS, oU, oU, oU, oU, oU]) rfl (XS.goto X272.here hx rfl (pc0 := 373) (pc' := 562) rfl (hb hby at_373) (by decide) (by decide) k_)) ?_
              show own_at p e below _ T272 m 562 #[oJ p0, oS, oI p1, oI p2, oI p3, oI p4, oJ uu, oS, oI dg, oI (0 : Int32), oI xb, oI ps, oI cc, oI ln, oR b255, oI (0 : Int32), oI (0 : Int32), oR b268, oR o_271, oJ vl, oS, oI xd, oI (cc - (48 : Int32)), oI (0 : Int32), oJ vl, oS, oU, oU, oU, oU, oU] []
              have hgd : ¬ own_good cs 0 p3 p4 := fun z_ => by have y_ := (hiff.mp z_).1; omega
              exact j562 _ _ _ _ _ _ _ _ _ _ _ _ _ _ _ _ _ _ _ _ _ _ _ _ _ _ _ _ _ _ _ _ _ _ _ _ _ _ _ hZ hown S271 X272 rfl N272 K272 C272 kk272 (by decide) (by decide) (((f270.keep Kq271 all0).keep Kq272 all0)) ((P271_0.keep Kq272)) ((P271_1.keep Kq272 nin0)) ((P271_2.keep Kq272 nin0)) One.u (Or.inl rfl) ⟨fun z_ => absurd z_ hgd, fun z_ => absurd z_.1 (by decide)⟩ (fun z_ => absurd z_ hgd) P271_3
            have rhi_347 := mt (own_ltp (by decide : (10 : Int32).toInt = ((10 : Nat) : Int)) hD.1).mpr c347_274
            refine own_st (fun t_ k_ => XS.icmpNo X272.here hx rfl (hb hby at_347) rfl (flt c347_274).2.2.1 (XS.iconst X272.here hx rfl (hb hby at_350) (XS.goto X272.here hx rfl (pc0 := 351) (pc' := 355) rfl (hb hby at_351) (by decide) (by decide) (XS.istore X272.here hx rfl (hb hby at_355) rfl (l' := #[oJ p0, oS, oI p1, oI p2, oI p3, oI p4, oJ uu, oS, oI dg, oI (0 : Int32), oI xb, oI ps, oI cc, oI ln, oR b255, oI (0 : Int32), oI (0 : Int32), oR b268, oR o_271, oJ (uu % (own_p10 nD)), oS, oI xd, oI (cc - (48 : Int32)), oI (1 : Int32), oU, oU, oU, oU, oU, oU, oU]) rfl (XS.iload X272.here hx rfl (hb hby at_357) rfl (XS.iconst X272.here hx rfl (hb hby at_359) k_)))))) ?_
            show own_at p e below _ T272 m 360 #[oJ p0, oS, oI p1, oI p2, oI p3, oI p4, oJ uu, oS, oI dg, oI (0 : Int32), oI xb, oI ps, oI cc, oI ln, oR b255, oI (0 : Int32), oI (0 : Int32), oR b268, oR o_271, oJ (uu % (own_p10 nD)), oS, oI xd, oI (cc - (48 : Int32)), oI (1 : Int32), oU, oU, oU, oU, oU, oU, oU] [(.int (1 : Int32)), (.int (0 : Int32))]
            refine own_st (fun t_ k_ => XS.icmpYes X272.here hx rfl (pc0 := 360) (pc' := 369) rfl (hb hby at_360) rfl (feq (by decide : ¬ ((0 : Int32) = (1 : Int32)))).2 (by decide) (by decide) (XS.lload X272.here hx rfl (hb hby at_369) rfl k_)) ?_
            show own_at p e below _ T272 m 371 #[oJ p0, oS, oI p1, oI p2, oI p3, oI p4, oJ uu, oS, oI dg, oI (0 : Int32), oI xb, oI ps, oI cc, oI ln, oR b255, oI (0 : Int32), oI (0 : Int32), oR b268, oR o_271, oJ (uu % (own_p10 nD)), oS, oI xd, oI (cc - (48 : Int32)), oI (1 : Int32), oU, oU, oU, oU, oU, oU, oU] [(.long (uu % (own_p10 nD)))]
            obtain ⟨vl, e_vl⟩ : ∃ z, z = (uu % (own_p10 nD)) := ⟨_, rfl⟩
            rw [show (uu % (own_p10 nD)) = vl from e_vl.symm]
            have hvl : vl.toInt = ((U % 10 ^ 0 : Nat) : Int) := (by rw [e_vl]; have z_ := (own_low hU (by omega : nD < 12)); have y_ : U % 10 ^ nD = U % 10 ^ 0 := (by rw [hn0]); omega)
            refine own_st (fun t_ k_ => XS.lstore X272.here hx rfl (hb hby at_371) rfl (l' := #[oJ p0, oS, oI p1, oI p2, oI p3, oI p4, oJ uu, oS, oI dg, oI (0 : Int32), oI xb, oI ps, oI cc, oI ln, oR b255, oI (0 : Int32), oI (0 : Int32), oR b268, oR o_271, oJ vl, oS, oI xd, oI (cc - (48 : Int32)), oI (1 : Int32), oJ vl, oS, oU, oU, oU, oU, oU]) rfl (XS.goto X272.here hx rfl (pc0 := 373) (pc' := 562) rfl (hb hby at_373) (by decide) (by decide) k_)) ?_
            show own_at p e below _ T272 m 562 #[oJ p0, oS, oI p1, oI p2, oI p3, oI p4, oJ uu, oS, oI dg, oI (0 : Int32), oI xb, oI ps, oI cc, oI ln, oR b255, oI (0 : Int32), oI (0 : Int32), oR b268, oR o_271, oJ vl, oS, oI xd, oI (cc - (48 : Int32)), oI (1 : Int32), oJ vl, oS, oU, oU, oU, oU, oU] []
            exact j562 _ _ _ _ _ _ _ _ _ _ _ _ _ _ _ _ _ _ _ _ _ _ _ _ _ _ _ _ _ _ _ _ _ _ _ _ _ _ _ hZ hown S271 X272 rfl N272 K272 C272 kk272 (by decide) (by decide) (((f270.keep Kq271 all0).keep Kq272 all0)) ((P271_0.keep Kq272)) ((P271_1.keep Kq272 nin0)) ((P271_2.keep Kq272 nin0)) One.u (Or.inr rfl) (by rw [hiff, hvl]; exact ⟨fun z_ => ⟨rfl, z_.2⟩, fun z_ => ⟨(by omega), z_.2⟩⟩) (fun _ => by rw [hpvE, hvl]) P271_3
          refine own_st (fun t_ k_ => XS.iload X272.here hx rfl (hb hby at_290) rfl (XS.bipush X272.here hx rfl (hb hby at_292) k_)) ?_
          show own_at p e below _ T272 m 294 #[oJ p0, oS, oI p1, oI p2, oI p3, oI p4, oJ uu, oS, oI dg, oI (0 : Int32), oI xb, oI ps, oI cc, oI ln, oR b255, oI (0 : Int32), oI (0 : Int32), oR b268, oR o_271, oJ (uu % (own_p10 nD)), oS, oU, oU, oU, oU, oU, oU, oU, oU, oU, oU] [(.int (48 : Int32)), (.int cc)]
          by_cases c294_275 : cc < (48 : Int32)
          · skip
            refine own_st (fun t_ k_ => XS.icmpYes X272.here hx rfl (pc0 := 294) (pc' := 308) rfl (hb hby at_294) rfl (tlt c294_275).1 (by decide) (by decide) (XS.iconst X272.here hx rfl (hb hby at_308) k_)) ?_
            show own_at p e below _ T272 m 309 #[oJ p0, oS, oI p1, oI p2, oI p3, oI p4, oJ uu, oS, oI dg, oI (0 : Int32), oI xb, oI ps, oI cc, oI ln, oR b255, oI (0 : Int32), oI (0 : Int32), oR b268, oR o_271, oJ (uu % (own_p10 nD)), oS, oU, oU, oU, oU, oU, oU, oU, oU, oU, oU] [(.int (0 : Int32))]
            exact j309 _
          refine own_st (fun t_ k_ => XS.icmpNo X272.here hx rfl (hb hby at_294) rfl (flt c294_275).1 (XS.iload X272.here hx rfl (hb hby at_297) rfl (XS.bipush X272.here hx rfl (hb hby at_299) k_))) ?_
          show own_at p e below _ T272 m 301 #[oJ p0, oS, oI p1, oI p2, oI p3, oI p4, oJ uu, oS, oI dg, oI (0 : Int32), oI xb, oI ps, oI cc, oI ln, oR b255, oI (0 : Int32), oI (0 : Int32), oR b268, oR o_271, oJ (uu % (own_p10 nD)), oS, oU, oU, oU, oU, oU, oU, oU, oU, oU, oU] [(.int (57 : Int32)), (.int cc)]
          by_cases c301_276 : (57 : Int32) < cc
          · skip
            refine own_st (fun t_ k_ => XS.icmpYes X272.here hx rfl (pc0 := 301) (pc' := 308) rfl (hb hby at_301) rfl (tlt c301_276).2.2.1 (by decide) (by decide) (XS.iconst X272.here hx rfl (hb hby at_308) k_)) ?_
            show own_at p e below _ T272 m 309 #[oJ p0, oS, oI p1, oI p2, oI p3, oI p4, oJ uu, oS, oI dg, oI (0 : Int32), oI xb, oI ps, oI cc, oI ln, oR b255, oI (0 : Int32), oI (0 : Int32), oR b268, oR o_271, oJ (uu % (own_p10 nD)), oS, oU, oU, oU, oU, oU, oU, oU, oU, oU, oU] [(.int (0 : Int32))]
            exact j309 _
          refine own_st (fun t_ k_ => XS.icmpNo X272.here hx rfl (hb hby at_301) rfl (flt c301_276).2.2.1 (XS.iconst X272.here hx rfl (hb hby at_304) (XS.goto X272.here hx rfl (pc0 := 305) (pc' := 309) rfl (hb hby at_305) (by decide) (by decide) k_))) ?_
          show own_at p e below _ T272 m 309 #[oJ p0, oS, oI p1, oI p2, oI p3, oI p4, oJ uu, oS, oI dg, oI (0 : Int32), oI xb, oI ps, oI cc, oI ln, oR b255, oI (0 : Int32), oI (0 : Int32), oR b268, oR o_271, oJ (uu % (own_p10 nD)), oS, oU, oU, oU, oU, oU, oU, oU, oU, oU, oU] [(.int (1 : Int32))]
          exact j309 _
        · skip
          obtain ⟨T277, h277, X277, e277, E277, A277, D277, -, st277⟩ := newO X266 hx hZ hown (own_w hw 25 rfl) (own_w hw 26 rfl) (own_w hw 27 rfl) rfl (g := (mkF m 258 #[oJ p0, oS, oI p1, oI p2, oI p3, oI p4, oJ uu, oS, oI dg, oI (0 : Int32), oI xb, oI ps, oI cc, oI ln, oR b255, oI (0 : Int32), oI (0 : Int32), oU, oU, oU, oU, oU, oU, oU, oU, oU, oU, oU, oU, oU, oU] [])) rfl (hb hby at_258) (by decide) (by decide)
          obtain ⟨b277, g277⟩ : ∃ z, z = T266.heap.size := ⟨_, rfl⟩
          rw [← g277] at A277 D277 st277
          have fr277 : h0.size ≤ b277 := Nat.le_trans K266.1 (Nat.le_of_eq g277.symm)
          have ge277 : n0 ≤ b277 := Nat.le_trans Z0 fr277
          have K277 : Keep h0 h277 [] := K266.ext E277
          have c277 : CHr Z own_EL _ T266.heap _ h277 := CHr.ext E277 C266.1
          have C277 := C266.trans c277
          have kk277 := Nat.le_trans kk266 c277.2.1
          have Sf277_b277 : Safe Z own_EL _ h277 b277 := Safe.ext E277 C266.1 (Safe.new (Nat.le_of_eq g277.symm))
          have F277_51 : Fld Z h277 b277 "java/lang/String" "coder" "B" (.int (0 : Int32)) := D277 (Or.inr (own_w hw 51 rfl)) (ty := .byte) (by decide)
          have F277_53 : Fld Z h277 b277 "java/lang/String" "value" "[B" .null := D277 (Or.inr (own_w hw 53 rfl)) (ty := (.array .byte)) (by decide)
          refine own_st (st277) ?_
          refine own_st (fun t_ k_ => XS.dup X277.here hx rfl (hb hby at_261) rfl rfl (XS.aload X277.here hx rfl (hb hby at_262) rfl rfl k_)) ?_
          show own_at p e below _ T277 m 264 #[oJ p0, oS, oI p1, oI p2, oI p3, oI p4, oJ uu, oS, oI dg, oI (0 : Int32), oI xb, oI ps, oI cc, oI ln, oR b255, oI (0 : Int32), oI (0 : Int32), oU, oU, oU, oU, oU, oU, oU, oU, oU, oU, oU, oU, oU, oU] [(.ref b255), (.ref b277), (.ref b277)]
          have f278 : Old Z n0 h277 := (((((((((((((q0.ext E255).keep Kq256 (allS ge255 all0)).keep Kq257 (allS ge255 all0)).keep Kq258 (allS ge255 all0)).keep Kq259 (allS ge255 all0)).keep Kq260 (allS ge255 all0)).keep Kq261 (allS ge255 all0)).keep Kq262 (allS ge255 all0)).keep Kq263 (allS ge255 all0)).keep Kq264 (allS ge255 all0)).keep Kq265 (allS ge255 all0)).keep Kq266 (allS ge255 all0)).ext E277)
          have f279 : Old Z n0 h277 := (((((((((((((q0.ext E255).keep Kq256 (allS ge255 all0)).keep Kq257 (allS ge255 all0)).keep Kq258 (allS ge255 all0)).keep Kq259 (allS ge255 all0)).keep Kq260 (allS ge255 all0)).keep Kq261 (allS ge255 all0)).keep Kq262 (allS ge255 all0)).keep Kq263 (allS ge255 all0)).keep Kq264 (allS ge255 all0)).keep Kq265 (allS ge255 all0)).keep Kq266 (allS ge255 all0)).ext E277)
          obtain ⟨_, _, ⟨T280, L280, k280, n280⟩, -, X280, ⟨Lc280, hQ280, l280, y280, z280⟩, st280⟩ := X277.specialBack hx (y := own_n9) rfl hown (mvT hZ (own_w hw 28 rfl)) (mvT hZ (own_w hw 29 rfl)) (mvT hZ (own_w hw 30 rfl)) (by decide) (backOf (W := 1) (own_rm4 l Z a0 hw [] b277 b255 k255 (0 + nD) cs G1 h277 n0 (Nat.le_trans Z0 K277.1) A277 F277_53 F277_51 (Acs.ext E277) ge277 (Ne.symm (Nat.ne_of_lt (Nat.lt_of_lt_of_le Acs.lt (Nat.le_of_eq g277.symm)))) ⟨(by omega), (by omega)⟩ f279 q1 hG1 q5 q6 q7) hZ (own_w hw 30 rfl) (own_w hw 27 rfl) (by decide) (by decide)) (g := (mkF m 264 #[oJ p0, oS, oI p1, oI p2, oI p3, oI p4, oJ uu, oS, oI dg, oI (0 : Int32), oI xb, oI ps, oI cc, oI ln, oR b255, oI (0 : Int32), oI (0 : Int32), oU, oU, oU, oU, oU, oU, oU, oU, oU, oU, oU, oU, oU, oU] [(.ref b255), (.ref b277), (.ref b277)])) rfl (by rw [hml]; rfl) (Steps.refl _) (a := b277) (argsL := [(.ref b255)]) (rest := [(.ref b277)]) (lenOf own_pd25 rfl) rfl (own_hW rfl) (hb hby at_264) (fun _ _ => ⟨rfl, e277, (by decide : 13 + 2 ≤ _), (by decide : 148 + 36 ≤ _)⟩)
          dsimp only [Pt.U, Pt.locs, Pt.cells, Pt.slots] at X280 l280 y280 z280 st280 hQ280
          subst y280 z280
          obtain ⟨t_280, kt_280, cd_280, rfl, N280q, Kq280, P280_0, P280_1, P280_2, P280_3, P280_4⟩ := hQ280
          have N280 : Fr n0 L280 := by rw [l280]; exact Fr.app N266 N280q
          have K280 : Keep h0 T280.heap [] := K277.trans Kq280 (allS (P := fun x => x ∈ [] ∨ h0.size ≤ x) (Or.inr fr277) all0)
          have c280 : CHr Z own_EL _ h277 _ T280.heap := CHr.keep Kq280 (own_slS Sf277_b277 own_sl0) C277.1
          have C280 := C277.trans c280
          have kk280 := Nat.le_trans kk277 c280.2.1
          have fr280_0 : h0.size ≤ t_280 := Nat.le_trans K277.1 P280_0
          have ge280_0 : n0 ≤ t_280 := Nat.le_trans Z0 fr280_0
          have Sf280_t_280 : Safe Z own_EL _ T280.heap t_280 := Safe.keep Kq280 (own_slS Sf277_b277 own_sl0) C277.1 (Safe.new P280_0)
          refine own_tr st280 ?_
          refine own_st (fun t_ k_ => XS.astore X280.here hx rfl (hb hby at_267) rfl rfl (l' := #[oJ p0, oS, oI p1, oI p2, oI p3, oI p4, oJ uu, oS, oI dg, oI (0 : Int32), oI xb, oI ps, oI cc, oI ln, oR b255, oI (0 : Int32), oI (0 : Int32), oR b277, oU, oU, oU, oU, oU, oU, oU, oU, oU, oU, oU, oU, oU]) rfl (XS.aload X280.here hx rfl (hb hby at_269) rfl rfl (XS.iload X280.here hx rfl (hb hby at_271) rfl (XS.iload X280.here hx rfl (hb hby at_273) rfl k_)))) ?_
          show own_at p e below _ T280 m 275 #[oJ p0, oS, oI p1, oI p2, oI p3, oI p4, oJ uu, oS, oI dg, oI (0 : Int32), oI xb, oI ps, oI cc, oI ln, oR b255, oI (0 : Int32), oI (0 : Int32), oR b277, oU, oU, oU, oU, oU, oU, oU, oU, oU, oU, oU, oU, oU] [(.int p4), (.int p3), (.ref b277)]
          obtain ⟨_, _, ⟨T281, L281, k281, n281⟩, -, X281, Sq281, gq281, ⟨Lc281, hQ281, l281, y281, z281, c281⟩, st281⟩ := callSS X280 hx (y := own_n31) hown (mvT hZ (own_w hw 54 rfl)) (mvT hZ (own_w hw 55 rfl)) (mvT hZ (own_w hw 56 rfl)) (mvT hZ (own_w hw 57 rfl)) (by decide) (own_backSH (W := 0) (own_rm10 l Z a0 hw [] b277 p3 p4 t_280 kt_280 cd_280 (0 + nD) cs G1 G3 aE T280.heap n0 (Nat.le_trans Z0 K280.1) (A277.keep Kq280) P280_1 P280_2 P280_3 P280_4 (f279.keep Kq280 (allS ge277 all0)) q1 hG1 q3 rG3 q5 q6 q7 q8 q9 q10 q11 (by omega) hall) hZ (own_w hw 57 rfl) (own_w hw 56 rfl) (by decide) (by decide) (own_hEL hw) C280.1 own_sl0) (g := (mkF m 275 #[oJ p0, oS, oI p1, oI p2, oI p3, oI p4, oJ uu, oS, oI dg, oI (0 : Int32), oI xb, oI ps, oI cc, oI ln, oR b255, oI (0 : Int32), oI (0 : Int32), oR b277, oU, oU, oU, oU, oU, oU, oU, oU, oU, oU, oU, oU, oU] [(.int p4), (.int p3), (.ref b277)])) rfl (by rw [hml]; rfl) (argsL := [(.ref b277), (.int p3), (.int p4)]) (rest := []) (lenOf own_pd26 rfl) rfl (own_hW rfl) (hb hby at_275) (fun _ _ => ⟨rfl, rfl, (by decide : 15 + 3 ≤ _), (by decide : 184 + 10 ≤ _)⟩)
          dsimp only [Pt.U, Pt.locs, Pt.cells, Pt.slots] at X281 l281 y281 z281 st281 hQ281 Sq281 gq281 c281
          subst y281 z281
          obtain ⟨o_281, pz_281, vz_281, rfl, N281q, Kq281, P281_0, P281_1, P281_2, P281_3⟩ := hQ281
          have N281 : Fr n0 L281 := by rw [l281]; exact Fr.app N280 N281q
          have S281 := foldS S0 (kk280) Sq281 gq281
          have X281 := (show Stand p l e _ (s.setVm T281.vm) m _ below meth c T281 L281 _ _ from X281)
          have hZ : Z.Warmed39 (s.setVm T281.vm).vm := State.Warmed39.trans (t := s.setVm s.vm) hZ Sq281.1
          have hown : (s.setVm T281.vm).vm.findClass "com/example/marshalyard/marshalyard/engine/DecimalIntegerParsePinLaw" = some m.cls := by rw [show (s.setVm T281.vm).vm = T281.vm from rfl, Sq281.1.alike.findClass]; exact hown
          have kk281 := Nat.le_refl T281.heap.size
          have K281 : Keep h0 T281.heap [] := K280.trans Kq281 all0
          have C281 := C280.trans c281
          refine own_tr st281 ?_
          refine own_st (fun t_ k_ => XS.astore X281.here hx rfl (hb hby at_278) rfl rfl (l' := #[oJ p0, oS, oI p1, oI p2, oI p3, oI p4, oJ uu, oS, oI dg, oI (0 : Int32), oI xb, oI ps, oI cc, oI ln, oR b255, oI (0 : Int32), oI (0 : Int32), oR b277, oR o_281, oU, oU, oU, oU, oU, oU, oU, oU, oU, oU, oU, oU]) rfl (XS.lload X281.here hx rfl (hb hby at_280) rfl (XS.iload X281.here hx rfl (hb hby at_282) rfl k_))) ?_
          show own_at p e below _ T281 m 284 #[oJ p0, oS, oI p1, oI p2, oI p3, oI p4, oJ uu, oS, oI dg, oI (0 : Int32), oI xb, oI ps, oI cc, oI ln, oR b255, oI (0 : Int32), oI (0 : Int32), oR b277, oR o_281, oU, oU, oU, oU, oU, oU, oU, oU, oU, oU, oU, oU] [(.int dg), (.long uu)]
          obtain ⟨_, _, ⟨T282, L282, k282, n282⟩, -, X282, ⟨Lc282, hQ282, l282, y282, z282⟩, st282⟩ := Jvm.LawKit.callS X281 hx (y := own_n18) hown (mvT hZ (own_w hw 10 rfl)) (mvT hZ (own_w hw 11 rfl)) (mvT hZ (own_w hw 5 rfl)) (mvT hZ (own_w hw 12 rfl)) (by decide) (backOf (W := 2) (own_rm3 l Z a0 hw [] dg nD T281.heap n0 (Nat.le_trans Z0 K281.1) ⟨hD.1, (by omega)⟩) hZ (own_w hw 12 rfl) (own_w hw 5 rfl) (by decide) (by decide)) (g := (mkF m 284 #[oJ p0, oS, oI p1, oI p2, oI p3, oI p4, oJ uu, oS, oI dg, oI (0 : Int32), oI xb, oI ps, oI cc, oI ln, oR b255, oI (0 : Int32), oI (0 : Int32), oR b277, oR o_281, oU, oU, oU, oU, oU, oU, oU, oU, oU, oU, oU, oU] [(.int dg), (.long uu)])) rfl (by rw [hml]; rfl) (argsL := [(.int dg)]) (rest := [(.long uu)]) (lenOf own_pd13 rfl) rfl (own_hW rfl) (hb hby at_284) (fun _ _ => ⟨rfl, rfl, (by decide : 18 + 1 ≤ _), (by decide : 194 + 12 ≤ _)⟩)
          dsimp only [Pt.U, Pt.locs, Pt.cells, Pt.slots] at X282 l282 y282 z282 st282 hQ282
          subst y282 z282
          obtain ⟨rfl, N282q, Kq282⟩ := hQ282
          have N282 : Fr n0 L282 := by rw [l282]; exact Fr.app N281 N282q
          have K282 : Keep h0 T282.heap [] := K281.trans Kq282 all0
          have c282 : CHr Z own_EL _ T281.heap _ T282.heap := CHr.keep Kq282 own_sl0 C281.1
          have C282 := C281.trans c282
          have kk282 := Nat.le_trans kk281 c282.2.1
          refine own_st (st282) ?_
          show own_at p e below _ T282 m 287 #[oJ p0, oS, oI p1, oI p2, oI p3, oI p4, oJ uu, oS, oI dg, oI (0 : Int32), oI xb, oI ps, oI cc, oI ln, oR b255, oI (0 : Int32), oI (0 : Int32), oR b277, oR o_281, oU, oU, oU, oU, oU, oU, oU, oU, oU, oU, oU, oU] [(.long (own_p10 nD)), (.long uu)]
          refine own_st (fun t_ k_ => own_lrem X282 hx rfl (hb hby at_287) rfl (own_p10z (by omega)) k_) ?_
          refine own_st (fun t_ k_ => XS.lstore X282.here hx rfl (hb hby at_288) rfl (l' := #[oJ p0, oS, oI p1, oI p2, oI p3, oI p4, oJ uu, oS, oI dg, oI (0 : Int32), oI xb, oI ps, oI cc, oI ln, oR b255, oI (0 : Int32), oI (0 : Int32), oR b277, oR o_281, oJ (uu % (own_p10 nD)), oS, oU, oU, oU, oU, oU, oU, oU, oU, oU, oU]) rfl k_) ?_
          show own_at p e below _ T282 m 290 #[oJ p0, oS, oI p1, oI p2, oI p3, oI p4, oJ uu, oS, oI dg, oI (0 : Int32), oI xb, oI ps, oI cc, oI ln, oR b255, oI (0 : Int32), oI (0 : Int32), oR b277, oR o_281, oJ (uu % (own_p10 nD)), oS, oU, oU, oU, oU, oU, oU, oU, oU, oU, oU] []
          have j309 : ∀ xd : Int32, own_at p e below (own_PW below s Z own_EL (own_Q0 Z p0 p1 p2 p3 p4 G1 G3 aE h0 n0) room_1.cells room_1.slots) T282 m 309 #[oJ p0, oS, oI p1, oI p2, oI p3, oI p4, oJ uu, oS, oI dg, oI (0 : Int32), oI xb, oI ps, oI cc, oI ln, oR b255, oI (0 : Int32), oI (0 : Int32), oR b277, oR o_281, oJ (uu % (own_p10 nD)), oS, oU, oU, oU, oU, oU, oU, oU, oU, oU, oU] [(.int xd)] := by
            intro xd
            have hk := own_kA (s := 0) (n := nD) (cs := cs) (U := U) (by decide) (by rw [e_cs]; exact h45) (by rw [e_cs]; exact hd0)
            have hiff := own_gA (mn := p3) (mx := p4) hk
            have hiff : own_good cs (0 + nD) p3 p4 ↔ (1 ≤ nD ∧ nD ≤ 10) ∧ p3.toInt ≤ ((U % 10 ^ nD : Nat) : Int) ∧ ((U % 10 ^ nD : Nat) : Int) ≤ p4.toInt := hiff
            have hpvE : own_pv cs (own_swn cs (0 + nD)) (0 + nD) = ((U % 10 ^ nD : Nat) : Int) := own_pvE hk
            refine own_st (fun t_ k_ => XS.istore X282.here hx rfl (hb hby at_309) rfl (l' := #[oJ p0, oS, oI p1, oI p2, oI p3, oI p4, oJ uu, oS, oI dg, oI (0 : Int32), oI xb, oI ps, oI cc, oI ln, oR b255, oI (0 : Int32), oI (0 : Int32), oR b277, oR o_281, oJ (uu % (own_p10 nD)), oS, oI xd, oU, oU, oU, oU, oU, oU, oU, oU, oU]) rfl (XS.iload X282.here hx rfl (hb hby at_311) rfl (XS.bipush X282.here hx rfl (hb hby at_313) (XS.isub X282.here hx rfl (hb hby at_315) rfl (XS.istore X282.here hx rfl (hb hby at_316) rfl (l' := #[oJ p0, oS, oI p1, oI p2, oI p3, oI p4, oJ uu, oS, oI dg, oI (0 : Int32), oI xb, oI ps, oI cc, oI ln, oR b255, oI (0 : Int32), oI (0 : Int32), oR b277, oR o_281, oJ (uu % (own_p10 nD)), oS, oI xd, oI (cc - (48 : Int32)), oU, oU, oU, oU, oU, oU, oU, oU]) rfl (XS.iload X282.here hx rfl (hb hby at_318) rfl k_)))))) ?_
            show own_at p e below _ T282 m 320 #[oJ p0, oS, oI p1, oI p2, oI p3, oI p4, oJ uu, oS, oI dg, oI (0 : Int32), oI xb, oI ps, oI cc, oI ln, oR b255, oI (0 : Int32), oI (0 : Int32), oR b277, oR o_281, oJ (uu % (own_p10 nD)), oS, oI xd, oI (cc - (48 : Int32)), oU, oU, oU, oU, oU, oU, oU, oU] [(.int (0 : Int32))]
            refine own_st (fun t_ k_ => XS.ifYes X282.here hx rfl (pc0 := 320) (pc' := 337) rfl (hb hby at_320) rfl ((if0 _ _).trans (teq (by decide : (0 : Int32) = (0 : Int32))).1) (by decide) (by decide) (XS.iload X282.here hx rfl (hb hby at_337) rfl (XS.iconst X282.here hx rfl (hb hby at_339) k_))) ?_
            show own_at p e below _ T282 m 340 #[oJ p0, oS, oI p1, oI p2, oI p3, oI p4, oJ uu, oS, oI dg, oI (0 : Int32), oI xb, oI ps, oI cc, oI ln, oR b255, oI (0 : Int32), oI (0 : Int32), oR b277, oR o_281, oJ (uu % (own_p10 nD)), oS, oI xd, oI (cc - (48 : Int32)), oU, oU, oU, oU, oU, oU, oU, oU] [(.int (1 : Int32)), (.int dg)]
            by_cases c340_283 : dg < (1 : Int32)
            · skip
              have rlo_340 := (own_ltp hD.1 (by decide : (1 : Int32).toInt = ((1 : Nat) : Int))).mp c340_283
              refine own_st (fun t_ k_ => XS.icmpYes X282.here hx rfl (pc0 := 340) (pc' := 354) rfl (hb hby at_340) rfl (tlt c340_283).1 (by decide) (by decide) (XS.iconst X282.here hx rfl (hb hby at_354) (XS.istore X282.here hx rfl (hb hby at_355) rfl (l' := #[oJ p0, oS, oI p1, oI p2, oI p3, oI p4, oJ uu, oS, oI dg, oI (0 : Int32), oI xb, oI ps, oI cc, oI ln, oR b255, oI (0 : Int32), oI (0 : Int32), oR b277, oR o_281, oJ (uu % (own_p10 nD)), oS, oI xd, oI (cc - (48 : Int32)), oI (0 : Int32), oU, oU, oU, oU, oU, oU, oU]) rfl (XS.iload X282.here hx rfl (hb hby at_357) rfl (XS.iconst X282.here hx rfl (hb hby at_359) (XS.icmpYes X282.here hx rfl (pc0 := 360) (pc' := 369) rfl (hb hby at_360) rfl (feq (by decide : ¬ ((0 : Int32) = (1 : Int32)))).2 (by decide) (by decide) k_)))))) ?_
              show own_at p e below _ T282 m 369 #[oJ p0, oS, oI p1, oI p2, oI p3, oI p4, oJ uu, oS, oI dg, oI (0 : Int32), oI xb, oI ps, oI cc, oI ln, oR b255, oI (0 : Int32), oI (0 : Int32), oR b277, oR o_281, oJ (uu % (own_p10 nD)), oS, oI xd, oI (cc - (48 : Int32)), oI (0 : Int32), oU, oU, oU, oU, oU, oU, oU] []
              refine own_st (fun t_ k_ => XS.lload X282.here hx rfl (hb hby at_369) rfl k_) ?_
              show own_at p e below _ T282 m 371 #[oJ p0, oS, oI p1, oI p2, oI p3, oI p4, oJ uu, oS, oI dg, oI (0 : Int32), oI xb, oI ps, oI cc, oI ln, oR b255, oI (0 : Int32), oI (0 : Int32), oR b277, oR o_281, oJ (uu % (own_p10 nD)), oS, oI xd, oI (cc - (48 : Int32)), oI (0 : Int32), oU, oU, oU, oU, oU, oU, oU] [(.long (uu % (own_p10 nD)))]
              obtain ⟨vl, e_vl⟩ : ∃ z, z = (uu % (own_p10 nD)) := ⟨_, rfl⟩
              rw [show (uu % (own_p10 nD)) = vl from e_vl.symm]
              have hvl : vl.toInt = ((U % 10 ^ nD : Nat) : Int) := (by rw [e_vl]; have z_ := (own_low hU (by omega : nD < 12)); exact z_.1)
              refine own_st (fun t_ k_ => XS.lstore X282.here hx rfl (hb hby at_371) rfl (l' := #[oJ p0, oS, oI p1, oI p2, oI p3, oI p4, oJ uu, oS, oI dg, oI (0 : Int32), oI xb, oI ps, oI cc, oI ln, oR b255, oI (0 : Int32), oI (0 : Int32), oR b277, oR o_281, oJ vl, oS, oI xd, oI (cc - (48 : Int32)), oI (0 : Int32), oJ vl, oS, oU, oU, oU, oU, oU]) rfl (XS.goto X282.here hx rfl (pc0 := 373) (pc' := 562) rfl (hb hby at_373) (by decide) (by decide) k_)) ?_
              show own_at p e below _ T282 m 562 #[oJ p0, oS, oI p1, oI p2, oI p3, oI p4, oJ uu, oS, oI dg, oI (0 : Int32), oI xb, oI ps, oI cc, oI ln, oR b255, oI (0 : Int32), oI (0 : Int32), oR b277, oR o_281, oJ vl, oS, oI xd, oI (cc - (48 : Int32)), oI (0 : Int32), oJ vl, oS, oU, oU, oU, oU, oU] []
              have hgd : ¬ own_good cs (0 + nD) p3 p4 := fun z_ => by have y_ := (hiff.mp z_).1; omega
              exact j562 _ _ _ _ _ _ _ _ _ _ _ _ _ _ _ _ _ _ _ _ _ _ _ _ _ _ _ _ _ _ _ _ _ _ _ _ _ _ _ hZ hown S281 X282 rfl N282 K282 C282 kk282 (by decide) (by decide) ((((f279.keep Kq280 (allS ge277 all0)).keep Kq281 all0).keep Kq282 all0)) ((P281_0.keep Kq282)) ((P281_1.keep Kq282 nin0)) ((P281_2.keep Kq282 nin0)) One.u (Or.inl rfl) ⟨fun z_ => absurd z_ hgd, fun z_ => absurd z_.1 (by decide)⟩ (fun z_ => absurd z_ hgd) P281_3
            have rlo_340 := mt (own_ltp hD.1 (by decide : (1 : Int32).toInt = ((1 : Nat) : Int))).mpr c340_283
            refine own_st (fun t_ k_ => XS.icmpNo X282.here hx rfl (hb hby at_340) rfl (flt c340_283).1 (XS.iload X282.here hx rfl (hb hby at_343) rfl (XS.bipush X282.here hx rfl (hb hby at_345) k_))) ?_
            show own_at p e below _ T282 m 347 #[oJ p0, oS, oI p1, oI p2, oI p3, oI p4, oJ uu, oS, oI dg, oI (0 : Int32), oI xb, oI ps, oI cc, oI ln, oR b255, oI (0 : Int32), oI (0 : Int32), oR b277, oR o_281, oJ (uu % (own_p10 nD)), oS, oI xd, oI (cc - (48 : Int32)), oU, oU, oU, oU, oU, oU, oU, oU] [(.int (10 : Int32)), (.int dg)]
            by_cases c347_284 : (10 : Int32) < dg
            · skip
              have rhi_347 := (own_ltp (by decide : (10 : Int32).toInt = ((10 : Nat) : Int)) hD.1).mp c347_284
              refine own_st (fun t_ k_ => XS.icmpYes X282.here hx rfl (pc0 := 347) (pc' := 354) rfl (hb hby at_347) rfl (tlt c347_284).2.2.1 (by decide) (by decide) (XS.iconst X282.here hx rfl (hb hby at_354) (XS.istore X282.here hx rfl (hb hby at_355) rfl (l' := #[oJ p0, oS, oI p1, oI p2, oI p3, oI p4, oJ uu, oS, oI dg, oI (0 : Int32), oI xb, oI ps, oI cc, oI ln, oR b255, oI (0 : Int32), oI (0 : Int32), oR b277, oR o_281, oJ (uu % (own_p10 nD)), oS, oI xd, oI (cc - (48 : Int32)), oI (0 : Int32), oU, oU, oU, oU, oU, oU, oU]) rfl (XS.iload X282.here hx rfl (hb hby at_357) rfl (XS.iconst X282.here hx rfl (hb hby at_359) (XS.icmpYes X282.here hx rfl (pc0 := 360) (pc' := 369) rfl (hb hby at_360) rfl (feq (by decide : ¬ ((0 : Int32) = (1 : Int32)))).2 (by decide) (by decide) k_)))))) ?_
              show own_at p e below _ T282 m 369 #[oJ p0, oS, oI p1, oI p2, oI p3, oI p4, oJ uu, oS, oI dg, oI (0 : Int32), oI xb, oI ps, oI cc, oI ln, oR b255, oI (0 : Int32), oI (0 : Int32), oR b277, oR o_281, oJ (uu % (own_p10 nD)), oS, oI xd, oI (cc - (48 : Int32)), oI (0 : Int32), oU, oU, oU, oU, oU, oU, oU] []
              refine own_st (fun t_ k_ => XS.lload X282.here hx rfl (hb hby at_369) rfl k_) ?_
              show own_at p e below _ T282 m 371 #[oJ p0, oS, oI p1, oI p2, oI p3, oI p4, oJ uu, oS, oI dg, oI (0 : Int32), oI xb, oI ps, oI cc, oI ln, oR b255, oI (0 : Int32), oI (0 : Int32), oR b277, oR o_281, oJ (uu % (own_p10 nD)), oS, oI xd, oI (cc - (48 : Int32)), oI (0 : Int32), oU, oU, oU, oU, oU, oU, oU] [(.long (uu % (own_p10 nD)))]
              obtain ⟨vl, e_vl⟩ : ∃ z, z = (uu % (own_p10 nD)) := ⟨_, rfl⟩
              rw [show (uu % (own_p10 nD)) = vl from e_vl.symm]
              have hvl : vl.toInt = ((U % 10 ^ nD : Nat) : Int) := (by rw [e_vl]; have z_ := (own_low hU (by omega : nD < 12)); exact z_.1)
              refine own_st (fun t_ k_ => XS.lstore X282.here hx rfl (hb hby at_371) rfl (l' := #[oJ p0, oS, oI p1, oI p2, oI p3, oI p4, oJ uu, oS, oI dg, oI (0 : Int32), oI xb, oI ps, oI cc, oI ln, oR b255, oI (0 : Int32), oI (0 : Int32), oR b277, oR o_281, oJ vl, oS, oI xd, oI (cc - (48 : Int32)), oI (0 : Int32), oJ vl, oS, oU, oU, oU, oU, oU]) rfl (XS.goto X282.here hx rfl (pc0 := 373) (pc' := 562) rfl (hb hby at_373) (by decide) (by decide) k_)) ?_
              show own_at p e below _ T282 m 562 #[oJ p0, oS, oI p1, oI p2, oI p3, oI p4, oJ uu, oS, oI dg, oI (0 : Int32), oI xb, oI ps, oI cc, oI ln, oR b255, oI (0 : Int32), oI (0 : Int32), oR b277, oR o_281, oJ vl, oS, oI xd, oI (cc - (48 : Int32)), oI (0 : Int32), oJ vl, oS, oU, oU, oU, oU, oU] []
              have hgd : ¬ own_good cs (0 + nD) p3 p4 := fun z_ => by have y_ := (hiff.mp z_).1; omega
              exact j562 _ _ _ _ _ _ _ _ _ _ _ _ _ _ _ _ _ _ _ _ _ _ _ _ _ _ _ _ _ _ _ _ _ _ _ _ _ _ _ hZ hown S281 X282 rfl N282 K282 C282 kk282 (by decide) (by decide) ((((f279.keep Kq280 (allS ge277 all0)).keep Kq281 all0).keep Kq282 all0)) ((P281_0.keep Kq282)) ((P281_1.keep Kq282 nin0)) ((P281_2.keep Kq282 nin0)) One.u (Or.inl rfl) ⟨fun z_ => absurd z_ hgd, fun z_ => absurd z_.1 (by decide)⟩ (fun z_ => absurd z_ hgd) P281_3
            have rhi_347 := mt (own_ltp (by decide : (10 : Int32).toInt = ((10 : Nat) : Int)) hD.1).mpr c347_284
            refine own_st (fun t_ k_ => XS.icmpNo X282.here hx rfl (hb hby at_347) rfl (flt c347_284).2.2.1 (XS.iconst X282.here hx rfl (hb hby at_350) (XS.goto X282.here hx rfl (pc0 := 351) (pc' := 355) rfl (hb hby at_351) (by decide) (by decide) (XS.istore X282.here hx rfl (hb hby at_355) rfl (l' := #[oJ p0, oS, oI p1, oI p2, oI p3, oI p4, oJ uu, oS, oI dg, oI (0 : Int32), oI xb, oI ps, oI cc, oI ln, oR b255, oI (0 : Int32), oI (0 : Int32), oR b277, oR o_281, oJ (uu % (own_p10 nD)), oS, oI xd, oI (cc - (48 : Int32)), oI (1 : Int32), oU, oU, oU, oU, oU, oU, oU]) rfl (XS.iload X282.here hx rfl (hb hby at_357) rfl (XS.iconst X282.here hx rfl (hb hby at_359) k_)))))) ?_
            show own_at p e below _ T282 m 360 #[oJ p0, oS, oI p1, oI p2, oI p3, oI p4, oJ uu, oS, oI dg, oI (0 : Int32), oI xb, oI ps, oI cc, oI ln, oR b255, oI (0 : Int32), oI (0 : Int32), oR b277, oR o_281, oJ (uu % (own_p10 nD)), oS, oI xd, oI (cc - (48 : Int32)), oI (1 : Int32), oU, oU, oU, oU, oU, oU, oU] [(.int (1 : Int32)), (.int (0 : Int32))]
            refine own_st (fun t_ k_ => XS.icmpYes X282.here hx rfl (pc0 := 360) (pc' := 369) rfl (hb hby at_360) rfl (feq (by decide : ¬ ((0 : Int32) = (1 : Int32)))).2 (by decide) (by decide) (XS.lload X282.here hx rfl (hb hby at_369) rfl k_)) ?_
            show own_at p e below _ T282 m 371 #[oJ p0, oS, oI p1, oI p2, oI p3, oI p4, oJ uu, oS, oI dg, oI (0 : Int32), oI xb, oI ps, oI cc, oI ln, oR b255, oI (0 : Int32), oI (0 : Int32), oR b277, oR o_281, oJ (uu % (own_p10 nD)), oS, oI xd, oI (cc - (48 : Int32)), oI (1 : Int32), oU, oU, oU, oU, oU, oU, oU] [(.long (uu % (own_p10 nD)))]
            obtain ⟨vl, e_vl⟩ : ∃ z, z = (uu % (own_p10 nD)) := ⟨_, rfl⟩
            rw [show (uu % (own_p10 nD)) = vl from e_vl.symm]
            have hvl : vl.toInt = ((U % 10 ^ nD : Nat) : Int) := (by rw [e_vl]; have z_ := (own_low hU (by omega : nD < 12)); exact z_.1)
            refine own_st (fun t_ k_ => XS.lstore X282.here hx rfl (hb hby at_371) rfl (l' := #[oJ p0, oS, oI p1, oI p2, oI p3, oI p4, oJ uu, oS, oI dg, oI (0 : Int32), oI xb, oI ps, oI cc, oI ln, oR b255, oI (0 : Int32), oI (0 : Int32), oR b277, oR o_281, oJ vl, oS, oI xd, oI (cc - (48 : Int32)), oI (1 : Int32), oJ vl, oS, oU, oU, oU, oU, oU]) rfl (XS.goto X282.here hx rfl (pc0 := 373) (pc' := 562) rfl (hb hby at_373) (by decide) (by decide) k_)) ?_
            show own_at p e below _ T282 m 562 #[oJ p0, oS, oI p1, oI p2, oI p3, oI p4, oJ uu, oS, oI dg, oI (0 : Int32), oI xb, oI ps, oI cc, oI ln, oR b255, oI (0 : Int32), oI (0 : Int32), oR b277, oR o_281, oJ vl, oS, oI xd, oI (cc - (48 : Int32)), oI (1 : Int32), oJ vl, oS, oU, oU, oU, oU, oU] []
            exact j562 _ _ _ _ _ _ _ _ _ _ _ _ _ _ _ _ _ _ _ _ _ _ _ _ _ _ _ _ _ _ _ _ _ _ _ _ _ _ _ hZ hown S281 X282 rfl N282 K282 C282 kk282 (by decide) (by decide) ((((f279.keep Kq280 (allS ge277 all0)).keep Kq281 all0).keep Kq282 all0)) ((P281_0.keep Kq282)) ((P281_1.keep Kq282 nin0)) ((P281_2.keep Kq282 nin0)) One.u (Or.inr rfl) (by rw [hiff, hvl]; exact ⟨fun z_ => ⟨rfl, z_.2⟩, fun z_ => ⟨(by omega), z_.2⟩⟩) (fun _ => by rw [hpvE, hvl]) P281_3
          refine own_st (fun t_ k_ => XS.iload X282.here hx rfl (hb hby at_290) rfl (XS.bipush X282.here hx rfl (hb hby at_292) k_)) ?_
          show own_at p e below _ T282 m 294 #[oJ p0, oS, oI p1, oI p2, oI p3, oI p4, oJ uu, oS, oI dg, oI (0 : Int32), oI xb, oI ps, oI cc, oI ln, oR b255, oI (0 : Int32), oI (0 : Int32), oR b277, oR o_281, oJ (uu % (own_p10 nD)), oS, oU, oU, oU, oU, oU, oU, oU, oU, oU, oU] [(.int (48 : Int32)), (.int cc)]
          by_cases c294_285 : cc < (48 : Int32)
          · skip
            refine own_st (fun t_ k_ => XS.icmpYes X282.here hx rfl (pc0 := 294) (pc' := 308) rfl (hb hby at_294) rfl (tlt c294_285).1 (by decide) (by decide) (XS.iconst X282.here hx rfl (hb hby at_308) k_)) ?_
            show own_at p e below _ T282 m 309 #[oJ p0, oS, oI p1, oI p2, oI p3, oI p4, oJ uu, oS, oI dg, oI (0 : Int32), oI xb, oI ps, oI cc, oI ln, oR b255, oI (0 : Int32), oI (0 : Int32), oR b277, oR o_281, oJ (uu % (own_p10 nD)), oS, oU, oU, oU, oU, oU, oU, oU, oU, oU, oU] [(.int (0 : Int32))]
            exact j309 _
          refine own_st (fun t_ k_ => XS.icmpNo X282.here hx rfl (hb hby at_294) rfl (flt c294_285).1 (XS.iload X282.here hx rfl (hb hby at_297) rfl (XS.bipush X282.here hx rfl (hb hby at_299) k_))) ?_
          show own_at p e below _ T282 m 301 #[oJ p0, oS, oI p1, oI p2, oI p3, oI p4, oJ uu, oS, oI dg, oI (0 : Int32), oI xb, oI ps, oI cc, oI ln, oR b255, oI (0 : Int32), oI (0 : Int32), oR b277, oR o_281, oJ (uu % (own_p10 nD)), oS, oU, oU, oU, oU, oU, oU, oU, oU, oU, oU] [(.int (57 : Int32)), (.int cc)]
          by_cases c301_286 : (57 : Int32) < cc
          · skip
            refine own_st (fun t_ k_ => XS.icmpYes X282.here hx rfl (pc0 := 301) (pc' := 308) rfl (hb hby at_301) rfl (tlt c301_286).2.2.1 (by decide) (by decide) (XS.iconst X282.here hx rfl (hb hby at_308) k_)) ?_
            show own_at p e below _ T282 m 309 #[oJ p0, oS, oI p1, oI p2, oI p3, oI p4, oJ uu, oS, oI dg, oI (0 : Int32), oI xb, oI ps, oI cc, oI ln, oR b255, oI (0 : Int32), oI (0 : Int32), oR b277, oR o_281, oJ (uu % (own_p10 nD)), oS, oU, oU, oU, oU, oU, oU, oU, oU, oU, oU] [(.int (0 : Int32))]
            exact j309 _
          refine own_st (fun t_ k_ => XS.icmpNo X282.here hx rfl (hb hby at_301) rfl (flt c301_286).2.2.1 (XS.iconst X282.here hx rfl (hb hby at_304) (XS.goto X282.here hx rfl (pc0 := 305) (pc' := 309) rfl (hb hby at_305) (by decide) (by decide) k_))) ?_
          show own_at p e below _ T282 m 309 #[oJ p0, oS, oI p1, oI p2, oI p3, oI p4, oJ uu, oS, oI dg, oI (0 : Int32), oI xb, oI ps, oI cc, oI ln, oR b255, oI (0 : Int32), oI (0 : Int32), oR b277, oR o_281, oJ (uu % (own_p10 nD)), oS, oU, oU, oU, oU, oU, oU, oU, oU, oU, oU] [(.int (1 : Int32))]
          exact j309 _
      refine own_st (fun t_ k_ => XS.ifNo X266.here hx rfl (hb hby at_215) rfl ((if0 _ _).trans (feq c215_267).1) (XS.iload X266.here hx rfl (hb hby at_218) rfl k_)) ?_
      show own_at p e below _ T266 m 220 #[oJ p0, oS, oI p1, oI p2, oI p3, oI p4, oJ uu, oS, oI dg, oI (0 : Int32), oI xb, oI ps, oI cc, oI ln, oR b255, oU, oU, oU, oU, oU, oU, oU, oU, oU, oU, oU, oU, oU, oU, oU, oU] [(.int ln)]
      by_cases c220_287 : (0 : Int32) < ln
      · skip
        have h220 := (own_ltp (by decide : (0 : Int32).toInt = ((0 : Nat) : Int)) hln).mp c220_287
        refine own_st (fun t_ k_ => XS.ifNo X266.here hx rfl (hb hby at_220) rfl ((if0 _ _).trans (tlt c220_287).2.2.2) (XS.iconst X266.here hx rfl (hb hby at_223) (XS.goto X266.here hx rfl (pc0 := 224) (pc' := 228) rfl (hb hby at_224) (by decide) (by decide) (XS.istore X266.here hx rfl (hb hby at_228) rfl (l' := #[oJ p0, oS, oI p1, oI p2, oI p3, oI p4, oJ uu, oS, oI dg, oI (0 : Int32), oI xb, oI ps, oI cc, oI ln, oR b255, oI (1 : Int32), oU, oU, oU, oU, oU, oU, oU, oU, oU, oU, oU, oU, oU, oU, oU]) rfl (XS.iload X266.here hx rfl (hb hby at_230) rfl (XS.ifNo X266.here hx rfl (hb hby at_232) rfl ((if0 _ _).trans (feq (by decide : ¬ ((1 : Int32) = (0 : Int32)))).1) k_)))))) ?_
        show own_at p e below _ T266 m 235 #[oJ p0, oS, oI p1, oI p2, oI p3, oI p4, oJ uu, oS, oI dg, oI (0 : Int32), oI xb, oI ps, oI cc, oI ln, oR b255, oI (1 : Int32), oU, oU, oU, oU, oU, oU, oU, oU, oU, oU, oU, oU, oU, oU, oU] []
        refine own_st (fun t_ k_ => XS.iload X266.here hx rfl (hb hby at_235) rfl (XS.iload X266.here hx rfl (hb hby at_237) rfl k_)) ?_
        show own_at p e below _ T266 m 239 #[oJ p0, oS, oI p1, oI p2, oI p3, oI p4, oJ uu, oS, oI dg, oI (0 : Int32), oI xb, oI ps, oI cc, oI ln, oR b255, oI (1 : Int32), oU, oU, oU, oU, oU, oU, oU, oU, oU, oU, oU, oU, oU, oU, oU] [(.int ln), (.int ps)]
        refine own_st (fun t_ k_ => iremM X266 hx rfl (hb hby at_239) rfl (own_nz hln (by omega)) k_) ?_
        obtain ⟨qq, e_qq⟩ : ∃ z, z = (ps % ln) := ⟨_, rfl⟩
        show own_at p e below _ T266 m 240 #[oJ p0, oS, oI p1, oI p2, oI p3, oI p4, oJ uu, oS, oI dg, oI (0 : Int32), oI xb, oI ps, oI cc, oI ln, oR b255, oI (1 : Int32), oU, oU, oU, oU, oU, oU, oU, oU, oU, oU, oU, oU, oU, oU, oU] [(.int (ps % ln))]
        rw [show (ps % ln) = qq from e_qq.symm]
        obtain ⟨qx9, hqq⟩ : ∃ q : Nat, qq.toInt = (q : Int) ∧ q < 0 + nD := by rw [e_qq]; exact own_qN hps hln (by omega)
        refine own_st (fun t_ k_ => XS.goto X266.here hx rfl (pc0 := 240) (pc' := 244) rfl (hb hby at_240) (by decide) (by decide) (XS.istore X266.here hx rfl (hb hby at_244) rfl (l' := #[oJ p0, oS, oI p1, oI p2, oI p3, oI p4, oJ uu, oS, oI dg, oI (0 : Int32), oI xb, oI ps, oI cc, oI ln, oR b255, oI (1 : Int32), oI qq, oU, oU, oU, oU, oU, oU, oU, oU, oU, oU, oU, oU, oU, oU]) rfl (XS.iload X266.here hx rfl (hb hby at_246) rfl (XS.ifNo X266.here hx rfl (hb hby at_248) rfl ((if0 _ _).trans (feq (by decide : ¬ ((1 : Int32) = (0 : Int32)))).1) (XS.aload X266.here hx rfl (hb hby at_251) rfl rfl (XS.iload X266.here hx rfl (hb hby at_253) rfl k_)))))) ?_
        show own_at p e below _ T266 m 255 #[oJ p0, oS, oI p1, oI p2, oI p3, oI p4, oJ uu, oS, oI dg, oI (0 : Int32), oI xb, oI ps, oI cc, oI ln, oR b255, oI (1 : Int32), oI qq, oU, oU, oU, oU, oU, oU, oU, oU, oU, oU, oU, oU, oU, oU] [(.int qq), (.ref b255)]
        refine own_st (fun t_ k_ => XS.iload X266.here hx rfl (hb hby at_255) rfl k_) ?_
        show own_at p e below _ T266 m 257 #[oJ p0, oS, oI p1, oI p2, oI p3, oI p4, oJ uu, oS, oI dg, oI (0 : Int32), oI xb, oI ps, oI cc, oI ln, oR b255, oI (1 : Int32), oI qq, oU, oU, oU, oU, oU, oU, oU, oU, oU, oU, oU, oU, oU, oU] [(.int cc), (.int qq), (.ref b255)]
        obtain ⟨T288, h288, X288, e288, W288, Aw288, st288⟩ := own_castore X266 hx hZ rfl Ac0 (i := qx9) hqq.1 hqq.2 hccn (v' := cc) (g := (mkF m 257 #[oJ p0, oS, oI p1, oI p2, oI p3, oI p4, oJ uu, oS, oI dg, oI (0 : Int32), oI xb, oI ps, oI cc, oI ln, oR b255, oI (1 : Int32), oI qq, oU, oU, oU, oU, oU, oU, oU, oU, oU, oU, oU, oU, oU, oU] [(.int cc), (.int qq), (.ref b255)])) rfl rfl (hb hby at_257)
        have N288 := Fr.snoc X288 N266 ge255
        have K288 : Keep h0 h288 [] := K266.wr W288 (Or.inr fr255)
        have c288 : CHr Z own_EL _ T266.heap _ h288 := CHr.wr W288 (own_safeA hZ.alike Ac0 (by decide)) C266.1
        have C288 := C266.trans c288
        have kk288 := Nat.le_trans kk266 c288.2.1
        refine own_st (st288) ?_
        obtain ⟨cs, e_cs⟩ : ∃ f_ : Nat → Int32, f_ = (own_upd c0 qx9 cc) := ⟨_, rfl⟩
        have Acs : own_A Z h288 b255 k255 .char (0 + nD) (fun i => .int (cs i)) := by rw [e_cs]; exact Aw288
        have hall : ∀ q : Nat, q < 0 + nD → 0 ≤ (cs q).toInt ∧ (cs q).toInt ≤ 65535 := fun q hq => own_char (Acs.fit hq)
        obtain ⟨T289, h289, X289, e289, E289, A289, D289, -, st289⟩ := newO X288 hx hZ hown (own_w hw 25 rfl) (own_w hw 26 rfl) (own_w hw 27 rfl) e288 (g := (mkF m 258 #[oJ p0, oS, oI p1, oI p2, oI p3, oI p4, oJ uu, oS, oI dg, oI (0 : Int32), oI xb, oI ps, oI cc, oI ln, oR b255, oI (1 : Int32), oI qq, oU, oU, oU, oU, oU, oU, oU, oU, oU, oU, oU, oU, oU, oU] [])) rfl (hb hby at_258) (by decide) (by decide)
        obtain ⟨b289, g289⟩ : ∃ z, z = h288.size := ⟨_, rfl⟩
        show own_at p e below _ T288 m 258 #[oJ p0, oS, oI p1, oI p2, oI p3, oI p4, oJ uu, oS, oI dg, oI (0 : Int32), oI xb, oI ps, oI cc, oI ln, oR b255, oI (1 : Int32), oI qq, oU, oU, oU, oU, oU, oU, oU, oU, oU, oU, oU, oU, oU, oU] []
        rw [← g289] at A289 D289 st289
        have fr289 : h0.size ≤ b289 := Nat.le_trans K288.1 (Nat.le_of_eq g289.symm)
        have ge289 : n0 ≤ b289 := Nat.le_trans Z0 fr289
        have K289 : Keep h0 h289 [] := K288.ext E289
        have c289 : CHr Z own_EL _ h288 _ h289 := CHr.ext E289 C288.1
        have C289 := C288.trans c289
        have kk289 := Nat.le_trans kk288 c289.2.1
        have Sf289_b289 : Safe Z own_EL _ h289 b289 := Safe.ext E289 C288.1 (Safe.new (Nat.le_of_eq g289.symm))
        have F289_51 : Fld Z h289 b289 "java/lang/String" "coder" "B" (.int (0 : Int32)) := D289 (Or.inr (own_w hw 51 rfl)) (ty := .byte) (by decide)
        have F289_53 : Fld Z h289 b289 "java/lang/String" "value" "[B" .null := D289 (Or.inr (own_w hw 53 rfl)) (ty := (.array .byte)) (by decide)
        refine own_st (st289) ?_
        refine own_st (fun t_ k_ => XS.dup X289.here hx rfl (hb hby at_261) rfl rfl (XS.aload X289.here hx rfl (hb hby at_262) rfl rfl k_)) ?_
        show own_at p e below _ T289 m 264 #[oJ p0, oS, oI p1, oI p2, oI p3, oI p4, oJ uu, oS, oI dg, oI (0 : Int32), oI xb, oI ps, oI cc, oI ln, oR b255, oI (1 : Int32), oI qq, oU, oU, oU, oU, oU, oU, oU, oU, oU, oU, oU, oU, oU, oU] [(.ref b255), (.ref b289), (.ref b289)]
        have f290 : Old Z n0 h289 := ((((((((((((((q0.ext E255).keep Kq256 (allS ge255 all0)).keep Kq257 (allS ge255 all0)).keep Kq258 (allS ge255 all0)).keep Kq259 (allS ge255 all0)).keep Kq260 (allS ge255 all0)).keep Kq261 (allS ge255 all0)).keep Kq262 (allS ge255 all0)).keep Kq263 (allS ge255 all0)).keep Kq264 (allS ge255 all0)).keep Kq265 (allS ge255 all0)).keep Kq266 (allS ge255 all0)).wr W288 ge255).ext E289)
        have f291 : Old Z n0 h289 := ((((((((((((((q0.ext E255).keep Kq256 (allS ge255 all0)).keep Kq257 (allS ge255 all0)).keep Kq258 (allS ge255 all0)).keep Kq259 (allS ge255 all0)).keep Kq260 (allS ge255 all0)).keep Kq261 (allS ge255 all0)).keep Kq262 (allS ge255 all0)).keep Kq263 (allS ge255 all0)).keep Kq264 (allS ge255 all0)).keep Kq265 (allS ge255 all0)).keep Kq266 (allS ge255 all0)).wr W288 ge255).ext E289)
        obtain ⟨_, _, ⟨T292, L292, k292, n292⟩, -, X292, ⟨Lc292, hQ292, l292, y292, z292⟩, st292⟩ := X289.specialBack hx (y := own_n9) rfl hown (mvT hZ (own_w hw 28 rfl)) (mvT hZ (own_w hw 29 rfl)) (mvT hZ (own_w hw 30 rfl)) (by decide) (backOf (W := 1) (own_rm4 l Z a0 hw [] b289 b255 k255 (0 + nD) cs G1 h289 n0 (Nat.le_trans Z0 K289.1) A289 F289_53 F289_51 (Acs.ext E289) ge289 (Ne.symm (Nat.ne_of_lt (Nat.lt_of_lt_of_le Acs.lt (Nat.le_of_eq g289.symm)))) ⟨(by omega), (by omega)⟩ f291 q1 hG1 q5 q6 q7) hZ (own_w hw 30 rfl) (own_w hw 27 rfl) (by decide) (by decide)) (g := (mkF m 264 #[oJ p0, oS, oI p1, oI p2, oI p3, oI p4, oJ uu, oS, oI dg, oI (0 : Int32), oI xb, oI ps, oI cc, oI ln, oR b255, oI (1 : Int32), oI qq, oU, oU, oU, oU, oU, oU, oU, oU, oU, oU, oU, oU, oU, oU] [(.ref b255), (.ref b289), (.ref b289)])) rfl (by rw [hml]; rfl) (Steps.refl _) (a := b289) (argsL := [(.ref b255)]) (rest := [(.ref b289)]) (lenOf own_pd25 rfl) rfl (own_hW rfl) (hb hby at_264) (fun _ _ => ⟨rfl, e289, (by decide : 13 + 2 ≤ _), (by decide : 148 + 36 ≤ _)⟩)
        dsimp only [Pt.U, Pt.locs, Pt.cells, Pt.slots] at X292 l292 y292 z292 st292 hQ292
        subst y292 z292
        obtain ⟨t_292, kt_292, cd_292, rfl, N292q, Kq292, P292_0, P292_1, P292_2, P292_3, P292_4⟩ := hQ292
        have N292 : Fr n0 L292 := by rw [l292]; exact Fr.app N288 N292q
        have K292 : Keep h0 T292.heap [] := K289.trans Kq292 (allS (P := fun x => x ∈ [] ∨ h0.size ≤ x) (Or.inr fr289) all0)
        have c292 : CHr Z own_EL _ h289 _ T292.heap := CHr.keep Kq292 (own_slS Sf289_b289 own_sl0) C289.1
        have C292 := C289.trans c292
        have kk292 := Nat.le_trans kk289 c292.2.1
        have fr292_0 : h0.size ≤ t_292 := Nat.le_trans K289.1 P292_0
        have ge292_0 : n0 ≤ t_292 := Nat.le_trans Z0 fr292_0
        have Sf292_t_292 : Safe Z own_EL _ T292.heap t_292 := Safe.keep Kq292 (own_slS Sf289_b289 own_sl0) C289.1 (Safe.new P292_0)
        refine own_tr st292 ?_
        refine own_st (fun t_ k_ => XS.astore X292.here hx rfl (hb hby at_267) rfl rfl (l' := #[oJ p0, oS, oI p1, oI p2, oI p3, oI p4, oJ uu, oS, oI dg, oI (0 : Int32), oI xb, oI ps, oI cc, oI ln, oR b255, oI (1 : Int32), oI qq, oR b289, oU, oU, oU, oU, oU, oU, oU, oU, oU, oU, oU, oU, oU]) rfl (XS.aload X292.here hx rfl (hb hby at_269) rfl rfl (XS.iload X292.here hx rfl (hb hby at_271) rfl (XS.iload X292.here hx rfl (hb hby at_273) rfl k_)))) ?_
        show own_at p e below _ T292 m 275 #[oJ p0, oS, oI p1, oI p2, oI p3, oI p4, oJ uu, oS, oI dg, oI (0 : Int32), oI xb, oI ps, oI cc, oI ln, oR b255, oI (1 : Int32), oI qq, oR b289, oU, oU, oU, oU, oU, oU, oU, oU, oU, oU, oU, oU, oU] [(.int p4), (.int p3), (.ref b289)]
        obtain ⟨_, _, ⟨T293, L293, k293, n293⟩, -, X293, Sq293, gq293, ⟨Lc293, hQ293, l293, y293, z293, c293⟩, st293⟩ := callSS X292 hx (y := own_n31) hown (mvT hZ (own_w hw 54 rfl)) (mvT hZ (own_w hw 55 rfl)) (mvT hZ (own_w hw 56 rfl)) (mvT hZ (own_w hw 57 rfl)) (by decide) (own_backSH (W := 0) (own_rm10 l Z a0 hw [] b289 p3 p4 t_292 kt_292 cd_292 (0 + nD) cs G1 G3 aE T292.heap n0 (Nat.le_trans Z0 K292.1) (A289.keep Kq292) P292_1 P292_2 P292_3 P292_4 (f291.keep Kq292 (allS ge289 all0)) q1 hG1 q3 rG3 q5 q6 q7 q8 q9 q10 q11 (by omega) hall) hZ (own_w hw 57 rfl) (own_w hw 56 rfl) (by decide) (by decide) (own_hEL hw) C292.1 own_sl0) (g := (mkF m 275 #[oJ p0, oS, oI p1, oI p2, oI p3, oI p4, oJ uu, oS, oI dg, oI (0 : Int32), oI xb, oI ps, oI cc, oI ln, oR b255, oI (1 : Int32), oI qq, oR b289, oU, oU, oU, oU, oU, oU, oU, oU, oU, oU, oU, oU, oU] [(.int p4), (.int p3), (.ref b289)])) rfl (by rw [hml]; rfl) (argsL := [(.ref b289), (.int p3), (.int p4)]) (rest := []) (lenOf own_pd26 rfl) rfl (own_hW rfl) (hb hby at_275) (fun _ _ => ⟨rfl, rfl, (by decide : 15 + 3 ≤ _), (by decide : 184 + 10 ≤ _)⟩)
        dsimp only [Pt.U, Pt.locs, Pt.cells, Pt.slots] at X293 l293 y293 z293 st293 hQ293 Sq293 gq293 c293
        subst y293 z293
        obtain ⟨o_293, pz_293, vz_293, rfl, N293q, Kq293, P293_0, P293_1, P293_2, P293_3⟩ := hQ293
        have N293 : Fr n0 L293 := by rw [l293]; exact Fr.app N292 N293q
        have S293 := foldS S0 (kk292) Sq293 gq293
        have X293 := (show Stand p l e _ (s.setVm T293.vm) m _ below meth c T293 L293 _ _ from X293)
        have hZ : Z.Warmed39 (s.setVm T293.vm).vm := State.Warmed39.trans (t := s.setVm s.vm) hZ Sq293.1
        have hown : (s.setVm T293.vm).vm.findClass "com/example/marshalyard/marshalyard/engine/DecimalIntegerParsePinLaw" = some m.cls := by rw [show (s.setVm T293.vm).vm = T293.vm from rfl, Sq293.1.alike.findClass]; exact hown
        have kk293 := Nat.le_refl T293.heap.size
        have K293 : Keep h0 T293.heap [] := K292.trans Kq293 all0
        have C293 := C292.trans c293
        refine own_tr st293 ?_
        refine own_st (fun t_ k_ => XS.astore X293.here hx rfl (hb hby at_278) rfl rfl (l' := #[oJ p0, oS, oI p1, oI p2, oI p3, oI p4, oJ uu, oS, oI dg, oI (0 : Int32), oI xb, oI ps, oI cc, oI ln, oR b255, oI (1 : Int32), oI qq, oR b289, oR o_293, oU, oU, oU, oU, oU, oU, oU, oU, oU, oU, oU, oU]) rfl (XS.lload X293.here hx rfl (hb hby at_280) rfl (XS.iload X293.here hx rfl (hb hby at_282) rfl k_))) ?_
        show own_at p e below _ T293 m 284 #[oJ p0, oS, oI p1, oI p2, oI p3, oI p4, oJ uu, oS, oI dg, oI (0 : Int32), oI xb, oI ps, oI cc, oI ln, oR b255, oI (1 : Int32), oI qq, oR b289, oR o_293, oU, oU, oU, oU, oU, oU, oU, oU, oU, oU, oU, oU] [(.int dg), (.long uu)]
        obtain ⟨_, _, ⟨T294, L294, k294, n294⟩, -, X294, ⟨Lc294, hQ294, l294, y294, z294⟩, st294⟩ := Jvm.LawKit.callS X293 hx (y := own_n18) hown (mvT hZ (own_w hw 10 rfl)) (mvT hZ (own_w hw 11 rfl)) (mvT hZ (own_w hw 5 rfl)) (mvT hZ (own_w hw 12 rfl)) (by decide) (backOf (W := 2) (own_rm3 l Z a0 hw [] dg nD T293.heap n0 (Nat.le_trans Z0 K293.1) ⟨hD.1, (by omega)⟩) hZ (own_w hw 12 rfl) (own_w hw 5 rfl) (by decide) (by decide)) (g := (mkF m 284 #[oJ p0, oS, oI p1, oI p2, oI p3, oI p4, oJ uu, oS, oI dg, oI (0 : Int32), oI xb, oI ps, oI cc, oI ln, oR b255, oI (1 : Int32), oI qq, oR b289, oR o_293, oU, oU, oU, oU, oU, oU, oU, oU, oU, oU, oU, oU] [(.int dg), (.long uu)])) rfl (by rw [hml]; rfl) (argsL := [(.int dg)]) (rest := [(.long uu)]) (lenOf own_pd13 rfl) rfl (own_hW rfl) (hb hby at_284) (fun _ _ => ⟨rfl, rfl, (by decide : 18 + 1 ≤ _), (by decide : 194 + 12 ≤ _)⟩)
        dsimp only [Pt.U, Pt.locs, Pt.cells, Pt.slots] at X294 l294 y294 z294 st294 hQ294
        subst y294 z294
        obtain ⟨rfl, N294q, Kq294⟩ := hQ294
        have N294 : Fr n0 L294 := by rw [l294]; exact Fr.app N293 N294q
        have K294 : Keep h0 T294.heap [] := K293.trans Kq294 all0
        have c294 : CHr Z own_EL _ T293.heap _ T294.heap := CHr.keep Kq294 own_sl0 C293.1
        have C294 := C293.trans c294
        have kk294 := Nat.le_trans kk293 c294.2.1
        refine own_st (st294) ?_
        show own_at p e below _ T294 m 287 #[oJ p0, oS, oI p1, oI p2, oI p3, oI p4, oJ uu, oS, oI dg, oI (0 : Int32), oI xb, oI ps, oI cc, oI ln, oR b255, oI (1 : Int32), oI qq, oR b289, oR o_293, oU, oU, oU, oU, oU, oU, oU, oU, oU, oU, oU, oU] [(.long (own_p10 nD)), (.long uu)]
        refine own_st (fun t_ k_ => own_lrem X294 hx rfl (hb hby at_287) rfl (own_p10z (by omega)) k_) ?_
        refine own_st (fun t_ k_ => XS.lstore X294.here hx rfl (hb hby at_288) rfl (l' := #[oJ p0, oS, oI p1, oI p2, oI p3, oI p4, oJ uu, oS, oI dg, oI (0 : Int32), oI xb, oI ps, oI cc, oI ln, oR b255, oI (1 : Int32), oI qq, oR b289, oR o_293, oJ (uu % (own_p10 nD)), oS, oU, oU, oU, oU, oU, oU, oU, oU, oU, oU]) rfl k_) ?_
        show own_at p e below _ T294 m 290 #[oJ p0, oS, oI p1, oI p2, oI p3, oI p4, oJ uu, oS, oI dg, oI (0 : Int32), oI xb, oI ps, oI cc, oI ln, oR b255, oI (1 : Int32), oI qq, oR b289, oR o_293, oJ (uu % (own_p10 nD)), oS, oU, oU, oU, oU, oU, oU, oU, oU, oU, oU] []
        have c3 : ¬ qq < (0 : Int32) := own_nn hqq.1
        have hqs : 0 ≤ qx9 := by have z_ := mt (own_ltp hqq.1 (by decide : (0 : Int32).toInt = ((0 : Nat) : Int))).mpr c3; omega
        have hat : cs qx9 = cc := by rw [e_cs]; unfold own_upd; rw [if_pos rfl]
        by_cases c1 : cc < (48 : Int32)
        · skip
          have hnd := own_isd1 c1
          by_cases c4 : cc = (45 : Int32)
          · skip
            by_cases c5 : qq = (0 : Int32)
            · skip
              have hq0 : qx9 = 0 := by have z_ := hqq.1; rw [c5] at z_; have y_ : (0 : Int32).toInt = 0 := (by decide); omega
              have hrest : ∀ q : Nat, 1 ≤ q → q < 0 + nD → (cs q).toInt = 48 + ((U / 10 ^ (0 + nD - 1 - q) % 10 : Nat) : Int) := fun q h1_ h2_ => by rw [e_cs, hq0]; unfold own_upd; rw [if_neg (by omega)]; exact hd0 q (by omega) h2_
              have hk := own_kD (n := nD) (cs := cs) (U := U) (by omega) (by rw [← hq0, hat]; exact own_45.mp c4) hrest
              have hiff := own_gA (mn := p3) (mx := p4) hk
              have hiff : own_good cs (0 + nD) p3 p4 ↔ (1 ≤ nD - 1 ∧ nD - 1 ≤ 10) ∧ p3.toInt ≤ (-((U % 10 ^ (nD - 1) : Nat) : Int)) ∧ (-((U % 10 ^ (nD - 1) : Nat) : Int)) ≤ p4.toInt := hiff
              have hpvE : own_pv cs (own_swn cs (0 + nD)) (0 + nD) = (-((U % 10 ^ (nD - 1) : Nat) : Int)) := own_pvE hk
              refine own_st (fun t_ k_ => XS.iload X294.here hx rfl (hb hby at_290) rfl (XS.bipush X294.here hx rfl (hb hby at_292) (XS.icmpYes X294.here hx rfl (pc0 := 294) (pc' := 308) rfl (hb hby at_294) rfl (tlt c1).1 (by decide) (by decide) (XS.iconst X294.here hx rfl (hb hby at_308) (XS.istore X294.here hx rfl (hb hby at_309) rfl (l' := #[oJ p0, oS, oI p1, oI p2, oI p3, oI p4, oJ uu, oS, oI dg, oI (0 : Int32), oI xb, oI ps, oI cc, oI ln, oR b255, oI (1 : Int32), oI qq, oR b289, oR o_293, oJ (uu % (own_p10 nD)), oS, oI (0 : Int32), oU, oU, oU, oU, oU, oU, oU, oU, oU]) rfl (XS.iload X294.here hx rfl (hb hby at_311) rfl k_)))))) ?_
              show own_at p e below _ T294 m 313 #[oJ p0, oS, oI p1, oI p2, oI p3, oI p4, oJ uu, oS, oI dg, oI (0 : Int32), oI xb, oI ps, oI cc, oI ln, oR b255, oI (1 : Int32), oI qq, oR b289, oR o_293, oJ (uu % (own_p10 nD)), oS, oI (0 : Int32), oU, oU, oU, oU, oU, oU, oU, oU, oU] [(.int cc)]
              refine own_st (fun t_ k_ => XS.bipush X294.here hx rfl (hb hby at_313) (XS.isub X294.here hx rfl (hb hby at_315) rfl (XS.istore X294.here hx rfl (hb hby at_316) rfl (l' := #[oJ p0, oS, oI p1, oI p2, oI p3, oI p4, oJ uu, oS, oI dg, oI (0 : Int32), oI xb, oI ps, oI cc, oI ln, oR b255, oI (1 : Int32), oI qq, oR b289, oR o_293, oJ (uu % (own_p10 nD)), oS, oI (0 : Int32), oI (cc - (48 : Int32)), oU, oU, oU, oU, oU, oU, oU, oU]) rfl (XS.iload X294.here hx rfl (hb hby at_318) rfl (XS.ifNo X294.here hx rfl (hb hby at_320) rfl ((if0 _ _).trans (feq (by decide : ¬ ((1 : Int32) = (0 : Int32)))).1) (XS.iload X294.here hx rfl (hb hby at_323) rfl k_)))))) ?_
              show own_at p e below _ T294 m 325 #[oJ p0, oS, oI p1, oI p2, oI p3, oI p4, oJ uu, oS, oI dg, oI (0 : Int32), oI xb, oI ps, oI cc, oI ln, oR b255, oI (1 : Int32), oI qq, oR b289, oR o_293, oJ (uu % (own_p10 nD)), oS, oI (0 : Int32), oI (cc - (48 : Int32)), oU, oU, oU, oU, oU, oU, oU, oU] [(.int qq)]
              refine own_st (fun t_ k_ => XS.iload X294.here hx rfl (hb hby at_325) rfl (XS.icmpYes X294.here hx rfl (pc0 := 327) (pc' := 376) rfl (hb hby at_327) rfl (flt c3).2.1 (by decide) (by decide) (XS.iload X294.here hx rfl (hb hby at_376) rfl (XS.iload X294.here hx rfl (hb hby at_378) rfl (XS.icmpYes X294.here hx rfl (pc0 := 380) (pc' := 421) rfl (hb hby at_380) rfl (flt c3).2.1 (by decide) (by decide) (XS.iload X294.here hx rfl (hb hby at_421) rfl k_)))))) ?_
              show own_at p e below _ T294 m 423 #[oJ p0, oS, oI p1, oI p2, oI p3, oI p4, oJ uu, oS, oI dg, oI (0 : Int32), oI xb, oI ps, oI cc, oI ln, oR b255, oI (1 : Int32), oI qq, oR b289, oR o_293, oJ (uu % (own_p10 nD)), oS, oI (0 : Int32), oI (cc - (48 : Int32)), oU, oU, oU, oU, oU, oU, oU, oU] [(.int (0 : Int32))]
              refine own_st (fun t_ k_ => XS.ifYes X294.here hx rfl (pc0 := 423) (pc' := 504) rfl (hb hby at_423) rfl ((if0 _ _).trans (teq (by decide : (0 : Int32) = (0 : Int32))).1) (by decide) (by decide) (XS.iload X294.here hx rfl (hb hby at_504) rfl (XS.bipush X294.here hx rfl (hb hby at_506) (XS.icmpNo X294.here hx rfl (hb hby at_508) rfl (teq c4).2 (XS.iload X294.here hx rfl (hb hby at_511) rfl (XS.ifNo X294.here hx rfl (hb hby at_513) rfl ((if0 _ _).trans (teq c5).2) k_)))))) ?_
              show own_at p e below _ T294 m 516 #[oJ p0, oS, oI p1, oI p2, oI p3, oI p4, oJ uu, oS, oI dg, oI (0 : Int32), oI xb, oI ps, oI cc, oI ln, oR b255, oI (1 : Int32), oI qq, oR b289, oR o_293, oJ (uu % (own_p10 nD)), oS, oI (0 : Int32), oI (cc - (48 : Int32)), oU, oU, oU, oU, oU, oU, oU, oU] []
              refine own_st (fun t_ k_ => XS.iload X294.here hx rfl (hb hby at_516) rfl (XS.iconst X294.here hx rfl (hb hby at_518) (XS.isub X294.here hx rfl (hb hby at_519) rfl (XS.iconst X294.here hx rfl (hb hby at_520) k_)))) ?_
              show own_at p e below _ T294 m 521 #[oJ p0, oS, oI p1, oI p2, oI p3, oI p4, oJ uu, oS, oI dg, oI (0 : Int32), oI xb, oI ps, oI cc, oI ln, oR b255, oI (1 : Int32), oI qq, oR b289, oR o_293, oJ (uu % (own_p10 nD)), oS, oI (0 : Int32), oI (cc - (48 : Int32)), oU, oU, oU, oU, oU, oU, oU, oU] [(.int (1 : Int32)), (.int (dg - (1 : Int32)))]
              by_cases c521_295 : (dg - (1 : Int32)) < (1 : Int32)
              · skip
                have rlo_521 := (own_ltp (own_csub hD.1 (by decide : (1 : Int32).toInt = ((1 : Nat) : Int)) (by omega) (by omega)) (by decide : (1 : Int32).toInt = ((1 : Nat) : Int))).mp c521_295
                refine own_st (fun t_ k_ => XS.icmpYes X294.here hx rfl (pc0 := 521) (pc' := 537) rfl (hb hby at_521) rfl (tlt c521_295).1 (by decide) (by decide) (XS.iconst X294.here hx rfl (hb hby at_537) (XS.istore X294.here hx rfl (hb hby at_538) rfl (l' := #[oJ p0, oS, oI p1, oI p2, oI p3, oI p4, oJ uu, oS, oI dg, oI (0 : Int32), oI xb, oI ps, oI cc, oI ln, oR b255, oI (1 : Int32), oI qq, oR b289, oR o_293, oJ (uu % (own_p10 nD)), oS, oI (0 : Int32), oI (cc - (48 : Int32)), oI (0 : Int32), oU, oU, oU, oU, oU, oU, oU]) rfl (XS.lload X294.here hx rfl (hb hby at_540) rfl (XS.iload X294.here hx rfl (hb hby at_542) rfl (XS.iconst X294.here hx rfl (hb hby at_544) k_)))))) ?_
                show own_at p e below _ T294 m 545 #[oJ p0, oS, oI p1, oI p2, oI p3, oI p4, oJ uu, oS, oI dg, oI (0 : Int32), oI xb, oI ps, oI cc, oI ln, oR b255, oI (1 : Int32), oI qq, oR b289, oR o_293, oJ (uu % (own_p10 nD)), oS, oI (0 : Int32), oI (cc - (48 : Int32)), oI (0 : Int32), oU, oU, oU, oU, oU, oU, oU] [(.int (1 : Int32)), (.int dg), (.long uu)]
                refine own_st (fun t_ k_ => XS.isub X294.here hx rfl (hb hby at_545) rfl k_) ?_
                show own_at p e below _ T294 m 546 #[oJ p0, oS, oI p1, oI p2, oI p3, oI p4, oJ uu, oS, oI dg, oI (0 : Int32), oI xb, oI ps, oI cc, oI ln, oR b255, oI (1 : Int32), oI qq, oR b289, oR o_293, oJ (uu % (own_p10 nD)), oS, oI (0 : Int32), oI (cc - (48 : Int32)), oI (0 : Int32), oU, oU, oU, oU, oU, oU, oU] [(.int (dg - (1 : Int32))), (.long uu)]
                obtain ⟨_, _, ⟨T296, L296, k296, n296⟩, -, X296, ⟨Lc296, hQ296, l296, y296, z296⟩, st296⟩ := Jvm.LawKit.callS X294 hx (y := own_n18) hown (mvT hZ (own_w hw 10 rfl)) (mvT hZ (own_w hw 11 rfl)) (mvT hZ (own_w hw 5 rfl)) (mvT hZ (own_w hw 12 rfl)) (by decide) (backOf (W := 2) (own_rm3 l Z a0 hw [] (dg - (1 : Int32)) (nD - 1) T294.heap n0 (Nat.le_trans Z0 K294.1) ⟨(own_csub hD.1 (by decide : (1 : Int32).toInt = ((1 : Nat) : Int)) (by omega) (by omega)), (by omega)⟩) hZ (own_w hw 12 rfl) (own_w hw 5 rfl) (by decide) (by decide)) (g := (mkF m 546 #[oJ p0, oS, oI p1, oI p2, oI p3, oI p4, oJ uu, oS, oI dg, oI (0 : Int32), oI xb, oI ps, oI cc, oI ln, oR b255, oI (1 : Int32), oI qq, oR b289, oR o_293, oJ (uu % (own_p10 nD)), oS, oI (0 : Int32), oI (cc - (48 : Int32)), oI (0 : Int32), oU, oU, oU, oU, oU, oU, oU] [(.int (dg - (1 : Int32))), (.long uu)])) rfl (by rw [hml]; rfl) (argsL := [(.int (dg - (1 : Int32)))]) (rest := [(.long uu)]) (lenOf own_pd13 rfl) rfl (own_hW rfl) (hb hby at_546) (fun _ _ => ⟨rfl, rfl, (by decide : 19 + 1 ≤ _), (by decide : 206 + 12 ≤ _)⟩)
                dsimp only [Pt.U, Pt.locs, Pt.cells, Pt.slots] at X296 l296 y296 z296 st296 hQ296
                subst y296 z296
                obtain ⟨rfl, N296q, Kq296⟩ := hQ296
                have N296 : Fr n0 L296 := by rw [l296]; exact Fr.app N294 N296q
                have K296 : Keep h0 T296.heap [] := K294.trans Kq296 all0
                have c296 : CHr Z own_EL _ T294.heap _ T296.heap := CHr.keep Kq296 own_sl0 C294.1
                have C296 := C294.trans c296
                have kk296 := Nat.le_trans kk294 c296.2.1
                refine own_st (st296) ?_
                show own_at p e below _ T296 m 549 #[oJ p0, oS, oI p1, oI p2, oI p3, oI p4, oJ uu, oS, oI dg, oI (0 : Int32), oI xb, oI ps, oI cc, oI ln, oR b255, oI (1 : Int32), oI qq, oR b289, oR o_293, oJ (uu % (own_p10 nD)), oS, oI (0 : Int32), oI (cc - (48 : Int32)), oI (0 : Int32), oU, oU, oU, oU, oU, oU, oU] [(.long (own_p10 (nD - 1))), (.long uu)]
                refine own_st (fun t_ k_ => own_lrem X296 hx rfl (hb hby at_549) rfl (own_p10z (by omega)) k_) ?_
                refine own_st (fun t_ k_ => XS.lneg X296.here hx rfl (hb hby at_550) rfl k_) ?_
                show own_at p e below _ T296 m 551 #[oJ p0, oS, oI p1, oI p2, oI p3, oI p4, oJ uu, oS, oI dg, oI (0 : Int32), oI xb, oI ps, oI cc, oI ln, oR b255, oI (1 : Int32), oI qq, oR b289, oR o_293, oJ (uu % (own_p10 nD)), oS, oI (0 : Int32), oI (cc - (48 : Int32)), oI (0 : Int32), oU, oU, oU, oU, oU, oU, oU] [(.long (-(uu % (own_p10 (nD - 1)))))]
                obtain ⟨vl, e_vl⟩ : ∃ z, z = (-(uu % (own_p10 (nD - 1)))) := ⟨_, rfl⟩
                rw [show (-(uu % (own_p10 (nD - 1)))) = vl from e_vl.symm]
                have hvl : vl.toInt = (-((U % 10 ^ (nD - 1) : Nat) : Int)) := (by rw [e_vl]; have z_ := own_low hU (by omega : nD - 1 < 12); exact own_lneg z_.1 (by omega) (by omega))
                refine own_st (fun t_ k_ => XS.lstore X296.here hx rfl (hb hby at_551) rfl (l' := #[oJ p0, oS, oI p1, oI p2, oI p3, oI p4, oJ uu, oS, oI dg, oI (0 : Int32), oI xb, oI ps, oI cc, oI ln, oR b255, oI (1 : Int32), oI qq, oR b289, oR o_293, oJ (uu % (own_p10 nD)), oS, oI (0 : Int32), oI (cc - (48 : Int32)), oI (0 : Int32), oJ vl, oS, oU, oU, oU, oU, oU]) rfl (XS.goto X296.here hx rfl (pc0 := 553) (pc' := 562) rfl (hb hby at_553) (by decide) (by decide) k_)) ?_
                show own_at p e below _ T296 m 562 #[oJ p0, oS, oI p1, oI p2, oI p3, oI p4, oJ uu, oS, oI dg, oI (0 : Int32), oI xb, oI ps, oI cc, oI ln, oR b255, oI (1 : Int32), oI qq, oR b289, oR o_293, oJ (uu % (own_p10 nD)), oS, oI (0 : Int32), oI (cc - (48 : Int32)), oI (0 : Int32), oJ vl, oS, oU, oU, oU, oU, oU] []
                have hgd : ¬ own_good cs (0 + nD) p3 p4 := fun z_ => by have y_ := (hiff.mp z_).1; omega
                exact j562 _ _ _ _ _ _ _ _ _ _ _ _ _ _ _ _ _ _ _ _ _ _ _ _ _ _ _ _ _ _ _ _ _ _ _ _ _ _ _ hZ hown S293 X296 rfl N296 K296 C296 kk296 (by decide) (by decide) (((((f291.keep Kq292 (allS ge289 all0)).keep Kq293 all0).keep Kq294 all0).keep Kq296 all0)) (((P293_0.keep Kq294).keep Kq296)) (((P293_1.keep Kq294 nin0).keep Kq296 nin0)) (((P293_2.keep Kq294 nin0).keep Kq296 nin0)) One.u (Or.inl rfl) ⟨fun z_ => absurd z_ hgd, fun z_ => absurd z_.1 (by decide)⟩ (fun z_ => absurd z_ hgd) P293_3
              have rlo_521 := mt (own_ltp (own_csub hD.1 (by decide : (1 : Int32).toInt = ((1 : Nat) : Int)) (by omega) (by omega)) (by decide : (1 : Int32).toInt = ((1 : Nat) : Int))).mpr c521_295
              refine own_st (fun t_ k_ => XS.icmpNo X294.here hx rfl (hb hby at_521) rfl (flt c521_295).1 (XS.iload X294.here hx rfl (hb hby at_524) rfl (XS.iconst X294.here hx rfl (hb hby at_526) (XS.isub X294.here hx rfl (hb hby at_527) rfl (XS.bipush X294.here hx rfl (hb hby at_528) k_))))) ?_
              show own_at p e below _ T294 m 530 #[oJ p0, oS, oI p1, oI p2, oI p3, oI p4, oJ uu, oS, oI dg, oI (0 : Int32), oI xb, oI ps, oI cc, oI ln, oR b255, oI (1 : Int32), oI qq, oR b289, oR o_293, oJ (uu % (own_p10 nD)), oS, oI (0 : Int32), oI (cc - (48 : Int32)), oU, oU, oU, oU, oU, oU, oU, oU] [(.int (10 : Int32)), (.int (dg - (1 : Int32)))]
              by_cases c530_297 : (10 : Int32) < (dg - (1 : Int32))
              · skip
                have rhi_530 := (own_ltp (by decide : (10 : Int32).toInt = ((10 : Nat) : Int)) (own_csub hD.1 (by decide : (1 : Int32).toInt = ((1 : Nat) : Int)) (by omega) (by omega))).mp c530_297
                refine own_st (fun t_ k_ => XS.icmpYes X294.here hx rfl (pc0 := 530) (pc' := 537) rfl (hb hby at_530) rfl (tlt c530_297).2.2.1 (by decide) (by decide) (XS.iconst X294.here hx rfl (hb hby at_537) (XS.istore X294.here hx rfl (hb hby at_538) rfl (l' := #[oJ p0, oS, oI p1, oI p2, oI p3, oI p4, oJ uu, oS, oI dg, oI (0 : Int32), oI xb, oI ps, oI cc, oI ln, oR b255, oI (1 : Int32), oI qq, oR b289, oR o_293, oJ (uu % (own_p10 nD)), oS, oI (0 : Int32), oI (cc - (48 : Int32)), oI (0 : Int32), oU, oU, oU, oU, oU, oU, oU]) rfl (XS.lload X294.here hx rfl (hb hby at_540) rfl (XS.iload X294.here hx rfl (hb hby at_542) rfl (XS.iconst X294.here hx rfl (hb hby at_544) k_)))))) ?_
                show own_at p e below _ T294 m 545 #[oJ p0, oS, oI p1, oI p2, oI p3, oI p4, oJ uu, oS, oI dg, oI (0 : Int32), oI xb, oI ps, oI cc, oI ln, oR b255, oI (1 : Int32), oI qq, oR b289, oR o_293, oJ (uu % (own_p10 nD)), oS, oI (0 : Int32), oI (cc - (48 : Int32)), oI (0 : Int32), oU, oU, oU, oU, oU, oU, oU] [(.int (1 : Int32)), (.int dg), (.long uu)]
                refine own_st (fun t_ k_ => XS.isub X294.here hx rfl (hb hby at_545) rfl k_) ?_
                show own_at p e below _ T294 m 546 #[oJ p0, oS, oI p1, oI p2, oI p3, oI p4, oJ uu, oS, oI dg, oI (0 : Int32), oI xb, oI ps, oI cc, oI ln, oR b255, oI (1 : Int32), oI qq, oR b289, oR o_293, oJ (uu % (own_p10 nD)), oS, oI (0 : Int32), oI (cc - (48 : Int32)), oI (0 : Int32), oU, oU, oU, oU, oU, oU, oU] [(.int (dg - (1 : Int32))), (.long uu)]
                obtain ⟨_, _, ⟨T298, L298, k298, n298⟩, -, X298, ⟨Lc298, hQ298, l298, y298, z298⟩, st298⟩ := Jvm.LawKit.callS X294 hx (y := own_n18) hown (mvT hZ (own_w hw 10 rfl)) (mvT hZ (own_w hw 11 rfl)) (mvT hZ (own_w hw 5 rfl)) (mvT hZ (own_w hw 12 rfl)) (by decide) (backOf (W := 2) (own_rm3 l Z a0 hw [] (dg - (1 : Int32)) (nD - 1) T294.heap n0 (Nat.le_trans Z0 K294.1) ⟨(own_csub hD.1 (by decide : (1 : Int32).toInt = ((1 : Nat) : Int)) (by omega) (by omega)), (by omega)⟩) hZ (own_w hw 12 rfl) (own_w hw 5 rfl) (by decide) (by decide)) (g := (mkF m 546 #[oJ p0, oS, oI p1, oI p2, oI p3, oI p4, oJ uu, oS, oI dg, oI (0 : Int32), oI xb, oI ps, oI cc, oI ln, oR b255, oI (1 : Int32), oI qq, oR b289, oR o_293, oJ (uu % (own_p10 nD)), oS, oI (0 : Int32), oI (cc - (48 : Int32)), oI (0 : Int32), oU, oU, oU, oU, oU, oU, oU] [(.int (dg - (1 : Int32))), (.long uu)])) rfl (by rw [hml]; rfl) (argsL := [(.int (dg - (1 : Int32)))]) (rest := [(.long uu)]) (lenOf own_pd13 rfl) rfl (own_hW rfl) (hb hby at_546) (fun _ _ => ⟨rfl, rfl, (by decide : 19 + 1 ≤ _), (by decide : 206 + 12 ≤ _)⟩)
                dsimp only [Pt.U, Pt.locs, Pt.cells, Pt.slots] at X298 l298 y298 z298 st298 hQ298
                subst y298 z298
                obtain ⟨rfl, N298q, Kq298⟩ := hQ298
                have N298 : Fr n0 L298 := by rw [l298]; exact Fr.app N294 N298q
                have K298 : Keep h0 T298.heap [] := K294.trans Kq298 all0
                have c298 : CHr Z own_EL _ T294.heap _ T298.heap := CHr.keep Kq298 own_sl0 C294.1
                have C298 := C294.trans c298
                have kk298 := Nat.le_trans kk294 c298.2.1
                refine own_st (st298) ?_
                show own_at p e below _ T298 m 549 #[oJ p0, oS, oI p1, oI p2, oI p3, oI p4, oJ uu, oS, oI dg, oI (0 : Int32), oI xb, oI ps, oI cc, oI ln, oR b255, oI (1 : Int32), oI qq, oR b289, oR o_293, oJ (uu % (own_p10 nD)), oS, oI (0 : Int32), oI (cc - (48 : Int32)), oI (0 : Int32), oU, oU, oU, oU, oU, oU, oU] [(.long (own_p10 (nD - 1))), (.long uu)]
                refine own_st (fun t_ k_ => own_lrem X298 hx rfl (hb hby at_549) rfl (own_p10z (by omega)) k_) ?_
                refine own_st (fun t_ k_ => XS.lneg X298.here hx rfl (hb hby at_550) rfl k_) ?_
                show own_at p e below _ T298 m 551 #[oJ p0, oS, oI p1, oI p2, oI p3, oI p4, oJ uu, oS, oI dg, oI (0 : Int32), oI xb, oI ps, oI cc, oI ln, oR b255, oI (1 : Int32), oI qq, oR b289, oR o_293, oJ (uu % (own_p10 nD)), oS, oI (0 : Int32), oI (cc - (48 : Int32)), oI (0 : Int32), oU, oU, oU, oU, oU, oU, oU] [(.long (-(uu % (own_p10 (nD - 1)))))]
                obtain ⟨vl, e_vl⟩ : ∃ z, z = (-(uu % (own_p10 (nD - 1)))) := ⟨_, rfl⟩
                rw [show (-(uu % (own_p10 (nD - 1)))) = vl from e_vl.symm]
                have hvl : vl.toInt = (-((U % 10 ^ (nD - 1) : Nat) : Int)) := (by rw [e_vl]; have z_ := own_low hU (by omega : nD - 1 < 12); exact own_lneg z_.1 (by omega) (by omega))
                refine own_st (fun t_ k_ => XS.lstore X298.here hx rfl (hb hby at_551) rfl (l' := #[oJ p0, oS, oI p1, oI p2, oI p3, oI p4, oJ uu, oS, oI dg, oI (0 : Int32), oI xb, oI ps, oI cc, oI ln, oR b255, oI (1 : Int32), oI qq, oR b289, oR o_293, oJ (uu % (own_p10 nD)), oS, oI (0 : Int32), oI (cc - (48 : Int32)), oI (0 : Int32), oJ vl, oS, oU, oU, oU, oU, oU]) rfl (XS.goto X298.here hx rfl (pc0 := 553) (pc' := 562) rfl (hb hby at_553) (by decide) (by decide) k_)) ?_
                show own_at p e below _ T298 m 562 #[oJ p0, oS, oI p1, oI p2, oI p3, oI p4, oJ uu, oS, oI dg, oI (0 : Int32), oI xb, oI ps, oI cc, oI ln, oR b255, oI (1 : Int32), oI qq, oR b289, oR o_293, oJ (uu % (own_p10 nD)), oS, oI (0 : Int32), oI (cc - (48 : Int32)), oI (0 : Int32), oJ vl, oS, oU, oU, oU, oU, oU] []
                have hgd : ¬ own_good cs (0 + nD) p3 p4 := fun z_ => by have y_ := (hiff.mp z_).1; omega
                exact j562 _ _ _ _ _ _ _ _ _ _ _ _ _ _ _ _ _ _ _ _ _ _ _ _ _ _ _ _ _ _ _ _ _ _ _ _ _ _ _ hZ hown S293 X298 rfl N298 K298 C298 kk298 (by decide) (by decide) (((((f291.keep Kq292 (allS ge289 all0)).keep Kq293 all0).keep Kq294 all0).keep Kq298 all0)) (((P293_0.keep Kq294).keep Kq298)) (((P293_1.keep Kq294 nin0).keep Kq298 nin0)) (((P293_2.keep Kq294 nin0).keep Kq298 nin0)) One.u (Or.inl rfl) ⟨fun z_ => absurd z_ hgd, fun z_ => absurd z_.1 (by decide)⟩ (fun z_ => absurd z_ hgd) P293_3
              have rhi_530 := mt (own_ltp (by decide : (10 : Int32).toInt = ((10 : Nat) : Int)) (own_csub hD.1 (by decide : (1 : Int32).toInt = ((1 : Nat) : Int)) (by omega) (by omega))).mpr c530_297
              refine own_st (fun t_ k_ => XS.icmpNo X294.here hx rfl (hb hby at_530) rfl (flt c530_297).2.2.1 (XS.iconst X294.here hx rfl (hb hby at_533) (XS.goto X294.here hx rfl (pc0 := 534) (pc' := 538) rfl (hb hby at_534) (by decide) (by decide) (XS.istore X294.here hx rfl (hb hby at_538) rfl (l' := #[oJ p0, oS, oI p1, oI p2, oI p3, oI p4, oJ uu, oS, oI dg, oI (0 : Int32), oI xb, oI ps, oI cc, oI ln, oR b255, oI (1 : Int32), oI qq, oR b289, oR o_293, oJ (uu % (own_p10 nD)), oS, oI (0 : Int32), oI (cc - (48 : Int32)), oI (1 : Int32), oU, oU, oU, oU, oU, oU, oU]) rfl (XS.lload X294.here hx rfl (hb hby at_540) rfl (XS.iload X294.here hx rfl (hb hby at_542) rfl k_)))))) ?_
              show own_at p e below _ T294 m 544 #[oJ p0, oS, oI p1, oI p2, oI p3, oI p4, oJ uu, oS, oI dg, oI (0 : Int32), oI xb, oI ps, oI cc, oI ln, oR b255, oI (1 : Int32), oI qq, oR b289, oR o_293, oJ (uu % (own_p10 nD)), oS, oI (0 : Int32), oI (cc - (48 : Int32)), oI (1 : Int32), oU, oU, oU, oU, oU, oU, oU] [(.int dg), (.long uu)]
              refine own_st (fun t_ k_ => XS.iconst X294.here hx rfl (hb hby at_544) (XS.isub X294.here hx rfl (hb hby at_545) rfl k_)) ?_
              show own_at p e below _ T294 m 546 #[oJ p0, oS, oI p1, oI p2, oI p3, oI p4, oJ uu, oS, oI dg, oI (0 : Int32), oI xb, oI ps, oI cc, oI ln, oR b255, oI (1 : Int32), oI qq, oR b289, oR o_293, oJ (uu % (own_p10 nD)), oS, oI (0 : Int32), oI (cc - (48 : Int32)), oI (1 : Int32), oU, oU, oU, oU, oU, oU, oU] [(.int (dg - (1 : Int32))), (.long uu)]
              obtain ⟨_, _, ⟨T299, L299, k299, n299⟩, -, X299, ⟨Lc299, hQ299, l299, y299, z299⟩, st299⟩ := Jvm.LawKit.callS X294 hx (y := own_n18) hown (mvT hZ (own_w hw 10 rfl)) (mvT hZ (own_w hw 11 rfl)) (mvT hZ (own_w hw 5 rfl)) (mvT hZ (own_w hw 12 rfl)) (by decide) (backOf (W := 2) (own_rm3 l Z a0 hw [] (dg - (1 : Int32)) (nD - 1) T294.heap n0 (Nat.le_trans Z0 K294.1) ⟨(own_csub hD.1 (by decide : (1 : Int32).toInt = ((1 : Nat) : Int)) (by omega) (by omega)), (by omega)⟩) hZ (own_w hw 12 rfl) (own_w hw 5 rfl) (by decide) (by decide)) (g := (mkF m 546 #[oJ p0, oS, oI p1, oI p2, oI p3, oI p4, oJ uu, oS, oI dg, oI (0 : Int32), oI xb, oI ps, oI cc, oI ln, oR b255, oI (1 : Int32), oI qq, oR b289, oR o_293, oJ (uu % (own_p10 nD)), oS, oI (0 : Int32), oI (cc - (48 : Int32)), oI (1 : Int32), oU, oU, oU, oU, oU, oU, oU] [(.int (dg - (1 : Int32))), (.long uu)])) rfl (by rw [hml]; rfl) (argsL := [(.int (dg - (1 : Int32)))]) (rest := [(.long uu)]) (lenOf own_pd13 rfl) rfl (own_hW rfl) (hb hby at_546) (fun _ _ => ⟨rfl, rfl, (by decide : 19 + 1 ≤ _), (by decide : 206 + 12 ≤ _)⟩)
              dsimp only [Pt.U, Pt.locs, Pt.cells, Pt.slots] at X299 l299 y299 z299 st299 hQ299
              subst y299 z299
              obtain ⟨rfl, N299q, Kq299⟩ := hQ299
              have N299 : Fr n0 L299 := by rw [l299]; exact Fr.app N294 N299q
              have K299 : Keep h0 T299.heap [] := K294.trans Kq299 all0
              have c299 : CHr Z own_EL _ T294.heap _ T299.heap := CHr.keep Kq299 own_sl0 C294.1
              have C299 := C294.trans c299
              have kk299 := Nat.le_trans kk294 c299.2.1
              refine own_st (st299) ?_
              show own_at p e below _ T299 m 549 #[oJ p0, oS, oI p1, oI p2, oI p3, oI p4, oJ uu, oS, oI dg, oI (0 : Int32), oI xb, oI ps, oI cc, oI ln, oR b255, oI (1 : Int32), oI qq, oR b289, oR o_293, oJ (uu % (own_p10 nD)), oS, oI (0 : Int32), oI (cc - (48 : Int32)), oI (1 : Int32), oU, oU, oU, oU, oU, oU, oU] [(.long (own_p10 (nD - 1))), (.long uu)]
              refine own_st (fun t_ k_ => own_lrem X299 hx rfl (hb hby at_549) rfl (own_p10z (by omega)) k_) ?_
              refine own_st (fun t_ k_ => XS.lneg X299.here hx rfl (hb hby at_550) rfl k_) ?_
              show own_at p e below _ T299 m 551 #[oJ p0, oS, oI p1, oI p2, oI p3, oI p4, oJ uu, oS, oI dg, oI (0 : Int32), oI xb, oI ps, oI cc, oI ln, oR b255, oI (1 : Int32), oI qq, oR b289, oR o_293, oJ (uu % (own_p10 nD)), oS, oI (0 : Int32), oI (cc - (48 : Int32)), oI (1 : Int32), oU, oU, oU, oU, oU, oU, oU] [(.long (-(uu % (own_p10 (nD - 1)))))]
              obtain ⟨vl, e_vl⟩ : ∃ z, z = (-(uu % (own_p10 (nD - 1)))) := ⟨_, rfl⟩
              rw [show (-(uu % (own_p10 (nD - 1)))) = vl from e_vl.symm]
              have hvl : vl.toInt = (-((U % 10 ^ (nD - 1) : Nat) : Int)) := (by rw [e_vl]; have z_ := own_low hU (by omega : nD - 1 < 12); exact own_lneg z_.1 (by omega) (by omega))
              refine own_st (fun t_ k_ => XS.lstore X299.here hx rfl (hb hby at_551) rfl (l' := #[oJ p0, oS, oI p1, oI p2, oI p3, oI p4, oJ uu, oS, oI dg, oI (0 : Int32), oI xb, oI ps, oI cc, oI ln, oR b255, oI (1 : Int32), oI qq, oR b289, oR o_293, oJ (uu % (own_p10 nD)), oS, oI (0 : Int32), oI (cc - (48 : Int32)), oI (1 : Int32), oJ vl, oS, oU, oU, oU, oU, oU]) rfl (XS.goto X299.here hx rfl (pc0 := 553) (pc' := 562) rfl (hb hby at_553) (by decide) (by decide) k_)) ?_
              show own_at p e below _ T299 m 562 #[oJ p0, oS, oI p1, oI p2, oI p3, oI p4, oJ uu, oS, oI dg, oI (0 : Int32), oI xb, oI ps, oI cc, oI ln, oR b255, oI (1 : Int32), oI qq, oR b289, oR o_293, oJ (uu % (own_p10 nD)), oS, oI (0 : Int32), oI (cc - (48 : Int32)), oI (1 : Int32), oJ vl, oS, oU, oU, oU, oU, oU] []
              exact j562 _ _ _ _ _ _ _ _ _ _ _ _ _ _ _ _ _ _ _ _ _ _ _ _ _ _ _ _ _ _ _ _ _ _ _ _ _ _ _ hZ hown S293 X299 rfl N299 K299 C299 kk299 (by decide) (by decide) (((((f291.keep Kq292 (allS ge289 all0)).keep Kq293 all0).keep Kq294 all0).keep Kq299 all0)) (((P293_0.keep Kq294).keep Kq299)) (((P293_1.keep Kq294 nin0).keep Kq299 nin0)) (((P293_2.keep Kq294 nin0).keep Kq299 nin0)) One.u (Or.inr rfl) (by rw [hiff, hvl]; exact ⟨fun z_ => ⟨rfl, z_.2⟩, fun z_ => ⟨(by omega), z_.2⟩⟩) (fun _ => by rw [hpvE, hvl]) P293_3
            · skip
              have hq1 : 1 ≤ qx9 := by rcases Nat.eq_zero_or_pos qx9 with y_ | y_; exact absurd (Int32.toInt_inj.mp (by rw [hqq.1, y_]; decide)) c5; exact y_
              have hgd : ¬ own_good cs (0 + nD) p3 p4 := own_kE hqq.2 (by rw [hat]; exact hnd) (Or.inl hq1) p3 p4
              refine own_st (fun t_ k_ => XS.iload X294.here hx rfl (hb hby at_290) rfl (XS.bipush X294.here hx rfl (hb hby at_292) (XS.icmpYes X294.here hx rfl (pc0 := 294) (pc' := 308) rfl (hb hby at_294) rfl (tlt c1).1 (by decide) (by decide) (XS.iconst X294.here hx rfl (hb hby at_308) (XS.istore X294.here hx rfl (hb hby at_309) rfl (l' := #[oJ p0, oS, oI p1, oI p2, oI p3, oI p4, oJ uu, oS, oI dg, oI (0 : Int32), oI xb, oI ps, oI cc, oI ln, oR b255, oI (1 : Int32), oI qq, oR b289, oR o_293, oJ (uu % (own_p10 nD)), oS, oI (0 : Int32), oU, oU, oU, oU, oU, oU, oU, oU, oU]) rfl (XS.iload X294.here hx rfl (hb hby at_311) rfl k_)))))) ?_
              show own_at p e below _ T294 m 313 #[oJ p0, oS, oI p1, oI p2, oI p3, oI p4, oJ uu, oS, oI dg, oI (0 : Int32), oI xb, oI ps, oI cc, oI ln, oR b255, oI (1 : Int32), oI qq, oR b289, oR o_293, oJ (uu % (own_p10 nD)), oS, oI (0 : Int32), oU, oU, oU, oU, oU, oU, oU, oU, oU] [(.int cc)]
              refine own_st (fun t_ k_ => XS.bipush X294.here hx rfl (hb hby at_313) (XS.isub X294.here hx rfl (hb hby at_315) rfl (XS.istore X294.here hx rfl (hb hby at_316) rfl (l' := #[oJ p0, oS, oI p1, oI p2, oI p3, oI p4, oJ uu, oS, oI dg, oI (0 : Int32), oI xb, oI ps, oI cc, oI ln, oR b255, oI (1 : Int32), oI qq, oR b289, oR o_293, oJ (uu % (own_p10 nD)), oS, oI (0 : Int32), oI (cc - (48 : Int32)), oU, oU, oU, oU, oU, oU, oU, oU]) rfl (XS.iload X294.here hx rfl (hb hby at_318) rfl (XS.ifNo X294.here hx rfl (hb hby at_320) rfl ((if0 _ _).trans (feq (by decide : ¬ ((1 : Int32) = (0 : Int32)))).1) (XS.iload X294.here hx rfl (hb hby at_323) rfl k_)))))) ?_
              show own_at p e below _ T294 m 325 #[oJ p0, oS, oI p1, oI p2, oI p3, oI p4, oJ uu, oS, oI dg, oI (0 : Int32), oI xb, oI ps, oI cc, oI ln, oR b255, oI (1 : Int32), oI qq, oR b289, oR o_293, oJ (uu % (own_p10 nD)), oS, oI (0 : Int32), oI (cc - (48 : Int32)), oU, oU, oU, oU, oU, oU, oU, oU] [(.int qq)]
              refine own_st (fun t_ k_ => XS.iload X294.here hx rfl (hb hby at_325) rfl (XS.icmpYes X294.here hx rfl (pc0 := 327) (pc' := 376) rfl (hb hby at_327) rfl (flt c3).2.1 (by decide) (by decide) (XS.iload X294.here hx rfl (hb hby at_376) rfl (XS.iload X294.here hx rfl (hb hby at_378) rfl (XS.icmpYes X294.here hx rfl (pc0 := 380) (pc' := 421) rfl (hb hby at_380) rfl (flt c3).2.1 (by decide) (by decide) (XS.iload X294.here hx rfl (hb hby at_421) rfl k_)))))) ?_
              show own_at p e below _ T294 m 423 #[oJ p0, oS, oI p1, oI p2, oI p3, oI p4, oJ uu, oS, oI dg, oI (0 : Int32), oI xb, oI ps, oI cc, oI ln, oR b255, oI (1 : Int32), oI qq, oR b289, oR o_293, oJ (uu % (own_p10 nD)), oS, oI (0 : Int32), oI (cc - (48 : Int32)), oU, oU, oU, oU, oU, oU, oU, oU] [(.int (0 : Int32))]
              refine own_st (fun t_ k_ => XS.ifYes X294.here hx rfl (pc0 := 423) (pc' := 504) rfl (hb hby at_423) rfl ((if0 _ _).trans (teq (by decide : (0 : Int32) = (0 : Int32))).1) (by decide) (by decide) (XS.iload X294.here hx rfl (hb hby at_504) rfl (XS.bipush X294.here hx rfl (hb hby at_506) (XS.icmpNo X294.here hx rfl (hb hby at_508) rfl (teq c4).2 (XS.iload X294.here hx rfl (hb hby at_511) rfl (XS.ifYes X294.here hx rfl (pc0 := 513) (pc' := 556) rfl (hb hby at_513) rfl ((if0 _ _).trans (feq c5).2) (by decide) (by decide) k_)))))) ?_
              show own_at p e below _ T294 m 556 #[oJ p0, oS, oI p1, oI p2, oI p3, oI p4, oJ uu, oS, oI dg, oI (0 : Int32), oI xb, oI ps, oI cc, oI ln, oR b255, oI (1 : Int32), oI qq, oR b289, oR o_293, oJ (uu % (own_p10 nD)), oS, oI (0 : Int32), oI (cc - (48 : Int32)), oU, oU, oU, oU, oU, oU, oU, oU] []
              refine own_st (fun t_ k_ => XS.iconst X294.here hx rfl (hb hby at_556) (XS.istore X294.here hx rfl (hb hby at_557) rfl (l' := #[oJ p0, oS, oI p1, oI p2, oI p3, oI p4, oJ uu, oS, oI dg, oI (0 : Int32), oI xb, oI ps, oI cc, oI ln, oR b255, oI (1 : Int32), oI qq, oR b289, oR o_293, oJ (uu % (own_p10 nD)), oS, oI (0 : Int32), oI (cc - (48 : Int32)), oI (0 : Int32), oU, oU, oU, oU, oU, oU, oU]) rfl (XS.lconst X294.here hx rfl (hb hby at_559) (XS.lstore X294.here hx rfl (hb hby at_560) rfl (l' := #[oJ p0, oS, oI p1, oI p2, oI p3, oI p4, oJ uu, oS, oI dg, oI (0 : Int32), oI xb, oI ps, oI cc, oI ln, oR b255, oI (1 : Int32), oI qq, oR b289, oR o_293, oJ (uu % (own_p10 nD)), oS, oI (0 : Int32), oI (cc - (48 : Int32)), oI (0 : Int32), oJ (0 : Int64), oS, oU, oU, oU, oU, oU]) rfl k_)))) ?_
              show own_at p e below _ T294 m 562 #[oJ p0, oS, oI p1, oI p2, oI p3, oI p4, oJ uu, oS, oI dg, oI (0 : Int32), oI xb, oI ps, oI cc, oI ln, oR b255, oI (1 : Int32), oI qq, oR b289, oR o_293, oJ (uu % (own_p10 nD)), oS, oI (0 : Int32), oI (cc - (48 : Int32)), oI (0 : Int32), oJ (0 : Int64), oS, oU, oU, oU, oU, oU] []
              exact j562 _ _ _ _ _ _ _ _ _ _ _ _ _ _ _ _ _ _ _ _ _ _ _ _ _ _ _ _ _ _ _ _ _ _ _ _ _ _ _ hZ hown S293 X294 rfl N294 K294 C294 kk294 (by decide) (by decide) ((((f291.keep Kq292 (allS ge289 all0)).keep Kq293 all0).keep Kq294 all0)) ((P293_0.keep Kq294)) ((P293_1.keep Kq294 nin0)) ((P293_2.keep Kq294 nin0)) One.u (Or.inl rfl) ⟨fun z_ => absurd z_ hgd, fun z_ => absurd z_.1 (by decide)⟩ (fun z_ => absurd z_ hgd) P293_3
          · skip
            have hgd : ¬ own_good cs (0 + nD) p3 p4 := own_kE hqq.2 (by rw [hat]; exact hnd) (by rcases Nat.eq_zero_or_pos qx9 with y_ | y_; exact Or.inr (by rw [← y_, hat]; exact mt own_45.mpr c4); exact Or.inl y_) p3 p4
            refine own_st (fun t_ k_ => XS.iload X294.here hx rfl (hb hby at_290) rfl (XS.bipush X294.here hx rfl (hb hby at_292) (XS.icmpYes X294.here hx rfl (pc0 := 294) (pc' := 308) rfl (hb hby at_294) rfl (tlt c1).1 (by decide) (by decide) (XS.iconst X294.here hx rfl (hb hby at_308) (XS.istore X294.here hx rfl (hb hby at_309) rfl (l' := #[oJ p0, oS, oI p1, oI p2, oI p3, oI p4, oJ uu, oS, oI dg, oI (0 : Int32), oI xb, oI ps, oI cc, oI ln, oR b255, oI (1 : Int32), oI qq, oR b289, oR o_293, oJ (uu % (own_p10 nD)), oS, oI (0 : Int32), oU, oU, oU, oU, oU, oU, oU, oU, oU]) rfl (XS.iload X294.here hx rfl (hb hby at_311) rfl k_)))))) ?_
            show own_at p e below _ T294 m 313 #[oJ p0, oS, oI p1, oI p2, oI p3, oI p4, oJ uu, oS, oI dg, oI (0 : Int32), oI xb, oI ps, oI cc, oI ln, oR b255, oI (1 : Int32), oI qq, oR b289, oR o_293, oJ (uu % (own_p10 nD)), oS, oI (0 : Int32), oU, oU, oU, oU, oU, oU, oU, oU, oU] [(.int cc)]
            refine own_st (fun t_ k_ => XS.bipush X294.here hx rfl (hb hby at_313) (XS.isub X294.here hx rfl (hb hby at_315) rfl (XS.istore X294.here hx rfl (hb hby at_316) rfl (l' := #[oJ p0, oS, oI p1, oI p2, oI p3, oI p4, oJ uu, oS, oI dg, oI (0 : Int32), oI xb, oI ps, oI cc, oI ln, oR b255, oI (1 : Int32), oI qq, oR b289, oR o_293, oJ (uu % (own_p10 nD)), oS, oI (0 : Int32), oI (cc - (48 : Int32)), oU, oU, oU, oU, oU, oU, oU, oU]) rfl (XS.iload X294.here hx rfl (hb hby at_318) rfl (XS.ifNo X294.here hx rfl (hb hby at_320) rfl ((if0 _ _).trans (feq (by decide : ¬ ((1 : Int32) = (0 : Int32)))).1) (XS.iload X294.here hx rfl (hb hby at_323) rfl k_)))))) ?_
            show own_at p e below _ T294 m 325 #[oJ p0, oS, oI p1, oI p2, oI p3, oI p4, oJ uu, oS, oI dg, oI (0 : Int32), oI xb, oI ps, oI cc, oI ln, oR b255, oI (1 : Int32), oI qq, oR b289, oR o_293, oJ (uu % (own_p10 nD)), oS, oI (0 : Int32), oI (cc - (48 : Int32)), oU, oU, oU, oU, oU, oU, oU, oU] [(.int qq)]
            refine own_st (fun t_ k_ => XS.iload X294.here hx rfl (hb hby at_325) rfl (XS.icmpYes X294.here hx rfl (pc0 := 327) (pc' := 376) rfl (hb hby at_327) rfl (flt c3).2.1 (by decide) (by decide) (XS.iload X294.here hx rfl (hb hby at_376) rfl (XS.iload X294.here hx rfl (hb hby at_378) rfl (XS.icmpYes X294.here hx rfl (pc0 := 380) (pc' := 421) rfl (hb hby at_380) rfl (flt c3).2.1 (by decide) (by decide) (XS.iload X294.here hx rfl (hb hby at_421) rfl k_)))))) ?_
            show own_at p e below _ T294 m 423 #[oJ p0, oS, oI p1, oI p2, oI p3, oI p4, oJ uu, oS, oI dg, oI (0 : Int32), oI xb, oI ps, oI cc, oI ln, oR b255, oI (1 : Int32), oI qq, oR b289, oR o_293, oJ (uu % (own_p10 nD)), oS, oI (0 : Int32), oI (cc - (48 : Int32)), oU, oU, oU, oU, oU, oU, oU, oU] [(.int (0 : Int32))]
            refine own_st (fun t_ k_ => XS.ifYes X294.here hx rfl (pc0 := 423) (pc' := 504) rfl (hb hby at_423) rfl ((if0 _ _).trans (teq (by decide : (0 : Int32) = (0 : Int32))).1) (by decide) (by decide) (XS.iload X294.here hx rfl (hb hby at_504) rfl (XS.bipush X294.here hx rfl (hb hby at_506) (XS.icmpYes X294.here hx rfl (pc0 := 508) (pc' := 556) rfl (hb hby at_508) rfl (feq c4).2 (by decide) (by decide) (XS.iconst X294.here hx rfl (hb hby at_556) (XS.istore X294.here hx rfl (hb hby at_557) rfl (l' := #[oJ p0, oS, oI p1, oI p2, oI p3, oI p4, oJ uu, oS, oI dg, oI (0 : Int32), oI xb, oI ps, oI cc, oI ln, oR b255, oI (1 : Int32), oI qq, oR b289, oR o_293, oJ (uu % (own_p10 nD)), oS, oI (0 : Int32), oI (cc - (48 : Int32)), oI (0 : Int32), oU, oU, oU, oU, oU, oU, oU]) rfl k_)))))) ?_
            show own_at p e below _ T294 m 559 #[oJ p0, oS, oI p1, oI p2, oI p3, oI p4, oJ uu, oS, oI dg, oI (0 : Int32), oI xb, oI ps, oI cc, oI ln, oR b255, oI (1 : Int32), oI qq, oR b289, oR o_293, oJ (uu % (own_p10 nD)), oS, oI (0 : Int32), oI (cc - (48 : Int32)), oI (0 : Int32), oU, oU, oU, oU, oU, oU, oU] []
            refine own_st (fun t_ k_ => XS.lconst X294.here hx rfl (hb hby at_559) (XS.lstore X294.here hx rfl (hb hby at_560) rfl (l' := #[oJ p0, oS, oI p1, oI p2, oI p3, oI p4, oJ uu, oS, oI dg, oI (0 : Int32), oI xb, oI ps, oI cc, oI ln, oR b255, oI (1 : Int32), oI qq, oR b289, oR o_293, oJ (uu % (own_p10 nD)), oS, oI (0 : Int32), oI (cc - (48 : Int32)), oI (0 : Int32), oJ (0 : Int64), oS, oU, oU, oU, oU, oU]) rfl k_)) ?_
            show own_at p e below _ T294 m 562 #[oJ p0, oS, oI p1, oI p2, oI p3, oI p4, oJ uu, oS, oI dg, oI (0 : Int32), oI xb, oI ps, oI cc, oI ln, oR b255, oI (1 : Int32), oI qq, oR b289, oR o_293, oJ (uu % (own_p10 nD)), oS, oI (0 : Int32), oI (cc - (48 : Int32)), oI (0 : Int32), oJ (0 : Int64), oS, oU, oU, oU, oU, oU] []
            exact j562 _ _ _ _ _ _ _ _ _ _ _ _ _ _ _ _ _ _ _ _ _ _ _ _ _ _ _ _ _ _ _ _ _ _ _ _ _ _ _ hZ hown S293 X294 rfl N294 K294 C294 kk294 (by decide) (by decide) ((((f291.keep Kq292 (allS ge289 all0)).keep Kq293 all0).keep Kq294 all0)) ((P293_0.keep Kq294)) ((P293_1.keep Kq294 nin0)) ((P293_2.keep Kq294 nin0)) One.u (Or.inl rfl) ⟨fun z_ => absurd z_ hgd, fun z_ => absurd z_.1 (by decide)⟩ (fun z_ => absurd z_ hgd) P293_3
        · skip
          by_cases c2 : (57 : Int32) < cc
          · skip
            have hnd := own_isd2 c2
            have c4 : ¬ cc = (45 : Int32) := fun z_ => absurd (z_ ▸ c2) (by decide)
            have hgd : ¬ own_good cs (0 + nD) p3 p4 := own_kE hqq.2 (by rw [hat]; exact hnd) (by rcases Nat.eq_zero_or_pos qx9 with y_ | y_; exact Or.inr (by rw [← y_, hat]; exact mt own_45.mpr c4); exact Or.inl y_) p3 p4
            refine own_st (fun t_ k_ => XS.iload X294.here hx rfl (hb hby at_290) rfl (XS.bipush X294.here hx rfl (hb hby at_292) (XS.icmpNo X294.here hx rfl (hb hby at_294) rfl (flt c1).1 (XS.iload X294.here hx rfl (hb hby at_297) rfl (XS.bipush X294.here hx rfl (hb hby at_299) (XS.icmpYes X294.here hx rfl (pc0 := 301) (pc' := 308) rfl (hb hby at_301) rfl (tlt c2).2.2.1 (by decide) (by decide) k_)))))) ?_
            show own_at p e below _ T294 m 308 #[oJ p0, oS, oI p1, oI p2, oI p3, oI p4, oJ uu, oS, oI dg, oI (0 : Int32), oI xb, oI ps, oI cc, oI ln, oR b255, oI (1 : Int32), oI qq, oR b289, oR o_293, oJ (uu % (own_p10 nD)), oS, oU, oU, oU, oU, oU, oU, oU, oU, oU, oU] []
            refine own_st (fun t_ k_ => XS.iconst X294.here hx rfl (hb hby at_308) (XS.istore X294.here hx rfl (hb hby at_309) rfl (l' := #[oJ p0, oS, oI p1, oI p2, oI p3, oI p4, oJ uu, oS, oI dg, oI (0 : Int32), oI xb, oI ps, oI cc, oI ln, oR b255, oI (1 : Int32), oI qq, oR b289, oR o_293, oJ (uu % (own_p10 nD)), oS, oI (0 : Int32), oU, oU, oU, oU, oU, oU, oU, oU, oU]) rfl (XS.iload X294.here hx rfl (hb hby at_311) rfl (XS.bipush X294.here hx rfl (hb hby at_313) (XS.isub X294.here hx rfl (hb hby at_315) rfl (XS.istore X294.here hx rfl (hb hby at_316) rfl (l' := #[oJ p0, oS, oI p1, oI p2, oI p3, oI p4, oJ uu, oS, oI dg, oI (0 : Int32), oI xb, oI ps, oI cc, oI ln, oR b255, oI (1 : Int32), oI qq, oR b289, oR o_293, oJ (uu % (own_p10 nD)), oS, oI (0 : Int32), oI (cc - (48 : Int32)), oU, oU, oU, oU, oU, oU, oU, oU]) rfl k_)))))) ?_
            show own_at p e below _ T294 m 318 #[oJ p0, oS, oI p1, oI p2, oI p3, oI p4, oJ uu, oS, oI dg, oI (0 : Int32), oI xb, oI ps, oI cc, oI ln, oR b255, oI (1 : Int32), oI qq, oR b289, oR o_293, oJ (uu % (own_p10 nD)), oS, oI (0 : Int32), oI (cc - (48 : Int32)), oU, oU, oU, oU, oU, oU, oU, oU] []
            refine own_st (fun t_ k_ => XS.iload X294.here hx rfl (hb hby at_318) rfl (XS.ifNo X294.here hx rfl (hb hby at_320) rfl ((if0 _ _).trans (feq (by decide : ¬ ((1 : Int32) = (0 : Int32)))).1) (XS.iload X294.here hx rfl (hb hby at_323) rfl (XS.iload X294.here hx rfl (hb hby at_325) rfl (XS.icmpYes X294.here hx rfl (pc0 := 327) (pc' := 376) rfl (hb hby at_327) rfl (flt c3).2.1 (by decide) (by decide) (XS.iload X294.here hx rfl (hb hby at_376) rfl k_)))))) ?_
            show own_at p e below _ T294 m 378 #[oJ p0, oS, oI p1, oI p2, oI p3, oI p4, oJ uu, oS, oI dg, oI (0 : Int32), oI xb, oI ps, oI cc, oI ln, oR b255, oI (1 : Int32), oI qq, oR b289, oR o_293, oJ (uu % (own_p10 nD)), oS, oI (0 : Int32), oI (cc - (48 : Int32)), oU, oU, oU, oU, oU, oU, oU, oU] [(.int qq)]
            refine own_st (fun t_ k_ => XS.iload X294.here hx rfl (hb hby at_378) rfl (XS.icmpYes X294.here hx rfl (pc0 := 380) (pc' := 421) rfl (hb hby at_380) rfl (flt c3).2.1 (by decide) (by decide) (XS.iload X294.here hx rfl (hb hby at_421) rfl (XS.ifYes X294.here hx rfl (pc0 := 423) (pc' := 504) rfl (hb hby at_423) rfl ((if0 _ _).trans (teq (by decide : (0 : Int32) = (0 : Int32))).1) (by decide) (by decide) (XS.iload X294.here hx rfl (hb hby at_504) rfl (XS.bipush X294.here hx rfl (hb hby at_506) k_)))))) ?_
            show own_at p e below _ T294 m 508 #[oJ p0, oS, oI p1, oI p2, oI p3, oI p4, oJ uu, oS, oI dg, oI (0 : Int32), oI xb, oI ps, oI cc, oI ln, oR b255, oI (1 : Int32), oI qq, oR b289, oR o_293, oJ (uu % (own_p10 nD)), oS, oI (0 : Int32), oI (cc - (48 : Int32)), oU, oU, oU, oU, oU, oU, oU, oU] [(.int (45 : Int32)), (.int cc)]
            refine own_st (fun t_ k_ => XS.icmpYes X294.here hx rfl (pc0 := 508) (pc' := 556) rfl (hb hby at_508) rfl (feq c4).2 (by decide) (by decide) (XS.iconst X294.here hx rfl (hb hby at_556) (XS.istore X294.here hx rfl (hb hby at_557) rfl (l' := #[oJ p0, oS, oI p1, oI p2, oI p3, oI p4, oJ uu, oS, oI dg, oI (0 : Int32), oI xb, oI ps, oI cc, oI ln, oR b255, oI (1 : Int32), oI qq, oR b289, oR o_293, oJ (uu % (own_p10 nD)), oS, oI (0 : Int32), oI (cc - (48 : Int32)), oI (0 : Int32), oU, oU, oU, oU, oU, oU, oU]) rfl (XS.lconst X294.here hx rfl (hb hby at_559) (XS.lstore X294.here hx rfl (hb hby at_560) rfl (l' := #[oJ p0, oS, oI p1, oI p2, oI p3, oI p4, oJ uu, oS, oI dg, oI (0 : Int32), oI xb, oI ps, oI cc, oI ln, oR b255, oI (1 : Int32), oI qq, oR b289, oR o_293, oJ (uu % (own_p10 nD)), oS, oI (0 : Int32), oI (cc - (48 : Int32)), oI (0 : Int32), oJ (0 : Int64), oS, oU, oU, oU, oU, oU]) rfl k_))))) ?_
            show own_at p e below _ T294 m 562 #[oJ p0, oS, oI p1, oI p2, oI p3, oI p4, oJ uu, oS, oI dg, oI (0 : Int32), oI xb, oI ps, oI cc, oI ln, oR b255, oI (1 : Int32), oI qq, oR b289, oR o_293, oJ (uu % (own_p10 nD)), oS, oI (0 : Int32), oI (cc - (48 : Int32)), oI (0 : Int32), oJ (0 : Int64), oS, oU, oU, oU, oU, oU] []
            exact j562 _ _ _ _ _ _ _ _ _ _ _ _ _ _ _ _ _ _ _ _ _ _ _ _ _ _ _ _ _ _ _ _ _ _ _ _ _ _ _ hZ hown S293 X294 rfl N294 K294 C294 kk294 (by decide) (by decide) ((((f291.keep Kq292 (allS ge289 all0)).keep Kq293 all0).keep Kq294 all0)) ((P293_0.keep Kq294)) ((P293_1.keep Kq294 nin0)) ((P293_2.keep Kq294 nin0)) One.u (Or.inl rfl) ⟨fun z_ => absurd z_ hgd, fun z_ => absurd z_.1 (by decide)⟩ (fun z_ => absurd z_ hgd) P293_3
          · skip
            have hdg := own_isdI c1 c2
            have hk := own_kC (s := 0) (n := nD) (cs := cs) (U := U) (by decide) hdg hqs hqq.2 h45 hd0 e_cs
            have hiff := own_gA (mn := p3) (mx := p4) hk
            have hiff : own_good cs (0 + nD) p3 p4 ↔ (1 ≤ nD ∧ nD ≤ 10) ∧ p3.toInt ≤ (((U % 10 ^ nD : Nat) : Int) + (cc.toInt - 48 - ((U / 10 ^ (0 + nD - 1 - qx9) % 10 : Nat) : Int)) * ((10 ^ (0 + nD - 1 - qx9) : Nat) : Int)) ∧ (((U % 10 ^ nD : Nat) : Int) + (cc.toInt - 48 - ((U / 10 ^ (0 + nD - 1 - qx9) % 10 : Nat) : Int)) * ((10 ^ (0 + nD - 1 - qx9) : Nat) : Int)) ≤ p4.toInt := hiff
            have hpvE : own_pv cs (own_swn cs (0 + nD)) (0 + nD) = (((U % 10 ^ nD : Nat) : Int) + (cc.toInt - 48 - ((U / 10 ^ (0 + nD - 1 - qx9) % 10 : Nat) : Int)) * ((10 ^ (0 + nD - 1 - qx9) : Nat) : Int)) := own_pvE hk
            refine own_st (fun t_ k_ => XS.iload X294.here hx rfl (hb hby at_290) rfl (XS.bipush X294.here hx rfl (hb hby at_292) (XS.icmpNo X294.here hx rfl (hb hby at_294) rfl (flt c1).1 (XS.iload X294.here hx rfl (hb hby at_297) rfl (XS.bipush X294.here hx rfl (hb hby at_299) (XS.icmpNo X294.here hx rfl (hb hby at_301) rfl (flt c2).2.2.1 k_)))))) ?_
            show own_at p e below _ T294 m 304 #[oJ p0, oS, oI p1, oI p2, oI p3, oI p4, oJ uu, oS, oI dg, oI (0 : Int32), oI xb, oI ps, oI cc, oI ln, oR b255, oI (1 : Int32), oI qq, oR b289, oR o_293, oJ (uu % (own_p10 nD)), oS, oU, oU, oU, oU, oU, oU, oU, oU, oU, oU] []
            refine own_st (fun t_ k_ => XS.iconst X294.here hx rfl (hb hby at_304) (XS.goto X294.here hx rfl (pc0 := 305) (pc' := 309) rfl (hb hby at_305) (by decide) (by decide) (XS.istore X294.here hx rfl (hb hby at_309) rfl (l' := #[oJ p0, oS, oI p1, oI p2, oI p3, oI p4, oJ uu, oS, oI dg, oI (0 : Int32), oI xb, oI ps, oI cc, oI ln, oR b255, oI (1 : Int32), oI qq, oR b289, oR o_293, oJ (uu % (own_p10 nD)), oS, oI (1 : Int32), oU, oU, oU, oU, oU, oU, oU, oU, oU]) rfl (XS.iload X294.here hx rfl (hb hby at_311) rfl (XS.bipush X294.here hx rfl (hb hby at_313) (XS.isub X294.here hx rfl (hb hby at_315) rfl k_)))))) ?_
            show own_at p e below _ T294 m 316 #[oJ p0, oS, oI p1, oI p2, oI p3, oI p4, oJ uu, oS, oI dg, oI (0 : Int32), oI xb, oI ps, oI cc, oI ln, oR b255, oI (1 : Int32), oI qq, oR b289, oR o_293, oJ (uu % (own_p10 nD)), oS, oI (1 : Int32), oU, oU, oU, oU, oU, oU, oU, oU, oU] [(.int (cc - (48 : Int32)))]
            refine own_st (fun t_ k_ => XS.istore X294.here hx rfl (hb hby at_316) rfl (l' := #[oJ p0, oS, oI p1, oI p2, oI p3, oI p4, oJ uu, oS, oI dg, oI (0 : Int32), oI xb, oI ps, oI cc, oI ln, oR b255, oI (1 : Int32), oI qq, oR b289, oR o_293, oJ (uu % (own_p10 nD)), oS, oI (1 : Int32), oI (cc - (48 : Int32)), oU, oU, oU, oU, oU, oU, oU, oU]) rfl (XS.iload X294.here hx rfl (hb hby at_318) rfl (XS.ifNo X294.here hx rfl (hb hby at_320) rfl ((if0 _ _).trans (feq (by decide : ¬ ((1 : Int32) = (0 : Int32)))).1) (XS.iload X294.here hx rfl (hb hby at_323) rfl (XS.iload X294.here hx rfl (hb hby at_325) rfl (XS.icmpYes X294.here hx rfl (pc0 := 327) (pc' := 376) rfl (hb hby at_327) rfl (flt c3).2.1 (by decide) (by decide) k_)))))) ?_
            show own_at p e below _ T294 m 376 #[oJ p0, oS, oI p1, oI p2, oI p3, oI p4, oJ uu, oS, oI dg, oI (0 : Int32), oI xb, oI ps, oI cc, oI ln, oR b255, oI (1 : Int32), oI qq, oR b289, oR o_293, oJ (uu % (own_p10 nD)), oS, oI (1 : Int32), oI (cc - (48 : Int32)), oU, oU, oU, oU, oU, oU, oU, oU] []
            refine own_st (fun t_ k_ => XS.iload X294.here hx rfl (hb hby at_376) rfl (XS.iload X294.here hx rfl (hb hby at_378) rfl (XS.icmpYes X294.here hx rfl (pc0 := 380) (pc' := 421) rfl (hb hby at_380) rfl (flt c3).2.1 (by decide) (by decide) (XS.iload X294.here hx rfl (hb hby at_421) rfl (XS.ifNo X294.here hx rfl (hb hby at_423) rfl ((if0 _ _).trans (feq (by decide : ¬ ((1 : Int32) = (0 : Int32)))).1) (XS.iload X294.here hx rfl (hb hby at_426) rfl k_)))))) ?_
            show own_at p e below _ T294 m 428 #[oJ p0, oS, oI p1, oI p2, oI p3, oI p4, oJ uu, oS, oI dg, oI (0 : Int32), oI xb, oI ps, oI cc, oI ln, oR b255, oI (1 : Int32), oI qq, oR b289, oR o_293, oJ (uu % (own_p10 nD)), oS, oI (1 : Int32), oI (cc - (48 : Int32)), oU, oU, oU, oU, oU, oU, oU, oU] [(.int ln)]
            refine own_st (fun t_ k_ => XS.iconst X294.here hx rfl (hb hby at_428) (XS.isub X294.here hx rfl (hb hby at_429) rfl (XS.iload X294.here hx rfl (hb hby at_430) rfl (XS.isub X294.here hx rfl (hb hby at_432) rfl (XS.istore X294.here hx rfl (hb hby at_433) rfl (l' := #[oJ p0, oS, oI p1, oI p2, oI p3, oI p4, oJ uu, oS, oI dg, oI (0 : Int32), oI xb, oI ps, oI cc, oI ln, oR b255, oI (1 : Int32), oI qq, oR b289, oR o_293, oJ (uu % (own_p10 nD)), oS, oI (1 : Int32), oI (cc - (48 : Int32)), oU, oU, oU, oI ((ln - (1 : Int32)) - qq), oU, oU, oU, oU]) rfl (XS.iload X294.here hx rfl (hb hby at_435) rfl k_)))))) ?_
            show own_at p e below _ T294 m 437 #[oJ p0, oS, oI p1, oI p2, oI p3, oI p4, oJ uu, oS, oI dg, oI (0 : Int32), oI xb, oI ps, oI cc, oI ln, oR b255, oI (1 : Int32), oI qq, oR b289, oR o_293, oJ (uu % (own_p10 nD)), oS, oI (1 : Int32), oI (cc - (48 : Int32)), oU, oU, oU, oI ((ln - (1 : Int32)) - qq), oU, oU, oU, oU] [(.int ((ln - (1 : Int32)) - qq))]
            obtain ⟨_, _, ⟨T300, L300, k300, n300⟩, -, X300, ⟨Lc300, hQ300, l300, y300, z300⟩, st300⟩ := Jvm.LawKit.callS X294 hx (y := own_n18) hown (mvT hZ (own_w hw 10 rfl)) (mvT hZ (own_w hw 11 rfl)) (mvT hZ (own_w hw 5 rfl)) (mvT hZ (own_w hw 12 rfl)) (by decide) (backOf (W := 0) (own_rm3 l Z a0 hw [] ((ln - (1 : Int32)) - qq) (0 + nD - 1 - qx9) T294.heap n0 (Nat.le_trans Z0 K294.1) ⟨own_csub (own_csub hln (by decide : (1 : Int32).toInt = ((1 : Nat) : Int)) (by omega) (by omega)) hqq.1 (by omega) (by omega), (by omega)⟩) hZ (own_w hw 12 rfl) (own_w hw 5 rfl) (by decide) (by decide)) (g := (mkF m 437 #[oJ p0, oS, oI p1, oI p2, oI p3, oI p4, oJ uu, oS, oI dg, oI (0 : Int32), oI xb, oI ps, oI cc, oI ln, oR b255, oI (1 : Int32), oI qq, oR b289, oR o_293, oJ (uu % (own_p10 nD)), oS, oI (1 : Int32), oI (cc - (48 : Int32)), oU, oU, oU, oI ((ln - (1 : Int32)) - qq), oU, oU, oU, oU] [(.int ((ln - (1 : Int32)) - qq))])) rfl (by rw [hml]; rfl) (argsL := [(.int ((ln - (1 : Int32)) - qq))]) (rest := []) (lenOf own_pd13 rfl) rfl (own_hW rfl) (hb hby at_437) (fun _ _ => ⟨rfl, rfl, (by decide : 19 + 1 ≤ _), (by decide : 206 + 12 ≤ _)⟩)
            dsimp only [Pt.U, Pt.locs, Pt.cells, Pt.slots] at X300 l300 y300 z300 st300 hQ300
            subst y300 z300
            obtain ⟨rfl, N300q, Kq300⟩ := hQ300
            have N300 : Fr n0 L300 := by rw [l300]; exact Fr.app N294 N300q
            have K300 : Keep h0 T300.heap [] := K294.trans Kq300 all0
            have c300 : CHr Z own_EL _ T294.heap _ T300.heap := CHr.keep Kq300 own_sl0 C294.1
            have C300 := C294.trans c300
            have kk300 := Nat.le_trans kk294 c300.2.1
            refine own_st (st300) ?_
            refine own_st (fun t_ k_ => XS.lstore X300.here hx rfl (hb hby at_440) rfl (l' := #[oJ p0, oS, oI p1, oI p2, oI p3, oI p4, oJ uu, oS, oI dg, oI (0 : Int32), oI xb, oI ps, oI cc, oI ln, oR b255, oI (1 : Int32), oI qq, oR b289, oR o_293, oJ (uu % (own_p10 nD)), oS, oI (1 : Int32), oI (cc - (48 : Int32)), oU, oU, oU, oI ((ln - (1 : Int32)) - qq), oJ (own_p10 (0 + nD - 1 - qx9)), oS, oU, oU]) rfl (XS.lload X300.here hx rfl (hb hby at_442) rfl (XS.lload X300.here hx rfl (hb hby at_444) rfl (XS.iload X300.here hx rfl (hb hby at_446) rfl k_)))) ?_
            show own_at p e below _ T300 m 448 #[oJ p0, oS, oI p1, oI p2, oI p3, oI p4, oJ uu, oS, oI dg, oI (0 : Int32), oI xb, oI ps, oI cc, oI ln, oR b255, oI (1 : Int32), oI qq, oR b289, oR o_293, oJ (uu % (own_p10 nD)), oS, oI (1 : Int32), oI (cc - (48 : Int32)), oU, oU, oU, oI ((ln - (1 : Int32)) - qq), oJ (own_p10 (0 + nD - 1 - qx9)), oS, oU, oU] [(.int ((ln - (1 : Int32)) - qq)), (.long uu), (.long (uu % (own_p10 nD)))]
            obtain ⟨_, _, ⟨T301, L301, k301, n301⟩, -, X301, ⟨Lc301, hQ301, l301, y301, z301⟩, st301⟩ := Jvm.LawKit.callS X300 hx (y := own_n19) hown (mvT hZ (own_w hw 7 rfl)) (mvT hZ (own_w hw 8 rfl)) (mvT hZ (own_w hw 5 rfl)) (mvT hZ (own_w hw 9 rfl)) (by decide) (backOf (W := 2) (own_rm2 l Z a0 hw [] uu ((ln - (1 : Int32)) - qq) (0 + nD - 1 - qx9) T300.heap n0 (Nat.le_trans Z0 K300.1) ⟨own_csub (own_csub hln (by decide : (1 : Int32).toInt = ((1 : Nat) : Int)) (by omega) (by omega)) hqq.1 (by omega) (by omega), (by omega)⟩) hZ (own_w hw 9 rfl) (own_w hw 5 rfl) (by decide) (by decide)) (g := (mkF m 448 #[oJ p0, oS, oI p1, oI p2, oI p3, oI p4, oJ uu, oS, oI dg, oI (0 : Int32), oI xb, oI ps, oI cc, oI ln, oR b255, oI (1 : Int32), oI qq, oR b289, oR o_293, oJ (uu % (own_p10 nD)), oS, oI (1 : Int32), oI (cc - (48 : Int32)), oU, oU, oU, oI ((ln - (1 : Int32)) - qq), oJ (own_p10 (0 + nD - 1 - qx9)), oS, oU, oU] [(.int ((ln - (1 : Int32)) - qq)), (.long uu), (.long (uu % (own_p10 nD)))])) rfl (by rw [hml]; rfl) (argsL := [(.long uu), (.int ((ln - (1 : Int32)) - qq))]) (rest := [(.long (uu % (own_p10 nD)))]) (lenOf own_pd14 rfl) rfl (own_hW rfl) (hb hby at_448) (fun _ _ => ⟨rfl, rfl, (by decide : 20 + 1 ≤ _), (by decide : 218 + 12 ≤ _)⟩)
            dsimp only [Pt.U, Pt.locs, Pt.cells, Pt.slots] at X301 l301 y301 z301 st301 hQ301
            subst y301 z301
            obtain ⟨rfl, N301q, Kq301⟩ := hQ301
            have N301 : Fr n0 L301 := by rw [l301]; exact Fr.app N300 N301q
            have K301 : Keep h0 T301.heap [] := K300.trans Kq301 all0
            have c301 : CHr Z own_EL _ T300.heap _ T301.heap := CHr.keep Kq301 own_sl0 C300.1
            have C301 := C300.trans c301
            have kk301 := Nat.le_trans kk300 c301.2.1
            refine own_st (st301) ?_
            refine own_st (fun t_ k_ => XS.i2l X301.here hx rfl (hb hby at_451) rfl (XS.lload X301.here hx rfl (hb hby at_452) rfl (XS.lmul X301.here hx rfl (hb hby at_454) rfl (XS.lsub X301.here hx rfl (hb hby at_455) rfl (XS.iload X301.here hx rfl (hb hby at_456) rfl (XS.i2l X301.here hx rfl (hb hby at_458) rfl k_)))))) ?_
            show own_at p e below _ T301 m 459 #[oJ p0, oS, oI p1, oI p2, oI p3, oI p4, oJ uu, oS, oI dg, oI (0 : Int32), oI xb, oI ps, oI cc, oI ln, oR b255, oI (1 : Int32), oI qq, oR b289, oR o_293, oJ (uu % (own_p10 nD)), oS, oI (1 : Int32), oI (cc - (48 : Int32)), oU, oU, oU, oI ((ln - (1 : Int32)) - qq), oJ (own_p10 (0 + nD - 1 - qx9)), oS, oU, oU] [(.long ((cc - (48 : Int32)).toInt64)), (.long ((uu % (own_p10 nD)) - (((own_d10 uu (0 + nD - 1 - qx9)).toInt64) * (own_p10 (0 + nD - 1 - qx9)))))]
            refine own_st (fun t_ k_ => XS.lload X301.here hx rfl (hb hby at_459) rfl (XS.lmul X301.here hx rfl (hb hby at_461) rfl (XS.ladd X301.here hx rfl (hb hby at_462) rfl (XS.lstore X301.here hx rfl (hb hby at_463) rfl (l' := #[oJ p0, oS, oI p1, oI p2, oI p3, oI p4, oJ uu, oS, oI dg, oI (0 : Int32), oI xb, oI ps, oI cc, oI ln, oR b255, oI (1 : Int32), oI qq, oR b289, oR o_293, oJ (uu % (own_p10 nD)), oS, oI (1 : Int32), oI (cc - (48 : Int32)), oU, oU, oU, oI ((ln - (1 : Int32)) - qq), oJ (own_p10 (0 + nD - 1 - qx9)), oS, oJ (((uu % (own_p10 nD)) - (((own_d10 uu (0 + nD - 1 - qx9)).toInt64) * (own_p10 (0 + nD - 1 - qx9)))) + (((cc - (48 : Int32)).toInt64) * (own_p10 (0 + nD - 1 - qx9)))), oS]) rfl (XS.iload X301.here hx rfl (hb hby at_465) rfl (XS.iconst X301.here hx rfl (hb hby at_467) k_)))))) ?_
            show own_at p e below _ T301 m 468 #[oJ p0, oS, oI p1, oI p2, oI p3, oI p4, oJ uu, oS, oI dg, oI (0 : Int32), oI xb, oI ps, oI cc, oI ln, oR b255, oI (1 : Int32), oI qq, oR b289, oR o_293, oJ (uu % (own_p10 nD)), oS, oI (1 : Int32), oI (cc - (48 : Int32)), oU, oU, oU, oI ((ln - (1 : Int32)) - qq), oJ (own_p10 (0 + nD - 1 - qx9)), oS, oJ (((uu % (own_p10 nD)) - (((own_d10 uu (0 + nD - 1 - qx9)).toInt64) * (own_p10 (0 + nD - 1 - qx9)))) + (((cc - (48 : Int32)).toInt64) * (own_p10 (0 + nD - 1 - qx9)))), oS] [(.int (1 : Int32)), (.int dg)]
            by_cases c468_302 : dg < (1 : Int32)
            · skip
              have rlo_468 := (own_ltp hD.1 (by decide : (1 : Int32).toInt = ((1 : Nat) : Int))).mp c468_302
              refine own_st (fun t_ k_ => XS.icmpYes X301.here hx rfl (pc0 := 468) (pc' := 482) rfl (hb hby at_468) rfl (tlt c468_302).1 (by decide) (by decide) (XS.iconst X301.here hx rfl (hb hby at_482) (XS.istore X301.here hx rfl (hb hby at_483) rfl (l' := #[oJ p0, oS, oI p1, oI p2, oI p3, oI p4, oJ uu, oS, oI dg, oI (0 : Int32), oI xb, oI ps, oI cc, oI ln, oR b255, oI (1 : Int32), oI qq, oR b289, oR o_293, oJ (uu % (own_p10 nD)), oS, oI (1 : Int32), oI (cc - (48 : Int32)), oI (0 : Int32), oU, oU, oI ((ln - (1 : Int32)) - qq), oJ (own_p10 (0 + nD - 1 - qx9)), oS, oJ (((uu % (own_p10 nD)) - (((own_d10 uu (0 + nD - 1 - qx9)).toInt64) * (own_p10 (0 + nD - 1 - qx9)))) + (((cc - (48 : Int32)).toInt64) * (own_p10 (0 + nD - 1 - qx9)))), oS]) rfl (XS.iload X301.here hx rfl (hb hby at_485) rfl (XS.iconst X301.here hx rfl (hb hby at_487) (XS.icmpYes X301.here hx rfl (pc0 := 488) (pc' := 497) rfl (hb hby at_488) rfl (feq (by decide : ¬ ((0 : Int32) = (1 : Int32)))).2 (by decide) (by decide) k_)))))) ?_
              show own_at p e below _ T301 m 497 #[oJ p0, oS, oI p1, oI p2, oI p3, oI p4, oJ uu, oS, oI dg, oI (0 : Int32), oI xb, oI ps, oI cc, oI ln, oR b255, oI (1 : Int32), oI qq, oR b289, oR o_293, oJ (uu % (own_p10 nD)), oS, oI (1 : Int32), oI (cc - (48 : Int32)), oI (0 : Int32), oU, oU, oI ((ln - (1 : Int32)) - qq), oJ (own_p10 (0 + nD - 1 - qx9)), oS, oJ (((uu % (own_p10 nD)) - (((own_d10 uu (0 + nD - 1 - qx9)).toInt64) * (own_p10 (0 + nD - 1 - qx9)))) + (((cc - (48 : Int32)).toInt64) * (own_p10 (0 + nD - 1 - qx9)))), oS] []
              refine own_st (fun t_ k_ => XS.lload X301.here hx rfl (hb hby at_497) rfl k_) ?_
              show own_at p e below _ T301 m 499 #[oJ p0, oS, oI p1, oI p2, oI p3, oI p4, oJ uu, oS, oI dg, oI (0 : Int32), oI xb, oI ps, oI cc, oI ln, oR b255, oI (1 : Int32), oI qq, oR b289, oR o_293, oJ (uu % (own_p10 nD)), oS, oI (1 : Int32), oI (cc - (48 : Int32)), oI (0 : Int32), oU, oU, oI ((ln - (1 : Int32)) - qq), oJ (own_p10 (0 + nD - 1 - qx9)), oS, oJ (((uu % (own_p10 nD)) - (((own_d10 uu (0 + nD - 1 - qx9)).toInt64) * (own_p10 (0 + nD - 1 - qx9)))) + (((cc - (48 : Int32)).toInt64) * (own_p10 (0 + nD - 1 - qx9)))), oS] [(.long (((uu % (own_p10 nD)) - (((own_d10 uu (0 + nD - 1 - qx9)).toInt64) * (own_p10 (0 + nD - 1 - qx9)))) + (((cc - (48 : Int32)).toInt64) * (own_p10 (0 + nD - 1 - qx9)))))]
              obtain ⟨vl, e_vl⟩ : ∃ z, z = (((uu % (own_p10 nD)) - (((own_d10 uu (0 + nD - 1 - qx9)).toInt64) * (own_p10 (0 + nD - 1 - qx9)))) + (((cc - (48 : Int32)).toInt64) * (own_p10 (0 + nD - 1 - qx9)))) := ⟨_, rfl⟩
              rw [show (((uu % (own_p10 nD)) - (((own_d10 uu (0 + nD - 1 - qx9)).toInt64) * (own_p10 (0 + nD - 1 - qx9)))) + (((cc - (48 : Int32)).toInt64) * (own_p10 (0 + nD - 1 - qx9)))) = vl from e_vl.symm]
              have hvl : vl.toInt = (((U % 10 ^ nD : Nat) : Int) + (cc.toInt - 48 - ((U / 10 ^ (0 + nD - 1 - qx9) % 10 : Nat) : Int)) * ((10 ^ (0 + nD - 1 - qx9) : Nat) : Int)) := (by rw [e_vl]; have z_ := own_VC (c := cc) (k := 0 + nD - 1 - qx9) hU (by omega : nD < 12) (by omega) hcc.1 hcc.2; exact z_.1)
              refine own_st (fun t_ k_ => XS.lstore X301.here hx rfl (hb hby at_499) rfl (l' := #[oJ p0, oS, oI p1, oI p2, oI p3, oI p4, oJ uu, oS, oI dg, oI (0 : Int32), oI xb, oI ps, oI cc, oI ln, oR b255, oI (1 : Int32), oI qq, oR b289, oR o_293, oJ (uu % (own_p10 nD)), oS, oI (1 : Int32), oI (cc - (48 : Int32)), oI (0 : Int32), oJ vl, oS, oI ((ln - (1 : Int32)) - qq), oJ (own_p10 (0 + nD - 1 - qx9)), oS, oJ vl, oS]) rfl (XS.goto X301.here hx rfl (pc0 := 501) (pc' := 562) rfl (hb hby at_501) (by decide) (by decide) k_)) ?_
              show own_at p e below _ T301 m 562 #[oJ p0, oS, oI p1, oI p2, oI p3, oI p4, oJ uu, oS, oI dg, oI (0 : Int32), oI xb, oI ps, oI cc, oI ln, oR b255, oI (1 : Int32), oI qq, oR b289, oR o_293, oJ (uu % (own_p10 nD)), oS, oI (1 : Int32), oI (cc - (48 : Int32)), oI (0 : Int32), oJ vl, oS, oI ((ln - (1 : Int32)) - qq), oJ (own_p10 (0 + nD - 1 - qx9)), oS, oJ vl, oS] []
              have hgd : ¬ own_good cs (0 + nD) p3 p4 := fun z_ => by have y_ := (hiff.mp z_).1; omega
              exact j562 _ _ _ _ _ _ _ _ _ _ _ _ _ _ _ _ _ _ _ _ _ _ _ _ _ _ _ _ _ _ _ _ _ _ _ _ _ _ _ hZ hown S293 X301 rfl N301 K301 C301 kk301 (by decide) (by decide) ((((((f291.keep Kq292 (allS ge289 all0)).keep Kq293 all0).keep Kq294 all0).keep Kq300 all0).keep Kq301 all0)) ((((P293_0.keep Kq294).keep Kq300).keep Kq301)) ((((P293_1.keep Kq294 nin0).keep Kq300 nin0).keep Kq301 nin0)) ((((P293_2.keep Kq294 nin0).keep Kq300 nin0).keep Kq301 nin0)) (One.val rfl) (Or.inl rfl) ⟨fun z_ => absurd z_ hgd, fun z_ => absurd z_.1 (by decide)⟩ (fun z_ => absurd z_ hgd) P293_3
            have rlo_468 := mt (own_ltp hD.1 (by decide : (1 : Int32).toInt = ((1 : Nat) : Int))).mpr c468_302
            refine own_st (fun t_ k_ => XS.icmpNo X301.here hx rfl (hb hby at_468) rfl (flt c468_302).1 (XS.iload X301.here hx rfl (hb hby at_471) rfl (XS.bipush X301.here hx rfl (hb hby at_473) k_))) ?_
            show own_at p e below _ T301 m 475 #[oJ p0, oS, oI p1, oI p2, oI p3, oI p4, oJ uu, oS, oI dg, oI (0 : Int32), oI xb, oI ps, oI cc, oI ln, oR b255, oI (1 : Int32), oI qq, oR b289, oR o_293, oJ (uu % (own_p10 nD)), oS, oI (1 : Int32), oI (cc - (48 : Int32)), oU, oU, oU, oI ((ln - (1 : Int32)) - qq), oJ (own_p10 (0 + nD - 1 - qx9)), oS, oJ (((uu % (own_p10 nD)) - (((own_d10 uu (0 + nD - 1 - qx9)).toInt64) * (own_p10 (0 + nD - 1 - qx9)))) + (((cc - (48 : Int32)).toInt64) * (own_p10 (0 + nD - 1 - qx9)))), oS] [(.int (10 : Int32)), (.int dg)]
            by_cases c475_303 : (10 : Int32) < dg
            · skip
              have rhi_475 := (own_ltp (by decide : (10 : Int32).toInt = ((10 : Nat) : Int)) hD.1).mp c475_303
              refine own_st (fun t_ k_ => XS.icmpYes X301.here hx rfl (pc0 := 475) (pc' := 482) rfl (hb hby at_475) rfl (tlt c475_303).2.2.1 (by decide) (by decide) (XS.iconst X301.here hx rfl (hb hby at_482) (XS.istore X301.here hx rfl (hb hby at_483) rfl (l' := #[oJ p0, oS, oI p1, oI p2, oI p3, oI p4, oJ uu, oS, oI dg, oI (0 : Int32), oI xb, oI ps, oI cc, oI ln, oR b255, oI (1 : Int32), oI qq, oR b289, oR o_293, oJ (uu % (own_p10 nD)), oS, oI (1 : Int32), oI (cc - (48 : Int32)), oI (0 : Int32), oU, oU, oI ((ln - (1 : Int32)) - qq), oJ (own_p10 (0 + nD - 1 - qx9)), oS, oJ (((uu % (own_p10 nD)) - (((own_d10 uu (0 + nD - 1 - qx9)).toInt64) * (own_p10 (0 + nD - 1 - qx9)))) + (((cc - (48 : Int32)).toInt64) * (own_p10 (0 + nD - 1 - qx9)))), oS]) rfl (XS.iload X301.here hx rfl (hb hby at_485) rfl (XS.iconst X301.here hx rfl (hb hby at_487) (XS.icmpYes X301.here hx rfl (pc0 := 488) (pc' := 497) rfl (hb hby at_488) rfl (feq (by decide : ¬ ((0 : Int32) = (1 : Int32)))).2 (by decide) (by decide) k_)))))) ?_
              show own_at p e below _ T301 m 497 #[oJ p0, oS, oI p1, oI p2, oI p3, oI p4, oJ uu, oS, oI dg, oI (0 : Int32), oI xb, oI ps, oI cc, oI ln, oR b255, oI (1 : Int32), oI qq, oR b289, oR o_293, oJ (uu % (own_p10 nD)), oS, oI (1 : Int32), oI (cc - (48 : Int32)), oI (0 : Int32), oU, oU, oI ((ln - (1 : Int32)) - qq), oJ (own_p10 (0 + nD - 1 - qx9)), oS, oJ (((uu % (own_p10 nD)) - (((own_d10 uu (0 + nD - 1 - qx9)).toInt64) * (own_p10 (0 + nD - 1 - qx9)))) + (((cc - (48 : Int32)).toInt64) * (own_p10 (0 + nD - 1 - qx9)))), oS] []
              refine own_st (fun t_ k_ => XS.lload X301.here hx rfl (hb hby at_497) rfl k_) ?_
              show own_at p e below _ T301 m 499 #[oJ p0, oS, oI p1, oI p2, oI p3, oI p4, oJ uu, oS, oI dg, oI (0 : Int32), oI xb, oI ps, oI cc, oI ln, oR b255, oI (1 : Int32), oI qq, oR b289, oR o_293, oJ (uu % (own_p10 nD)), oS, oI (1 : Int32), oI (cc - (48 : Int32)), oI (0 : Int32), oU, oU, oI ((ln - (1 : Int32)) - qq), oJ (own_p10 (0 + nD - 1 - qx9)), oS, oJ (((uu % (own_p10 nD)) - (((own_d10 uu (0 + nD - 1 - qx9)).toInt64) * (own_p10 (0 + nD - 1 - qx9)))) + (((cc - (48 : Int32)).toInt64) * (own_p10 (0 + nD - 1 - qx9)))), oS] [(.long (((uu % (own_p10 nD)) - (((own_d10 uu (0 + nD - 1 - qx9)).toInt64) * (own_p10 (0 + nD - 1 - qx9)))) + (((cc - (48 : Int32)).toInt64) * (own_p10 (0 + nD - 1 - qx9)))))]
              obtain ⟨vl, e_vl⟩ : ∃ z, z = (((uu % (own_p10 nD)) - (((own_d10 uu (0 + nD - 1 - qx9)).toInt64) * (own_p10 (0 + nD - 1 - qx9)))) + (((cc - (48 : Int32)).toInt64) * (own_p10 (0 + nD - 1 - qx9)))) := ⟨_, rfl⟩
              rw [show (((uu % (own_p10 nD)) - (((own_d10 uu (0 + nD - 1 - qx9)).toInt64) * (own_p10 (0 + nD - 1 - qx9)))) + (((cc - (48 : Int32)).toInt64) * (own_p10 (0 + nD - 1 - qx9)))) = vl from e_vl.symm]
              have hvl : vl.toInt = (((U % 10 ^ nD : Nat) : Int) + (cc.toInt - 48 - ((U / 10 ^ (0 + nD - 1 - qx9) % 10 : Nat) : Int)) * ((10 ^ (0 + nD - 1 - qx9) : Nat) : Int)) := (by rw [e_vl]; have z_ := own_VC (c := cc) (k := 0 + nD - 1 - qx9) hU (by omega : nD < 12) (by omega) hcc.1 hcc.2; exact z_.1)
              refine own_st (fun t_ k_ => XS.lstore X301.here hx rfl (hb hby at_499) rfl (l' := #[oJ p0, oS, oI p1, oI p2, oI p3, oI p4, oJ uu, oS, oI dg, oI (0 : Int32), oI xb, oI ps, oI cc, oI ln, oR b255, oI (1 : Int32), oI qq, oR b289, oR o_293, oJ (uu % (own_p10 nD)), oS, oI (1 : Int32), oI (cc - (48 : Int32)), oI (0 : Int32), oJ vl, oS, oI ((ln - (1 : Int32)) - qq), oJ (own_p10 (0 + nD - 1 - qx9)), oS, oJ vl, oS]) rfl (XS.goto X301.here hx rfl (pc0 := 501) (pc' := 562) rfl (hb hby at_501) (by decide) (by decide) k_)) ?_
              show own_at p e below _ T301 m 562 #[oJ p0, oS, oI p1, oI p2, oI p3, oI p4, oJ uu, oS, oI dg, oI (0 : Int32), oI xb, oI ps, oI cc, oI ln, oR b255, oI (1 : Int32), oI qq, oR b289, oR o_293, oJ (uu % (own_p10 nD)), oS, oI (1 : Int32), oI (cc - (48 : Int32)), oI (0 : Int32), oJ vl, oS, oI ((ln - (1 : Int32)) - qq), oJ (own_p10 (0 + nD - 1 - qx9)), oS, oJ vl, oS] []
              have hgd : ¬ own_good cs (0 + nD) p3 p4 := fun z_ => by have y_ := (hiff.mp z_).1; omega
              exact j562 _ _ _ _ _ _ _ _ _ _ _ _ _ _ _ _ _ _ _ _ _ _ _ _ _ _ _ _ _ _ _ _ _ _ _ _ _ _ _ hZ hown S293 X301 rfl N301 K301 C301 kk301 (by decide) (by decide) ((((((f291.keep Kq292 (allS ge289 all0)).keep Kq293 all0).keep Kq294 all0).keep Kq300 all0).keep Kq301 all0)) ((((P293_0.keep Kq294).keep Kq300).keep Kq301)) ((((P293_1.keep Kq294 nin0).keep Kq300 nin0).keep Kq301 nin0)) ((((P293_2.keep Kq294 nin0).keep Kq300 nin0).keep Kq301 nin0)) (One.val rfl) (Or.inl rfl) ⟨fun z_ => absurd z_ hgd, fun z_ => absurd z_.1 (by decide)⟩ (fun z_ => absurd z_ hgd) P293_3
            have rhi_475 := mt (own_ltp (by decide : (10 : Int32).toInt = ((10 : Nat) : Int)) hD.1).mpr c475_303
            refine own_st (fun t_ k_ => XS.icmpNo X301.here hx rfl (hb hby at_475) rfl (flt c475_303).2.2.1 (XS.iconst X301.here hx rfl (hb hby at_478) (XS.goto X301.here hx rfl (pc0 := 479) (pc' := 483) rfl (hb hby at_479) (by decide) (by decide) (XS.istore X301.here hx rfl (hb hby at_483) rfl (l' := #[oJ p0, oS, oI p1, oI p2, oI p3, oI p4, oJ uu, oS, oI dg, oI (0 : Int32), oI xb, oI ps, oI cc, oI ln, oR b255, oI (1 : Int32), oI qq, oR b289, oR o_293, oJ (uu % (own_p10 nD)), oS, oI (1 : Int32), oI (cc - (48 : Int32)), oI (1 : Int32), oU, oU, oI ((ln - (1 : Int32)) - qq), oJ (own_p10 (0 + nD - 1 - qx9)), oS, oJ (((uu % (own_p10 nD)) - (((own_d10 uu (0 + nD - 1 - qx9)).toInt64) * (own_p10 (0 + nD - 1 - qx9)))) + (((cc - (48 : Int32)).toInt64) * (own_p10 (0 + nD - 1 - qx9)))), oS]) rfl (XS.iload X301.here hx rfl (hb hby at_485) rfl (XS.iconst X301.here hx rfl (hb hby at_487) k_)))))) ?_
            show own_at p e below _ T301 m 488 #[oJ p0, oS, oI p1, oI p2, oI p3, oI p4, oJ uu, oS, oI dg, oI (0 : Int32), oI xb, oI ps, oI cc, oI ln, oR b255, oI (1 : Int32), oI qq, oR b289, oR o_293, oJ (uu % (own_p10 nD)), oS, oI (1 : Int32), oI (cc - (48 : Int32)), oI (1 : Int32), oU, oU, oI ((ln - (1 : Int32)) - qq), oJ (own_p10 (0 + nD - 1 - qx9)), oS, oJ (((uu % (own_p10 nD)) - (((own_d10 uu (0 + nD - 1 - qx9)).toInt64) * (own_p10 (0 + nD - 1 - qx9)))) + (((cc - (48 : Int32)).toInt64) * (own_p10 (0 + nD - 1 - qx9)))), oS] [(.int (1 : Int32)), (.int (0 : Int32))]
            refine own_st (fun t_ k_ => XS.icmpYes X301.here hx rfl (pc0 := 488) (pc' := 497) rfl (hb hby at_488) rfl (feq (by decide : ¬ ((0 : Int32) = (1 : Int32)))).2 (by decide) (by decide) (XS.lload X301.here hx rfl (hb hby at_497) rfl k_)) ?_
            show own_at p e below _ T301 m 499 #[oJ p0, oS, oI p1, oI p2, oI p3, oI p4, oJ uu, oS, oI dg, oI (0 : Int32), oI xb, oI ps, oI cc, oI ln, oR b255, oI (1 : Int32), oI qq, oR b289, oR o_293, oJ (uu % (own_p10 nD)), oS, oI (1 : Int32), oI (cc - (48 : Int32)), oI (1 : Int32), oU, oU, oI ((ln - (1 : Int32)) - qq), oJ (own_p10 (0 + nD - 1 - qx9)), oS, oJ (((uu % (own_p10 nD)) - (((own_d10 uu (0 + nD - 1 - qx9)).toInt64) * (own_p10 (0 + nD - 1 - qx9)))) + (((cc - (48 : Int32)).toInt64) * (own_p10 (0 + nD - 1 - qx9)))), oS] [(.long (((uu % (own_p10 nD)) - (((own_d10 uu (0 + nD - 1 - qx9)).toInt64) * (own_p10 (0 + nD - 1 - qx9)))) + (((cc - (48 : Int32)).toInt64) * (own_p10 (0 + nD - 1 - qx9)))))]
            obtain ⟨vl, e_vl⟩ : ∃ z, z = (((uu % (own_p10 nD)) - (((own_d10 uu (0 + nD - 1 - qx9)).toInt64) * (own_p10 (0 + nD - 1 - qx9)))) + (((cc - (48 : Int32)).toInt64) * (own_p10 (0 + nD - 1 - qx9)))) := ⟨_, rfl⟩
            rw [show (((uu % (own_p10 nD)) - (((own_d10 uu (0 + nD - 1 - qx9)).toInt64) * (own_p10 (0 + nD - 1 - qx9)))) + (((cc - (48 : Int32)).toInt64) * (own_p10 (0 + nD - 1 - qx9)))) = vl from e_vl.symm]
            have hvl : vl.toInt = (((U % 10 ^ nD : Nat) : Int) + (cc.toInt - 48 - ((U / 10 ^ (0 + nD - 1 - qx9) % 10 : Nat) : Int)) * ((10 ^ (0 + nD - 1 - qx9) : Nat) : Int)) := (by rw [e_vl]; have z_ := own_VC (c := cc) (k := 0 + nD - 1 - qx9) hU (by omega : nD < 12) (by omega) hcc.1 hcc.2; exact z_.1)
            refine own_st (fun t_ k_ => XS.lstore X301.here hx rfl (hb hby at_499) rfl (l' := #[oJ p0, oS, oI p1, oI p2, oI p3, oI p4, oJ uu, oS, oI dg, oI (0 : Int32), oI xb, oI ps, oI cc, oI ln, oR b255, oI (1 : Int32), oI qq, oR b289, oR o_293, oJ (uu % (own_p10 nD)), oS, oI (1 : Int32), oI (cc - (48 : Int32)), oI (1 : Int32), oJ vl, oS, oI ((ln - (1 : Int32)) - qq), oJ (own_p10 (0 + nD - 1 - qx9)), oS, oJ vl, oS]) rfl (XS.goto X301.here hx rfl (pc0 := 501) (pc' := 562) rfl (hb hby at_501) (by decide) (by decide) k_)) ?_
            show own_at p e below _ T301 m 562 #[oJ p0, oS, oI p1, oI p2, oI p3, oI p4, oJ uu, oS, oI dg, oI (0 : Int32), oI xb, oI ps, oI cc, oI ln, oR b255, oI (1 : Int32), oI qq, oR b289, oR o_293, oJ (uu % (own_p10 nD)), oS, oI (1 : Int32), oI (cc - (48 : Int32)), oI (1 : Int32), oJ vl, oS, oI ((ln - (1 : Int32)) - qq), oJ (own_p10 (0 + nD - 1 - qx9)), oS, oJ vl, oS] []
            exact j562 _ _ _ _ _ _ _ _ _ _ _ _ _ _ _ _ _ _ _ _ _ _ _ _ _ _ _ _ _ _ _ _ _ _ _ _ _ _ _ hZ hown S293 X301 rfl N301 K301 C301 kk301 (by decide) (by decide) ((((((f291.keep Kq292 (allS ge289 all0)).keep Kq293 all0).keep Kq294 all0).keep Kq300 all0).keep Kq301 all0)) ((((P293_0.keep Kq294).keep Kq300).keep Kq301)) ((((P293_1.keep Kq294 nin0).keep Kq300 nin0).keep Kq301 nin0)) ((((P293_2.keep Kq294 nin0).keep Kq300 nin0).keep Kq301 nin0)) (One.val rfl) (Or.inr rfl) (by rw [hiff, hvl]; exact ⟨fun z_ => ⟨rfl, z_.2⟩, fun z_ => ⟨(by omega), z_.2⟩⟩) (fun _ => by rw [hpvE, hvl]) P293_3
      have h220 := mt (own_ltp (by decide : (0 : Int32).toInt = ((0 : Nat) : Int)) hln).mpr c220_287
      refine own_st (fun t_ k_ => XS.ifYes X266.here hx rfl (pc0 := 220) (pc' := 227) rfl (hb hby at_220) rfl ((if0 _ _).trans (flt c220_287).2.2.2) (by decide) (by decide) (XS.iconst X266.here hx rfl (hb hby at_227) (XS.istore X266.here hx rfl (hb hby at_228) rfl (l' := #[oJ p0, oS, oI p1, oI p2, oI p3, oI p4, oJ uu, oS, oI dg, oI (0 : Int32), oI xb, oI ps, oI cc, oI ln, oR b255, oI (0 : Int32), oU, oU, oU, oU, oU, oU, oU, oU, oU, oU, oU, oU, oU, oU, oU]) rfl (XS.iload X266.here hx rfl (hb hby at_230) rfl (XS.ifYes X266.here hx rfl (pc0 := 232) (pc' := 243) rfl (hb hby at_232) rfl ((if0 _ _).trans (teq (by decide : (0 : Int32) = (0 : Int32))).1) (by decide) (by decide) (XS.iconst X266.here hx rfl (hb hby at_243) k_)))))) ?_
      show own_at p e below _ T266 m 244 #[oJ p0, oS, oI p1, oI p2, oI p3, oI p4, oJ uu, oS, oI dg, oI (0 : Int32), oI xb, oI ps, oI cc, oI ln, oR b255, oI (0 : Int32), oU, oU, oU, oU, oU, oU, oU, oU, oU, oU, oU, oU, oU, oU, oU] [(.int (0 : Int32))]
      refine own_st (fun t_ k_ => XS.istore X266.here hx rfl (hb hby at_244) rfl (l' := #[oJ p0, oS, oI p1, oI p2, oI p3, oI p4, oJ uu, oS, oI dg, oI (0 : Int32), oI xb, oI ps, oI cc, oI ln, oR b255, oI (0 : Int32), oI (0 : Int32), oU, oU, oU, oU, oU, oU, oU, oU, oU, oU, oU, oU, oU, oU]) rfl (XS.iload X266.here hx rfl (hb hby at_246) rfl (XS.ifYes X266.here hx rfl (pc0 := 248) (pc' := 258) rfl (hb hby at_248) rfl ((if0 _ _).trans (teq (by decide : (0 : Int32) = (0 : Int32))).1) (by decide) (by decide) k_))) ?_
      show own_at p e below _ T266 m 258 #[oJ p0, oS, oI p1, oI p2, oI p3, oI p4, oJ uu, oS, oI dg, oI (0 : Int32), oI xb, oI ps, oI cc, oI ln, oR b255, oI (0 : Int32), oI (0 : Int32), oU, oU, oU, oU, oU, oU, oU, oU, oU, oU, oU, oU, oU, oU] []
      obtain ⟨cs, e_cs⟩ : ∃ f_ : Nat → Int32, f_ = c0 := ⟨_, rfl⟩
      have Acs : own_A Z T266.heap b255 k255 .char (0 + nD) (fun i => .int (cs i)) := by rw [e_cs]; exact Ac0
      have hall : ∀ q : Nat, q < 0 + nD → 0 ≤ (cs q).toInt ∧ (cs q).toInt ≤ 65535 := fun q hq => own_char (Acs.fit hq)
      rcases Nat.eq_zero_or_pos nD with hn0 | hn0
      · skip
        have Az : own_A Z T266.heap b255 k255 .char 0 (fun i => .int (cs i)) := by have z_ := Acs; rw [hn0] at z_; exact z_
        have hall : ∀ q : Nat, q < 0 → 0 ≤ (cs q).toInt ∧ (cs q).toInt ≤ 65535 := fun q hq => absurd hq (Nat.not_lt_zero _)
        obtain ⟨T304, h304, X304, e304, E304, A304, D304, -, st304⟩ := newO X266 hx hZ hown (own_w hw 25 rfl) (own_w hw 26 rfl) (own_w hw 27 rfl) rfl (g := (mkF m 258 #[oJ p0, oS, oI p1, oI p2, oI p3, oI p4, oJ uu, oS, oI dg, oI (0 : Int32), oI xb, oI ps, oI cc, oI ln, oR b255, oI (0 : Int32), oI (0 : Int32), oU, oU, oU, oU, oU, oU, oU, oU, oU, oU, oU, oU, oU, oU] [])) rfl (hb hby at_258) (by decide) (by decide)
        obtain ⟨b304, g304⟩ : ∃ z, z = T266.heap.size := ⟨_, rfl⟩
        rw [← g304] at A304 D304 st304
        have fr304 : h0.size ≤ b304 := Nat.le_trans K266.1 (Nat.le_of_eq g304.symm)
        have ge304 : n0 ≤ b304 := Nat.le_trans Z0 fr304
        have K304 : Keep h0 h304 [] := K266.ext E304
        have c304 : CHr Z own_EL _ T266.heap _ h304 := CHr.ext E304 C266.1
        have C304 := C266.trans c304
        have kk304 := Nat.le_trans kk266 c304.2.1
        have Sf304_b304 : Safe Z own_EL _ h304 b304 := Safe.ext E304 C266.1 (Safe.new (Nat.le_of_eq g304.symm))
        have F304_51 : Fld Z h304 b304 "java/lang/String" "coder" "B" (.int (0 : Int32)) := D304 (Or.inr (own_w hw 51 rfl)) (ty := .byte) (by decide)
        have F304_53 : Fld Z h304 b304 "java/lang/String" "value" "[B" .null := D304 (Or.inr (own_w hw 53 rfl)) (ty := (.array .byte)) (by decide)
        refine own_st (st304) ?_
        refine own_st (fun t_ k_ => XS.dup X304.here hx rfl (hb hby at_261) rfl rfl (XS.aload X304.here hx rfl (hb hby at_262) rfl rfl k_)) ?_
        show own_at p e below _ T304 m 264 #[oJ p0, oS, oI p1, oI p2, oI p3, oI p4, oJ uu, oS, oI dg, oI (0 : Int32), oI xb, oI ps, oI cc, oI ln, oR b255, oI (0 : Int32), oI (0 : Int32), oU, oU, oU, oU, oU, oU, oU, oU, oU, oU, oU, oU, oU, oU] [(.ref b255), (.ref b304), (.ref b304)]
        obtain ⟨_, _, ⟨T305, L305, k305, n305⟩, -, X305, Sq305, gq305, ⟨Lc305, hQ305, l305, y305, z305, c305⟩, st305⟩ := X304.specialBackS hx (y := own_n9) rfl hown (mvT hZ (own_w hw 28 rfl)) (mvT hZ (own_w hw 29 rfl)) (mvT hZ (own_w hw 30 rfl)) (by decide) (own_backSH (W := 1) (own_rm4e l Z a0 hw [] b304 b255 k255 cs h304 n0 (Nat.le_trans Z0 K304.1) A304 F304_53 F304_51 (Az.ext E304) ge304) hZ (own_w hw 30 rfl) (own_w hw 27 rfl) (by decide) (by decide) (own_hEL hw) C304.1 (own_slS ⟨A304.lt, Sf304_b304⟩ own_sl0)) (g := (mkF m 264 #[oJ p0, oS, oI p1, oI p2, oI p3, oI p4, oJ uu, oS, oI dg, oI (0 : Int32), oI xb, oI ps, oI cc, oI ln, oR b255, oI (0 : Int32), oI (0 : Int32), oU, oU, oU, oU, oU, oU, oU, oU, oU, oU, oU, oU, oU, oU] [(.ref b255), (.ref b304), (.ref b304)])) rfl (by rw [hml]; rfl) (Steps.refl _) (a := b304) (argsL := [(.ref b255)]) (rest := [(.ref b304)]) (lenOf own_pd25 rfl) rfl (own_hW rfl) (hb hby at_264) (fun _ _ => ⟨rfl, e304, (by decide : 13 + 4 ≤ _), (by decide : 148 + 8 ≤ _)⟩)
        dsimp only [Pt.U, Pt.locs, Pt.cells, Pt.slots] at X305 l305 y305 z305 st305 hQ305 Sq305 gq305 c305
        subst y305 z305
        obtain ⟨t_305, kt_305, rfl, N305q, Kq305, P305_0, P305_1, P305_2⟩ := hQ305
        have N305 : Fr n0 L305 := by rw [l305]; exact Fr.app N266 N305q
        have S305 := foldS S0 (by rw [e304]; exact kk304) Sq305 gq305
        have X305 := (show Stand p l e _ (s.setVm T305.vm) m _ below meth c T305 L305 _ _ from X305)
        have hZ : Z.Warmed39 (s.setVm T305.vm).vm := State.Warmed39.trans (t := s.setVm s.vm) hZ Sq305.1
        have hown : (s.setVm T305.vm).vm.findClass "com/example/marshalyard/marshalyard/engine/DecimalIntegerParsePinLaw" = some m.cls := by rw [show (s.setVm T305.vm).vm = T305.vm from rfl, Sq305.1.alike.findClass]; exact hown
        have kk305 := Nat.le_refl T305.heap.size
        have K305 : Keep h0 T305.heap [] := K304.trans Kq305 (allS (P := fun x => x ∈ [] ∨ h0.size ≤ x) (Or.inr fr304) all0)
        have C305 := C304.trans c305
        refine own_tr st305 ?_
        have hcd305 : ((0 : Int32) = 0 ∧ ∀ q : Nat, q < 0 → ¬ (255 : Int32) < cs q) ∨ (0 : Int32) = 1 := Or.inl ⟨rfl, fun q hq => absurd hq (Nat.not_lt_zero _)⟩
        refine own_st (fun t_ k_ => XS.astore X305.here hx rfl (hb hby at_267) rfl rfl (l' := #[oJ p0, oS, oI p1, oI p2, oI p3, oI p4, oJ uu, oS, oI dg, oI (0 : Int32), oI xb, oI ps, oI cc, oI ln, oR b255, oI (0 : Int32), oI (0 : Int32), oR b304, oU, oU, oU, oU, oU, oU, oU, oU, oU, oU, oU, oU, oU]) rfl (XS.aload X305.here hx rfl (hb hby at_269) rfl rfl (XS.iload X305.here hx rfl (hb hby at_271) rfl (XS.iload X305.here hx rfl (hb hby at_273) rfl k_)))) ?_
        show own_at p e below _ T305 m 275 #[oJ p0, oS, oI p1, oI p2, oI p3, oI p4, oJ uu, oS, oI dg, oI (0 : Int32), oI xb, oI ps, oI cc, oI ln, oR b255, oI (0 : Int32), oI (0 : Int32), oR b304, oU, oU, oU, oU, oU, oU, oU, oU, oU, oU, oU, oU, oU] [(.int p4), (.int p3), (.ref b304)]
        have f306 : Old Z n0 T305.heap := ((((((((((((((q0.ext E255).keep Kq256 (allS ge255 all0)).keep Kq257 (allS ge255 all0)).keep Kq258 (allS ge255 all0)).keep Kq259 (allS ge255 all0)).keep Kq260 (allS ge255 all0)).keep Kq261 (allS ge255 all0)).keep Kq262 (allS ge255 all0)).keep Kq263 (allS ge255 all0)).keep Kq264 (allS ge255 all0)).keep Kq265 (allS ge255 all0)).keep Kq266 (allS ge255 all0)).ext E304).keep Kq305 (allS ge304 all0))
        obtain ⟨_, _, ⟨T307, L307, k307, n307⟩, -, X307, Sq307, gq307, ⟨Lc307, hQ307, l307, y307, z307, c307⟩, st307⟩ := callSS X305 hx (y := own_n31) hown (mvT hZ (own_w hw 54 rfl)) (mvT hZ (own_w hw 55 rfl)) (mvT hZ (own_w hw 56 rfl)) (mvT hZ (own_w hw 57 rfl)) (by decide) (own_backSH (W := 0) (own_rm10 l Z a0 hw [] b304 p3 p4 t_305 kt_305 (0 : Int32) 0 cs G1 G3 aE T305.heap n0 (Nat.le_trans Z0 K305.1) (A304.keep Kq305) P305_0 P305_1 P305_2 hcd305 f306 q1 hG1 q3 rG3 q5 q6 q7 q8 q9 q10 q11 (by omega) hall) hZ (own_w hw 57 rfl) (own_w hw 56 rfl) (by decide) (by decide) (own_hEL hw) C305.1 own_sl0) (g := (mkF m 275 #[oJ p0, oS, oI p1, oI p2, oI p3, oI p4, oJ uu, oS, oI dg, oI (0 : Int32), oI xb, oI ps, oI cc, oI ln, oR b255, oI (0 : Int32), oI (0 : Int32), oR b304, oU, oU, oU, oU, oU, oU, oU, oU, oU, oU, oU, oU, oU] [(.int p4), (.int p3), (.ref b304)])) rfl (by rw [hml]; rfl) (argsL := [(.ref b304), (.int p3), (.int p4)]) (rest := []) (lenOf own_pd26 rfl) rfl (own_hW rfl) (hb hby at_275) (fun _ _ => ⟨rfl, rfl, (by decide : 17 + 3 ≤ _), (by decide : 156 + 10 ≤ _)⟩)
        dsimp only [Pt.U, Pt.locs, Pt.cells, Pt.slots] at X307 l307 y307 z307 st307 hQ307 Sq307 gq307 c307
        subst y307 z307
        obtain ⟨o_307, pz_307, vz_307, rfl, N307q, Kq307, P307_0, P307_1, P307_2, P307_3⟩ := hQ307
        have N307 : Fr n0 L307 := by rw [l307]; exact Fr.app N305 N307q
        have S307 := foldS S305 (kk305) Sq307 gq307
        have X307 := (show Stand p l e _ (s.setVm T307.vm) m _ below meth c T307 L307 _ _ from X307)
        have hZ : Z.Warmed39 (s.setVm T307.vm).vm := State.Warmed39.trans (t := s.setVm T305.vm) hZ Sq307.1
        have hown : (s.setVm T307.vm).vm.findClass "com/example/marshalyard/marshalyard/engine/DecimalIntegerParsePinLaw" = some m.cls := by rw [show (s.setVm T307.vm).vm = T307.vm from rfl, Sq307.1.alike.findClass]; exact hown
        have kk307 := Nat.le_refl T307.heap.size
        have K307 : Keep h0 T307.heap [] := K305.trans Kq307 all0
        have C307 := C305.trans c307
        refine own_tr st307 ?_
        refine own_st (fun t_ k_ => XS.astore X307.here hx rfl (hb hby at_278) rfl rfl (l' := #[oJ p0, oS, oI p1, oI p2, oI p3, oI p4, oJ uu, oS, oI dg, oI (0 : Int32), oI xb, oI ps, oI cc, oI ln, oR b255, oI (0 : Int32), oI (0 : Int32), oR b304, oR o_307, oU, oU, oU, oU, oU, oU, oU, oU, oU, oU, oU, oU]) rfl (XS.lload X307.here hx rfl (hb hby at_280) rfl (XS.iload X307.here hx rfl (hb hby at_282) rfl k_))) ?_
        show own_at p e below _ T307 m 284 #[oJ p0, oS, oI p1, oI p2, oI p3, oI p4, oJ uu, oS, oI dg, oI (0 : Int32), oI xb, oI ps, oI cc, oI ln, oR b255, oI (0 : Int32), oI (0 : Int32), oR b304, oR o_307, oU, oU, oU, oU, oU, oU, oU, oU, oU, oU, oU, oU] [(.int dg), (.long uu)]
        obtain ⟨_, _, ⟨T308, L308, k308, n308⟩, -, X308, ⟨Lc308, hQ308, l308, y308, z308⟩, st308⟩ := Jvm.LawKit.callS X307 hx (y := own_n18) hown (mvT hZ (own_w hw 10 rfl)) (mvT hZ (own_w hw 11 rfl)) (mvT hZ (own_w hw 5 rfl)) (mvT hZ (own_w hw 12 rfl)) (by decide) (backOf (W := 2) (own_rm3 l Z a0 hw [] dg nD T307.heap n0 (Nat.le_trans Z0 K307.1) ⟨hD.1, (by omega)⟩) hZ (own_w hw 12 rfl) (own_w hw 5 rfl) (by decide) (by decide)) (g := (mkF m 284 #[oJ p0, oS, oI p1, oI p2, oI p3, oI p4, oJ uu, oS, oI dg, oI (0 : Int32), oI xb, oI ps, oI cc, oI ln, oR b255, oI (0 : Int32), oI (0 : Int32), oR b304, oR o_307, oU, oU, oU, oU, oU, oU, oU, oU, oU, oU, oU, oU] [(.int dg), (.long uu)])) rfl (by rw [hml]; rfl) (argsL := [(.int dg)]) (rest := [(.long uu)]) (lenOf own_pd13 rfl) rfl (own_hW rfl) (hb hby at_284) (fun _ _ => ⟨rfl, rfl, (by decide : 20 + 1 ≤ _), (by decide : 166 + 12 ≤ _)⟩)
        dsimp only [Pt.U, Pt.locs, Pt.cells, Pt.slots] at X308 l308 y308 z308 st308 hQ308
        subst y308 z308
        obtain ⟨rfl, N308q, Kq308⟩ := hQ308
        have N308 : Fr n0 L308 := by rw [l308]; exact Fr.app N307 N308q
        have K308 : Keep h0 T308.heap [] := K307.trans Kq308 all0
        have c308 : CHr Z own_EL _ T307.heap _ T308.heap := CHr.keep Kq308 own_sl0 C307.1
        have C308 := C307.trans c308
        have kk308 := Nat.le_trans kk307 c308.2.1
        refine own_st (st308) ?_
        show own_at p e below _ T308 m 287 #[oJ p0, oS, oI p1, oI p2, oI p3, oI p4, oJ uu, oS, oI dg, oI (0 : Int32), oI xb, oI ps, oI cc, oI ln, oR b255, oI (0 : Int32), oI (0 : Int32), oR b304, oR o_307, oU, oU, oU, oU, oU, oU, oU, oU, oU, oU, oU, oU] [(.long (own_p10 nD)), (.long uu)]
        refine own_st (fun t_ k_ => own_lrem X308 hx rfl (hb hby at_287) rfl (own_p10z (by omega)) k_) ?_
        refine own_st (fun t_ k_ => XS.lstore X308.here hx rfl (hb hby at_288) rfl (l' := #[oJ p0, oS, oI p1, oI p2, oI p3, oI p4, oJ uu, oS, oI dg, oI (0 : Int32), oI xb, oI ps, oI cc, oI ln, oR b255, oI (0 : Int32), oI (0 : Int32), oR b304, oR o_307, oJ (uu % (own_p10 nD)), oS, oU, oU, oU, oU, oU, oU, oU, oU, oU, oU]) rfl k_) ?_
        show own_at p e below _ T308 m 290 #[oJ p0, oS, oI p1, oI p2, oI p3, oI p4, oJ uu, oS, oI dg, oI (0 : Int32), oI xb, oI ps, oI cc, oI ln, oR b255, oI (0 : Int32), oI (0 : Int32), oR b304, oR o_307, oJ (uu % (own_p10 nD)), oS, oU, oU, oU, oU, oU, oU, oU, oU, oU, oU] []
        have j309 : ∀ xd : Int32, own_at p e below (own_PW below s Z own_EL (own_Q0 Z p0 p1 p2 p3 p4 G1 G3 aE h0 n0) room_1.cells room_1.slots) T308 m 309 #[oJ p0, oS, oI p1, oI p2, oI p3, oI p4, oJ uu, oS, oI dg, oI (0 : Int32), oI xb, oI ps, oI cc, oI ln, oR b255, oI (0 : Int32), oI (0 : Int32), oR b304, oR o_307, oJ (uu % (own_p10 nD)), oS, oU, oU, oU, oU, oU, oU, oU, oU, oU, oU] [(.int xd)] := by
          intro xd
          have hk : own_swn cs 0 = 0 ∧ (own_okd cs 0 0 ↔ 1 ≤ 0 ∧ 0 ≤ 10) ∧ own_vl cs 0 (0 - 0) = ((U % 10 ^ 0 : Nat) : Int) := own_kA (s := 0) (n := 0) (cs := cs) (by decide) (fun z_ => absurd z_ (by decide)) (fun q _ h2_ => absurd h2_ (Nat.not_lt_zero _))
          have hiff := own_gA (mn := p3) (mx := p4) hk
          have hiff : own_good cs 0 p3 p4 ↔ (1 ≤ 0 ∧ 0 ≤ 10) ∧ p3.toInt ≤ ((U % 10 ^ 0 : Nat) : Int) ∧ ((U % 10 ^ 0 : Nat) : Int) ≤ p4.toInt := hiff
          have hpvE : own_pv cs (own_swn cs 0) 0 = ((U % 10 ^ 0 : Nat) : Int) := own_pvE hk
          refine own_st (fun t_ k_ => XS.istore X308.here hx rfl (hb hby at_309) rfl (l' := #[oJ p0, oS, oI p1, oI p2, oI p3, oI p4, oJ uu, oS, oI dg, oI (0 : Int32), oI xb, oI ps, oI cc, oI ln, oR b255, oI (0 : Int32), oI (0 : Int32), oR b304, oR o_307, oJ (uu % (own_p10 nD)), oS, oI xd, oU, oU, oU, oU, oU, oU, oU, oU, oU]) rfl (XS.iload X308.here hx rfl (hb hby at_311) rfl (XS.bipush X308.here hx rfl (hb hby at_313) (XS.isub X308.here hx rfl (hb hby at_315) rfl (XS.istore X308.here hx rfl (hb hby at_316) rfl (l' := #[oJ p0, oS, oI p1, oI p2, oI p3, oI p4, oJ uu, oS, oI dg, oI (0 : Int32), oI xb, oI ps, oI cc, oI ln, oR b255, oI (0 : Int32), oI (0 : Int32), oR b304, oR o_307, oJ (uu % (own_p10 nD)), oS, oI xd, oI (cc - (48 : Int32)), oU, oU, oU, oU, oU, oU, oU, oU]) rfl (XS.iload X308.here hx rfl (hb hby at_318) rfl k_)))))) ?_
          show own_at p e below _ T308 m 320 #[oJ p0, oS, oI p1, oI p2, oI p3, oI p4, oJ uu, oS, oI dg, oI (0 : Int32), oI xb, oI ps, oI cc, oI ln, oR b255, oI (0 : Int32), oI (0 : Int32), oR b304, oR o_307, oJ (uu % (own_p10 nD)), oS, oI xd, oI (cc - (48 : Int32)), oU, oU, oU, oU, oU, oU, oU, oU] [(.int (0 : Int32))]
          refine own_st (fun t_ k_ => XS.ifYes X308.here hx rfl (pc0 := 320) (pc' := 337) rfl (hb hby at_320) rfl ((if0 _ _).trans (teq (by decide : (0 : Int32) = (0 : Int32))).1) (by decide) (by decide) (XS.iload X308.here hx rfl (hb hby at_337) rfl (XS.iconst X308.here hx rfl (hb hby at_339) k_))) ?_
          show own_at p e below _ T308 m 340 #[oJ p0, oS, oI p1, oI p2, oI p3, oI p4, oJ uu, oS, oI dg, oI (0 : Int32), oI xb, oI ps, oI cc, oI ln, oR b255, oI (0 : Int32), oI (0 : Int32), oR b304, oR o_307, oJ (uu % (own_p10 nD)), oS, oI xd, oI (cc - (48 : Int32)), oU, oU, oU, oU, oU, oU, oU, oU] [(.int (1 : Int32)), (.int dg)]
          by_cases c340_309 : dg < (1 : Int32)
          · skip
            have rlo_340 := (own_ltp hD.1 (by decide : (1 : Int32).toInt = ((1 : Nat) : Int))).mp c340_309
            refine own_st (fun t_ k_ => XS.icmpYes X308.here hx rfl (pc0 := 340) (pc' := 354) rfl (hb hby at_340) rfl (tlt c340_309).1 (by decide) (by decide) (XS.iconst X308.here hx rfl (hb hby at_354) (XS.istore X308.here hx rfl (hb hby at_355) rfl (l' := #[oJ p0, oS, oI p1, oI p2, oI p3, oI p4, oJ uu, oS, oI dg, oI (0 : Int32), oI xb, oI ps, oI cc, oI ln, oR b255, oI (0 : Int32), oI (0 : Int32), oR b304, oR o_307, oJ (uu % (own_p10 nD)), oS, oI xd, oI (cc - (48 : Int32)), oI (0 : Int32), oU, oU, oU, oU, oU, oU, oU]) rfl (XS.iload X308.here hx rfl (hb hby at_357) rfl (XS.iconst X308.here hx rfl (hb hby at_359) (XS.icmpYes X308.here hx rfl (pc0 := 360) (pc' := 369) rfl (hb hby at_360) rfl (feq (by decide : ¬ ((0 : Int32) = (1 : Int32)))).2 (by decide) (by decide) k_)))))) ?_
            show own_at p e below _ T308 m 369 #[oJ p0, oS, oI p1, oI p2, oI p3, oI p4, oJ uu, oS, oI dg, oI (0 : Int32), oI xb, oI ps, oI cc, oI ln, oR b255, oI (0 : Int32), oI (0 : Int32), oR b304, oR o_307, oJ (uu % (own_p10 nD)), oS, oI xd, oI (cc - (48 : Int32)), oI (0 : Int32), oU, oU, oU, oU, oU, oU, oU] []
            refine own_st (fun t_ k_ => XS.lload X308.here hx rfl (hb hby at_369) rfl k_) ?_
            show own_at p e below _ T308 m 371 #[oJ p0, oS, oI p1, oI p2, oI p3, oI p4, oJ uu, oS, oI dg, oI (0 : Int32), oI xb, oI ps, oI cc, oI ln, oR b255, oI (0 : Int32), oI (0 : Int32), oR b304, oR o_307, oJ (uu % (own_p10 nD)), oS, oI xd, oI (cc - (48 : Int32)), oI (0 : Int32), oU, oU, oU, oU, oU, oU, oU] [(.long (uu % (own_p10 nD)))]
            obtain ⟨vl, e_vl⟩ : ∃ z, z = (uu % (own_p10 nD)) := ⟨_, rfl⟩
            rw [show (uu % (own_p10 nD)) = vl from e_vl.symm]
            have hvl : vl.toInt = ((U % 10 ^ 0 : Nat) : Int) := (by rw [e_vl]; have z_ := (own_low hU (by omega : nD < 12)); have y_ : U % 10 ^ nD = U % 10 ^ 0 := (by rw [hn0]); omega)
            refine own_st (fun t_ k_ => XS.lstore X308.here hx rfl (hb hby at_371) rfl (l' := #[oJ p0, oS, oI p1, oI p2, oI p3, oI p4, oJ uu, oS, oI dg, oI (0 : Int32), oI xb, oI ps, oI cc, oI ln, oR b255, oI (0 : Int32), oI (0 : Int32), oR b304, oR o_307, oJ vl, oS, oI xd, oI (cc - (48 : Int32)), oI (0 : Int32), oJ vl, oS, oU, oU, oU, oU, oU]) rfl (XS.goto X308.here hx rfl (pc0 := 373) (pc' := 562) rfl (hb hby at_373) (by decide) (by decide) k_)) ?_
            show own_at p e below _ T308 m 562 #[oJ p0, oS, oI p1, oI p2, oI p3, oI p4, oJ uu, oS, oI dg, oI (0 : Int32), oI xb, oI ps, oI cc, oI ln, oR b255, oI (0 : Int32), oI (0 : Int32), oR b304, oR o_307, oJ vl, oS, oI xd, oI (cc - (48 : Int32)), oI (0 : Int32), oJ vl, oS, oU, oU, oU, oU, oU] []
            have hgd : ¬ own_good cs 0 p3 p4 := fun z_ => by have y_ := (hiff.mp z_).1; omega
            exact j562 _ _ _ _ _ _ _ _ _ _ _ _ _ _ _ _ _ _ _ _ _ _ _ _ _ _ _ _ _ _ _ _ _ _ _ _ _ _ _ hZ hown S307 X308 rfl N308 K308 C308 kk308 (by decide) (by decide) (((f306.keep Kq307 all0).keep Kq308 all0)) ((P307_0.keep Kq308)) ((P307_1.keep Kq308 nin0)) ((P307_2.keep Kq308 nin0)) One.u (Or.inl rfl) ⟨fun z_ => absurd z_ hgd, fun z_ => absurd z_.1 (by decide)⟩ (fun z_ => absurd z_ hgd) P307_3
          have rlo_340 := mt (own_ltp hD.1 (by decide : (1 : Int32).toInt = ((1 : Nat) : Int))).mpr c340_309
          refine own_st (fun t_ k_ => XS.icmpNo X308.here hx rfl (hb hby at_340) rfl (flt c340_309).1 (XS.iload X308.here hx rfl (hb hby at_343) rfl (XS.bipush X308.here hx rfl (hb hby at_345) k_))) ?_
          show own_at p e below _ T308 m 347 #[oJ p0, oS, oI p1, oI p2, oI p3, oI p4, oJ uu, oS, oI dg, oI (0 : Int32), oI xb, oI ps, oI cc, oI ln, oR b255, oI (0 : Int32), oI (0 : Int32), oR b304, oR o_307, oJ (uu % (own_p10 nD)), oS, oI xd, oI (cc - (48 : Int32)), oU, oU, oU, oU, oU, oU, oU, oU] [(.int (10 : Int32)), (.int dg)]
          by_cases c347_310 : (10 : Int32) < dg
          · skip
            have rhi_347 := (own_ltp (by decide : (10 : Int32).toInt = ((10 : Nat) : Int)) hD.1).mp c347_310
            refine own_st (fun t_ k_ => XS.icmpYes X308.here hx rfl (pc0 := 347) (pc' := 354) rfl (hb hby at_347) rfl (tlt c347_310).2.2.1 (by decide) (by decide) (XS.iconst X308.here hx rfl (hb hby at_354) (XS.istore X308.here hx rfl (hb hby at_355) rfl (l' := #[oJ p0, oS, oI p1, oI p2, oI p3, oI p4, oJ uu, oS, oI dg, oI (0 : Int32), oI xb, oI ps, oI cc, oI ln, oR b255, oI (0 : Int32), oI (0 : Int32), oR b304, oR o_307, oJ (uu % (own_p10 nD)), oS, oI xd, oI (cc - (48 : Int32)), oI (0 : Int32), oU, oU, oU, oU, oU, oU, oU]) rfl (XS.iload X308.here hx rfl (hb hby at_357) rfl (XS.iconst X308.here hx rfl (hb hby at_359) (XS.icmpYes X308.here hx rfl (pc0 := 360) (pc' := 369) rfl (hb hby at_360) rfl (feq (by decide : ¬ ((0 : Int32) = (1 : Int32)))).2 (by decide) (by decide) k_)))))) ?_
            show own_at p e below _ T308 m 369 #[oJ p0, oS, oI p1, oI p2, oI p3, oI p4, oJ uu, oS, oI dg, oI (0 : Int32), oI xb, oI ps, oI cc, oI ln, oR b255, oI (0 : Int32), oI (0 : Int32), oR b304, oR o_307, oJ (uu % (own_p10 nD)), oS, oI xd, oI (cc - (48 : Int32)), oI (0 : Int32), oU, oU, oU, oU, oU, oU, oU] []
            refine own_st (fun t_ k_ => XS.lload X308.here hx rfl (hb hby at_369) rfl k_) ?_
            show own_at p e below _ T308 m 371 #[oJ p0, oS, oI p1, oI p2, oI p3, oI p4, oJ uu, oS, oI dg, oI (0 : Int32), oI xb, oI ps, oI cc, oI ln, oR b255, oI (0 : Int32), oI (0 : Int32), oR b304, oR o_307, oJ (uu % (own_p10 nD)), oS, oI xd, oI (cc - (48 : Int32)), oI (0 : Int32), oU, oU, oU, oU, oU, oU, oU] [(.long (uu % (own_p10 nD)))]
            obtain ⟨vl, e_vl⟩ : ∃ z, z = (uu % (own_p10 nD)) := ⟨_, rfl⟩
            rw [show (uu % (own_p10 nD)) = vl from e_vl.symm]
            have hvl : vl.toInt = ((U % 10 ^ 0 : Nat) : Int) := (by rw [e_vl]; have z_ := (own_low hU (by omega : nD < 12)); have y_ : U % 10 ^ nD = U % 10 ^ 0 := (by rw [hn0]); omega)
            refine own_st (fun t_ k_ => XS.lstore X308.here hx rfl (hb hby at_371) rfl (l' := #[oJ p0, oS, oI p1, oI p2, oI p3, oI p4, oJ uu, oS, oI dg, oI (0 : Int32), oI xb, oI ps, oI cc, oI ln, oR b255, oI (0 : Int32), oI (0 : Int32), oR b304, oR o_307, oJ vl, oS, oI xd, oI (cc - (48 : Int32)), oI (0 : Int32), oJ vl, oS, oU, oU, oU, oU, oU]) rfl (XS.goto X308.here hx rfl (pc0 := 373) (pc' := 562) rfl (hb hby at_373) (by decide) (by decide) k_)) ?_
            show own_at p e below _ T308 m 562 #[oJ p0, oS, oI p1, oI p2, oI p3, oI p4, oJ uu, oS, oI dg, oI (0 : Int32), oI xb, oI ps, oI cc, oI ln, oR b255, oI (0 : Int32), oI (0 : Int32), oR b304, oR o_307, oJ vl, oS, oI xd, oI (cc - (48 : Int32)), oI (0 : Int32), oJ vl, oS, oU, oU, oU, oU, oU] []
            have hgd : ¬ own_good cs 0 p3 p4 := fun z_ => by have y_ := (hiff.mp z_).1; omega
            exact j562 _ _ _ _ _ _ _ _ _ _ _ _ _ _ _ _ _ _ _ _ _ _ _ _ _ _ _ _ _ _ _ _ _ _ _ _ _ _ _ hZ hown S307 X308 rfl N308 K308 C308 kk308 (by decide) (by decide) (((f306.keep Kq307 all0).keep Kq308 all0)) ((P307_0.keep Kq308)) ((P307_1.keep Kq308 nin0)) ((P307_2.keep Kq308 nin0)) One.u (Or.inl rfl) ⟨fun z_ => absurd z_ hgd, fun z_ => absurd z_.1 (by decide)⟩ (fun z_ => absurd z_ hgd) P307_3
          have rhi_347 := mt (own_ltp (by decide : (10 : Int32).toInt = ((10 : Nat) : Int)) hD.1).mpr c347_310
          refine own_st (fun t_ k_ => XS.icmpNo X308.here hx rfl (hb hby at_347) rfl (flt c347_310).2.2.1 (XS.iconst X308.here hx rfl (hb hby at_350) (XS.goto X308.here hx rfl (pc0 := 351) (pc' := 355) rfl (hb hby at_351) (by decide) (by decide) (XS.istore X308.here hx rfl (hb hby at_355) rfl (l' := #[oJ p0, oS, oI p1, oI p2, oI p3, oI p4, oJ uu, oS, oI dg, oI (0 : Int32), oI xb, oI ps, oI cc, oI ln, oR b255, oI (0 : Int32), oI (0 : Int32), oR b304, oR o_307, oJ (uu % (own_p10 nD)), oS, oI xd, oI (cc - (48 : Int32)), oI (1 : Int32), oU, oU, oU, oU, oU, oU, oU]) rfl (XS.iload X308.here hx rfl (hb hby at_357) rfl (XS.iconst X308.here hx rfl (hb hby at_359) k_)))))) ?_
          show own_at p e below _ T308 m 360 #[oJ p0, oS, oI p1, oI p2, oI p3, oI p4, oJ uu, oS, oI dg, oI (0 : Int32), oI xb, oI ps, oI cc, oI ln, oR b255, oI (0 : Int32), oI (0 : Int32), oR b304, oR o_307, oJ (uu % (own_p10 nD)), oS, oI xd, oI (cc - (48 : Int32)), oI (1 : Int32), oU, oU, oU, oU, oU, oU, oU] [(.int (1 : Int32)), (.int (0 : Int32))]
          refine own_st (fun t_ k_ => XS.icmpYes X308.here hx rfl (pc0 := 360) (pc' := 369) rfl (hb hby at_360) rfl (feq (by decide : ¬ ((0 : Int32) = (1 : Int32)))).2 (by decide) (by decide) (XS.lload X308.here hx rfl (hb hby at_369) rfl k_)) ?_
          show own_at p e below _ T308 m 371 #[oJ p0, oS, oI p1, oI p2, oI p3, oI p4, oJ uu, oS, oI dg, oI (0 : Int32), oI xb, oI ps, oI cc, oI ln, oR b255, oI (0 : Int32), oI (0 : Int32), oR b304, oR o_307, oJ (uu % (own_p10 nD)), oS, oI xd, oI (cc - (48 : Int32)), oI (1 : Int32), oU, oU, oU, oU, oU, oU, oU] [(.long (uu % (own_p10 nD)))]
          obtain ⟨vl, e_vl⟩ : ∃ z, z = (uu % (own_p10 nD)) := ⟨_, rfl⟩
          rw [show (uu % (own_p10 nD)) = vl from e_vl.symm]
          have hvl : vl.toInt = ((U % 10 ^ 0 : Nat) : Int) := (by rw [e_vl]; have z_ := (own_low hU (by omega : nD < 12)); have y_ : U % 10 ^ nD = U % 10 ^ 0 := (by rw [hn0]); omega)
          refine own_st (fun t_ k_ => XS.lstore X308.here hx rfl (hb hby at_371) rfl (l' := #[oJ p0, oS, oI p1, oI p2, oI p3, oI p4, oJ uu, oS, oI dg, oI (0 : Int32), oI xb, oI ps, oI cc, oI ln, oR b255, oI (0 : Int32), oI (0 : Int32), oR b304, oR o_307, oJ vl, oS, oI xd, oI (cc - (48 : Int32)), oI (1 : Int32), oJ vl, oS, oU, oU, oU, oU, oU]) rfl (XS.goto X308.here hx rfl (pc0 := 373) (pc' := 562) rfl (hb hby at_373) (by decide) (by decide) k_)) ?_
          show own_at p e below _ T308 m 562 #[oJ p0, oS, oI p1, oI p2, oI p3, oI p4, oJ uu, oS, oI dg, oI (0 : Int32), oI xb, oI ps, oI cc, oI ln, oR b255, oI (0 : Int32), oI (0 : Int32), oR b304, oR o_307, oJ vl, oS, oI xd, oI (cc - (48 : Int32)), oI (1 : Int32), oJ vl, oS, oU, oU, oU, oU, oU] []
          exact j562 _ _ _ _ _ _ _ _ _ _ _ _ _ _ _ _ _ _ _ _ _ _ _ _ _ _ _ _ _ _ _ _ _ _ _ _ _ _ _ hZ hown S307 X308 rfl N308 K308 C308 kk308 (by decide) (by decide) (((f306.keep Kq307 all0).keep Kq308 all0)) ((P307_0.keep Kq308)) ((P307_1.keep Kq308 nin0)) ((P307_2.keep Kq308 nin0)) One.u (Or.inr rfl) (by rw [hiff, hvl]; exact ⟨fun z_ => ⟨rfl, z_.2⟩, fun z_ => ⟨(by omega), z_.2⟩⟩) (fun _ => by rw [hpvE, hvl]) P307_3
        refine own_st (fun t_ k_ => XS.iload X308.here hx rfl (hb hby at_290) rfl (XS.bipush X308.here hx rfl (hb hby at_292) k_)) ?_
        show own_at p e below _ T308 m 294 #[oJ p0, oS, oI p1, oI p2, oI p3, oI p4, oJ uu, oS, oI dg, oI (0 : Int32), oI xb, oI ps, oI cc, oI ln, oR b255, oI (0 : Int32), oI (0 : Int32), oR b304, oR o_307, oJ (uu % (own_p10 nD)), oS, oU, oU, oU, oU, oU, oU, oU, oU, oU, oU] [(.int (48 : Int32)), (.int cc)]
        by_cases c294_311 : cc < (48 : Int32)
        · skip
          refine own_st (fun t_ k_ => XS.icmpYes X308.here hx rfl (pc0 := 294) (pc' := 308) rfl (hb hby at_294) rfl (tlt c294_311).1 (by decide) (by decide) (XS.iconst X308.here hx rfl (hb hby at_308) k_)) ?_
          show own_at p e below _ T308 m 309 #[oJ p0, oS, oI p1, oI p2, oI p3, oI p4, oJ uu, oS, oI dg, oI (0 : Int32), oI xb, oI ps, oI cc, oI ln, oR b255, oI (0 : Int32), oI (0 : Int32), oR b304, oR o_307, oJ (uu % (own_p10 nD)), oS, oU, oU, oU, oU, oU, oU, oU, oU, oU, oU] [(.int (0 : Int32))]
          exact j309 _
        refine own_st (fun t_ k_ => XS.icmpNo X308.here hx rfl (hb hby at_294) rfl (flt c294_311).1 (XS.iload X308.here hx rfl (hb hby at_297) rfl (XS.bipush X308.here hx rfl (hb hby at_299) k_))) ?_
        show own_at p e below _ T308 m 301 #[oJ p0, oS, oI p1, oI p2, oI p3, oI p4, oJ uu, oS, oI dg, oI (0 : Int32), oI xb, oI ps, oI cc, oI ln, oR b255, oI (0 : Int32), oI (0 : Int32), oR b304, oR o_307, oJ (uu % (own_p10 nD)), oS, oU, oU, oU, oU, oU, oU, oU, oU, oU, oU] [(.int (57 : Int32)), (.int cc)]
        by_cases c301_312 : (57 : Int32) < cc
        · skip
          refine own_st (fun t_ k_ => XS.icmpYes X308.here hx rfl (pc0 := 301) (pc' := 308) rfl (hb hby at_301) rfl (tlt c301_312).2.2.1 (by decide) (by decide) (XS.iconst X308.here hx rfl (hb hby at_308) k_)) ?_
          show own_at p e below _ T308 m 309 #[oJ p0, oS, oI p1, oI p2, oI p3, oI p4, oJ uu, oS, oI dg, oI (0 : Int32), oI xb, oI ps, oI cc, oI ln, oR b255, oI (0 : Int32), oI (0 : Int32), oR b304, oR o_307, oJ (uu % (own_p10 nD)), oS, oU, oU, oU, oU, oU, oU, oU, oU, oU, oU] [(.int (0 : Int32))]
          exact j309 _
        refine own_st (fun t_ k_ => XS.icmpNo X308.here hx rfl (hb hby at_301) rfl (flt c301_312).2.2.1 (XS.iconst X308.here hx rfl (hb hby at_304) (XS.goto X308.here hx rfl (pc0 := 305) (pc' := 309) rfl (hb hby at_305) (by decide) (by decide) k_))) ?_
        show own_at p e below _ T308 m 309 #[oJ p0, oS, oI p1, oI p2, oI p3, oI p4, oJ uu, oS, oI dg, oI (0 : Int32), oI xb, oI ps, oI cc, oI ln, oR b255, oI (0 : Int32), oI (0 : Int32), oR b304, oR o_307, oJ (uu % (own_p10 nD)), oS, oU, oU, oU, oU, oU, oU, oU, oU, oU, oU] [(.int (1 : Int32))]
        exact j309 _
      · skip
        obtain ⟨T313, h313, X313, e313, E313, A313, D313, -, st313⟩ := newO X266 hx hZ hown (own_w hw 25 rfl) (own_w hw 26 rfl) (own_w hw 27 rfl) rfl (g := (mkF m 258 #[oJ p0, oS, oI p1, oI p2, oI p3, oI p4, oJ uu, oS, oI dg, oI (0 : Int32), oI xb, oI ps, oI cc, oI ln, oR b255, oI (0 : Int32), oI (0 : Int32), oU, oU, oU, oU, oU, oU, oU, oU, oU, oU, oU, oU, oU, oU] [])) rfl (hb hby at_258) (by decide) (by decide)
        obtain ⟨b313, g313⟩ : ∃ z, z = T266.heap.size := ⟨_, rfl⟩
        rw [← g313] at A313 D313 st313
        have fr313 : h0.size ≤ b313 := Nat.le_trans K266.1 (Nat.le_of_eq g313.symm)
        have ge313 : n0 ≤ b313 := Nat.le_trans Z0 fr313
        have K313 : Keep h0 h313 [] := K266.ext E313
        have c313 : CHr Z own_EL _ T266.heap _ h313 := CHr.ext E313 C266.1
        have C313 := C266.trans c313
        have kk313 := Nat.le_trans kk266 c313.2.1
        have Sf313_b313 : Safe Z own_EL _ h313 b313 := Safe.ext E313 C266.1 (Safe.new (Nat.le_of_eq g313.symm))
        have F313_51 : Fld Z h313 b313 "java/lang/String" "coder" "B" (.int (0 : Int32)) := D313 (Or.inr (own_w hw 51 rfl)) (ty := .byte) (by decide)
        have F313_53 : Fld Z h313 b313 "java/lang/String" "value" "[B" .null := D313 (Or.inr (own_w hw 53 rfl)) (ty := (.array .byte)) (by decide)
        refine own_st (st313) ?_
        refine own_st (fun t_ k_ => XS.dup X313.here hx rfl (hb hby at_261) rfl rfl (XS.aload X313.here hx rfl (hb hby at_262) rfl rfl k_)) ?_
        show own_at p e below _ T313 m 264 #[oJ p0, oS, oI p1, oI p2, oI p3, oI p4, oJ uu, oS, oI dg, oI (0 : Int32), oI xb, oI ps, oI cc, oI ln, oR b255, oI (0 : Int32), oI (0 : Int32), oU, oU, oU, oU, oU, oU, oU, oU, oU, oU, oU, oU, oU, oU] [(.ref b255), (.ref b313), (.ref b313)]
        have f314 : Old Z n0 h313 := (((((((((((((q0.ext E255).keep Kq256 (allS ge255 all0)).keep Kq257 (allS ge255 all0)).keep Kq258 (allS ge255 all0)).keep Kq259 (allS ge255 all0)).keep Kq260 (allS ge255 all0)).keep Kq261 (allS ge255 all0)).keep Kq262 (allS ge255 all0)).keep Kq263 (allS ge255 all0)).keep Kq264 (allS ge255 all0)).keep Kq265 (allS ge255 all0)).keep Kq266 (allS ge255 all0)).ext E313)
        have f315 : Old Z n0 h313 := (((((((((((((q0.ext E255).keep Kq256 (allS ge255 all0)).keep Kq257 (allS ge255 all0)).keep Kq258 (allS ge255 all0)).keep Kq259 (allS ge255 all0)).keep Kq260 (allS ge255 all0)).keep Kq261 (allS ge255 all0)).keep Kq262 (allS ge255 all0)).keep Kq263 (allS ge255 all0)).keep Kq264 (allS ge255 all0)).keep Kq265 (allS ge255 all0)).keep Kq266 (allS ge255 all0)).ext E313)
        obtain ⟨_, _, ⟨T316, L316, k316, n316⟩, -, X316, ⟨Lc316, hQ316, l316, y316, z316⟩, st316⟩ := X313.specialBack hx (y := own_n9) rfl hown (mvT hZ (own_w hw 28 rfl)) (mvT hZ (own_w hw 29 rfl)) (mvT hZ (own_w hw 30 rfl)) (by decide) (backOf (W := 1) (own_rm4 l Z a0 hw [] b313 b255 k255 (0 + nD) cs G1 h313 n0 (Nat.le_trans Z0 K313.1) A313 F313_53 F313_51 (Acs.ext E313) ge313 (Ne.symm (Nat.ne_of_lt (Nat.lt_of_lt_of_le Acs.lt (Nat.le_of_eq g313.symm)))) ⟨(by omega), (by omega)⟩ f315 q1 hG1 q5 q6 q7) hZ (own_w hw 30 rfl) (own_w hw 27 rfl) (by decide) (by decide)) (g := (mkF m 264 #[oJ p0, oS, oI p1, oI p2, oI p3, oI p4, oJ uu, oS, oI dg, oI (0 : Int32), oI xb, oI ps, oI cc, oI ln, oR b255, oI (0 : Int32), oI (0 : Int32), oU, oU, oU, oU, oU, oU, oU, oU, oU, oU, oU, oU, oU, oU] [(.ref b255), (.ref b313), (.ref b313)])) rfl (by rw [hml]; rfl) (Steps.refl _) (a := b313) (argsL := [(.ref b255)]) (rest := [(.ref b313)]) (lenOf own_pd25 rfl) rfl (own_hW rfl) (hb hby at_264) (fun _ _ => ⟨rfl, e313, (by decide : 13 + 2 ≤ _), (by decide : 148 + 36 ≤ _)⟩)
        dsimp only [Pt.U, Pt.locs, Pt.cells, Pt.slots] at X316 l316 y316 z316 st316 hQ316
        subst y316 z316
        obtain ⟨t_316, kt_316, cd_316, rfl, N316q, Kq316, P316_0, P316_1, P316_2, P316_3, P316_4⟩ := hQ316
        have N316 : Fr n0 L316 := by rw [l316]; exact Fr.app N266 N316q
        have K316 : Keep h0 T316.heap [] := K313.trans Kq316 (allS (P := fun x => x ∈ [] ∨ h0.size ≤ x) (Or.inr fr313) all0)
        have c316 : CHr Z own_EL _ h313 _ T316.heap := CHr.keep Kq316 (own_slS Sf313_b313 own_sl0) C313.1
        have C316 := C313.trans c316
        have kk316 := Nat.le_trans kk313 c316.2.1
        have fr316_0 : h0.size ≤ t_316 := Nat.le_trans K313.1 P316_0
        have ge316_0 : n0 ≤ t_316 := Nat.le_trans Z0 fr316_0
        have Sf316_t_316 : Safe Z own_EL _ T316.heap t_316 := Safe.keep Kq316 (own_slS Sf313_b313 own_sl0) C313.1 (Safe.new P316_0)
        refine own_tr st316 ?_
        refine own_st (fun t_ k_ => XS.astore X316.here hx rfl (hb hby at_267) rfl rfl (l' := #[oJ p0, oS, oI p1, oI p2, oI p3, oI p4, oJ uu, oS, oI dg, oI (0 : Int32), oI xb, oI ps, oI cc, oI ln, oR b255, oI (0 : Int32), oI (0 : Int32), oR b313, oU, oU, oU, oU, oU, oU, oU, oU, oU, oU, oU, oU, oU]) rfl (XS.aload X316.here hx rfl (hb hby at_269) rfl rfl (XS.iload X316.here hx rfl (hb hby at_271) rfl (XS.iload X316.here hx rfl (hb hby at_273) rfl k_)))) ?_
        show own_at p e below _ T316 m 275 #[oJ p0, oS, oI p1, oI p2, oI p3, oI p4, oJ uu, oS, oI dg, oI (0 : Int32), oI xb, oI ps, oI cc, oI ln, oR b255, oI (0 : Int32), oI (0 : Int32), oR b313, oU, oU, oU, oU, oU, oU, oU, oU, oU, oU, oU, oU, oU] [(.int p4), (.int p3), (.ref b313)]
        obtain ⟨_, _, ⟨T317, L317, k317, n317⟩, -, X317, Sq317, gq317, ⟨Lc317, hQ317, l317, y317, z317, c317⟩, st317⟩ := callSS X316 hx (y := own_n31) hown (mvT hZ (own_w hw 54 rfl)) (mvT hZ (own_w hw 55 rfl)) (mvT hZ (own_w hw 56 rfl)) (mvT hZ (own_w hw 57 rfl)) (by decide) (own_backSH (W := 0) (own_rm10 l Z a0 hw [] b313 p3 p4 t_316 kt_316 cd_316 (0 + nD) cs G1 G3 aE T316.heap n0 (Nat.le_trans Z0 K316.1) (A313.keep Kq316) P316_1 P316_2 P316_3 P316_4 (f315.keep Kq316 (allS ge313 all0)) q1 hG1 q3 rG3 q5 q6 q7 q8 q9 q10 q11 (by omega) hall) hZ (own_w hw 57 rfl) (own_w hw 56 rfl) (by decide) (by decide) (own_hEL hw) C316.1 own_sl0) (g := (mkF m 275 #[oJ p0, oS, oI p1, oI p2, oI p3, oI p4, oJ uu, oS, oI dg, oI (0 : Int32), oI xb, oI ps, oI cc, oI ln, oR b255, oI (0 : Int32), oI (0 : Int32), oR b313, oU, oU, oU, oU, oU, oU, oU, oU, oU, oU, oU, oU, oU] [(.int p4), (.int p3), (.ref b313)])) rfl (by rw [hml]; rfl) (argsL := [(.ref b313), (.int p3), (.int p4)]) (rest := []) (lenOf own_pd26 rfl) rfl (own_hW rfl) (hb hby at_275) (fun _ _ => ⟨rfl, rfl, (by decide : 15 + 3 ≤ _), (by decide : 184 + 10 ≤ _)⟩)
        dsimp only [Pt.U, Pt.locs, Pt.cells, Pt.slots] at X317 l317 y317 z317 st317 hQ317 Sq317 gq317 c317
        subst y317 z317
        obtain ⟨o_317, pz_317, vz_317, rfl, N317q, Kq317, P317_0, P317_1, P317_2, P317_3⟩ := hQ317
        have N317 : Fr n0 L317 := by rw [l317]; exact Fr.app N316 N317q
        have S317 := foldS S0 (kk316) Sq317 gq317
        have X317 := (show Stand p l e _ (s.setVm T317.vm) m _ below meth c T317 L317 _ _ from X317)
        have hZ : Z.Warmed39 (s.setVm T317.vm).vm := State.Warmed39.trans (t := s.setVm s.vm) hZ Sq317.1
        have hown : (s.setVm T317.vm).vm.findClass "com/example/marshalyard/marshalyard/engine/DecimalIntegerParsePinLaw" = some m.cls := by rw [show (s.setVm T317.vm).vm = T317.vm from rfl, Sq317.1.alike.findClass]; exact hown
        have kk317 := Nat.le_refl T317.heap.size
        have K317 : Keep h0 T317.heap [] := K316.trans Kq317 all0
        have C317 := C316.trans c317
        refine own_tr st317 ?_
        refine own_st (fun t_ k_ => XS.astore X317.here hx rfl (hb hby at_278) rfl rfl (l' := #[oJ p0, oS, oI p1, oI p2, oI p3, oI p4, oJ uu, oS, oI dg, oI (0 : Int32), oI xb, oI ps, oI cc, oI ln, oR b255, oI (0 : Int32), oI (0 : Int32), oR b313, oR o_317, oU, oU, oU, oU, oU, oU, oU, oU, oU, oU, oU, oU]) rfl (XS.lload X317.here hx rfl (hb hby at_280) rfl (XS.iload X317.here hx rfl (hb hby at_282) rfl k_))) ?_
        show own_at p e below _ T317 m 284 #[oJ p0, oS, oI p1, oI p2, oI p3, oI p4, oJ uu, oS, oI dg, oI (0 : Int32), oI xb, oI ps, oI cc, oI ln, oR b255, oI (0 : Int32), oI (0 : Int32), oR b313, oR o_317, oU, oU, oU, oU, oU, oU, oU, oU, oU, oU, oU, oU] [(.int dg), (.long uu)]
        obtain ⟨_, _, ⟨T318, L318, k318, n318⟩, -, X318, ⟨Lc318, hQ318, l318, y318, z318⟩, st318⟩ := Jvm.LawKit.callS X317 hx (y := own_n18) hown (mvT hZ (own_w hw 10 rfl)) (mvT hZ (own_w hw 11 rfl)) (mvT hZ (own_w hw 5 rfl)) (mvT hZ (own_w hw 12 rfl)) (by decide) (backOf (W := 2) (own_rm3 l Z a0 hw [] dg nD T317.heap n0 (Nat.le_trans Z0 K317.1) ⟨hD.1, (by omega)⟩) hZ (own_w hw 12 rfl) (own_w hw 5 rfl) (by decide) (by decide)) (g := (mkF m 284 #[oJ p0, oS, oI p1, oI p2, oI p3, oI p4, oJ uu, oS, oI dg, oI (0 : Int32), oI xb, oI ps, oI cc, oI ln, oR b255, oI (0 : Int32), oI (0 : Int32), oR b313, oR o_317, oU, oU, oU, oU, oU, oU, oU, oU, oU, oU, oU, oU] [(.int dg), (.long uu)])) rfl (by rw [hml]; rfl) (argsL := [(.int dg)]) (rest := [(.long uu)]) (lenOf own_pd13 rfl) rfl (own_hW rfl) (hb hby at_284) (fun _ _ => ⟨rfl, rfl, (by decide : 18 + 1 ≤ _), (by decide : 194 + 12 ≤ _)⟩)
        dsimp only [Pt.U, Pt.locs, Pt.cells, Pt.slots] at X318 l318 y318 z318 st318 hQ318
        subst y318 z318
        obtain ⟨rfl, N318q, Kq318⟩ := hQ318
        have N318 : Fr n0 L318 := by rw [l318]; exact Fr.app N317 N318q
        have K318 : Keep h0 T318.heap [] := K317.trans Kq318 all0
        have c318 : CHr Z own_EL _ T317.heap _ T318.heap := CHr.keep Kq318 own_sl0 C317.1
        have C318 := C317.trans c318
        have kk318 := Nat.le_trans kk317 c318.2.1
        refine own_st (st318) ?_
        show own_at p e below _ T318 m 287 #[oJ p0, oS, oI p1, oI p2, oI p3, oI p4, oJ uu, oS, oI dg, oI (0 : Int32), oI xb, oI ps, oI cc, oI ln, oR b255, oI (0 : Int32), oI (0 : Int32), oR b313, oR o_317, oU, oU, oU, oU, oU, oU, oU, oU, oU, oU, oU, oU] [(.long (own_p10 nD)), (.long uu)]
        refine own_st (fun t_ k_ => own_lrem X318 hx rfl (hb hby at_287) rfl (own_p10z (by omega)) k_) ?_
        refine own_st (fun t_ k_ => XS.lstore X318.here hx rfl (hb hby at_288) rfl (l' := #[oJ p0, oS, oI p1, oI p2, oI p3, oI p4, oJ uu, oS, oI dg, oI (0 : Int32), oI xb, oI ps, oI cc, oI ln, oR b255, oI (0 : Int32), oI (0 : Int32), oR b313, oR o_317, oJ (uu % (own_p10 nD)), oS, oU, oU, oU, oU, oU, oU, oU, oU, oU, oU]) rfl k_) ?_
        show own_at p e below _ T318 m 290 #[oJ p0, oS, oI p1, oI p2, oI p3, oI p4, oJ uu, oS, oI dg, oI (0 : Int32), oI xb, oI ps, oI cc, oI ln, oR b255, oI (0 : Int32), oI (0 : Int32), oR b313, oR o_317, oJ (uu % (own_p10 nD)), oS, oU, oU, oU, oU, oU, oU, oU, oU, oU, oU] []
        have j309 : ∀ xd : Int32, own_at p e below (own_PW below s Z own_EL (own_Q0 Z p0 p1 p2 p3 p4 G1 G3 aE h0 n0) room_1.cells room_1.slots) T318 m 309 #[oJ p0, oS, oI p1, oI p2, oI p3, oI p4, oJ uu, oS, oI dg, oI (0 : Int32), oI xb, oI ps, oI cc, oI ln, oR b255, oI (0 : Int32), oI (0 : Int32), oR b313, oR o_317, oJ (uu % (own_p10 nD)), oS, oU, oU, oU, oU, oU, oU, oU, oU, oU, oU] [(.int xd)] := by
          intro xd
          have hk := own_kA (s := 0) (n := nD) (cs := cs) (U := U) (by decide) (by rw [e_cs]; exact h45) (by rw [e_cs]; exact hd0)
          have hiff := own_gA (mn := p3) (mx := p4) hk
          have hiff : own_good cs (0 + nD) p3 p4 ↔ (1 ≤ nD ∧ nD ≤ 10) ∧ p3.toInt ≤ ((U % 10 ^ nD : Nat) : Int) ∧ ((U % 10 ^ nD : Nat) : Int) ≤ p4.toInt := hiff
          have hpvE : own_pv cs (own_swn cs (0 + nD)) (0 + nD) = ((U % 10 ^ nD : Nat) : Int) := own_pvE hk
          refine own_st (fun t_ k_ => XS.istore X318.here hx rfl (hb hby at_309) rfl (l' := #[oJ p0, oS, oI p1, oI p2, oI p3, oI p4, oJ uu, oS, oI dg, oI (0 : Int32), oI xb, oI ps, oI cc, oI ln, oR b255, oI (0 : Int32), oI (0 : Int32), oR b313, oR o_317, oJ (uu % (own_p10 nD)), oS, oI xd, oU, oU, oU, oU, oU, oU, oU, oU, oU]) rfl (XS.iload X318.here hx rfl (hb hby at_311) rfl (XS.bipush X318.here hx rfl (hb hby at_313) (XS.isub X318.here hx rfl (hb hby at_315) rfl (XS.istore X318.here hx rfl (hb hby at_316) rfl (l' := #[oJ p0, oS, oI p1, oI p2, oI p3, oI p4, oJ uu, oS, oI dg, oI (0 : Int32), oI xb, oI ps, oI cc, oI ln, oR b255, oI (0 : Int32), oI (0 : Int32), oR b313, oR o_317, oJ (uu % (own_p10 nD)), oS, oI xd, oI (cc - (48 : Int32)), oU, oU, oU, oU, oU, oU, oU, oU]) rfl (XS.iload X318.here hx rfl (hb hby at_318) rfl k_)))))) ?_
          show own_at p e below _ T318 m 320 #[oJ p0, oS, oI p1, oI p2, oI p3, oI p4, oJ uu, oS, oI dg, oI (0 : Int32), oI xb, oI ps, oI cc, oI ln, oR b255, oI (0 : Int32), oI (0 : Int32), oR b313, oR o_317, oJ (uu % (own_p10 nD)), oS, oI xd, oI (cc - (48 : Int32)), oU, oU, oU, oU, oU, oU, oU, oU] [(.int (0 : Int32))]
          refine own_st (fun t_ k_ => XS.ifYes X318.here hx rfl (pc0 := 320) (pc' := 337) rfl (hb hby at_320) rfl ((if0 _ _).trans (teq (by decide : (0 : Int32) = (0 : Int32))).1) (by decide) (by decide) (XS.iload X318.here hx rfl (hb hby at_337) rfl (XS.iconst X318.here hx rfl (hb hby at_339) k_))) ?_
          show own_at p e below _ T318 m 340 #[oJ p0, oS, oI p1, oI p2, oI p3, oI p4, oJ uu, oS, oI dg, oI (0 : Int32), oI xb, oI ps, oI cc, oI ln, oR b255, oI (0 : Int32), oI (0 : Int32), oR b313, oR o_317, oJ (uu % (own_p10 nD)), oS, oI xd, oI (cc - (48 : Int32)), oU, oU, oU, oU, oU, oU, oU, oU] [(.int (1 : Int32)), (.int dg)]
          by_cases c340_319 : dg < (1 : Int32)
          · skip
            have rlo_340 := (own_ltp hD.1 (by decide : (1 : Int32).toInt = ((1 : Nat) : Int))).mp c340_319
            refine own_st (fun t_ k_ => XS.icmpYes X318.here hx rfl (pc0 := 340) (pc' := 354) rfl (hb hby at_340) rfl (tlt c340_319).1 (by decide) (by decide) (XS.iconst X318.here hx rfl (hb hby at_354) (XS.istore X318.here hx rfl (hb hby at_355) rfl (l' := #[oJ p0, oS, oI p1, oI p2, oI p3, oI p4, oJ uu, oS, oI dg, oI (0 : Int32), oI xb, oI ps, oI cc, oI ln, oR b255, oI (0 : Int32), oI (0 : Int32), oR b313, oR o_317, oJ (uu % (own_p10 nD)), oS, oI xd, oI (cc - (48 : Int32)), oI (0 : Int32), oU, oU, oU, oU, oU, oU, oU]) rfl (XS.iload X318.here hx rfl (hb hby at_357) rfl (XS.iconst X318.here hx rfl (hb hby at_359) (XS.icmpYes X318.here hx rfl (pc0 := 360) (pc' := 369) rfl (hb hby at_360) rfl (feq (by decide : ¬ ((0 : Int32) = (1 : Int32)))).2 (by decide) (by decide) k_)))))) ?_
            show own_at p e below _ T318 m 369 #[oJ p0, oS, oI p1, oI p2, oI p3, oI p4, oJ uu, oS, oI dg, oI (0 : Int32), oI xb, oI ps, oI cc, oI ln, oR b255, oI (0 : Int32), oI (0 : Int32), oR b313, oR o_317, oJ (uu % (own_p10 nD)), oS, oI xd, oI (cc - (48 : Int32)), oI (0 : Int32), oU, oU, oU, oU, oU, oU, oU] []
            refine own_st (fun t_ k_ => XS.lload X318.here hx rfl (hb hby at_369) rfl k_) ?_
            show own_at p e below _ T318 m 371 #[oJ p0, oS, oI p1, oI p2, oI p3, oI p4, oJ uu, oS, oI dg, oI (0 : Int32), oI xb, oI ps, oI cc, oI ln, oR b255, oI (0 : Int32), oI (0 : Int32), oR b313, oR o_317, oJ (uu % (own_p10 nD)), oS, oI xd, oI (cc - (48 : Int32)), oI (0 : Int32), oU, oU, oU, oU, oU, oU, oU] [(.long (uu % (own_p10 nD)))]
            obtain ⟨vl, e_vl⟩ : ∃ z, z = (uu % (own_p10 nD)) := ⟨_, rfl⟩
            rw [show (uu % (own_p10 nD)) = vl from e_vl.symm]
            have hvl : vl.toInt = ((U % 10 ^ nD : Nat) : Int) := (by rw [e_vl]; have z_ := (own_low hU (by omega : nD < 12)); exact z_.1)
            refine own_st (fun t_ k_ => XS.lstore X318.here hx rfl (hb hby at_371) rfl (l' := #[oJ p0, oS, oI p1, oI p2, oI p3, oI p4, oJ uu, oS, oI dg, oI (0 : Int32), oI xb, oI ps, oI cc, oI ln, oR b255, oI (0 : Int32), oI (0 : Int32), oR b313, oR o_317, oJ vl, oS, oI xd, oI (cc - (48 : Int32)), oI (0 : Int32), oJ vl, oS, oU, oU, oU, oU, oU]) rfl (XS.goto X318.here hx rfl (pc0 := 373) (pc' := 562) rfl (hb hby at_373) (by decide) (by decide) k_)) ?_
            show own_at p e below _ T318 m 562 #[oJ p0, oS, oI p1, oI p2, oI p3, oI p4, oJ uu, oS, oI dg, oI (0 : Int32), oI xb, oI ps, oI cc, oI ln, oR b255, oI (0 : Int32), oI (0 : Int32), oR b313, oR o_317, oJ vl, oS, oI xd, oI (cc - (48 : Int32)), oI (0 : Int32), oJ vl, oS, oU, oU, oU, oU, oU] []
            have hgd : ¬ own_good cs (0 + nD) p3 p4 := fun z_ => by have y_ := (hiff.mp z_).1; omega
            exact j562 _ _ _ _ _ _ _ _ _ _ _ _ _ _ _ _ _ _ _ _ _ _ _ _ _ _ _ _ _ _ _ _ _ _ _ _ _ _ _ hZ hown S317 X318 rfl N318 K318 C318 kk318 (by decide) (by decide) ((((f315.keep Kq316 (allS ge313 all0)).keep Kq317 all0).keep Kq318 all0)) ((P317_0.keep Kq318)) ((P317_1.keep Kq318 nin0)) ((P317_2.keep Kq318 nin0)) One.u (Or.inl rfl) ⟨fun z_ => absurd z_ hgd, fun z_ => absurd z_.1 (by decide)⟩ (fun z_ => absurd z_ hgd) P317_3
          have rlo_340 := mt (own_ltp hD.1 (by decide : (1 : Int32).toInt = ((1 : Nat) : Int))).mpr c340_319
          refine own_st (fun t_ k_ => XS.icmpNo X318.here hx rfl (hb hby at_340) rfl (flt c340_319).1 (XS.iload X318.here hx rfl (hb hby at_343) rfl (XS.bipush X318.here hx rfl (hb hby at_345) k_))) ?_
          show own_at p e below _ T318 m 347 #[oJ p0, oS, oI p1, oI p2, oI p3, oI p4, oJ uu, oS, oI dg, oI (0 : Int32), oI xb, oI ps, oI cc, oI ln, oR b255, oI (0 : Int32), oI (0 : Int32), oR b313, oR o_317, oJ (uu % (own_p10 nD)), oS, oI xd, oI (cc - (48 : Int32)), oU, oU, oU, oU, oU, oU, oU, oU] [(.int (10 : Int32)), (.int dg)]
          by_cases c347_320 : (10 : Int32) < dg
          · skip
            have rhi_347 := (own_ltp (by decide : (10 : Int32).toInt = ((10 : Nat) : Int)) hD.1).mp c347_320
            refine own_st (fun t_ k_ => XS.icmpYes X318.here hx rfl (pc0 := 347) (pc' := 354) rfl (hb hby at_347) rfl (tlt c347_320).2.2.1 (by decide) (by decide) (XS.iconst X318.here hx rfl (hb hby at_354) (XS.istore X318.here hx rfl (hb hby at_355) rfl (l' := #[oJ p0, oS, oI p1, oI p2, oI p3, oI p4, oJ uu, oS, oI dg, oI (0 : Int32), oI xb, oI ps, oI cc, oI ln, oR b255, oI (0 : Int32), oI (0 : Int32), oR b313, oR o_317, oJ (uu % (own_p10 nD)), oS, oI xd, oI (cc - (48 : Int32)), oI (0 : Int32), oU, oU, oU, oU, oU, oU, oU]) rfl (XS.iload X318.here hx rfl (hb hby at_357) rfl (XS.iconst X318.here hx rfl (hb hby at_359) (XS.icmpYes X318.here hx rfl (pc0 := 360) (pc' := 369) rfl (hb hby at_360) rfl (feq (by decide : ¬ ((0 : Int32) = (1 : Int32)))).2 (by decide) (by decide) k_)))))) ?_
            show own_at p e below _ T318 m 369 #[oJ p0, oS, oI p1, oI p2, oI p3, oI p4, oJ uu, oS, oI dg, oI (0 : Int32), oI xb, oI ps, oI cc, oI ln, oR b255, oI (0 : Int32), oI (0 : Int32), oR b313, oR o_317, oJ (uu % (own_p10 nD)), oS, oI xd, oI (cc - (48 : Int32)), oI (0 : Int32), oU, oU, oU, oU, oU, oU, oU] []
            refine own_st (fun t_ k_ => XS.lload X318.here hx rfl (hb hby at_369) rfl k_) ?_
            show own_at p e below _ T318 m 371 #[oJ p0, oS, oI p1, oI p2, oI p3, oI p4, oJ uu, oS, oI dg, oI (0 : Int32), oI xb, oI ps, oI cc, oI ln, oR b255, oI (0 : Int32), oI (0 : Int32), oR b313, oR o_317, oJ (uu % (own_p10 nD)), oS, oI xd, oI (cc - (48 : Int32)), oI (0 : Int32), oU, oU, oU, oU, oU, oU, oU] [(.long (uu % (own_p10 nD)))]
            obtain ⟨vl, e_vl⟩ : ∃ z, z = (uu % (own_p10 nD)) := ⟨_, rfl⟩
            rw [show (uu % (own_p10 nD)) = vl from e_vl.symm]
            have hvl : vl.toInt = ((U % 10 ^ nD : Nat) : Int) := (by rw [e_vl]; have z_ := (own_low hU (by omega : nD < 12)); exact z_.1)
            refine own_st (fun t_ k_ => XS.lstore X318.here hx rfl (hb hby at_371) rfl (l' := #[oJ p0, oS, oI p1, oI p2, oI p3, oI p4, oJ uu, oS, oI dg, oI (0 : Int32), oI xb, oI ps, oI cc, oI ln, oR b255, oI (0 : Int32), oI (0 : Int32), oR b313, oR o_317, oJ vl, oS, oI xd, oI (cc - (48 : Int32)), oI (0 : Int32), oJ vl, oS, oU, oU, oU, oU, oU]) rfl (XS.goto X318.here hx rfl (pc0 := 373) (pc' := 562) rfl (hb hby at_373) (by decide) (by decide) k_)) ?_
            show own_at p e below _ T318 m 562 #[oJ p0, oS, oI p1, oI p2, oI p3, oI p4, oJ uu, oS, oI dg, oI (0 : Int32), oI xb, oI ps, oI cc, oI ln, oR b255, oI (0 : Int32), oI (0 : Int32), oR b313, oR o_317, oJ vl, oS, oI xd, oI (cc - (48 : Int32)), oI (0 : Int32), oJ vl, oS, oU, oU, oU, oU, oU] []
            have hgd : ¬ own_good cs (0 + nD) p3 p4 := fun z_ => by have y_ := (hiff.mp z_).1; omega
            exact j562 _ _ _ _ _ _ _ _ _ _ _ _ _ _ _ _ _ _ _ _ _ _ _ _ _ _ _ _ _ _ _ _ _ _ _ _ _ _ _ hZ hown S317 X318 rfl N318 K318 C318 kk318 (by decide) (by decide) ((((f315.keep Kq316 (allS ge313 all0)).keep Kq317 all0).keep Kq318 all0)) ((P317_0.keep Kq318)) ((P317_1.keep Kq318 nin0)) ((P317_2.keep Kq318 nin0)) One.u (Or.inl rfl) ⟨fun z_ => absurd z_ hgd, fun z_ => absurd z_.1 (by decide)⟩ (fun z_ => absurd z_ hgd) P317_3
          have rhi_347 := mt (own_ltp (by decide : (10 : Int32).toInt = ((10 : Nat) : Int)) hD.1).mpr c347_320
          refine own_st (fun t_ k_ => XS.icmpNo X318.here hx rfl (hb hby at_347) rfl (flt c347_320).2.2.1 (XS.iconst X318.here hx rfl (hb hby at_350) (XS.goto X318.here hx rfl (pc0 := 351) (pc' := 355) rfl (hb hby at_351) (by decide) (by decide) (XS.istore X318.here hx rfl (hb hby at_355) rfl (l' := #[oJ p0, oS, oI p1, oI p2, oI p3, oI p4, oJ uu, oS, oI dg, oI (0 : Int32), oI xb, oI ps, oI cc, oI ln, oR b255, oI (0 : Int32), oI (0 : Int32), oR b313, oR o_317, oJ (uu % (own_p10 nD)), oS, oI xd, oI (cc - (48 : Int32)), oI (1 : Int32), oU, oU, oU, oU, oU, oU, oU]) rfl (XS.iload X318.here hx rfl (hb hby at_357) rfl (XS.iconst X318.here hx rfl (hb hby at_359) k_)))))) ?_
          show own_at p e below _ T318 m 360 #[oJ p0, oS, oI p1, oI p2, oI p3, oI p4, oJ uu, oS, oI dg, oI (0 : Int32), oI xb, oI ps, oI cc, oI ln, oR b255, oI (0 : Int32), oI (0 : Int32), oR b313, oR o_317, oJ (uu % (own_p10 nD)), oS, oI xd, oI (cc - (48 : Int32)), oI (1 : Int32), oU, oU, oU, oU, oU, oU, oU] [(.int (1 : Int32)), (.int (0 : Int32))]
          refine own_st (fun t_ k_ => XS.icmpYes X318.here hx rfl (pc0 := 360) (pc' := 369) rfl (hb hby at_360) rfl (feq (by decide : ¬ ((0 : Int32) = (1 : Int32)))).2 (by decide) (by decide) (XS.lload X318.here hx rfl (hb hby at_369) rfl k_)) ?_
          show own_at p e below _ T318 m 371 #[oJ p0, oS, oI p1, oI p2, oI p3, oI p4, oJ uu, oS, oI dg, oI (0 : Int32), oI xb, oI ps, oI cc, oI ln, oR b255, oI (0 : Int32), oI (0 : Int32), oR b313, oR o_317, oJ (uu % (own_p10 nD)), oS, oI xd, oI (cc - (48 : Int32)), oI (1 : Int32), oU, oU, oU, oU, oU, oU, oU] [(.long (uu % (own_p10 nD)))]
          obtain ⟨vl, e_vl⟩ : ∃ z, z = (uu % (own_p10 nD)) := ⟨_, rfl⟩
          rw [show (uu % (own_p10 nD)) = vl from e_vl.symm]
          have hvl : vl.toInt = ((U % 10 ^ nD : Nat) : Int) := (by rw [e_vl]; have z_ := (own_low hU (by omega : nD < 12)); exact z_.1)
          refine own_st (fun t_ k_ => XS.lstore X318.here hx rfl (hb hby at_371) rfl (l' := #[oJ p0, oS, oI p1, oI p2, oI p3, oI p4, oJ uu, oS, oI dg, oI (0 : Int32), oI xb, oI ps, oI cc, oI ln, oR b255, oI (0 : Int32), oI (0 : Int32), oR b313, oR o_317, oJ vl, oS, oI xd, oI (cc - (48 : Int32)), oI (1 : Int32), oJ vl, oS, oU, oU, oU, oU, oU]) rfl (XS.goto X318.here hx rfl (pc0 := 373) (pc' := 562) rfl (hb hby at_373) (by decide) (by decide) k_)) ?_
          show own_at p e below _ T318 m 562 #[oJ p0, oS, oI p1, oI p2, oI p3, oI p4, oJ uu, oS, oI dg, oI (0 : Int32), oI xb, oI ps, oI cc, oI ln, oR b255, oI (0 : Int32), oI (0 : Int32), oR b313, oR o_317, oJ vl, oS, oI xd, oI (cc - (48 : Int32)), oI (1 : Int32), oJ vl, oS, oU, oU, oU, oU, oU] []
          exact j562 _ _ _ _ _ _ _ _ _ _ _ _ _ _ _ _ _ _ _ _ _ _ _ _ _ _ _ _ _ _ _ _ _ _ _ _ _ _ _ hZ hown S317 X318 rfl N318 K318 C318 kk318 (by decide) (by decide) ((((f315.keep Kq316 (allS ge313 all0)).keep Kq317 all0).keep Kq318 all0)) ((P317_0.keep Kq318)) ((P317_1.keep Kq318 nin0)) ((P317_2.keep Kq318 nin0)) One.u (Or.inr rfl) (by rw [hiff, hvl]; exact ⟨fun z_ => ⟨rfl, z_.2⟩, fun z_ => ⟨(by omega), z_.2⟩⟩) (fun _ => by rw [hpvE, hvl]) P317_3
        refine own_st (fun t_ k_ => XS.iload X318.here hx rfl (hb hby at_290) rfl (XS.bipush X318.here hx rfl (hb hby at_292) k_)) ?_
        show own_at p e below _ T318 m 294 #[oJ p0, oS, oI p1, oI p2, oI p3, oI p4, oJ uu, oS, oI dg, oI (0 : Int32), oI xb, oI ps, oI cc, oI ln, oR b255, oI (0 : Int32), oI (0 : Int32), oR b313, oR o_317, oJ (uu % (own_p10 nD)), oS, oU, oU, oU, oU, oU, oU, oU, oU, oU, oU] [(.int (48 : Int32)), (.int cc)]
        by_cases c294_321 : cc < (48 : Int32)
        · skip
          refine own_st (fun t_ k_ => XS.icmpYes X318.here hx rfl (pc0 := 294) (pc' := 308) rfl (hb hby at_294) rfl (tlt c294_321).1 (by decide) (by decide) (XS.iconst X318.here hx rfl (hb hby at_308) k_)) ?_
          show own_at p e below _ T318 m 309 #[oJ p0, oS, oI p1, oI p2, oI p3, oI p4, oJ uu, oS, oI dg, oI (0 : Int32), oI xb, oI ps, oI cc, oI ln, oR b255, oI (0 : Int32), oI (0 : Int32), oR b313, oR o_317, oJ (uu % (own_p10 nD)), oS, oU, oU, oU, oU, oU, oU, oU, oU, oU, oU] [(.int (0 : Int32))]
          exact j309 _
        refine own_st (fun t_ k_ => XS.icmpNo X318.here hx rfl (hb hby at_294) rfl (flt c294_321).1 (XS.iload X318.here hx rfl (hb hby at_297) rfl (XS.bipush X318.here hx rfl (hb hby at_299) k_))) ?_
        show own_at p e below _ T318 m 301 #[oJ p0, oS, oI p1, oI p2, oI p3, oI p4, oJ uu, oS, oI dg, oI (0 : Int32), oI xb, oI ps, oI cc, oI ln, oR b255, oI (0 : Int32), oI (0 : Int32), oR b313, oR o_317, oJ (uu % (own_p10 nD)), oS, oU, oU, oU, oU, oU, oU, oU, oU, oU, oU] [(.int (57 : Int32)), (.int cc)]
        by_cases c301_322 : (57 : Int32) < cc
        · skip
          refine own_st (fun t_ k_ => XS.icmpYes X318.here hx rfl (pc0 := 301) (pc' := 308) rfl (hb hby at_301) rfl (tlt c301_322).2.2.1 (by decide) (by decide) (XS.iconst X318.here hx rfl (hb hby at_308) k_)) ?_
          show own_at p e below _ T318 m 309 #[oJ p0, oS, oI p1, oI p2, oI p3, oI p4, oJ uu, oS, oI dg, oI (0 : Int32), oI xb, oI ps, oI cc, oI ln, oR b255, oI (0 : Int32), oI (0 : Int32), oR b313, oR o_317, oJ (uu % (own_p10 nD)), oS, oU, oU, oU, oU, oU, oU, oU, oU, oU, oU] [(.int (0 : Int32))]
          exact j309 _
        refine own_st (fun t_ k_ => XS.icmpNo X318.here hx rfl (hb hby at_301) rfl (flt c301_322).2.2.1 (XS.iconst X318.here hx rfl (hb hby at_304) (XS.goto X318.here hx rfl (pc0 := 305) (pc' := 309) rfl (hb hby at_305) (by decide) (by decide) k_))) ?_
        show own_at p e below _ T318 m 309 #[oJ p0, oS, oI p1, oI p2, oI p3, oI p4, oJ uu, oS, oI dg, oI (0 : Int32), oI xb, oI ps, oI cc, oI ln, oR b255, oI (0 : Int32), oI (0 : Int32), oR b313, oR o_317, oJ (uu % (own_p10 nD)), oS, oU, oU, oU, oU, oU, oU, oU, oU, oU, oU] [(.int (1 : Int32))]
        exact j309 _
    refine own_st (fun t_ k_ => XS.iloadN X0.here hx rfl (hb hby at_23) rfl (XS.iconst X0.here hx rfl (hb hby at_24) (XS.iushr X0.here hx rfl (hb hby at_25) rfl (XS.iconst X0.here hx rfl (hb hby at_26) (XS.iand X0.here hx rfl (hb hby at_27) rfl k_))))) ?_
    show own_at p e below _ s₁ m 28 #[oJ p0, oS, oI p1, oI p2, oI p3, oI p4, oJ uu, oS, oI dg, oI (0 : Int32), oU, oU, oU, oU, oU, oU, oU, oU, oU, oU, oU, oU, oU, oU, oU, oU, oU, oU, oU, oU, oU] [(.int (((p1.toUInt32 >>> ((5 : Int32) &&& 31).toUInt32).toInt32) &&& (1 : Int32)))]
    by_cases c28_323 : (((p1.toUInt32 >>> ((5 : Int32) &&& 31).toUInt32).toInt32) &&& (1 : Int32)) = (0 : Int32)
    · skip
      refine own_st (fun t_ k_ => XS.ifYes X0.here hx rfl (pc0 := 28) (pc' := 35) rfl (hb hby at_28) rfl ((if0 _ _).trans (teq c28_323).1) (by decide) (by decide) (XS.iconst X0.here hx rfl (hb hby at_35) k_)) ?_
      show own_at p e below _ s₁ m 36 #[oJ p0, oS, oI p1, oI p2, oI p3, oI p4, oJ uu, oS, oI dg, oI (0 : Int32), oU, oU, oU, oU, oU, oU, oU, oU, oU, oU, oU, oU, oU, oU, oU, oU, oU, oU, oU, oU, oU] [(.int (0 : Int32))]
      exact j36 _
    refine own_st (fun t_ k_ => XS.ifNo X0.here hx rfl (hb hby at_28) rfl ((if0 _ _).trans (feq c28_323).1) (XS.iconst X0.here hx rfl (hb hby at_31) (XS.goto X0.here hx rfl (pc0 := 32) (pc' := 36) rfl (hb hby at_32) (by decide) (by decide) k_))) ?_
    show own_at p e below _ s₁ m 36 #[oJ p0, oS, oI p1, oI p2, oI p3, oI p4, oJ uu, oS, oI dg, oI (0 : Int32), oU, oU, oU, oU, oU, oU, oU, oU, oU, oU, oU, oU, oU, oU, oU, oU, oU, oU, oU, oU, oU] [(.int (1 : Int32))]
    exact j36 _
  · skip
    rw [show (((p1.toUInt32 >>> ((4 : Int32) &&& 31).toUInt32).toInt32) &&& (1 : Int32)) = (1 : Int32) from hbt]
    refine own_st (fun t_ k_ => XS.istore X0.here hx rfl (hb hby at_21) rfl (l' := #[oJ p0, oS, oI p1, oI p2, oI p3, oI p4, oJ uu, oS, oI dg, oI (1 : Int32), oU, oU, oU, oU, oU, oU, oU, oU, oU, oU, oU, oU, oU, oU, oU, oU, oU, oU, oU, oU, oU]) rfl k_) ?_
    show own_at p e below _ s₁ m 23 #[oJ p0, oS, oI p1, oI p2, oI p3, oI p4, oJ uu, oS, oI dg, oI (1 : Int32), oU, oU, oU, oU, oU, oU, oU, oU, oU, oU, oU, oU, oU, oU, oU, oU, oU, oU, oU, oU, oU] []
    have j36 : ∀ xb : Int32, own_at p e below (own_PW below s Z own_EL (own_Q0 Z p0 p1 p2 p3 p4 G1 G3 aE h0 n0) room_1.cells room_1.slots) s₁ m 36 #[oJ p0, oS, oI p1, oI p2, oI p3, oI p4, oJ uu, oS, oI dg, oI (1 : Int32), oU, oU, oU, oU, oU, oU, oU, oU, oU, oU, oU, oU, oU, oU, oU, oU, oU, oU, oU, oU, oU] [(.int xb)] := by
      intro xb
      refine own_st (fun t_ k_ => XS.istore X0.here hx rfl (hb hby at_36) rfl (l' := #[oJ p0, oS, oI p1, oI p2, oI p3, oI p4, oJ uu, oS, oI dg, oI (1 : Int32), oI xb, oU, oU, oU, oU, oU, oU, oU, oU, oU, oU, oU, oU, oU, oU, oU, oU, oU, oU, oU, oU]) rfl (XS.iloadN X0.here hx rfl (hb hby at_38) rfl (XS.bipush X0.here hx rfl (hb hby at_39) (XS.iushr X0.here hx rfl (hb hby at_41) rfl k_)))) ?_
      show own_at p e below _ s₁ m 42 #[oJ p0, oS, oI p1, oI p2, oI p3, oI p4, oJ uu, oS, oI dg, oI (1 : Int32), oI xb, oU, oU, oU, oU, oU, oU, oU, oU, oU, oU, oU, oU, oU, oU, oU, oU, oU, oU, oU, oU] [(.int ((p1.toUInt32 >>> ((6 : Int32) &&& 31).toUInt32).toInt32))]
      obtain ⟨ps, e_ps⟩ : ∃ z, z = ((p1.toUInt32 >>> ((6 : Int32) &&& 31).toUInt32).toInt32) := ⟨_, rfl⟩
      rw [show ((p1.toUInt32 >>> ((6 : Int32) &&& 31).toUInt32).toInt32) = ps from e_ps.symm]
      have hps : 0 ≤ ps.toInt := by rw [e_ps]; exact own_psN _
      refine own_st (fun t_ k_ => XS.istore X0.here hx rfl (hb hby at_42) rfl (l' := #[oJ p0, oS, oI p1, oI p2, oI p3, oI p4, oJ uu, oS, oI dg, oI (1 : Int32), oI xb, oI ps, oU, oU, oU, oU, oU, oU, oU, oU, oU, oU, oU, oU, oU, oU, oU, oU, oU, oU, oU]) rfl (XS.iloadN X0.here hx rfl (hb hby at_44) rfl k_)) ?_
      show own_at p e below _ s₁ m 45 #[oJ p0, oS, oI p1, oI p2, oI p3, oI p4, oJ uu, oS, oI dg, oI (1 : Int32), oI xb, oI ps, oU, oU, oU, oU, oU, oU, oU, oU, oU, oU, oU, oU, oU, oU, oU, oU, oU, oU, oU] [(.int p2)]
      refine own_st (X0.ldcInt hx hown (mvT hZ (own_w hw 1 rfl)) (g := (mkF m 45 #[oJ p0, oS, oI p1, oI p2, oI p3, oI p4, oJ uu, oS, oI dg, oI (1 : Int32), oI xb, oI ps, oU, oU, oU, oU, oU, oU, oU, oU, oU, oU, oU, oU, oU, oU, oU, oU, oU, oU, oU] [(.int p2)])) rfl (hb hby at_45)) ?_
      refine own_st (fun t_ k_ => XS.iand X0.here hx rfl (hb hby at_47) rfl (XS.i2c X0.here hx rfl (hb hby at_48) rfl k_)) ?_
      show own_at p e below _ s₁ m 49 #[oJ p0, oS, oI p1, oI p2, oI p3, oI p4, oJ uu, oS, oI dg, oI (1 : Int32), oI xb, oI ps, oU, oU, oU, oU, oU, oU, oU, oU, oU, oU, oU, oU, oU, oU, oU, oU, oU, oU, oU] [(.int ((p2 &&& (65535 : Int32)).toUInt32.toUInt16.toUInt32.toInt32))]
      obtain ⟨cc, e_cc⟩ : ∃ z, z = ((p2 &&& (65535 : Int32)).toUInt32.toUInt16.toUInt32.toInt32) := ⟨_, rfl⟩
      rw [show ((p2 &&& (65535 : Int32)).toUInt32.toUInt16.toUInt32.toInt32) = cc from e_cc.symm]
      have hcc : 0 ≤ cc.toInt ∧ cc.toInt ≤ 65535 := by rw [e_cc]; have z_ := c_i2c (p2 &&& (65535 : Int32)); omega
      have hccn : nar .char cc = cc := own_narc hcc.1 hcc.2
      refine own_st (fun t_ k_ => XS.istore X0.here hx rfl (hb hby at_49) rfl (l' := #[oJ p0, oS, oI p1, oI p2, oI p3, oI p4, oJ uu, oS, oI dg, oI (1 : Int32), oI xb, oI ps, oI cc, oU, oU, oU, oU, oU, oU, oU, oU, oU, oU, oU, oU, oU, oU, oU, oU, oU, oU]) rfl (XS.iload X0.here hx rfl (hb hby at_51) rfl (XS.iload X0.here hx rfl (hb hby at_53) rfl (XS.iadd X0.here hx rfl (hb hby at_55) rfl k_)))) ?_
      show own_at p e below _ s₁ m 56 #[oJ p0, oS, oI p1, oI p2, oI p3, oI p4, oJ uu, oS, oI dg, oI (1 : Int32), oI xb, oI ps, oI cc, oU, oU, oU, oU, oU, oU, oU, oU, oU, oU, oU, oU, oU, oU, oU, oU, oU, oU] [(.int ((1 : Int32) + dg))]
      obtain ⟨ln, e_ln⟩ : ∃ z, z = ((1 : Int32) + dg) := ⟨_, rfl⟩
      rw [show ((1 : Int32) + dg) = ln from e_ln.symm]
      have hln : ln.toInt = ((1 + nD : Nat) : Int) := by rw [e_ln]; exact own_cadd (by decide) hD.1 (by omega)
      refine own_st (fun t_ k_ => XS.istore X0.here hx rfl (hb hby at_56) rfl (l' := #[oJ p0, oS, oI p1, oI p2, oI p3, oI p4, oJ uu, oS, oI dg, oI (1 : Int32), oI xb, oI ps, oI cc, oI ln, oU, oU, oU, oU, oU, oU, oU, oU, oU, oU, oU, oU, oU, oU, oU, oU, oU]) rfl (XS.iload X0.here hx rfl (hb hby at_58) rfl k_)) ?_
      show own_at p e below _ s₁ m 60 #[oJ p0, oS, oI p1, oI p2, oI p3, oI p4, oJ uu, oS, oI dg, oI (1 : Int32), oI xb, oI ps, oI cc, oI ln, oU, oU, oU, oU, oU, oU, oU, oU, oU, oU, oU, oU, oU, oU, oU, oU, oU] [(.int ln)]
      obtain ⟨T324, h324, k324, X324, e324, E324, A324, st324⟩ := newP X0 hx hZ (own_w hw 2 rfl) e0 (g := (mkF m 60 #[oJ p0, oS, oI p1, oI p2, oI p3, oI p4, oJ uu, oS, oI dg, oI (1 : Int32), oI xb, oI ps, oI cc, oI ln, oU, oU, oU, oU, oU, oU, oU, oU, oU, oU, oU, oU, oU, oU, oU, oU, oU] [(.int ln)])) rfl (hb hby at_60) rfl (own_nn hln) (cap := 12) (own_cl hln (by omega)) (by decide) (by decide) (by decide)
      obtain ⟨b324, g324⟩ : ∃ z, z = h0.size := ⟨_, rfl⟩
      rw [← g324] at A324 st324
      have fr324 : h0.size ≤ b324 := Nat.le_trans (Keep.refl h0 []).1 (Nat.le_of_eq g324.symm)
      have ge324 : n0 ≤ b324 := Nat.le_trans Z0 fr324
      have K324 : Keep h0 h324 [] := (Keep.refl h0 []).ext E324
      have c324 : CHr Z own_EL _ h0 _ h324 := CHr.ext E324 C0.1
      have C324 := C0.trans c324
      have kk324 := Nat.le_trans k0 c324.2.1
      have Sf324_b324 : Safe Z own_EL _ h324 b324 := Safe.ext E324 C0.1 (Safe.new (Nat.le_of_eq g324.symm))
      have Ar324 : own_A Z h324 b324 k324 .char (1 + nD) (fun i => .int ((fun _ => (0 : Int32)) i)) := own_A.new A324 (own_asN hln) (own_nn hln) (hn := by omega)
      refine own_st (st324) ?_
      refine own_st (fun t_ k_ => XS.astore X324.here hx rfl (hb hby at_62) rfl rfl (l' := #[oJ p0, oS, oI p1, oI p2, oI p3, oI p4, oJ uu, oS, oI dg, oI (1 : Int32), oI xb, oI ps, oI cc, oI ln, oR b324, oU, oU, oU, oU, oU, oU, oU, oU, oU, oU, oU, oU, oU, oU, oU, oU]) rfl (XS.iload X324.here hx rfl (hb hby at_64) rfl (XS.iconst X324.here hx rfl (hb hby at_66) (XS.icmpNo X324.here hx rfl (hb hby at_67) rfl (teq (by decide : (1 : Int32) = (1 : Int32))).2 (XS.aload X324.here hx rfl (hb hby at_70) rfl rfl (XS.iconst X324.here hx rfl (hb hby at_72) k_)))))) ?_
      show own_at p e below _ T324 m 73 #[oJ p0, oS, oI p1, oI p2, oI p3, oI p4, oJ uu, oS, oI dg, oI (1 : Int32), oI xb, oI ps, oI cc, oI ln, oR b324, oU, oU, oU, oU, oU, oU, oU, oU, oU, oU, oU, oU, oU, oU, oU, oU] [(.int (0 : Int32)), (.ref b324)]
      refine own_st (fun t_ k_ => XS.bipush X324.here hx rfl (hb hby at_73) k_) ?_
      show own_at p e below _ T324 m 75 #[oJ p0, oS, oI p1, oI p2, oI p3, oI p4, oJ uu, oS, oI dg, oI (1 : Int32), oI xb, oI ps, oI cc, oI ln, oR b324, oU, oU, oU, oU, oU, oU, oU, oU, oU, oU, oU, oU, oU, oU, oU, oU] [(.int (45 : Int32)), (.int (0 : Int32)), (.ref b324)]
      obtain ⟨T325, h325, X325, e325, W325, Aw325, st325⟩ := own_castore X324 hx hZ e324 Ar324 (i := 0) (by decide) (by omega) rfl (v' := (45 : Int32)) (g := (mkF m 75 #[oJ p0, oS, oI p1, oI p2, oI p3, oI p4, oJ uu, oS, oI dg, oI (1 : Int32), oI xb, oI ps, oI cc, oI ln, oR b324, oU, oU, oU, oU, oU, oU, oU, oU, oU, oU, oU, oU, oU, oU, oU, oU] [(.int (45 : Int32)), (.int (0 : Int32)), (.ref b324)])) rfl rfl (hb hby at_75)
      have N325 := Fr.snoc X325 N0 ge324
      have K325 : Keep h0 h325 [] := K324.wr W325 (Or.inr fr324)
      have c325 : CHr Z own_EL _ h324 _ h325 := CHr.wr W325 (own_safeA hZ.alike Ar324 (by decide)) C324.1
      have C325 := C324.trans c325
      have kk325 := Nat.le_trans kk324 c325.2.1
      refine own_st (st325) ?_
      obtain ⟨g9, e_g9⟩ : ∃ f_ : Nat → Int32, f_ = (own_upd (fun _ => (0 : Int32)) 0 (45 : Int32)) := ⟨_, rfl⟩
      have Ag9 : own_A Z h325 b324 k324 .char (1 + nD) (fun i => .int ((own_pk 1 nD uu 0 g9) i)) := (Aw325).congr (fun q _ => by rw [own_pk0, e_g9])
      refine own_st (fun t_ k_ => XS.aload X325.here hx rfl (hb hby at_76) rfl rfl (XS.iload X325.here hx rfl (hb hby at_78) rfl (XS.iload X325.here hx rfl (hb hby at_80) rfl (XS.lload X325.here hx rfl (hb hby at_82) rfl (XS.iconst X325.here hx rfl (hb hby at_84) k_))))) ?_
      show own_at p e below _ T325 m 85 #[oJ p0, oS, oI p1, oI p2, oI p3, oI p4, oJ uu, oS, oI dg, oI (1 : Int32), oI xb, oI ps, oI cc, oI ln, oR b324, oU, oU, oU, oU, oU, oU, oU, oU, oU, oU, oU, oU, oU, oU, oU, oU] [(.int (0 : Int32)), (.long uu), (.int dg), (.int (1 : Int32)), (.ref b324)]
      obtain ⟨_, _, ⟨T326, L326, k326, n326⟩, -, X326, ⟨Lc326, hQ326, l326, y326, z326⟩, st326⟩ := Jvm.LawKit.callS X325 hx (y := own_n20) hown (mvT hZ (own_w hw 3 rfl)) (mvT hZ (own_w hw 4 rfl)) (mvT hZ (own_w hw 5 rfl)) (mvT hZ (own_w hw 6 rfl)) (by decide) (backOf (W := 0) (own_rm1 l Z a0 hw [] b324 (1 : Int32) dg uu (0 : Int32) k324 1 nD 0 g9 h325 n0 (Nat.le_trans Z0 K325.1) Ag9 ge324 ⟨(by decide), hD.1, (by decide), (by decide), hD.2, (by decide)⟩) hZ (own_w hw 6 rfl) (own_w hw 5 rfl) (by decide) (by decide)) (g := (mkF m 85 #[oJ p0, oS, oI p1, oI p2, oI p3, oI p4, oJ uu, oS, oI dg, oI (1 : Int32), oI xb, oI ps, oI cc, oI ln, oR b324, oU, oU, oU, oU, oU, oU, oU, oU, oU, oU, oU, oU, oU, oU, oU, oU] [(.int (0 : Int32)), (.long uu), (.int dg), (.int (1 : Int32)), (.ref b324)])) rfl (by rw [hml]; rfl) (argsL := [(.ref b324), (.int (1 : Int32)), (.int dg), (.long uu), (.int (0 : Int32))]) (rest := []) (lenOf own_pd24 rfl) rfl (own_hW rfl) (hb hby at_85) (fun _ _ => ⟨rfl, e325, (by decide : 1 + 1 ≤ _), (by decide : 12 + 12 ≤ _)⟩)
      dsimp only [Pt.U, Pt.locs, Pt.cells, Pt.slots] at X326 l326 y326 z326 st326 hQ326
      subst y326 z326
      obtain ⟨rfl, N326q, Kq326, P326_0⟩ := hQ326
      have N326 : Fr n0 L326 := by rw [l326]; exact Fr.app N325 N326q
      have K326 : Keep h0 T326.heap [] := K325.trans Kq326 (allS (P := fun x => x ∈ [] ∨ h0.size ≤ x) (Or.inr fr324) all0)
      have c326 : CHr Z own_EL _ h325 _ T326.heap := CHr.keep Kq326 (own_slS (own_safeA hZ.alike Ag9 (by decide)) own_sl0) C325.1
      have C326 := C325.trans c326
      have kk326 := Nat.le_trans kk325 c326.2.1
      refine own_st (st326) ?_
      refine own_st (fun t_ k_ => XS.aload X326.here hx rfl (hb hby at_88) rfl rfl (XS.iload X326.here hx rfl (hb hby at_90) rfl (XS.iload X326.here hx rfl (hb hby at_92) rfl (XS.lload X326.here hx rfl (hb hby at_94) rfl (XS.iconst X326.here hx rfl (hb hby at_96) k_))))) ?_
      show own_at p e below _ T326 m 97 #[oJ p0, oS, oI p1, oI p2, oI p3, oI p4, oJ uu, oS, oI dg, oI (1 : Int32), oI xb, oI ps, oI cc, oI ln, oR b324, oU, oU, oU, oU, oU, oU, oU, oU, oU, oU, oU, oU, oU, oU, oU, oU] [(.int (1 : Int32)), (.long uu), (.int dg), (.int (1 : Int32)), (.ref b324)]
      obtain ⟨_, _, ⟨T327, L327, k327, n327⟩, -, X327, ⟨Lc327, hQ327, l327, y327, z327⟩, st327⟩ := Jvm.LawKit.callS X326 hx (y := own_n20) hown (mvT hZ (own_w hw 3 rfl)) (mvT hZ (own_w hw 4 rfl)) (mvT hZ (own_w hw 5 rfl)) (mvT hZ (own_w hw 6 rfl)) (by decide) (backOf (W := 0) (own_rm1 l Z a0 hw [] b324 (1 : Int32) dg uu (1 : Int32) k324 1 nD (0 + 1) g9 T326.heap n0 (Nat.le_trans Z0 K326.1) P326_0 ge324 ⟨(by decide), hD.1, (by decide), (by decide), hD.2, (by decide)⟩) hZ (own_w hw 6 rfl) (own_w hw 5 rfl) (by decide) (by decide)) (g := (mkF m 97 #[oJ p0, oS, oI p1, oI p2, oI p3, oI p4, oJ uu, oS, oI dg, oI (1 : Int32), oI xb, oI ps, oI cc, oI ln, oR b324, oU, oU, oU, oU, oU, oU, oU, oU, oU, oU, oU, oU, oU, oU, oU, oU] [(.int (1 : Int32)), (.long uu), (.int dg), (.int (1 : Int32)), (.ref b324)])) rfl (by rw [hml]; rfl) (argsL := [(.ref b324), (.int (1 : Int32)), (.int dg), (.long uu), (.int (1 : Int32))]) (rest := []) (lenOf own_pd24 rfl) rfl (own_hW rfl) (hb hby at_97) (fun _ _ => ⟨rfl, rfl, (by decide : 2 + 1 ≤ _), (by decide : 24 + 12 ≤ _)⟩)
      dsimp only [Pt.U, Pt.locs, Pt.cells, Pt.slots] at X327 l327 y327 z327 st327 hQ327
      subst y327 z327
      obtain ⟨rfl, N327q, Kq327, P327_0⟩ := hQ327
      have N327 : Fr n0 L327 := by rw [l327]; exact Fr.app N326 N327q
      have K327 : Keep h0 T327.heap [] := K326.trans Kq327 (allS (P := fun x => x ∈ [] ∨ h0.size ≤ x) (Or.inr fr324) all0)
      have c327 : CHr Z own_EL _ T326.heap _ T327.heap := CHr.keep Kq327 (own_slS (own_safeA hZ.alike P326_0 (by decide)) own_sl0) C326.1
      have C327 := C326.trans c327
      have kk327 := Nat.le_trans kk326 c327.2.1
      refine own_st (st327) ?_
      refine own_st (fun t_ k_ => XS.aload X327.here hx rfl (hb hby at_100) rfl rfl (XS.iload X327.here hx rfl (hb hby at_102) rfl (XS.iload X327.here hx rfl (hb hby at_104) rfl (XS.lload X327.here hx rfl (hb hby at_106) rfl (XS.iconst X327.here hx rfl (hb hby at_108) k_))))) ?_
      show own_at p e below _ T327 m 109 #[oJ p0, oS, oI p1, oI p2, oI p3, oI p4, oJ uu, oS, oI dg, oI (1 : Int32), oI xb, oI ps, oI cc, oI ln, oR b324, oU, oU, oU, oU, oU, oU, oU, oU, oU, oU, oU, oU, oU, oU, oU, oU] [(.int (2 : Int32)), (.long uu), (.int dg), (.int (1 : Int32)), (.ref b324)]
      obtain ⟨_, _, ⟨T328, L328, k328, n328⟩, -, X328, ⟨Lc328, hQ328, l328, y328, z328⟩, st328⟩ := Jvm.LawKit.callS X327 hx (y := own_n20) hown (mvT hZ (own_w hw 3 rfl)) (mvT hZ (own_w hw 4 rfl)) (mvT hZ (own_w hw 5 rfl)) (mvT hZ (own_w hw 6 rfl)) (by decide) (backOf (W := 0) (own_rm1 l Z a0 hw [] b324 (1 : Int32) dg uu (2 : Int32) k324 1 nD ((0 + 1) + 1) g9 T327.heap n0 (Nat.le_trans Z0 K327.1) P327_0 ge324 ⟨(by decide), hD.1, (by decide), (by decide), hD.2, (by decide)⟩) hZ (own_w hw 6 rfl) (own_w hw 5 rfl) (by decide) (by decide)) (g := (mkF m 109 #[oJ p0, oS, oI p1, oI p2, oI p3, oI p4, oJ uu, oS, oI dg, oI (1 : Int32), oI xb, oI ps, oI cc, oI ln, oR b324, oU, oU, oU, oU, oU, oU, oU, oU, oU, oU, oU, oU, oU, oU, oU, oU] [(.int (2 : Int32)), (.long uu), (.int dg), (.int (1 : Int32)), (.ref b324)])) rfl (by rw [hml]; rfl) (argsL := [(.ref b324), (.int (1 : Int32)), (.int dg), (.long uu), (.int (2 : Int32))]) (rest := []) (lenOf own_pd24 rfl) rfl (own_hW rfl) (hb hby at_109) (fun _ _ => ⟨rfl, rfl, (by decide : 3 + 1 ≤ _), (by decide : 36 + 12 ≤ _)⟩)
      dsimp only [Pt.U, Pt.locs, Pt.cells, Pt.slots] at X328 l328 y328 z328 st328 hQ328
      subst y328 z328
      obtain ⟨rfl, N328q, Kq328, P328_0⟩ := hQ328
      have N328 : Fr n0 L328 := by rw [l328]; exact Fr.app N327 N328q
      have K328 : Keep h0 T328.heap [] := K327.trans Kq328 (allS (P := fun x => x ∈ [] ∨ h0.size ≤ x) (Or.inr fr324) all0)
      have c328 : CHr Z own_EL _ T327.heap _ T328.heap := CHr.keep Kq328 (own_slS (own_safeA hZ.alike P327_0 (by decide)) own_sl0) C327.1
      have C328 := C327.trans c328
      have kk328 := Nat.le_trans kk327 c328.2.1
      refine own_st (st328) ?_
      refine own_st (fun t_ k_ => XS.aload X328.here hx rfl (hb hby at_112) rfl rfl (XS.iload X328.here hx rfl (hb hby at_114) rfl (XS.iload X328.here hx rfl (hb hby at_116) rfl (XS.lload X328.here hx rfl (hb hby at_118) rfl (XS.iconst X328.here hx rfl (hb hby at_120) k_))))) ?_
      show own_at p e below _ T328 m 121 #[oJ p0, oS, oI p1, oI p2, oI p3, oI p4, oJ uu, oS, oI dg, oI (1 : Int32), oI xb, oI ps, oI cc, oI ln, oR b324, oU, oU, oU, oU, oU, oU, oU, oU, oU, oU, oU, oU, oU, oU, oU, oU] [(.int (3 : Int32)), (.long uu), (.int dg), (.int (1 : Int32)), (.ref b324)]
      obtain ⟨_, _, ⟨T329, L329, k329, n329⟩, -, X329, ⟨Lc329, hQ329, l329, y329, z329⟩, st329⟩ := Jvm.LawKit.callS X328 hx (y := own_n20) hown (mvT hZ (own_w hw 3 rfl)) (mvT hZ (own_w hw 4 rfl)) (mvT hZ (own_w hw 5 rfl)) (mvT hZ (own_w hw 6 rfl)) (by decide) (backOf (W := 0) (own_rm1 l Z a0 hw [] b324 (1 : Int32) dg uu (3 : Int32) k324 1 nD (((0 + 1) + 1) + 1) g9 T328.heap n0 (Nat.le_trans Z0 K328.1) P328_0 ge324 ⟨(by decide), hD.1, (by decide), (by decide), hD.2, (by decide)⟩) hZ (own_w hw 6 rfl) (own_w hw 5 rfl) (by decide) (by decide)) (g := (mkF m 121 #[oJ p0, oS, oI p1, oI p2, oI p3, oI p4, oJ uu, oS, oI dg, oI (1 : Int32), oI xb, oI ps, oI cc, oI ln, oR b324, oU, oU, oU, oU, oU, oU, oU, oU, oU, oU, oU, oU, oU, oU, oU, oU] [(.int (3 : Int32)), (.long uu), (.int dg), (.int (1 : Int32)), (.ref b324)])) rfl (by rw [hml]; rfl) (argsL := [(.ref b324), (.int (1 : Int32)), (.int dg), (.long uu), (.int (3 : Int32))]) (rest := []) (lenOf own_pd24 rfl) rfl (own_hW rfl) (hb hby at_121) (fun _ _ => ⟨rfl, rfl, (by decide : 4 + 1 ≤ _), (by decide : 48 + 12 ≤ _)⟩)
      dsimp only [Pt.U, Pt.locs, Pt.cells, Pt.slots] at X329 l329 y329 z329 st329 hQ329
      subst y329 z329
      obtain ⟨rfl, N329q, Kq329, P329_0⟩ := hQ329
      have N329 : Fr n0 L329 := by rw [l329]; exact Fr.app N328 N329q
      have K329 : Keep h0 T329.heap [] := K328.trans Kq329 (allS (P := fun x => x ∈ [] ∨ h0.size ≤ x) (Or.inr fr324) all0)
      have c329 : CHr Z own_EL _ T328.heap _ T329.heap := CHr.keep Kq329 (own_slS (own_safeA hZ.alike P328_0 (by decide)) own_sl0) C328.1
      have C329 := C328.trans c329
      have kk329 := Nat.le_trans kk328 c329.2.1
      refine own_st (st329) ?_
      refine own_st (fun t_ k_ => XS.aload X329.here hx rfl (hb hby at_124) rfl rfl (XS.iload X329.here hx rfl (hb hby at_126) rfl (XS.iload X329.here hx rfl (hb hby at_128) rfl (XS.lload X329.here hx rfl (hb hby at_130) rfl (XS.iconst X329.here hx rfl (hb hby at_132) k_))))) ?_
      show own_at p e below _ T329 m 133 #[oJ p0, oS, oI p1, oI p2, oI p3, oI p4, oJ uu, oS, oI dg, oI (1 : Int32), oI xb, oI ps, oI cc, oI ln, oR b324, oU, oU, oU, oU, oU, oU, oU, oU, oU, oU, oU, oU, oU, oU, oU, oU] [(.int (4 : Int32)), (.long uu), (.int dg), (.int (1 : Int32)), (.ref b324)]
      obtain ⟨_, _, ⟨T330, L330, k330, n330⟩, -, X330, ⟨Lc330, hQ330, l330, y330, z330⟩, st330⟩ := Jvm.LawKit.callS X329 hx (y := own_n20) hown (mvT hZ (own_w hw 3 rfl)) (mvT hZ (own_w hw 4 rfl)) (mvT hZ (own_w hw 5 rfl)) (mvT hZ (own_w hw 6 rfl)) (by decide) (backOf (W := 0) (own_rm1 l Z a0 hw [] b324 (1 : Int32) dg uu (4 : Int32) k324 1 nD ((((0 + 1) + 1) + 1) + 1) g9 T329.heap n0 (Nat.le_trans Z0 K329.1) P329_0 ge324 ⟨(by decide), hD.1, (by decide), (by decide), hD.2, (by decide)⟩) hZ (own_w hw 6 rfl) (own_w hw 5 rfl) (by decide) (by decide)) (g := (mkF m 133 #[oJ p0, oS, oI p1, oI p2, oI p3, oI p4, oJ uu, oS, oI dg, oI (1 : Int32), oI xb, oI ps, oI cc, oI ln, oR b324, oU, oU, oU, oU, oU, oU, oU, oU, oU, oU, oU, oU, oU, oU, oU, oU] [(.int (4 : Int32)), (.long uu), (.int dg), (.int (1 : Int32)), (.ref b324)])) rfl (by rw [hml]; rfl) (argsL := [(.ref b324), (.int (1 : Int32)), (.int dg), (.long uu), (.int (4 : Int32))]) (rest := []) (lenOf own_pd24 rfl) rfl (own_hW rfl) (hb hby at_133) (fun _ _ => ⟨rfl, rfl, (by decide : 5 + 1 ≤ _), (by decide : 60 + 12 ≤ _)⟩)
      dsimp only [Pt.U, Pt.locs, Pt.cells, Pt.slots] at X330 l330 y330 z330 st330 hQ330
      subst y330 z330
      obtain ⟨rfl, N330q, Kq330, P330_0⟩ := hQ330
      have N330 : Fr n0 L330 := by rw [l330]; exact Fr.app N329 N330q
      have K330 : Keep h0 T330.heap [] := K329.trans Kq330 (allS (P := fun x => x ∈ [] ∨ h0.size ≤ x) (Or.inr fr324) all0)
      have c330 : CHr Z own_EL _ T329.heap _ T330.heap := CHr.keep Kq330 (own_slS (own_safeA hZ.alike P329_0 (by decide)) own_sl0) C329.1
      have C330 := C329.trans c330
      have kk330 := Nat.le_trans kk329 c330.2.1
      refine own_st (st330) ?_
      refine own_st (fun t_ k_ => XS.aload X330.here hx rfl (hb hby at_136) rfl rfl (XS.iload X330.here hx rfl (hb hby at_138) rfl (XS.iload X330.here hx rfl (hb hby at_140) rfl (XS.lload X330.here hx rfl (hb hby at_142) rfl (XS.iconst X330.here hx rfl (hb hby at_144) k_))))) ?_
      show own_at p e below _ T330 m 145 #[oJ p0, oS, oI p1, oI p2, oI p3, oI p4, oJ uu, oS, oI dg, oI (1 : Int32), oI xb, oI ps, oI cc, oI ln, oR b324, oU, oU, oU, oU, oU, oU, oU, oU, oU, oU, oU, oU, oU, oU, oU, oU] [(.int (5 : Int32)), (.long uu), (.int dg), (.int (1 : Int32)), (.ref b324)]
      obtain ⟨_, _, ⟨T331, L331, k331, n331⟩, -, X331, ⟨Lc331, hQ331, l331, y331, z331⟩, st331⟩ := Jvm.LawKit.callS X330 hx (y := own_n20) hown (mvT hZ (own_w hw 3 rfl)) (mvT hZ (own_w hw 4 rfl)) (mvT hZ (own_w hw 5 rfl)) (mvT hZ (own_w hw 6 rfl)) (by decide) (backOf (W := 0) (own_rm1 l Z a0 hw [] b324 (1 : Int32) dg uu (5 : Int32) k324 1 nD (((((0 + 1) + 1) + 1) + 1) + 1) g9 T330.heap n0 (Nat.le_trans Z0 K330.1) P330_0 ge324 ⟨(by decide), hD.1, (by decide), (by decide), hD.2, (by decide)⟩) hZ (own_w hw 6 rfl) (own_w hw 5 rfl) (by decide) (by decide)) (g := (mkF m 145 #[oJ p0, oS, oI p1, oI p2, oI p3, oI p4, oJ uu, oS, oI dg, oI (1 : Int32), oI xb, oI ps, oI cc, oI ln, oR b324, oU, oU, oU, oU, oU, oU, oU, oU, oU, oU, oU, oU, oU, oU, oU, oU] [(.int (5 : Int32)), (.long uu), (.int dg), (.int (1 : Int32)), (.ref b324)])) rfl (by rw [hml]; rfl) (argsL := [(.ref b324), (.int (1 : Int32)), (.int dg), (.long uu), (.int (5 : Int32))]) (rest := []) (lenOf own_pd24 rfl) rfl (own_hW rfl) (hb hby at_145) (fun _ _ => ⟨rfl, rfl, (by decide : 6 + 1 ≤ _), (by decide : 72 + 12 ≤ _)⟩)
      dsimp only [Pt.U, Pt.locs, Pt.cells, Pt.slots] at X331 l331 y331 z331 st331 hQ331
      subst y331 z331
      obtain ⟨rfl, N331q, Kq331, P331_0⟩ := hQ331
      have N331 : Fr n0 L331 := by rw [l331]; exact Fr.app N330 N331q
      have K331 : Keep h0 T331.heap [] := K330.trans Kq331 (allS (P := fun x => x ∈ [] ∨ h0.size ≤ x) (Or.inr fr324) all0)
      have c331 : CHr Z own_EL _ T330.heap _ T331.heap := CHr.keep Kq331 (own_slS (own_safeA hZ.alike P330_0 (by decide)) own_sl0) C330.1
      have C331 := C330.trans c331
      have kk331 := Nat.le_trans kk330 c331.2.1
      refine own_st (st331) ?_
      refine own_st (fun t_ k_ => XS.aload X331.here hx rfl (hb hby at_148) rfl rfl (XS.iload X331.here hx rfl (hb hby at_150) rfl (XS.iload X331.here hx rfl (hb hby at_152) rfl (XS.lload X331.here hx rfl (hb hby at_154) rfl (XS.bipush X331.here hx rfl (hb hby at_156) k_))))) ?_
      show own_at p e below _ T331 m 158 #[oJ p0, oS, oI p1, oI p2, oI p3, oI p4, oJ uu, oS, oI dg, oI (1 : Int32), oI xb, oI ps, oI cc, oI ln, oR b324, oU, oU, oU, oU, oU, oU, oU, oU, oU, oU, oU, oU, oU, oU, oU, oU] [(.int (6 : Int32)), (.long uu), (.int dg), (.int (1 : Int32)), (.ref b324)]
      obtain ⟨_, _, ⟨T332, L332, k332, n332⟩, -, X332, ⟨Lc332, hQ332, l332, y332, z332⟩, st332⟩ := Jvm.LawKit.callS X331 hx (y := own_n20) hown (mvT hZ (own_w hw 3 rfl)) (mvT hZ (own_w hw 4 rfl)) (mvT hZ (own_w hw 5 rfl)) (mvT hZ (own_w hw 6 rfl)) (by decide) (backOf (W := 0) (own_rm1 l Z a0 hw [] b324 (1 : Int32) dg uu (6 : Int32) k324 1 nD ((((((0 + 1) + 1) + 1) + 1) + 1) + 1) g9 T331.heap n0 (Nat.le_trans Z0 K331.1) P331_0 ge324 ⟨(by decide), hD.1, (by decide), (by decide), hD.2, (by decide)⟩) hZ (own_w hw 6 rfl) (own_w hw 5 rfl) (by decide) (by decide)) (g := (mkF m 158 #[oJ p0, oS, oI p1, oI p2, oI p3, oI p4, oJ uu, oS, oI dg, oI (1 : Int32), oI xb, oI ps, oI cc, oI ln, oR b324, oU, oU, oU, oU, oU, oU, oU, oU, oU, oU, oU, oU, oU, oU, oU, oU] [(.int (6 : Int32)), (.long uu), (.int dg), (.int (1 : Int32)), (.ref b324)])) rfl (by rw [hml]; rfl) (argsL := [(.ref b324), (.int (1 : Int32)), (.int dg), (.long uu), (.int (6 : Int32))]) (rest := []) (lenOf own_pd24 rfl) rfl (own_hW rfl) (hb hby at_158) (fun _ _ => ⟨rfl, rfl, (by decide : 7 + 1 ≤ _), (by decide : 84 + 12 ≤ _)⟩)
      dsimp only [Pt.U, Pt.locs, Pt.cells, Pt.slots] at X332 l332 y332 z332 st332 hQ332
      subst y332 z332
      obtain ⟨rfl, N332q, Kq332, P332_0⟩ := hQ332
      have N332 : Fr n0 L332 := by rw [l332]; exact Fr.app N331 N332q
      have K332 : Keep h0 T332.heap [] := K331.trans Kq332 (allS (P := fun x => x ∈ [] ∨ h0.size ≤ x) (Or.inr fr324) all0)
      have c332 : CHr Z own_EL _ T331.heap _ T332.heap := CHr.keep Kq332 (own_slS (own_safeA hZ.alike P331_0 (by decide)) own_sl0) C331.1
      have C332 := C331.trans c332
      have kk332 := Nat.le_trans kk331 c332.2.1
      refine own_st (st332) ?_
      refine own_st (fun t_ k_ => XS.aload X332.here hx rfl (hb hby at_161) rfl rfl (XS.iload X332.here hx rfl (hb hby at_163) rfl (XS.iload X332.here hx rfl (hb hby at_165) rfl (XS.lload X332.here hx rfl (hb hby at_167) rfl (XS.bipush X332.here hx rfl (hb hby at_169) k_))))) ?_
      show own_at p e below _ T332 m 171 #[oJ p0, oS, oI p1, oI p2, oI p3, oI p4, oJ uu, oS, oI dg, oI (1 : Int32), oI xb, oI ps, oI cc, oI ln, oR b324, oU, oU, oU, oU, oU, oU, oU, oU, oU, oU, oU, oU, oU, oU, oU, oU] [(.int (7 : Int32)), (.long uu), (.int dg), (.int (1 : Int32)), (.ref b324)]
      obtain ⟨_, _, ⟨T333, L333, k333, n333⟩, -, X333, ⟨Lc333, hQ333, l333, y333, z333⟩, st333⟩ := Jvm.LawKit.callS X332 hx (y := own_n20) hown (mvT hZ (own_w hw 3 rfl)) (mvT hZ (own_w hw 4 rfl)) (mvT hZ (own_w hw 5 rfl)) (mvT hZ (own_w hw 6 rfl)) (by decide) (backOf (W := 0) (own_rm1 l Z a0 hw [] b324 (1 : Int32) dg uu (7 : Int32) k324 1 nD (((((((0 + 1) + 1) + 1) + 1) + 1) + 1) + 1) g9 T332.heap n0 (Nat.le_trans Z0 K332.1) P332_0 ge324 ⟨(by decide), hD.1, (by decide), (by decide), hD.2, (by decide)⟩) hZ (own_w hw 6 rfl) (own_w hw 5 rfl) (by decide) (by decide)) (g := (mkF m 171 #[oJ p0, oS, oI p1, oI p2, oI p3, oI p4, oJ uu, oS, oI dg, oI (1 : Int32), oI xb, oI ps, oI cc, oI ln, oR b324, oU, oU, oU, oU, oU, oU, oU, oU, oU, oU, oU, oU, oU, oU, oU, oU] [(.int (7 : Int32)), (.long uu), (.int dg), (.int (1 : Int32)), (.ref b324)])) rfl (by rw [hml]; rfl) (argsL := [(.ref b324), (.int (1 : Int32)), (.int dg), (.long uu), (.int (7 : Int32))]) (rest := []) (lenOf own_pd24 rfl) rfl (own_hW rfl) (hb hby at_171) (fun _ _ => ⟨rfl, rfl, (by decide : 8 + 1 ≤ _), (by decide : 96 + 12 ≤ _)⟩)
      dsimp only [Pt.U, Pt.locs, Pt.cells, Pt.slots] at X333 l333 y333 z333 st333 hQ333
      subst y333 z333
      obtain ⟨rfl, N333q, Kq333, P333_0⟩ := hQ333
      have N333 : Fr n0 L333 := by rw [l333]; exact Fr.app N332 N333q
      have K333 : Keep h0 T333.heap [] := K332.trans Kq333 (allS (P := fun x => x ∈ [] ∨ h0.size ≤ x) (Or.inr fr324) all0)
      have c333 : CHr Z own_EL _ T332.heap _ T333.heap := CHr.keep Kq333 (own_slS (own_safeA hZ.alike P332_0 (by decide)) own_sl0) C332.1
      have C333 := C332.trans c333
      have kk333 := Nat.le_trans kk332 c333.2.1
      refine own_st (st333) ?_
      refine own_st (fun t_ k_ => XS.aload X333.here hx rfl (hb hby at_174) rfl rfl (XS.iload X333.here hx rfl (hb hby at_176) rfl (XS.iload X333.here hx rfl (hb hby at_178) rfl (XS.lload X333.here hx rfl (hb hby at_180) rfl (XS.bipush X333.here hx rfl (hb hby at_182) k_))))) ?_
      show own_at p e below _ T333 m 184 #[oJ p0, oS, oI p1, oI p2, oI p3, oI p4, oJ uu, oS, oI dg, oI (1 : Int32), oI xb, oI ps, oI cc, oI ln, oR b324, oU, oU, oU, oU, oU, oU, oU, oU, oU, oU, oU, oU, oU, oU, oU, oU] [(.int (8 : Int32)), (.long uu), (.int dg), (.int (1 : Int32)), (.ref b324)]
      obtain ⟨_, _, ⟨T334, L334, k334, n334⟩, -, X334, ⟨Lc334, hQ334, l334, y334, z334⟩, st334⟩ := Jvm.LawKit.callS X333 hx (y := own_n20) hown (mvT hZ (own_w hw 3 rfl)) (mvT hZ (own_w hw 4 rfl)) (mvT hZ (own_w hw 5 rfl)) (mvT hZ (own_w hw 6 rfl)) (by decide) (backOf (W := 0) (own_rm1 l Z a0 hw [] b324 (1 : Int32) dg uu (8 : Int32) k324 1 nD ((((((((0 + 1) + 1) + 1) + 1) + 1) + 1) + 1) + 1) g9 T333.heap n0 (Nat.le_trans Z0 K333.1) P333_0 ge324 ⟨(by decide), hD.1, (by decide), (by decide), hD.2, (by decide)⟩) hZ (own_w hw 6 rfl) (own_w hw 5 rfl) (by decide) (by decide)) (g := (mkF m 184 #[oJ p0, oS, oI p1, oI p2, oI p3, oI p4, oJ uu, oS, oI dg, oI (1 : Int32), oI xb, oI ps, oI cc, oI ln, oR b324, oU, oU, oU, oU, oU, oU, oU, oU, oU, oU, oU, oU, oU, oU, oU, oU] [(.int (8 : Int32)), (.long uu), (.int dg), (.int (1 : Int32)), (.ref b324)])) rfl (by rw [hml]; rfl) (argsL := [(.ref b324), (.int (1 : Int32)), (.int dg), (.long uu), (.int (8 : Int32))]) (rest := []) (lenOf own_pd24 rfl) rfl (own_hW rfl) (hb hby at_184) (fun _ _ => ⟨rfl, rfl, (by decide : 9 + 1 ≤ _), (by decide : 108 + 12 ≤ _)⟩)
      dsimp only [Pt.U, Pt.locs, Pt.cells, Pt.slots] at X334 l334 y334 z334 st334 hQ334
      subst y334 z334
      obtain ⟨rfl, N334q, Kq334, P334_0⟩ := hQ334
      have N334 : Fr n0 L334 := by rw [l334]; exact Fr.app N333 N334q
      have K334 : Keep h0 T334.heap [] := K333.trans Kq334 (allS (P := fun x => x ∈ [] ∨ h0.size ≤ x) (Or.inr fr324) all0)
      have c334 : CHr Z own_EL _ T333.heap _ T334.heap := CHr.keep Kq334 (own_slS (own_safeA hZ.alike P333_0 (by decide)) own_sl0) C333.1
      have C334 := C333.trans c334
      have kk334 := Nat.le_trans kk333 c334.2.1
      refine own_st (st334) ?_
      refine own_st (fun t_ k_ => XS.aload X334.here hx rfl (hb hby at_187) rfl rfl (XS.iload X334.here hx rfl (hb hby at_189) rfl (XS.iload X334.here hx rfl (hb hby at_191) rfl (XS.lload X334.here hx rfl (hb hby at_193) rfl (XS.bipush X334.here hx rfl (hb hby at_195) k_))))) ?_
      show own_at p e below _ T334 m 197 #[oJ p0, oS, oI p1, oI p2, oI p3, oI p4, oJ uu, oS, oI dg, oI (1 : Int32), oI xb, oI ps, oI cc, oI ln, oR b324, oU, oU, oU, oU, oU, oU, oU, oU, oU, oU, oU, oU, oU, oU, oU, oU] [(.int (9 : Int32)), (.long uu), (.int dg), (.int (1 : Int32)), (.ref b324)]
      obtain ⟨_, _, ⟨T335, L335, k335, n335⟩, -, X335, ⟨Lc335, hQ335, l335, y335, z335⟩, st335⟩ := Jvm.LawKit.callS X334 hx (y := own_n20) hown (mvT hZ (own_w hw 3 rfl)) (mvT hZ (own_w hw 4 rfl)) (mvT hZ (own_w hw 5 rfl)) (mvT hZ (own_w hw 6 rfl)) (by decide) (backOf (W := 0) (own_rm1 l Z a0 hw [] b324 (1 : Int32) dg uu (9 : Int32) k324 1 nD (((((((((0 + 1) + 1) + 1) + 1) + 1) + 1) + 1) + 1) + 1) g9 T334.heap n0 (Nat.le_trans Z0 K334.1) P334_0 ge324 ⟨(by decide), hD.1, (by decide), (by decide), hD.2, (by decide)⟩) hZ (own_w hw 6 rfl) (own_w hw 5 rfl) (by decide) (by decide)) (g := (mkF m 197 #[oJ p0, oS, oI p1, oI p2, oI p3, oI p4, oJ uu, oS, oI dg, oI (1 : Int32), oI xb, oI ps, oI cc, oI ln, oR b324, oU, oU, oU, oU, oU, oU, oU, oU, oU, oU, oU, oU, oU, oU, oU, oU] [(.int (9 : Int32)), (.long uu), (.int dg), (.int (1 : Int32)), (.ref b324)])) rfl (by rw [hml]; rfl) (argsL := [(.ref b324), (.int (1 : Int32)), (.int dg), (.long uu), (.int (9 : Int32))]) (rest := []) (lenOf own_pd24 rfl) rfl (own_hW rfl) (hb hby at_197) (fun _ _ => ⟨rfl, rfl, (by decide : 10 + 1 ≤ _), (by decide : 120 + 12 ≤ _)⟩)
      dsimp only [Pt.U, Pt.locs, Pt.cells, Pt.slots] at X335 l335 y335 z335 st335 hQ335
      subst y335 z335
      obtain ⟨rfl, N335q, Kq335, P335_0⟩ := hQ335
      have N335 : Fr n0 L335 := by rw [l335]; exact Fr.app N334 N335q
      have K335 : Keep h0 T335.heap [] := K334.trans Kq335 (allS (P := fun x => x ∈ [] ∨ h0.size ≤ x) (Or.inr fr324) all0)
      have c335 : CHr Z own_EL _ T334.heap _ T335.heap := CHr.keep Kq335 (own_slS (own_safeA hZ.alike P334_0 (by decide)) own_sl0) C334.1
      have C335 := C334.trans c335
      have kk335 := Nat.le_trans kk334 c335.2.1
      refine own_st (st335) ?_
      refine own_st (fun t_ k_ => XS.aload X335.here hx rfl (hb hby at_200) rfl rfl (XS.iload X335.here hx rfl (hb hby at_202) rfl (XS.iload X335.here hx rfl (hb hby at_204) rfl (XS.lload X335.here hx rfl (hb hby at_206) rfl (XS.bipush X335.here hx rfl (hb hby at_208) k_))))) ?_
      show own_at p e below _ T335 m 210 #[oJ p0, oS, oI p1, oI p2, oI p3, oI p4, oJ uu, oS, oI dg, oI (1 : Int32), oI xb, oI ps, oI cc, oI ln, oR b324, oU, oU, oU, oU, oU, oU, oU, oU, oU, oU, oU, oU, oU, oU, oU, oU] [(.int (10 : Int32)), (.long uu), (.int dg), (.int (1 : Int32)), (.ref b324)]
      obtain ⟨_, _, ⟨T336, L336, k336, n336⟩, -, X336, ⟨Lc336, hQ336, l336, y336, z336⟩, st336⟩ := Jvm.LawKit.callS X335 hx (y := own_n20) hown (mvT hZ (own_w hw 3 rfl)) (mvT hZ (own_w hw 4 rfl)) (mvT hZ (own_w hw 5 rfl)) (mvT hZ (own_w hw 6 rfl)) (by decide) (backOf (W := 0) (own_rm1 l Z a0 hw [] b324 (1 : Int32) dg uu (10 : Int32) k324 1 nD ((((((((((0 + 1) + 1) + 1) + 1) + 1) + 1) + 1) + 1) + 1) + 1) g9 T335.heap n0 (Nat.le_trans Z0 K335.1) P335_0 ge324 ⟨(by decide), hD.1, (by decide), (by decide), hD.2, (by decide)⟩) hZ (own_w hw 6 rfl) (own_w hw 5 rfl) (by decide) (by decide)) (g := (mkF m 210 #[oJ p0, oS, oI p1, oI p2, oI p3, oI p4, oJ uu, oS, oI dg, oI (1 : Int32), oI xb, oI ps, oI cc, oI ln, oR b324, oU, oU, oU, oU, oU, oU, oU, oU, oU, oU, oU, oU, oU, oU, oU, oU] [(.int (10 : Int32)), (.long uu), (.int dg), (.int (1 : Int32)), (.ref b324)])) rfl (by rw [hml]; rfl) (argsL := [(.ref b324), (.int (1 : Int32)), (.int dg), (.long uu), (.int (10 : Int32))]) (rest := []) (lenOf own_pd24 rfl) rfl (own_hW rfl) (hb hby at_210) (fun _ _ => ⟨rfl, rfl, (by decide : 11 + 1 ≤ _), (by decide : 132 + 12 ≤ _)⟩)
      dsimp only [Pt.U, Pt.locs, Pt.cells, Pt.slots] at X336 l336 y336 z336 st336 hQ336
      subst y336 z336
      obtain ⟨rfl, N336q, Kq336, P336_0⟩ := hQ336
      have N336 : Fr n0 L336 := by rw [l336]; exact Fr.app N335 N336q
      have K336 : Keep h0 T336.heap [] := K335.trans Kq336 (allS (P := fun x => x ∈ [] ∨ h0.size ≤ x) (Or.inr fr324) all0)
      have c336 : CHr Z own_EL _ T335.heap _ T336.heap := CHr.keep Kq336 (own_slS (own_safeA hZ.alike P335_0 (by decide)) own_sl0) C335.1
      have C336 := C335.trans c336
      have kk336 := Nat.le_trans kk335 c336.2.1
      refine own_st (st336) ?_
      obtain ⟨c0, e_c0⟩ : ∃ f_ : Nat → Int32, f_ = own_pk 1 nD uu 11 g9 := ⟨_, rfl⟩
      have Ac0 : own_A Z T336.heap b324 k324 .char (1 + nD) (fun i => .int (c0 i)) := by rw [e_c0]; exact P336_0
      have hd0 : ∀ q : Nat, 1 ≤ q → q < 1 + nD → (c0 q).toInt = 48 + ((U / 10 ^ (1 + nD - 1 - q) % 10 : Nat) : Int) := by rw [e_c0]; exact fun q h1_ h2_ => own_pkI hU hD.2 h1_ h2_
      have h45 : (1 : Nat) = 1 → (c0 0).toInt = 45 := fun _ => by rw [e_c0, own_pkL (by decide), e_g9]; decide
      refine own_st (fun t_ k_ => XS.iload X336.here hx rfl (hb hby at_213) rfl k_) ?_
      show own_at p e below _ T336 m 215 #[oJ p0, oS, oI p1, oI p2, oI p3, oI p4, oJ uu, oS, oI dg, oI (1 : Int32), oI xb, oI ps, oI cc, oI ln, oR b324, oU, oU, oU, oU, oU, oU, oU, oU, oU, oU, oU, oU, oU, oU, oU, oU] [(.int xb)]
      by_cases c215_337 : xb = (0 : Int32)
      · skip
        refine own_st (fun t_ k_ => XS.ifYes X336.here hx rfl (pc0 := 215) (pc' := 227) rfl (hb hby at_215) rfl ((if0 _ _).trans (teq c215_337).1) (by decide) (by decide) (XS.iconst X336.here hx rfl (hb hby at_227) (XS.istore X336.here hx rfl (hb hby at_228) rfl (l' := #[oJ p0, oS, oI p1, oI p2, oI p3, oI p4, oJ uu, oS, oI dg, oI (1 : Int32), oI xb, oI ps, oI cc, oI ln, oR b324, oI (0 : Int32), oU, oU, oU, oU, oU, oU, oU, oU, oU, oU, oU, oU, oU, oU, oU]) rfl (XS.iload X336.here hx rfl (hb hby at_230) rfl (XS.ifYes X336.here hx rfl (pc0 := 232) (pc' := 243) rfl (hb hby at_232) rfl ((if0 _ _).trans (teq (by decide : (0 : Int32) = (0 : Int32))).1) (by decide) (by decide) (XS.iconst X336.here hx rfl (hb hby at_243) k_)))))) ?_
        show own_at p e below _ T336 m 244 #[oJ p0, oS, oI p1, oI p2, oI p3, oI p4, oJ uu, oS, oI dg, oI (1 : Int32), oI xb, oI ps, oI cc, oI ln, oR b324, oI (0 : Int32), oU, oU, oU, oU, oU, oU, oU, oU, oU, oU, oU, oU, oU, oU, oU] [(.int (0 : Int32))]
        refine own_st (fun t_ k_ => XS.istore X336.here hx rfl (hb hby at_244) rfl (l' := #[oJ p0, oS, oI p1, oI p2, oI p3, oI p4, oJ uu, oS, oI dg, oI (1 : Int32), oI xb, oI ps, oI cc, oI ln, oR b324, oI (0 : Int32), oI (0 : Int32), oU, oU, oU, oU, oU, oU, oU, oU, oU, oU, oU, oU, oU, oU]) rfl (XS.iload X336.here hx rfl (hb hby at_246) rfl (XS.ifYes X336.here hx rfl (pc0 := 248) (pc' := 258) rfl (hb hby at_248) rfl ((if0 _ _).trans (teq (by decide : (0 : Int32) = (0 : Int32))).1) (by decide) (by decide) k_))) ?_
        show own_at p e below _ T336 m 258 #[oJ p0, oS, oI p1, oI p2, oI p3, oI p4, oJ uu, oS, oI dg, oI (1 : Int32), oI xb, oI ps, oI cc, oI ln, oR b324, oI (0 : Int32), oI (0 : Int32), oU, oU, oU, oU, oU, oU, oU, oU, oU, oU, oU, oU, oU, oU] []
        obtain ⟨cs, e_cs⟩ : ∃ f_ : Nat → Int32, f_ = c0 := ⟨_, rfl⟩
        have Acs : own_A Z T336.heap b324 k324 .char (1 + nD) (fun i => .int (cs i)) := by rw [e_cs]; exact Ac0
        have hall : ∀ q : Nat, q < 1 + nD → 0 ≤ (cs q).toInt ∧ (cs q).toInt ≤ 65535 := fun q hq => own_char (Acs.fit hq)
        obtain ⟨T338, h338, X338, e338, E338, A338, D338, -, st338⟩ := newO X336 hx hZ hown (own_w hw 25 rfl) (own_w hw 26 rfl) (own_w hw 27 rfl) rfl (g := (mkF m 258 #[oJ p0, oS, oI p1, oI p2, oI p3, oI p4, oJ uu, oS, oI dg, oI (1 : Int32), oI xb, oI ps, oI cc, oI ln, oR b324, oI (0 : Int32), oI (0 : Int32), oU, oU, oU, oU, oU, oU, oU, oU, oU, oU, oU, oU, oU, oU] [])) rfl (hb hby at_258) (by decide) (by decide)
        obtain ⟨b338, g338⟩ : ∃ z, z = T336.heap.size := ⟨_, rfl⟩
        rw [← g338] at A338 D338 st338
        have fr338 : h0.size ≤ b338 := Nat.le_trans K336.1 (Nat.le_of_eq g338.symm)
        have ge338 : n0 ≤ b338 := Nat.le_trans Z0 fr338
        have K338 : Keep h0 h338 [] := K336.ext E338
        have c338 : CHr Z own_EL _ T336.heap _ h338 := CHr.ext E338 C336.1
        have C338 := C336.trans c338
        have kk338 := Nat.le_trans kk336 c338.2.1
        have Sf338_b338 : Safe Z own_EL _ h338 b338 := Safe.ext E338 C336.1 (Safe.new (Nat.le_of_eq g338.symm))
        have F338_51 : Fld Z h338 b338 "java/lang/String" "coder" "B" (.int (0 : Int32)) := D338 (Or.inr (own_w hw 51 rfl)) (ty := .byte) (by decide)
        have F338_53 : Fld Z h338 b338 "java/lang/String" "value" "[B" .null := D338 (Or.inr (own_w hw 53 rfl)) (ty := (.array .byte)) (by decide)
        refine own_st (st338) ?_
        refine own_st (fun t_ k_ => XS.dup X338.here hx rfl (hb hby at_261) rfl rfl (XS.aload X338.here hx rfl (hb hby at_262) rfl rfl k_)) ?_
        show own_at p e below _ T338 m 264 #[oJ p0, oS, oI p1, oI p2, oI p3, oI p4, oJ uu, oS, oI dg, oI (1 : Int32), oI xb, oI ps, oI cc, oI ln, oR b324, oI (0 : Int32), oI (0 : Int32), oU, oU, oU, oU, oU, oU, oU, oU, oU, oU, oU, oU, oU, oU] [(.ref b324), (.ref b338), (.ref b338)]
        have f339 : Old Z n0 h338 := ((((((((((((((q0.ext E324).wr W325 ge324).keep Kq326 (allS ge324 all0)).keep Kq327 (allS ge324 all0)).keep Kq328 (allS ge324 all0)).keep Kq329 (allS ge324 all0)).keep Kq330 (allS ge324 all0)).keep Kq331 (allS ge324 all0)).keep Kq332 (allS ge324 all0)).keep Kq333 (allS ge324 all0)).keep Kq334 (allS ge324 all0)).keep Kq335 (allS ge324 all0)).keep Kq336 (allS ge324 all0)).ext E338)
        have f340 : Old Z n0 h338 := ((((((((((((((q0.ext E324).wr W325 ge324).keep Kq326 (allS ge324 all0)).keep Kq327 (allS ge324 all0)).keep Kq328 (allS ge324 all0)).keep Kq329 (allS ge324 all0)).keep Kq330 (allS ge324 all0)).keep Kq331 (allS ge324 all0)).keep Kq332 (allS ge324 all0)).keep Kq333 (allS ge324 all0)).keep Kq334 (allS ge324 all0)).keep Kq335 (allS ge324 all0)).keep Kq336 (allS ge324 all0)).ext E338)
        obtain ⟨_, _, ⟨T341, L341, k341, n341⟩, -, X341, ⟨Lc341, hQ341, l341, y341, z341⟩, st341⟩ := X338.specialBack hx (y := own_n9) rfl hown (mvT hZ (own_w hw 28 rfl)) (mvT hZ (own_w hw 29 rfl)) (mvT hZ (own_w hw 30 rfl)) (by decide) (backOf (W := 1) (own_rm4 l Z a0 hw [] b338 b324 k324 (1 + nD) cs G1 h338 n0 (Nat.le_trans Z0 K338.1) A338 F338_53 F338_51 (Acs.ext E338) ge338 (Ne.symm (Nat.ne_of_lt (Nat.lt_of_lt_of_le Acs.lt (Nat.le_of_eq g338.symm)))) ⟨(by omega), (by omega)⟩ f340 q1 hG1 q5 q6 q7) hZ (own_w hw 30 rfl) (own_w hw 27 rfl) (by decide) (by decide)) (g := (mkF m 264 #[oJ p0, oS, oI p1, oI p2, oI p3, oI p4, oJ uu, oS, oI dg, oI (1 : Int32), oI xb, oI ps, oI cc, oI ln, oR b324, oI (0 : Int32), oI (0 : Int32), oU, oU, oU, oU, oU, oU, oU, oU, oU, oU, oU, oU, oU, oU] [(.ref b324), (.ref b338), (.ref b338)])) rfl (by rw [hml]; rfl) (Steps.refl _) (a := b338) (argsL := [(.ref b324)]) (rest := [(.ref b338)]) (lenOf own_pd25 rfl) rfl (own_hW rfl) (hb hby at_264) (fun _ _ => ⟨rfl, e338, (by decide : 13 + 2 ≤ _), (by decide : 148 + 36 ≤ _)⟩)
        dsimp only [Pt.U, Pt.locs, Pt.cells, Pt.slots] at X341 l341 y341 z341 st341 hQ341
        subst y341 z341
        obtain ⟨t_341, kt_341, cd_341, rfl, N341q, Kq341, P341_0, P341_1, P341_2, P341_3, P341_4⟩ := hQ341
        have N341 : Fr n0 L341 := by rw [l341]; exact Fr.app N336 N341q
        have K341 : Keep h0 T341.heap [] := K338.trans Kq341 (allS (P := fun x => x ∈ [] ∨ h0.size ≤ x) (Or.inr fr338) all0)
        have c341 : CHr Z own_EL _ h338 _ T341.heap := CHr.keep Kq341 (own_slS Sf338_b338 own_sl0) C338.1
        have C341 := C338.trans c341
        have kk341 := Nat.le_trans kk338 c341.2.1
        have fr341_0 : h0.size ≤ t_341 := Nat.le_trans K338.1 P341_0
        have ge341_0 : n0 ≤ t_341 := Nat.le_trans Z0 fr341_0
        have Sf341_t_341 : Safe Z own_EL _ T341.heap t_341 := Safe.keep Kq341 (own_slS Sf338_b338 own_sl0) C338.1 (Safe.new P341_0)
        refine own_tr st341 ?_
        refine own_st (fun t_ k_ => XS.astore X341.here hx rfl (hb hby at_267) rfl rfl (l' := #[oJ p0, oS, oI p1, oI p2, oI p3, oI p4, oJ uu, oS, oI dg, oI (1 : Int32), oI xb, oI ps, oI cc, oI ln, oR b324, oI (0 : Int32), oI (0 : Int32), oR b338, oU, oU, oU, oU, oU, oU, oU, oU, oU, oU, oU, oU, oU]) rfl (XS.aload X341.here hx rfl (hb hby at_269) rfl rfl (XS.iload X341.here hx rfl (hb hby at_271) rfl (XS.iload X341.here hx rfl (hb hby at_273) rfl k_)))) ?_
        show own_at p e below _ T341 m 275 #[oJ p0, oS, oI p1, oI p2, oI p3, oI p4, oJ uu, oS, oI dg, oI (1 : Int32), oI xb, oI ps, oI cc, oI ln, oR b324, oI (0 : Int32), oI (0 : Int32), oR b338, oU, oU, oU, oU, oU, oU, oU, oU, oU, oU, oU, oU, oU] [(.int p4), (.int p3), (.ref b338)]
        obtain ⟨_, _, ⟨T342, L342, k342, n342⟩, -, X342, Sq342, gq342, ⟨Lc342, hQ342, l342, y342, z342, c342⟩, st342⟩ := callSS X341 hx (y := own_n31) hown (mvT hZ (own_w hw 54 rfl)) (mvT hZ (own_w hw 55 rfl)) (mvT hZ (own_w hw 56 rfl)) (mvT hZ (own_w hw 57 rfl)) (by decide) (own_backSH (W := 0) (own_rm10 l Z a0 hw [] b338 p3 p4 t_341 kt_341 cd_341 (1 + nD) cs G1 G3 aE T341.heap n0 (Nat.le_trans Z0 K341.1) (A338.keep Kq341) P341_1 P341_2 P341_3 P341_4 (f340.keep Kq341 (allS ge338 all0)) q1 hG1 q3 rG3 q5 q6 q7 q8 q9 q10 q11 (by omega) hall) hZ (own_w hw 57 rfl) (own_w hw 56 rfl) (by decide) (by decide) (own_hEL hw) C341.1 own_sl0) (g := (mkF m 275 #[oJ p0, oS, oI p1, oI p2, oI p3, oI p4, oJ uu, oS, oI dg, oI (1 : Int32), oI xb, oI ps, oI cc, oI ln, oR b324, oI (0 : Int32), oI (0 : Int32), oR b338, oU, oU, oU, oU, oU, oU, oU, oU, oU, oU, oU, oU, oU] [(.int p4), (.int p3), (.ref b338)])) rfl (by rw [hml]; rfl) (argsL := [(.ref b338), (.int p3), (.int p4)]) (rest := []) (lenOf own_pd26 rfl) rfl (own_hW rfl) (hb hby at_275) (fun _ _ => ⟨rfl, rfl, (by decide : 15 + 3 ≤ _), (by decide : 184 + 10 ≤ _)⟩)
        dsimp only [Pt.U, Pt.locs, Pt.cells, Pt.slots] at X342 l342 y342 z342 st342 hQ342 Sq342 gq342 c342
        subst y342 z342
        obtain ⟨o_342, pz_342, vz_342, rfl, N342q, Kq342, P342_0, P342_1, P342_2, P342_3⟩ := hQ342
        have N342 : Fr n0 L342 := by rw [l342]; exact Fr.app N341 N342q
        have S342 := foldS S0 (kk341) Sq342 gq342
        have X342 := (show Stand p l e _ (s.setVm T342.vm) m _ below meth c T342 L342 _ _ from X342)
        have hZ : Z.Warmed39 (s.setVm T342.vm).vm := State.Warmed39.trans (t := s.setVm s.vm) hZ Sq342.1
        have hown : (s.setVm T342.vm).vm.findClass "com/example/marshalyard/marshalyard/engine/DecimalIntegerParsePinLaw" = some m.cls := by rw [show (s.setVm T342.vm).vm = T342.vm from rfl, Sq342.1.alike.findClass]; exact hown
        have kk342 := Nat.le_refl T342.heap.size
        have K342 : Keep h0 T342.heap [] := K341.trans Kq342 all0
        have C342 := C341.trans c342
        refine own_tr st342 ?_
        refine own_st (fun t_ k_ => XS.astore X342.here hx rfl (hb hby at_278) rfl rfl (l' := #[oJ p0, oS, oI p1, oI p2, oI p3, oI p4, oJ uu, oS, oI dg, oI (1 : Int32), oI xb, oI ps, oI cc, oI ln, oR b324, oI (0 : Int32), oI (0 : Int32), oR b338, oR o_342, oU, oU, oU, oU, oU, oU, oU, oU, oU, oU, oU, oU]) rfl (XS.lload X342.here hx rfl (hb hby at_280) rfl (XS.iload X342.here hx rfl (hb hby at_282) rfl k_))) ?_
        show own_at p e below _ T342 m 284 #[oJ p0, oS, oI p1, oI p2, oI p3, oI p4, oJ uu, oS, oI dg, oI (1 : Int32), oI xb, oI ps, oI cc, oI ln, oR b324, oI (0 : Int32), oI (0 : Int32), oR b338, oR o_342, oU, oU, oU, oU, oU, oU, oU, oU, oU, oU, oU, oU] [(.int dg), (.long uu)]
        obtain ⟨_, _, ⟨T343, L343, k343, n343⟩, -, X343, ⟨Lc343, hQ343, l343, y343, z343⟩, st343⟩ := Jvm.LawKit.callS X342 hx (y := own_n18) hown (mvT hZ (own_w hw 10 rfl)) (mvT hZ (own_w hw 11 rfl)) (mvT hZ (own_w hw 5 rfl)) (mvT hZ (own_w hw 12 rfl)) (by decide) (backOf (W := 2) (own_rm3 l Z a0 hw [] dg nD T342.heap n0 (Nat.le_trans Z0 K342.1) ⟨hD.1, (by omega)⟩) hZ (own_w hw 12 rfl) (own_w hw 5 rfl) (by decide) (by decide)) (g := (mkF m 284 #[oJ p0, oS, oI p1, oI p2, oI p3, oI p4, oJ uu, oS, oI dg, oI (1 : Int32), oI xb, oI ps, oI cc, oI ln, oR b324, oI (0 : Int32), oI (0 : Int32), oR b338, oR o_342, oU, oU, oU, oU, oU, oU, oU, oU, oU, oU, oU, oU] [(.int dg), (.long uu)])) rfl (by rw [hml]; rfl) (argsL := [(.int dg)]) (rest := [(.long uu)]) (lenOf own_pd13 rfl) rfl (own_hW rfl) (hb hby at_284) (fun _ _ => ⟨rfl, rfl, (by decide : 18 + 1 ≤ _), (by decide : 194 + 12 ≤ _)⟩)
        dsimp only [Pt.U, Pt.locs, Pt.cells, Pt.slots] at X343 l343 y343 z343 st343 hQ343
        subst y343 z343
        obtain ⟨rfl, N343q, Kq343⟩ := hQ343
        have N343 : Fr n0 L343 := by rw [l343]; exact Fr.app N342 N343q
        have K343 : Keep h0 T343.heap [] := K342.trans Kq343 all0
        have c343 : CHr Z own_EL _ T342.heap _ T343.heap := CHr.keep Kq343 own_sl0 C342.1
        have C343 := C342.trans c343
        have kk343 := Nat.le_trans kk342 c343.2.1
        refine own_st (st343) ?_
        show own_at p e below _ T343 m 287 #[oJ p0, oS, oI p1, oI p2, oI p3, oI p4, oJ uu, oS, oI dg, oI (1 : Int32), oI xb, oI ps, oI cc, oI ln, oR b324, oI (0 : Int32), oI (0 : Int32), oR b338, oR o_342, oU, oU, oU, oU, oU, oU, oU, oU, oU, oU, oU, oU] [(.long (own_p10 nD)), (.long uu)]
        refine own_st (fun t_ k_ => own_lrem X343 hx rfl (hb hby at_287) rfl (own_p10z (by omega)) k_) ?_
        refine own_st (fun t_ k_ => XS.lstore X343.here hx rfl (hb hby at_288) rfl (l' := #[oJ p0, oS, oI p1, oI p2, oI p3, oI p4, oJ uu, oS, oI dg, oI (1 : Int32), oI xb, oI ps, oI cc, oI ln, oR b324, oI (0 : Int32), oI (0 : Int32), oR b338, oR o_342, oJ (uu % (own_p10 nD)), oS, oU, oU, oU, oU, oU, oU, oU, oU, oU, oU]) rfl k_) ?_
        show own_at p e below _ T343 m 290 #[oJ p0, oS, oI p1, oI p2, oI p3, oI p4, oJ uu, oS, oI dg, oI (1 : Int32), oI xb, oI ps, oI cc, oI ln, oR b324, oI (0 : Int32), oI (0 : Int32), oR b338, oR o_342, oJ (uu % (own_p10 nD)), oS, oU, oU, oU, oU, oU, oU, oU, oU, oU, oU] []
        have j309 : ∀ xd : Int32, own_at p e below (own_PW below s Z own_EL (own_Q0 Z p0 p1 p2 p3 p4 G1 G3 aE h0 n0) room_1.cells room_1.slots) T343 m 309 #[oJ p0, oS, oI p1, oI p2, oI p3, oI p4, oJ uu, oS, oI dg, oI (1 : Int32), oI xb, oI ps, oI cc, oI ln, oR b324, oI (0 : Int32), oI (0 : Int32), oR b338, oR o_342, oJ (uu % (own_p10 nD)), oS, oU, oU, oU, oU, oU, oU, oU, oU, oU, oU] [(.int xd)] := by
          intro xd
          have hk := own_kA (s := 1) (n := nD) (cs := cs) (U := U) (by decide) (by rw [e_cs]; exact h45) (by rw [e_cs]; exact hd0)
          have hiff := own_gA (mn := p3) (mx := p4) hk
          have hiff : own_good cs (1 + nD) p3 p4 ↔ (1 ≤ nD ∧ nD ≤ 10) ∧ p3.toInt ≤ (-((U % 10 ^ nD : Nat) : Int)) ∧ (-((U % 10 ^ nD : Nat) : Int)) ≤ p4.toInt := hiff
          have hpvE : own_pv cs (own_swn cs (1 + nD)) (1 + nD) = (-((U % 10 ^ nD : Nat) : Int)) := own_pvE hk
          refine own_st (fun t_ k_ => XS.istore X343.here hx rfl (hb hby at_309) rfl (l' := #[oJ p0, oS, oI p1, oI p2, oI p3, oI p4, oJ uu, oS, oI dg, oI (1 : Int32), oI xb, oI ps, oI cc, oI ln, oR b324, oI (0 : Int32), oI (0 : Int32), oR b338, oR o_342, oJ (uu % (own_p10 nD)), oS, oI xd, oU, oU, oU, oU, oU, oU, oU, oU, oU]) rfl (XS.iload X343.here hx rfl (hb hby at_311) rfl (XS.bipush X343.here hx rfl (hb hby at_313) (XS.isub X343.here hx rfl (hb hby at_315) rfl (XS.istore X343.here hx rfl (hb hby at_316) rfl (l' := #[oJ p0, oS, oI p1, oI p2, oI p3, oI p4, oJ uu, oS, oI dg, oI (1 : Int32), oI xb, oI ps, oI cc, oI ln, oR b324, oI (0 : Int32), oI (0 : Int32), oR b338, oR o_342, oJ (uu % (own_p10 nD)), oS, oI xd, oI (cc - (48 : Int32)), oU, oU, oU, oU, oU, oU, oU, oU]) rfl (XS.iload X343.here hx rfl (hb hby at_318) rfl k_)))))) ?_
          show own_at p e below _ T343 m 320 #[oJ p0, oS, oI p1, oI p2, oI p3, oI p4, oJ uu, oS, oI dg, oI (1 : Int32), oI xb, oI ps, oI cc, oI ln, oR b324, oI (0 : Int32), oI (0 : Int32), oR b338, oR o_342, oJ (uu % (own_p10 nD)), oS, oI xd, oI (cc - (48 : Int32)), oU, oU, oU, oU, oU, oU, oU, oU] [(.int (0 : Int32))]
          refine own_st (fun t_ k_ => XS.ifYes X343.here hx rfl (pc0 := 320) (pc' := 337) rfl (hb hby at_320) rfl ((if0 _ _).trans (teq (by decide : (0 : Int32) = (0 : Int32))).1) (by decide) (by decide) (XS.iload X343.here hx rfl (hb hby at_337) rfl (XS.iconst X343.here hx rfl (hb hby at_339) k_))) ?_
          show own_at p e below _ T343 m 340 #[oJ p0, oS, oI p1, oI p2, oI p3, oI p4, oJ uu, oS, oI dg, oI (1 : Int32), oI xb, oI ps, oI cc, oI ln, oR b324, oI (0 : Int32), oI (0 : Int32), oR b338, oR o_342, oJ (uu % (own_p10 nD)), oS, oI xd, oI (cc - (48 : Int32)), oU, oU, oU, oU, oU, oU, oU, oU] [(.int (1 : Int32)), (.int dg)]
          by_cases c340_344 : dg < (1 : Int32)
          · skip
            have rlo_340 := (own_ltp hD.1 (by decide : (1 : Int32).toInt = ((1 : Nat) : Int))).mp c340_344
            refine own_st (fun t_ k_ => XS.icmpYes X343.here hx rfl (pc0 := 340) (pc' := 354) rfl (hb hby at_340) rfl (tlt c340_344).1 (by decide) (by decide) (XS.iconst X343.here hx rfl (hb hby at_354) (XS.istore X343.here hx rfl (hb hby at_355) rfl (l' := #[oJ p0, oS, oI p1, oI p2, oI p3, oI p4, oJ uu, oS, oI dg, oI (1 : Int32), oI xb, oI ps, oI cc, oI ln, oR b324, oI (0 : Int32), oI (0 : Int32), oR b338, oR o_342, oJ (uu % (own_p10 nD)), oS, oI xd, oI (cc - (48 : Int32)), oI (0 : Int32), oU, oU, oU, oU, oU, oU, oU]) rfl (XS.iload X343.here hx rfl (hb hby at_357) rfl (XS.iconst X343.here hx rfl (hb hby at_359) (XS.icmpNo X343.here hx rfl (hb hby at_360) rfl (teq (by decide : (1 : Int32) = (1 : Int32))).2 k_)))))) ?_
            show own_at p e below _ T343 m 363 #[oJ p0, oS, oI p1, oI p2, oI p3, oI p4, oJ uu, oS, oI dg, oI (1 : Int32), oI xb, oI ps, oI cc, oI ln, oR b324, oI (0 : Int32), oI (0 : Int32), oR b338, oR o_342, oJ (uu % (own_p10 nD)), oS, oI xd, oI (cc - (48 : Int32)), oI (0 : Int32), oU, oU, oU, oU, oU, oU, oU] []
            refine own_st (fun t_ k_ => XS.lload X343.here hx rfl (hb hby at_363) rfl (XS.lneg X343.here hx rfl (hb hby at_365) rfl (XS.goto X343.here hx rfl (pc0 := 366) (pc' := 371) rfl (hb hby at_366) (by decide) (by decide) k_))) ?_
            show own_at p e below _ T343 m 371 #[oJ p0, oS, oI p1, oI p2, oI p3, oI p4, oJ uu, oS, oI dg, oI (1 : Int32), oI xb, oI ps, oI cc, oI ln, oR b324, oI (0 : Int32), oI (0 : Int32), oR b338, oR o_342, oJ (uu % (own_p10 nD)), oS, oI xd, oI (cc - (48 : Int32)), oI (0 : Int32), oU, oU, oU, oU, oU, oU, oU] [(.long (-(uu % (own_p10 nD))))]
            obtain ⟨vl, e_vl⟩ : ∃ z, z = (-(uu % (own_p10 nD))) := ⟨_, rfl⟩
            rw [show (-(uu % (own_p10 nD))) = vl from e_vl.symm]
            have hvl : vl.toInt = (-((U % 10 ^ nD : Nat) : Int)) := (by rw [e_vl]; have z_ := (own_low hU (by omega : nD < 12)); exact own_lneg z_.1 (by omega) (by omega))
            refine own_st (fun t_ k_ => XS.lstore X343.here hx rfl (hb hby at_371) rfl (l' := #[oJ p0, oS, oI p1, oI p2, oI p3, oI p4, oJ uu, oS, oI dg, oI (1 : Int32), oI xb, oI ps, oI cc, oI ln, oR b324, oI (0 : Int32), oI (0 : Int32), oR b338, oR o_342, oJ (uu % (own_p10 nD)), oS, oI xd, oI (cc - (48 : Int32)), oI (0 : Int32), oJ vl, oS, oU, oU, oU, oU, oU]) rfl (XS.goto X343.here hx rfl (pc0 := 373) (pc' := 562) rfl (hb hby at_373) (by decide) (by decide) k_)) ?_
            show own_at p e below _ T343 m 562 #[oJ p0, oS, oI p1, oI p2, oI p3, oI p4, oJ uu, oS, oI dg, oI (1 : Int32), oI xb, oI ps, oI cc, oI ln, oR b324, oI (0 : Int32), oI (0 : Int32), oR b338, oR o_342, oJ (uu % (own_p10 nD)), oS, oI xd, oI (cc - (48 : Int32)), oI (0 : Int32), oJ vl, oS, oU, oU, oU, oU, oU] []
            have hgd : ¬ own_good cs (1 + nD) p3 p4 := fun z_ => by have y_ := (hiff.mp z_).1; omega
            exact j562 _ _ _ _ _ _ _ _ _ _ _ _ _ _ _ _ _ _ _ _ _ _ _ _ _ _ _ _ _ _ _ _ _ _ _ _ _ _ _ hZ hown S342 X343 rfl N343 K343 C343 kk343 (by decide) (by decide) ((((f340.keep Kq341 (allS ge338 all0)).keep Kq342 all0).keep Kq343 all0)) ((P342_0.keep Kq343)) ((P342_1.keep Kq343 nin0)) ((P342_2.keep Kq343 nin0)) One.u (Or.inl rfl) ⟨fun z_ => absurd z_ hgd, fun z_ => absurd z_.1 (by decide)⟩ (fun z_ => absurd z_ hgd) P342_3
          have rlo_340 := mt (own_ltp hD.1 (by decide : (1 : Int32).toInt = ((1 : Nat) : Int))).mpr c340_344
          refine own_st (fun t_ k_ => XS.icmpNo X343.here hx rfl (hb hby at_340) rfl (flt c340_344).1 (XS.iload X343.here hx rfl (hb hby at_343) rfl (XS.bipush X343.here hx rfl (hb hby at_345) k_))) ?_
          show own_at p e below _ T343 m 347 #[oJ p0, oS, oI p1, oI p2, oI p3, oI p4, oJ uu, oS, oI dg, oI (1 : Int32), oI xb, oI ps, oI cc, oI ln, oR b324, oI (0 : Int32), oI (0 : Int32), oR b338, oR o_342, oJ (uu % (own_p10 nD)), oS, oI xd, oI (cc - (48 : Int32)), oU, oU, oU, oU, oU, oU, oU, oU] [(.int (10 : Int32)), (.int dg)]
          by_cases c347_345 : (10 : Int32) < dg
          · skip
            have rhi_347 := (own_ltp (by decide : (10 : Int32).toInt = ((10 : Nat) : Int)) hD.1).mp c347_345
            refine own_st (fun t_ k_ => XS.icmpYes X343.here hx rfl (pc0 := 347) (pc' := 354) rfl (hb hby at_347) rfl (tlt c347_345).2.2.1 (by decide) (by decide) (XS.iconst X343.here hx rfl (hb hby at_354) (XS.istore X343.here hx rfl (hb hby at_355) rfl (l' := #[oJ p0, oS, oI p1, oI p2, oI p3, oI p4, oJ uu, oS, oI dg, oI (1 : Int32), oI xb, oI ps, oI cc, oI ln, oR b324, oI (0 : Int32), oI (0 : Int32), oR b338, oR o_342, oJ (uu % (own_p10 nD)), oS, oI xd, oI (cc - (48 : Int32)), oI (0 : Int32), oU, oU, oU, oU, oU, oU, oU]) rfl (XS.iload X343.here hx rfl (hb hby at_357) rfl (XS.iconst X343.here hx rfl (hb hby at_359) (XS.icmpNo X343.here hx rfl (hb hby at_360) rfl (teq (by decide : (1 : Int32) = (1 : Int32))).2 k_)))))) ?_
            show own_at p e below _ T343 m 363 #[oJ p0, oS, oI p1, oI p2, oI p3, oI p4, oJ uu, oS, oI dg, oI (1 : Int32), oI xb, oI ps, oI cc, oI ln, oR b324, oI (0 : Int32), oI (0 : Int32), oR b338, oR o_342, oJ (uu % (own_p10 nD)), oS, oI xd, oI (cc - (48 : Int32)), oI (0 : Int32), oU, oU, oU, oU, oU, oU, oU] []
            refine own_st (fun t_ k_ => XS.lload X343.here hx rfl (hb hby at_363) rfl (XS.lneg X343.here hx rfl (hb hby at_365) rfl (XS.goto X343.here hx rfl (pc0 := 366) (pc' := 371) rfl (hb hby at_366) (by decide) (by decide) k_))) ?_
            show own_at p e below _ T343 m 371 #[oJ p0, oS, oI p1, oI p2, oI p3, oI p4, oJ uu, oS, oI dg, oI (1 : Int32), oI xb, oI ps, oI cc, oI ln, oR b324, oI (0 : Int32), oI (0 : Int32), oR b338, oR o_342, oJ (uu % (own_p10 nD)), oS, oI xd, oI (cc - (48 : Int32)), oI (0 : Int32), oU, oU, oU, oU, oU, oU, oU] [(.long (-(uu % (own_p10 nD))))]
            obtain ⟨vl, e_vl⟩ : ∃ z, z = (-(uu % (own_p10 nD))) := ⟨_, rfl⟩
            rw [show (-(uu % (own_p10 nD))) = vl from e_vl.symm]
            have hvl : vl.toInt = (-((U % 10 ^ nD : Nat) : Int)) := (by rw [e_vl]; have z_ := (own_low hU (by omega : nD < 12)); exact own_lneg z_.1 (by omega) (by omega))
            refine own_st (fun t_ k_ => XS.lstore X343.here hx rfl (hb hby at_371) rfl (l' := #[oJ p0, oS, oI p1, oI p2, oI p3, oI p4, oJ uu, oS, oI dg, oI (1 : Int32), oI xb, oI ps, oI cc, oI ln, oR b324, oI (0 : Int32), oI (0 : Int32), oR b338, oR o_342, oJ (uu % (own_p10 nD)), oS, oI xd, oI (cc - (48 : Int32)), oI (0 : Int32), oJ vl, oS, oU, oU, oU, oU, oU]) rfl (XS.goto X343.here hx rfl (pc0 := 373) (pc' := 562) rfl (hb hby at_373) (by decide) (by decide) k_)) ?_
            show own_at p e below _ T343 m 562 #[oJ p0, oS, oI p1, oI p2, oI p3, oI p4, oJ uu, oS, oI dg, oI (1 : Int32), oI xb, oI ps, oI cc, oI ln, oR b324, oI (0 : Int32), oI (0 : Int32), oR b338, oR o_342, oJ (uu % (own_p10 nD)), oS, oI xd, oI (cc - (48 : Int32)), oI (0 : Int32), oJ vl, oS, oU, oU, oU, oU, oU] []
            have hgd : ¬ own_good cs (1 + nD) p3 p4 := fun z_ => by have y_ := (hiff.mp z_).1; omega
            exact j562 _ _ _ _ _ _ _ _ _ _ _ _ _ _ _ _ _ _ _ _ _ _ _ _ _ _ _ _ _ _ _ _ _ _ _ _ _ _ _ hZ hown S342 X343 rfl N343 K343 C343 kk343 (by decide) (by decide) ((((f340.keep Kq341 (allS ge338 all0)).keep Kq342 all0).keep Kq343 all0)) ((P342_0.keep Kq343)) ((P342_1.keep Kq343 nin0)) ((P342_2.keep Kq343 nin0)) One.u (Or.inl rfl) ⟨fun z_ => absurd z_ hgd, fun z_ => absurd z_.1 (by decide)⟩ (fun z_ => absurd z_ hgd) P342_3
          have rhi_347 := mt (own_ltp (by decide : (10 : Int32).toInt = ((10 : Nat) : Int)) hD.1).mpr c347_345
          refine own_st (fun t_ k_ => XS.icmpNo X343.here hx rfl (hb hby at_347) rfl (flt c347_345).2.2.1 (XS.iconst X343.here hx rfl (hb hby at_350) (XS.goto X343.here hx rfl (pc0 := 351) (pc' := 355) rfl (hb hby at_351) (by decide) (by decide) (XS.istore X343.here hx rfl (hb hby at_355) rfl (l' := #[oJ p0, oS, oI p1, oI p2, oI p3, oI p4, oJ uu, oS, oI dg, oI (1 : Int32), oI xb, oI ps, oI cc, oI ln, oR b324, oI (0 : Int32), oI (0 : Int32), oR b338, oR o_342, oJ (uu % (own_p10 nD)), oS, oI xd, oI (cc - (48 : Int32)), oI (1 : Int32), oU, oU, oU, oU, oU, oU, oU]) rfl (XS.iload X343.here hx rfl (hb hby at_357) rfl (XS.iconst X343.here hx rfl (hb hby at_359) k_)))))) ?_
          show own_at p e below _ T343 m 360 #[oJ p0, oS, oI p1, oI p2, oI p3, oI p4, oJ uu, oS, oI dg, oI (1 : Int32), oI xb, oI ps, oI cc, oI ln, oR b324, oI (0 : Int32), oI (0 : Int32), oR b338, oR o_342, oJ (uu % (own_p10 nD)), oS, oI xd, oI (cc - (48 : Int32)), oI (1 : Int32), oU, oU, oU, oU, oU, oU, oU] [(.int (1 : Int32)), (.int (1 : Int32))]
          refine own_st (fun t_ k_ => XS.icmpNo X343.here hx rfl (hb hby at_360) rfl (teq (by decide : (1 : Int32) = (1 : Int32))).2 (XS.lload X343.here hx rfl (hb hby at_363) rfl (XS.lneg X343.here hx rfl (hb hby at_365) rfl (XS.goto X343.here hx rfl (pc0 := 366) (pc' := 371) rfl (hb hby at_366) (by decide) (by decide) k_)))) ?_
          show own_at p e below _ T343 m 371 #[oJ p0, oS, oI p1, oI p2, oI p3, oI p4, oJ uu, oS, oI dg, oI (1 : Int32), oI xb, oI ps, oI cc, oI ln, oR b324, oI (0 : Int32), oI (0 : Int32), oR b338, oR o_342, oJ (uu % (own_p10 nD)), oS, oI xd, oI (cc - (48 : Int32)), oI (1 : Int32), oU, oU, oU, oU, oU, oU, oU] [(.long (-(uu % (own_p10 nD))))]
          obtain ⟨vl, e_vl⟩ : ∃ z, z = (-(uu % (own_p10 nD))) := ⟨_, rfl⟩
          rw [show (-(uu % (own_p10 nD))) = vl from e_vl.symm]
          have hvl : vl.toInt = (-((U % 10 ^ nD : Nat) : Int)) := (by rw [e_vl]; have z_ := (own_low hU (by omega : nD < 12)); exact own_lneg z_.1 (by omega) (by omega))
          refine own_st (fun t_ k_ => XS.lstore X343.here hx rfl (hb hby at_371) rfl (l' := #[oJ p0, oS, oI p1, oI p2, oI p3, oI p4, oJ uu, oS, oI dg, oI (1 : Int32), oI xb, oI ps, oI cc, oI ln, oR b324, oI (0 : Int32), oI (0 : Int32), oR b338, oR o_342, oJ (uu % (own_p10 nD)), oS, oI xd, oI (cc - (48 : Int32)), oI (1 : Int32), oJ vl, oS, oU, oU, oU, oU, oU]) rfl (XS.goto X343.here hx rfl (pc0 := 373) (pc' := 562) rfl (hb hby at_373) (by decide) (by decide) k_)) ?_
          show own_at p e below _ T343 m 562 #[oJ p0, oS, oI p1, oI p2, oI p3, oI p4, oJ uu, oS, oI dg, oI (1 : Int32), oI xb, oI ps, oI cc, oI ln, oR b324, oI (0 : Int32), oI (0 : Int32), oR b338, oR o_342, oJ (uu % (own_p10 nD)), oS, oI xd, oI (cc - (48 : Int32)), oI (1 : Int32), oJ vl, oS, oU, oU, oU, oU, oU] []
          exact j562 _ _ _ _ _ _ _ _ _ _ _ _ _ _ _ _ _ _ _ _ _ _ _ _ _ _ _ _ _ _ _ _ _ _ _ _ _ _ _ hZ hown S342 X343 rfl N343 K343 C343 kk343 (by decide) (by decide) ((((f340.keep Kq341 (allS ge338 all0)).keep Kq342 all0).keep Kq343 all0)) ((P342_0.keep Kq343)) ((P342_1.keep Kq343 nin0)) ((P342_2.keep Kq343 nin0)) One.u (Or.inr rfl) (by rw [hiff, hvl]; exact ⟨fun z_ => ⟨rfl, z_.2⟩, fun z_ => ⟨(by omega), z_.2⟩⟩) (fun _ => by rw [hpvE, hvl]) P342_3
        refine own_st (fun t_ k_ => XS.iload X343.here hx rfl (hb hby at_290) rfl (XS.bipush X343.here hx rfl (hb hby at_292) k_)) ?_
        show own_at p e below _ T343 m 294 #[oJ p0, oS, oI p1, oI p2, oI p3, oI p4, oJ uu, oS, oI dg, oI (1 : Int32), oI xb, oI ps, oI cc, oI ln, oR b324, oI (0 : Int32), oI (0 : Int32), oR b338, oR o_342, oJ (uu % (own_p10 nD)), oS, oU, oU, oU, oU, oU, oU, oU, oU, oU, oU] [(.int (48 : Int32)), (.int cc)]
        by_cases c294_346 : cc < (48 : Int32)
        · skip
          refine own_st (fun t_ k_ => XS.icmpYes X343.here hx rfl (pc0 := 294) (pc' := 308) rfl (hb hby at_294) rfl (tlt c294_346).1 (by decide) (by decide) (XS.iconst X343.here hx rfl (hb hby at_308) k_)) ?_
          show own_at p e below _ T343 m 309 #[oJ p0, oS, oI p1, oI p2, oI p3, oI p4, oJ uu, oS, oI dg, oI (1 : Int32), oI xb, oI ps, oI cc, oI ln, oR b324, oI (0 : Int32), oI (0 : Int32), oR b338, oR o_342, oJ (uu % (own_p10 nD)), oS, oU, oU, oU, oU, oU, oU, oU, oU, oU, oU] [(.int (0 : Int32))]
          exact j309 _
        refine own_st (fun t_ k_ => XS.icmpNo X343.here hx rfl (hb hby at_294) rfl (flt c294_346).1 (XS.iload X343.here hx rfl (hb hby at_297) rfl (XS.bipush X343.here hx rfl (hb hby at_299) k_))) ?_
        show own_at p e below _ T343 m 301 #[oJ p0, oS, oI p1, oI p2, oI p3, oI p4, oJ uu, oS, oI dg, oI (1 : Int32), oI xb, oI ps, oI cc, oI ln, oR b324, oI (0 : Int32), oI (0 : Int32), oR b338, oR o_342, oJ (uu % (own_p10 nD)), oS, oU, oU, oU, oU, oU, oU, oU, oU, oU, oU] [(.int (57 : Int32)), (.int cc)]
        by_cases c301_347 : (57 : Int32) < cc
        · skip
          refine own_st (fun t_ k_ => XS.icmpYes X343.here hx rfl (pc0 := 301) (pc' := 308) rfl (hb hby at_301) rfl (tlt c301_347).2.2.1 (by decide) (by decide) (XS.iconst X343.here hx rfl (hb hby at_308) k_)) ?_
          show own_at p e below _ T343 m 309 #[oJ p0, oS, oI p1, oI p2, oI p3, oI p4, oJ uu, oS, oI dg, oI (1 : Int32), oI xb, oI ps, oI cc, oI ln, oR b324, oI (0 : Int32), oI (0 : Int32), oR b338, oR o_342, oJ (uu % (own_p10 nD)), oS, oU, oU, oU, oU, oU, oU, oU, oU, oU, oU] [(.int (0 : Int32))]
          exact j309 _
        refine own_st (fun t_ k_ => XS.icmpNo X343.here hx rfl (hb hby at_301) rfl (flt c301_347).2.2.1 (XS.iconst X343.here hx rfl (hb hby at_304) (XS.goto X343.here hx rfl (pc0 := 305) (pc' := 309) rfl (hb hby at_305) (by decide) (by decide) k_))) ?_
        show own_at p e below _ T343 m 309 #[oJ p0, oS, oI p1, oI p2, oI p3, oI p4, oJ uu, oS, oI dg, oI (1 : Int32), oI xb, oI ps, oI cc, oI ln, oR b324, oI (0 : Int32), oI (0 : Int32), oR b338, oR o_342, oJ (uu % (own_p10 nD)), oS, oU, oU, oU, oU, oU, oU, oU, oU, oU, oU] [(.int (1 : Int32))]
        exact j309 _
      refine own_st (fun t_ k_ => XS.ifNo X336.here hx rfl (hb hby at_215) rfl ((if0 _ _).trans (feq c215_337).1) (XS.iload X336.here hx rfl (hb hby at_218) rfl (XS.ifNo X336.here hx rfl (hb hby at_220) rfl ((if0 _ _).trans (tlt ((own_ltp (by decide : (0 : Int32).toInt = ((0 : Nat) : Int)) hln).mpr (by omega))).2.2.2) (XS.iconst X336.here hx rfl (hb hby at_223) (XS.goto X336.here hx rfl (pc0 := 224) (pc' := 228) rfl (hb hby at_224) (by decide) (by decide) (XS.istore X336.here hx rfl (hb hby at_228) rfl (l' := #[oJ p0, oS, oI p1, oI p2, oI p3, oI p4, oJ uu, oS, oI dg, oI (1 : Int32), oI xb, oI ps, oI cc, oI ln, oR b324, oI (1 : Int32), oU, oU, oU, oU, oU, oU, oU, oU, oU, oU, oU, oU, oU, oU, oU]) rfl k_)))))) ?_
      show own_at p e below _ T336 m 230 #[oJ p0, oS, oI p1, oI p2, oI p3, oI p4, oJ uu, oS, oI dg, oI (1 : Int32), oI xb, oI ps, oI cc, oI ln, oR b324, oI (1 : Int32), oU, oU, oU, oU, oU, oU, oU, oU, oU, oU, oU, oU, oU, oU, oU] []
      refine own_st (fun t_ k_ => XS.iload X336.here hx rfl (hb hby at_230) rfl (XS.ifNo X336.here hx rfl (hb hby at_232) rfl ((if0 _ _).trans (feq (by decide : ¬ ((1 : Int32) = (0 : Int32)))).1) (XS.iload X336.here hx rfl (hb hby at_235) rfl (XS.iload X336.here hx rfl (hb hby at_237) rfl k_)))) ?_
      show own_at p e below _ T336 m 239 #[oJ p0, oS, oI p1, oI p2, oI p3, oI p4, oJ uu, oS, oI dg, oI (1 : Int32), oI xb, oI ps, oI cc, oI ln, oR b324, oI (1 : Int32), oU, oU, oU, oU, oU, oU, oU, oU, oU, oU, oU, oU, oU, oU, oU] [(.int ln), (.int ps)]
      refine own_st (fun t_ k_ => iremM X336 hx rfl (hb hby at_239) rfl (own_nz hln (by omega)) k_) ?_
      obtain ⟨qq, e_qq⟩ : ∃ z, z = (ps % ln) := ⟨_, rfl⟩
      show own_at p e below _ T336 m 240 #[oJ p0, oS, oI p1, oI p2, oI p3, oI p4, oJ uu, oS, oI dg, oI (1 : Int32), oI xb, oI ps, oI cc, oI ln, oR b324, oI (1 : Int32), oU, oU, oU, oU, oU, oU, oU, oU, oU, oU, oU, oU, oU, oU, oU] [(.int (ps % ln))]
      rw [show (ps % ln) = qq from e_qq.symm]
      obtain ⟨qx9, hqq⟩ : ∃ q : Nat, qq.toInt = (q : Int) ∧ q < 1 + nD := by rw [e_qq]; exact own_qN hps hln (by omega)
      refine own_st (fun t_ k_ => XS.goto X336.here hx rfl (pc0 := 240) (pc' := 244) rfl (hb hby at_240) (by decide) (by decide) (XS.istore X336.here hx rfl (hb hby at_244) rfl (l' := #[oJ p0, oS, oI p1, oI p2, oI p3, oI p4, oJ uu, oS, oI dg, oI (1 : Int32), oI xb, oI ps, oI cc, oI ln, oR b324, oI (1 : Int32), oI qq, oU, oU, oU, oU, oU, oU, oU, oU, oU, oU, oU, oU, oU, oU]) rfl (XS.iload X336.here hx rfl (hb hby at_246) rfl (XS.ifNo X336.here hx rfl (hb hby at_248) rfl ((if0 _ _).trans (feq (by decide : ¬ ((1 : Int32) = (0 : Int32)))).1) (XS.aload X336.here hx rfl (hb hby at_251) rfl rfl (XS.iload X336.here hx rfl (hb hby at_253) rfl k_)))))) ?_
      show own_at p e below _ T336 m 255 #[oJ p0, oS, oI p1, oI p2, oI p3, oI p4, oJ uu, oS, oI dg, oI (1 : Int32), oI xb, oI ps, oI cc, oI ln, oR b324, oI (1 : Int32), oI qq, oU, oU, oU, oU, oU, oU, oU, oU, oU, oU, oU, oU, oU, oU] [(.int qq), (.ref b324)]
      refine own_st (fun t_ k_ => XS.iload X336.here hx rfl (hb hby at_255) rfl k_) ?_
      show own_at p e below _ T336 m 257 #[oJ p0, oS, oI p1, oI p2, oI p3, oI p4, oJ uu, oS, oI dg, oI (1 : Int32), oI xb, oI ps, oI cc, oI ln, oR b324, oI (1 : Int32), oI qq, oU, oU, oU, oU, oU, oU, oU, oU, oU, oU, oU, oU, oU, oU] [(.int cc), (.int qq), (.ref b324)]
      obtain ⟨T348, h348, X348, e348, W348, Aw348, st348⟩ := own_castore X336 hx hZ rfl Ac0 (i := qx9) hqq.1 hqq.2 hccn (v' := cc) (g := (mkF m 257 #[oJ p0, oS, oI p1, oI p2, oI p3, oI p4, oJ uu, oS, oI dg, oI (1 : Int32), oI xb, oI ps, oI cc, oI ln, oR b324, oI (1 : Int32), oI qq, oU, oU, oU, oU, oU, oU, oU, oU, oU, oU, oU, oU, oU, oU] [(.int cc), (.int qq), (.ref b324)])) rfl rfl (hb hby at_257)
      have N348 := Fr.snoc X348 N336 ge324
      have K348 : Keep h0 h348 [] := K336.wr W348 (Or.inr fr324)
      have c348 : CHr Z own_EL _ T336.heap _ h348 := CHr.wr W348 (own_safeA hZ.alike Ac0 (by decide)) C336.1
      have C348 := C336.trans c348
      have kk348 := Nat.le_trans kk336 c348.2.1
      refine own_st (st348) ?_
      obtain ⟨cs, e_cs⟩ : ∃ f_ : Nat → Int32, f_ = (own_upd c0 qx9 cc) := ⟨_, rfl⟩
      have Acs : own_A Z h348 b324 k324 .char (1 + nD) (fun i => .int (cs i)) := by rw [e_cs]; exact Aw348
      have hall : ∀ q : Nat, q < 1 + nD → 0 ≤ (cs q).toInt ∧ (cs q).toInt ≤ 65535 := fun q hq => own_char (Acs.fit hq)
      obtain ⟨T349, h349, X349, e349, E349, A349, D349, -, st349⟩ := newO X348 hx hZ hown (own_w hw 25 rfl) (own_w hw 26 rfl) (own_w hw 27 rfl) e348 (g := (mkF m 258 #[oJ p0, oS, oI p1, oI p2, oI p3, oI p4, oJ uu, oS, oI dg, oI (1 : Int32), oI xb, oI ps, oI cc, oI ln, oR b324, oI (1 : Int32), oI qq, oU, oU, oU, oU, oU, oU, oU, oU, oU, oU, oU, oU, oU, oU] [])) rfl (hb hby at_258) (by decide) (by decide)
      obtain ⟨b349, g349⟩ : ∃ z, z = h348.size := ⟨_, rfl⟩
      show own_at p e below _ T348 m 258 #[oJ p0, oS, oI p1, oI p2, oI p3, oI p4, oJ uu, oS, oI dg, oI (1 : Int32), oI xb, oI ps, oI cc, oI ln, oR b324, oI (1 : Int32), oI qq, oU, oU, oU, oU, oU, oU, oU, oU, oU, oU, oU, oU, oU, oU] []
      rw [← g349] at A349 D349 st349
      have fr349 : h0.size ≤ b349 := Nat.le_trans K348.1 (Nat.le_of_eq g349.symm)
      have ge349 : n0 ≤ b349 := Nat.le_trans Z0 fr349
      have K349 : Keep h0 h349 [] := K348.ext E349
      have c349 : CHr Z own_EL _ h348 _ h349 := CHr.ext E349 C348.1
      have C349 := C348.trans c349
      have kk349 := Nat.le_trans kk348 c349.2.1
      have Sf349_b349 : Safe Z own_EL _ h349 b349 := Safe.ext E349 C348.1 (Safe.new (Nat.le_of_eq g349.symm))
      have F349_51 : Fld Z h349 b349 "java/lang/String" "coder" "B" (.int (0 : Int32)) := D349 (Or.inr (own_w hw 51 rfl)) (ty := .byte) (by decide)
      have F349_53 : Fld Z h349 b349 "java/lang/String" "value" "[B" .null := D349 (Or.inr (own_w hw 53 rfl)) (ty := (.array .byte)) (by decide)
      refine own_st (st349) ?_
      refine own_st (fun t_ k_ => XS.dup X349.here hx rfl (hb hby at_261) rfl rfl (XS.aload X349.here hx rfl (hb hby at_262) rfl rfl k_)) ?_
      show own_at p e below _ T349 m 264 #[oJ p0, oS, oI p1, oI p2, oI p3, oI p4, oJ uu, oS, oI dg, oI (1 : Int32), oI xb, oI ps, oI cc, oI ln, oR b324, oI (1 : Int32), oI qq, oU, oU, oU, oU, oU, oU, oU, oU, oU, oU, oU, oU, oU, oU] [(.ref b324), (.ref b349), (.ref b349)]
      have f350 : Old Z n0 h349 := (((((((((((((((q0.ext E324).wr W325 ge324).keep Kq326 (allS ge324 all0)).keep Kq327 (allS ge324 all0)).keep Kq328 (allS ge324 all0)).keep Kq329 (allS ge324 all0)).keep Kq330 (allS ge324 all0)).keep Kq331 (allS ge324 all0)).keep Kq332 (allS ge324 all0)).keep Kq333 (allS ge324 all0)).keep Kq334 (allS ge324 all0)).keep Kq335 (allS ge324 all0)).keep Kq336 (allS ge324 all0)).wr W348 ge324).ext E349)
      have f351 : Old Z n0 h349 := (((((((((((((((q0.ext E324).wr W325 ge324).keep Kq326 (allS ge324 all0)).keep Kq327 (allS ge324 all0)).keep Kq328 (allS ge324 all0)).keep Kq329 (allS ge324 all0)).keep Kq330 (allS ge324 all0)).keep Kq331 (allS ge324 all0)).keep Kq332 (allS ge324 all0)).keep Kq333 (allS ge324 all0)).keep Kq334 (allS ge324 all0)).keep Kq335 (allS ge324 all0)).keep Kq336 (allS ge324 all0)).wr W348 ge324).ext E349)
      obtain ⟨_, _, ⟨T352, L352, k352, n352⟩, -, X352, ⟨Lc352, hQ352, l352, y352, z352⟩, st352⟩ := X349.specialBack hx (y := own_n9) rfl hown (mvT hZ (own_w hw 28 rfl)) (mvT hZ (own_w hw 29 rfl)) (mvT hZ (own_w hw 30 rfl)) (by decide) (backOf (W := 1) (own_rm4 l Z a0 hw [] b349 b324 k324 (1 + nD) cs G1 h349 n0 (Nat.le_trans Z0 K349.1) A349 F349_53 F349_51 (Acs.ext E349) ge349 (Ne.symm (Nat.ne_of_lt (Nat.lt_of_lt_of_le Acs.lt (Nat.le_of_eq g349.symm)))) ⟨(by omega), (by omega)⟩ f351 q1 hG1 q5 q6 q7) hZ (own_w hw 30 rfl) (own_w hw 27 rfl) (by decide) (by decide)) (g := (mkF m 264 #[oJ p0, oS, oI p1, oI p2, oI p3, oI p4, oJ uu, oS, oI dg, oI (1 : Int32), oI xb, oI ps, oI cc, oI ln, oR b324, oI (1 : Int32), oI qq, oU, oU, oU, oU, oU, oU, oU, oU, oU, oU, oU, oU, oU, oU] [(.ref b324), (.ref b349), (.ref b349)])) rfl (by rw [hml]; rfl) (Steps.refl _) (a := b349) (argsL := [(.ref b324)]) (rest := [(.ref b349)]) (lenOf own_pd25 rfl) rfl (own_hW rfl) (hb hby at_264) (fun _ _ => ⟨rfl, e349, (by decide : 13 + 2 ≤ _), (by decide : 148 + 36 ≤ _)⟩)
      dsimp only [Pt.U, Pt.locs, Pt.cells, Pt.slots] at X352 l352 y352 z352 st352 hQ352
      subst y352 z352
      obtain ⟨t_352, kt_352, cd_352, rfl, N352q, Kq352, P352_0, P352_1, P352_2, P352_3, P352_4⟩ := hQ352
      have N352 : Fr n0 L352 := by rw [l352]; exact Fr.app N348 N352q
      have K352 : Keep h0 T352.heap [] := K349.trans Kq352 (allS (P := fun x => x ∈ [] ∨ h0.size ≤ x) (Or.inr fr349) all0)
      have c352 : CHr Z own_EL _ h349 _ T352.heap := CHr.keep Kq352 (own_slS Sf349_b349 own_sl0) C349.1
      have C352 := C349.trans c352
      have kk352 := Nat.le_trans kk349 c352.2.1
      have fr352_0 : h0.size ≤ t_352 := Nat.le_trans K349.1 P352_0
      have ge352_0 : n0 ≤ t_352 := Nat.le_trans Z0 fr352_0
      have Sf352_t_352 : Safe Z own_EL _ T352.heap t_352 := Safe.keep Kq352 (own_slS Sf349_b349 own_sl0) C349.1 (Safe.new P352_0)
      refine own_tr st352 ?_
      refine own_st (fun t_ k_ => XS.astore X352.here hx rfl (hb hby at_267) rfl rfl (l' := #[oJ p0, oS, oI p1, oI p2, oI p3, oI p4, oJ uu, oS, oI dg, oI (1 : Int32), oI xb, oI ps, oI cc, oI ln, oR b324, oI (1 : Int32), oI qq, oR b349, oU, oU, oU, oU, oU, oU, oU, oU, oU, oU, oU, oU, oU]) rfl (XS.aload X352.here hx rfl (hb hby at_269) rfl rfl (XS.iload X352.here hx rfl (hb hby at_271) rfl (XS.iload X352.here hx rfl (hb hby at_273) rfl k_)))) ?_
      show own_at p e below _ T352 m 275 #[oJ p0, oS, oI p1, oI p2, oI p3, oI p4, oJ uu, oS, oI dg, oI (1 : Int32), oI xb, oI ps, oI cc, oI ln, oR b324, oI (1 : Int32), oI qq, oR b349, oU, oU, oU, oU, oU, oU, oU, oU, oU, oU, oU, oU, oU] [(.int p4), (.int p3), (.ref b349)]
      obtain ⟨_, _, ⟨T353, L353, k353, n353⟩, -, X353, Sq353, gq353, ⟨Lc353, hQ353, l353, y353, z353, c353⟩, st353⟩ := callSS X352 hx (y := own_n31) hown (mvT hZ (own_w hw 54 rfl)) (mvT hZ (own_w hw 55 rfl)) (mvT hZ (own_w hw 56 rfl)) (mvT hZ (own_w hw 57 rfl)) (by decide) (own_backSH (W := 0) (own_rm10 l Z a0 hw [] b349 p3 p4 t_352 kt_352 cd_352 (1 + nD) cs G1 G3 aE T352.heap n0 (Nat.le_trans Z0 K352.1) (A349.keep Kq352) P352_1 P352_2 P352_3 P352_4 (f351.keep Kq352 (allS ge349 all0)) q1 hG1 q3 rG3 q5 q6 q7 q8 q9 q10 q11 (by omega) hall) hZ (own_w hw 57 rfl) (own_w hw 56 rfl) (by decide) (by decide) (own_hEL hw) C352.1 own_sl0) (g := (mkF m 275 #[oJ p0, oS, oI p1, oI p2, oI p3, oI p4, oJ uu, oS, oI dg, oI (1 : Int32), oI xb, oI ps, oI cc, oI ln, oR b324, oI (1 : Int32), oI qq, oR b349, oU, oU, oU, oU, oU, oU, oU, oU, oU, oU, oU, oU, oU] [(.int p4), (.int p3), (.ref b349)])) rfl (by rw [hml]; rfl) (argsL := [(.ref b349), (.int p3), (.int p4)]) (rest := []) (lenOf own_pd26 rfl) rfl (own_hW rfl) (hb hby at_275) (fun _ _ => ⟨rfl, rfl, (by decide : 15 + 3 ≤ _), (by decide : 184 + 10 ≤ _)⟩)
      dsimp only [Pt.U, Pt.locs, Pt.cells, Pt.slots] at X353 l353 y353 z353 st353 hQ353 Sq353 gq353 c353
      subst y353 z353
      obtain ⟨o_353, pz_353, vz_353, rfl, N353q, Kq353, P353_0, P353_1, P353_2, P353_3⟩ := hQ353
      have N353 : Fr n0 L353 := by rw [l353]; exact Fr.app N352 N353q
      have S353 := foldS S0 (kk352) Sq353 gq353
      have X353 := (show Stand p l e _ (s.setVm T353.vm) m _ below meth c T353 L353 _ _ from X353)
      have hZ : Z.Warmed39 (s.setVm T353.vm).vm := State.Warmed39.trans (t := s.setVm s.vm) hZ Sq353.1
      have hown : (s.setVm T353.vm).vm.findClass "com/example/marshalyard/marshalyard/engine/DecimalIntegerParsePinLaw" = some m.cls := by rw [show (s.setVm T353.vm).vm = T353.vm from rfl, Sq353.1.alike.findClass]; exact hown
      have kk353 := Nat.le_refl T353.heap.size
      have K353 : Keep h0 T353.heap [] := K352.trans Kq353 all0
      have C353 := C352.trans c353
      refine own_tr st353 ?_
      refine own_st (fun t_ k_ => XS.astore X353.here hx rfl (hb hby at_278) rfl rfl (l' := #[oJ p0, oS, oI p1, oI p2, oI p3, oI p4, oJ uu, oS, oI dg, oI (1 : Int32), oI xb, oI ps, oI cc, oI ln, oR b324, oI (1 : Int32), oI qq, oR b349, oR o_353, oU, oU, oU, oU, oU, oU, oU, oU, oU, oU, oU, oU]) rfl (XS.lload X353.here hx rfl (hb hby at_280) rfl (XS.iload X353.here hx rfl (hb hby at_282) rfl k_))) ?_
      show own_at p e below _ T353 m 284 #[oJ p0, oS, oI p1, oI p2, oI p3, oI p4, oJ uu, oS, oI dg, oI (1 : Int32), oI xb, oI ps, oI cc, oI ln, oR b324, oI (1 : Int32), oI qq, oR b349, oR o_353, oU, oU, oU, oU, oU, oU, oU, oU, oU, oU, oU, oU] [(.int dg), (.long uu)]
      obtain ⟨_, _, ⟨T354, L354, k354, n354⟩, -, X354, ⟨Lc354, hQ354, l354, y354, z354⟩, st354⟩ := Jvm.LawKit.callS X353 hx (y := own_n18) hown (mvT hZ (own_w hw 10 rfl)) (mvT hZ (own_w hw 11 rfl)) (mvT hZ (own_w hw 5 rfl)) (mvT hZ (own_w hw 12 rfl)) (by decide) (backOf (W := 2) (own_rm3 l Z a0 hw [] dg nD T353.heap n0 (Nat.le_trans Z0 K353.1) ⟨hD.1, (by omega)⟩) hZ (own_w hw 12 rfl) (own_w hw 5 rfl) (by decide) (by decide)) (g := (mkF m 284 #[oJ p0, oS, oI p1, oI p2, oI p3, oI p4, oJ uu, oS, oI dg, oI (1 : Int32), oI xb, oI ps, oI cc, oI ln, oR b324, oI (1 : Int32), oI qq, oR b349, oR o_353, oU, oU, oU, oU, oU, oU, oU, oU, oU, oU, oU, oU] [(.int dg), (.long uu)])) rfl (by rw [hml]; rfl) (argsL := [(.int dg)]) (rest := [(.long uu)]) (lenOf own_pd13 rfl) rfl (own_hW rfl) (hb hby at_284) (fun _ _ => ⟨rfl, rfl, (by decide : 18 + 1 ≤ _), (by decide : 194 + 12 ≤ _)⟩)
      dsimp only [Pt.U, Pt.locs, Pt.cells, Pt.slots] at X354 l354 y354 z354 st354 hQ354
      subst y354 z354
      obtain ⟨rfl, N354q, Kq354⟩ := hQ354
      have N354 : Fr n0 L354 := by rw [l354]; exact Fr.app N353 N354q
      have K354 : Keep h0 T354.heap [] := K353.trans Kq354 all0
      have c354 : CHr Z own_EL _ T353.heap _ T354.heap := CHr.keep Kq354 own_sl0 C353.1
      have C354 := C353.trans c354
      have kk354 := Nat.le_trans kk353 c354.2.1
      refine own_st (st354) ?_
      show own_at p e below _ T354 m 287 #[oJ p0, oS, oI p1, oI p2, oI p3, oI p4, oJ uu, oS, oI dg, oI (1 : Int32), oI xb, oI ps, oI cc, oI ln, oR b324, oI (1 : Int32), oI qq, oR b349, oR o_353, oU, oU, oU, oU, oU, oU, oU, oU, oU, oU, oU, oU] [(.long (own_p10 nD)), (.long uu)]
      refine own_st (fun t_ k_ => own_lrem X354 hx rfl (hb hby at_287) rfl (own_p10z (by omega)) k_) ?_
      refine own_st (fun t_ k_ => XS.lstore X354.here hx rfl (hb hby at_288) rfl (l' := #[oJ p0, oS, oI p1, oI p2, oI p3, oI p4, oJ uu, oS, oI dg, oI (1 : Int32), oI xb, oI ps, oI cc, oI ln, oR b324, oI (1 : Int32), oI qq, oR b349, oR o_353, oJ (uu % (own_p10 nD)), oS, oU, oU, oU, oU, oU, oU, oU, oU, oU, oU]) rfl k_) ?_
      show own_at p e below _ T354 m 290 #[oJ p0, oS, oI p1, oI p2, oI p3, oI p4, oJ uu, oS, oI dg, oI (1 : Int32), oI xb, oI ps, oI cc, oI ln, oR b324, oI (1 : Int32), oI qq, oR b349, oR o_353, oJ (uu % (own_p10 nD)), oS, oU, oU, oU, oU, oU, oU, oU, oU, oU, oU] []
      by_cases c3 : qq < (1 : Int32)
      · skip
        have hq0 : qx9 = 0 := by have z_ := (own_ltp hqq.1 (by decide : (1 : Int32).toInt = ((1 : Nat) : Int))).mp c3; omega
        have hrest : ∀ q : Nat, 1 ≤ q → q < 1 + nD → (cs q).toInt = 48 + ((U / 10 ^ (1 + nD - 1 - q) % 10 : Nat) : Int) := fun q h1_ h2_ => by rw [e_cs, hq0]; unfold own_upd; rw [if_neg (by omega)]; exact hd0 q h1_ h2_
        have hfirst : cs 0 = cc := by rw [e_cs, hq0]; unfold own_upd; rw [if_pos rfl]
        by_cases c4 : cc = (45 : Int32)
        · skip
          have c1 : cc < (48 : Int32) := by rw [c4]; decide
          have hk := own_kA (s := 1) (n := nD) (cs := cs) (U := U) (by decide) (fun _ => by rw [hfirst]; exact own_45.mp c4) hrest
          have hiff := own_gA (mn := p3) (mx := p4) hk
          have hiff : own_good cs (1 + nD) p3 p4 ↔ (1 ≤ nD ∧ nD ≤ 10) ∧ p3.toInt ≤ (-((U % 10 ^ nD : Nat) : Int)) ∧ (-((U % 10 ^ nD : Nat) : Int)) ≤ p4.toInt := hiff
          have hpvE : own_pv cs (own_swn cs (1 + nD)) (1 + nD) = (-((U % 10 ^ nD : Nat) : Int)) := own_pvE hk
          refine own_st (fun t_ k_ => XS.iload X354.here hx rfl (hb hby at_290) rfl (XS.bipush X354.here hx rfl (hb hby at_292) (XS.icmpYes X354.here hx rfl (pc0 := 294) (pc' := 308) rfl (hb hby at_294) rfl (tlt c1).1 (by decide) (by decide) (XS.iconst X354.here hx rfl (hb hby at_308) (XS.istore X354.here hx rfl (hb hby at_309) rfl (l' := #[oJ p0, oS, oI p1, oI p2, oI p3, oI p4, oJ uu, oS, oI dg, oI (1 : Int32), oI xb, oI ps, oI cc, oI ln, oR b324, oI (1 : Int32), oI qq, oR b349, oR o_353, oJ (uu % (own_p10 nD)), oS, oI (0 : Int32), oU, oU, oU, oU, oU, oU, oU, oU, oU]) rfl (XS.iload X354.here hx rfl (hb hby at_311) rfl k_)))))) ?_
          show own_at p e below _ T354 m 313 #[oJ p0, oS, oI p1, oI p2, oI p3, oI p4, oJ uu, oS, oI dg, oI (1 : Int32), oI xb, oI ps, oI cc, oI ln, oR b324, oI (1 : Int32), oI qq, oR b349, oR o_353, oJ (uu % (own_p10 nD)), oS, oI (0 : Int32), oU, oU, oU, oU, oU, oU, oU, oU, oU] [(.int cc)]
          refine own_st (fun t_ k_ => XS.bipush X354.here hx rfl (hb hby at_313) (XS.isub X354.here hx rfl (hb hby at_315) rfl (XS.istore X354.here hx rfl (hb hby at_316) rfl (l' := #[oJ p0, oS, oI p1, oI p2, oI p3, oI p4, oJ uu, oS, oI dg, oI (1 : Int32), oI xb, oI ps, oI cc, oI ln, oR b324, oI (1 : Int32), oI qq, oR b349, oR o_353, oJ (uu % (own_p10 nD)), oS, oI (0 : Int32), oI (cc - (48 : Int32)), oU, oU, oU, oU, oU, oU, oU, oU]) rfl (XS.iload X354.here hx rfl (hb hby at_318) rfl (XS.ifNo X354.here hx rfl (hb hby at_320) rfl ((if0 _ _).trans (feq (by decide : ¬ ((1 : Int32) = (0 : Int32)))).1) (XS.iload X354.here hx rfl (hb hby at_323) rfl k_)))))) ?_
          show own_at p e below _ T354 m 325 #[oJ p0, oS, oI p1, oI p2, oI p3, oI p4, oJ uu, oS, oI dg, oI (1 : Int32), oI xb, oI ps, oI cc, oI ln, oR b324, oI (1 : Int32), oI qq, oR b349, oR o_353, oJ (uu % (own_p10 nD)), oS, oI (0 : Int32), oI (cc - (48 : Int32)), oU, oU, oU, oU, oU, oU, oU, oU] [(.int qq)]
          refine own_st (fun t_ k_ => XS.iload X354.here hx rfl (hb hby at_325) rfl (XS.icmpNo X354.here hx rfl (hb hby at_327) rfl (tlt c3).2.1 (XS.iload X354.here hx rfl (hb hby at_330) rfl (XS.bipush X354.here hx rfl (hb hby at_332) (XS.icmpNo X354.here hx rfl (hb hby at_334) rfl (teq c4).2 (XS.iload X354.here hx rfl (hb hby at_337) rfl k_)))))) ?_
          show own_at p e below _ T354 m 339 #[oJ p0, oS, oI p1, oI p2, oI p3, oI p4, oJ uu, oS, oI dg, oI (1 : Int32), oI xb, oI ps, oI cc, oI ln, oR b324, oI (1 : Int32), oI qq, oR b349, oR o_353, oJ (uu % (own_p10 nD)), oS, oI (0 : Int32), oI (cc - (48 : Int32)), oU, oU, oU, oU, oU, oU, oU, oU] [(.int dg)]
          refine own_st (fun t_ k_ => XS.iconst X354.here hx rfl (hb hby at_339) k_) ?_
          show own_at p e below _ T354 m 340 #[oJ p0, oS, oI p1, oI p2, oI p3, oI p4, oJ uu, oS, oI dg, oI (1 : Int32), oI xb, oI ps, oI cc, oI ln, oR b324, oI (1 : Int32), oI qq, oR b349, oR o_353, oJ (uu % (own_p10 nD)), oS, oI (0 : Int32), oI (cc - (48 : Int32)), oU, oU, oU, oU, oU, oU, oU, oU] [(.int (1 : Int32)), (.int dg)]
          by_cases c340_355 : dg < (1 : Int32)
          · skip
            have rlo_340 := (own_ltp hD.1 (by decide : (1 : Int32).toInt = ((1 : Nat) : Int))).mp c340_355
            refine own_st (fun t_ k_ => XS.icmpYes X354.here hx rfl (pc0 := 340) (pc' := 354) rfl (hb hby at_340) rfl (tlt c340_355).1 (by decide) (by decide) (XS.iconst X354.here hx rfl (hb hby at_354) (XS.istore X354.here hx rfl (hb hby at_355) rfl (l' := #[oJ p0, oS, oI p1, oI p2, oI p3, oI p4, oJ uu, oS, oI dg, oI (1 : Int32), oI xb, oI ps, oI cc, oI ln, oR b324, oI (1 : Int32), oI qq, oR b349, oR o_353, oJ (uu % (own_p10 nD)), oS, oI (0 : Int32), oI (cc - (48 : Int32)), oI (0 : Int32), oU, oU, oU, oU, oU, oU, oU]) rfl (XS.iload X354.here hx rfl (hb hby at_357) rfl (XS.iconst X354.here hx rfl (hb hby at_359) (XS.icmpNo X354.here hx rfl (hb hby at_360) rfl (teq (by decide : (1 : Int32) = (1 : Int32))).2 k_)))))) ?_
            show own_at p e below _ T354 m 363 #[oJ p0, oS, oI p1, oI p2, oI p3, oI p4, oJ uu, oS, oI dg, oI (1 : Int32), oI xb, oI ps, oI cc, oI ln, oR b324, oI (1 : Int32), oI qq, oR b349, oR o_353, oJ (uu % (own_p10 nD)), oS, oI (0 : Int32), oI (cc - (48 : Int32)), oI (0 : Int32), oU, oU, oU, oU, oU, oU, oU] []
            refine own_st (fun t_ k_ => XS.lload X354.here hx rfl (hb hby at_363) rfl (XS.lneg X354.here hx rfl (hb hby at_365) rfl (XS.goto X354.here hx rfl (pc0 := 366) (pc' := 371) rfl (hb hby at_366) (by decide) (by decide) k_))) ?_
            show own_at p e below _ T354 m 371 #[oJ p0, oS, oI p1, oI p2, oI p3, oI p4, oJ uu, oS, oI dg, oI (1 : Int32), oI xb, oI ps, oI cc, oI ln, oR b324, oI (1 : Int32), oI qq, oR b349, oR o_353, oJ (uu % (own_p10 nD)), oS, oI (0 : Int32), oI (cc - (48 : Int32)), oI (0 : Int32), oU, oU, oU, oU, oU, oU, oU] [(.long (-(uu % (own_p10 nD))))]
            obtain ⟨vl, e_vl⟩ : ∃ z, z = (-(uu % (own_p10 nD))) := ⟨_, rfl⟩
            rw [show (-(uu % (own_p10 nD))) = vl from e_vl.symm]
            have hvl : vl.toInt = (-((U % 10 ^ nD : Nat) : Int)) := (by rw [e_vl]; have z_ := (own_low hU (by omega : nD < 12)); exact own_lneg z_.1 (by omega) (by omega))
            refine own_st (fun t_ k_ => XS.lstore X354.here hx rfl (hb hby at_371) rfl (l' := #[oJ p0, oS, oI p1, oI p2, oI p3, oI p4, oJ uu, oS, oI dg, oI (1 : Int32), oI xb, oI ps, oI cc, oI ln, oR b324, oI (1 : Int32), oI qq, oR b349, oR o_353, oJ (uu % (own_p10 nD)), oS, oI (0 : Int32), oI (cc - (48 : Int32)), oI (0 : Int32), oJ vl, oS, oU, oU, oU, oU, oU]) rfl (XS.goto X354.here hx rfl (pc0 := 373) (pc' := 562) rfl (hb hby at_373) (by decide) (by decide) k_)) ?_
            show own_at p e below _ T354 m 562 #[oJ p0, oS, oI p1, oI p2, oI p3, oI p4, oJ uu, oS, oI dg, oI (1 : Int32), oI xb, oI ps, oI cc, oI ln, oR b324, oI (1 : Int32), oI qq, oR b349, oR o_353, oJ (uu % (own_p10 nD)), oS, oI (0 : Int32), oI (cc - (48 : Int32)), oI (0 : Int32), oJ vl, oS, oU, oU, oU, oU, oU] []
            have hgd : ¬ own_good cs (1 + nD) p3 p4 := fun z_ => by have y_ := (hiff.mp z_).1; omega
            exact j562 _ _ _ _ _ _ _ _ _ _ _ _ _ _ _ _ _ _ _ _ _ _ _ _ _ _ _ _ _ _ _ _ _ _ _ _ _ _ _ hZ hown S353 X354 rfl N354 K354 C354 kk354 (by decide) (by decide) ((((f351.keep Kq352 (allS ge349 all0)).keep Kq353 all0).keep Kq354 all0)) ((P353_0.keep Kq354)) ((P353_1.keep Kq354 nin0)) ((P353_2.keep Kq354 nin0)) One.u (Or.inl rfl) ⟨fun z_ => absurd z_ hgd, fun z_ => absurd z_.1 (by decide)⟩ (fun z_ => absurd z_ hgd) P353_3
          have rlo_340 := mt (own_ltp hD.1 (by decide : (1 : Int32).toInt = ((1 : Nat) : Int))).mpr c340_355
          refine own_st (fun t_ k_ => XS.icmpNo X354.here hx rfl (hb hby at_340) rfl (flt c340_355).1 (XS.iload X354.here hx rfl (hb hby at_343) rfl (XS.bipush X354.here hx rfl (hb hby at_345) k_))) ?_
          show own_at p e below _ T354 m 347 #[oJ p0, oS, oI p1, oI p2, oI p3, oI p4, oJ uu, oS, oI dg, oI (1 : Int32), oI xb, oI ps, oI cc, oI ln, oR b324, oI (1 : Int32), oI qq, oR b349, oR o_353, oJ (uu % (own_p10 nD)), oS, oI (0 : Int32), oI (cc - (48 : Int32)), oU, oU, oU, oU, oU, oU, oU, oU] [(.int (10 : Int32)), (.int dg)]
          by_cases c347_356 : (10 : Int32) < dg
          · skip
            have rhi_347 := (own_ltp (by decide : (10 : Int32).toInt = ((10 : Nat) : Int)) hD.1).mp c347_356
            refine own_st (fun t_ k_ => XS.icmpYes X354.here hx rfl (pc0 := 347) (pc' := 354) rfl (hb hby at_347) rfl (tlt c347_356).2.2.1 (by decide) (by decide) (XS.iconst X354.here hx rfl (hb hby at_354) (XS.istore X354.here hx rfl (hb hby at_355) rfl (l' := #[oJ p0, oS, oI p1, oI p2, oI p3, oI p4, oJ uu, oS, oI dg, oI (1 : Int32), oI xb, oI ps, oI cc, oI ln, oR b324, oI (1 : Int32), oI qq, oR b349, oR o_353, oJ (uu % (own_p10 nD)), oS, oI (0 : Int32), oI (cc - (48 : Int32)), oI (0 : Int32), oU, oU, oU, oU, oU, oU, oU]) rfl (XS.iload X354.here hx rfl (hb hby at_357) rfl (XS.iconst X354.here hx rfl (hb hby at_359) (XS.icmpNo X354.here hx rfl (hb hby at_360) rfl (teq (by decide : (1 : Int32) = (1 : Int32))).2 k_)))))) ?_
            show own_at p e below _ T354 m 363 #[oJ p0, oS, oI p1, oI p2, oI p3, oI p4, oJ uu, oS, oI dg, oI (1 : Int32), oI xb, oI ps, oI cc, oI ln, oR b324, oI (1 : Int32), oI qq, oR b349, oR o_353, oJ (uu % (own_p10 nD)), oS, oI (0 : Int32), oI (cc - (48 : Int32)), oI (0 : Int32), oU, oU, oU, oU, oU, oU, oU] []
            refine own_st (fun t_ k_ => XS.lload X354.here hx rfl (hb hby at_363) rfl (XS.lneg X354.here hx rfl (hb hby at_365) rfl (XS.goto X354.here hx rfl (pc0 := 366) (pc' := 371) rfl (hb hby at_366) (by decide) (by decide) k_))) ?_
            show own_at p e below _ T354 m 371 #[oJ p0, oS, oI p1, oI p2, oI p3, oI p4, oJ uu, oS, oI dg, oI (1 : Int32), oI xb, oI ps, oI cc, oI ln, oR b324, oI (1 : Int32), oI qq, oR b349, oR o_353, oJ (uu % (own_p10 nD)), oS, oI (0 : Int32), oI (cc - (48 : Int32)), oI (0 : Int32), oU, oU, oU, oU, oU, oU, oU] [(.long (-(uu % (own_p10 nD))))]
            obtain ⟨vl, e_vl⟩ : ∃ z, z = (-(uu % (own_p10 nD))) := ⟨_, rfl⟩
            rw [show (-(uu % (own_p10 nD))) = vl from e_vl.symm]
            have hvl : vl.toInt = (-((U % 10 ^ nD : Nat) : Int)) := (by rw [e_vl]; have z_ := (own_low hU (by omega : nD < 12)); exact own_lneg z_.1 (by omega) (by omega))
            refine own_st (fun t_ k_ => XS.lstore X354.here hx rfl (hb hby at_371) rfl (l' := #[oJ p0, oS, oI p1, oI p2, oI p3, oI p4, oJ uu, oS, oI dg, oI (1 : Int32), oI xb, oI ps, oI cc, oI ln, oR b324, oI (1 : Int32), oI qq, oR b349, oR o_353, oJ (uu % (own_p10 nD)), oS, oI (0 : Int32), oI (cc - (48 : Int32)), oI (0 : Int32), oJ vl, oS, oU, oU, oU, oU, oU]) rfl (XS.goto X354.here hx rfl (pc0 := 373) (pc' := 562) rfl (hb hby at_373) (by decide) (by decide) k_)) ?_
            show own_at p e below _ T354 m 562 #[oJ p0, oS, oI p1, oI p2, oI p3, oI p4, oJ uu, oS, oI dg, oI (1 : Int32), oI xb, oI ps, oI cc, oI ln, oR b324, oI (1 : Int32), oI qq, oR b349, oR o_353, oJ (uu % (own_p10 nD)), oS, oI (0 : Int32), oI (cc - (48 : Int32)), oI (0 : Int32), oJ vl, oS, oU, oU, oU, oU, oU] []
            have hgd : ¬ own_good cs (1 + nD) p3 p4 := fun z_ => by have y_ := (hiff.mp z_).1; omega
            exact j562 _ _ _ _ _ _ _ _ _ _ _ _ _ _ _ _ _ _ _ _ _ _ _ _ _ _ _ _ _ _ _ _ _ _ _ _ _ _ _ hZ hown S353 X354 rfl N354 K354 C354 kk354 (by decide) (by decide) ((((f351.keep Kq352 (allS ge349 all0)).keep Kq353 all0).keep Kq354 all0)) ((P353_0.keep Kq354)) ((P353_1.keep Kq354 nin0)) ((P353_2.keep Kq354 nin0)) One.u (Or.inl rfl) ⟨fun z_ => absurd z_ hgd, fun z_ => absurd z_.1 (by decide)⟩ (fun z_ => absurd z_ hgd) P353_3
          have rhi_347 := mt (own_ltp (by decide : (10 : Int32).toInt = ((10 : Nat) : Int)) hD.1).mpr c347_356
          refine own_st (fun t_ k_ => XS.icmpNo X354.here hx rfl (hb hby at_347) rfl (flt c347_356).2.2.1 (XS.iconst X354.here hx rfl (hb hby at_350) (XS.goto X354.here hx rfl (pc0 := 351) (pc' := 355) rfl (hb hby at_351) (by decide) (by decide) (XS.istore X354.here hx rfl (hb hby at_355) rfl (l' := #[oJ p0, oS, oI p1, oI p2, oI p3, oI p4, oJ uu, oS, oI dg, oI (1 : Int32), oI xb, oI ps, oI cc, oI ln, oR b324, oI (1 : Int32), oI qq, oR b349, oR o_353, oJ (uu % (own_p10 nD)), oS, oI (0 : Int32), oI (cc - (48 : Int32)), oI (1 : Int32), oU, oU, oU, oU, oU, oU, oU]) rfl (XS.iload X354.here hx rfl (hb hby at_357) rfl (XS.iconst X354.here hx rfl (hb hby at_359) k_)))))) ?_
          show own_at p e below _ T354 m 360 #[oJ p0, oS, oI p1, oI p2, oI p3, oI p4, oJ uu, oS, oI dg, oI (1 : Int32), oI xb, oI ps, oI cc, oI ln, oR b324, oI (1 : Int32), oI qq, oR b349, oR o_353, oJ (uu % (own_p10 nD)), oS, oI (0 : Int32), oI (cc - (48 : Int32)), oI (1 : Int32), oU, oU, oU, oU, oU, oU, oU] [(.int (1 : Int32)), (.int (1 : Int32))]
          refine own_st (fun t_ k_ => XS.icmpNo X354.here hx rfl (hb hby at_360) rfl (teq (by decide : (1 : Int32) = (1 : Int32))).2 (XS.lload X354.here hx rfl (hb hby at_363) rfl (XS.lneg X354.here hx rfl (hb hby at_365) rfl (XS.goto X354.here hx rfl (pc0 := 366) (pc' := 371) rfl (hb hby at_366) (by decide) (by decide) k_)))) ?_
          show own_at p e below _ T354 m 371 #[oJ p0, oS, oI p1, oI p2, oI p3, oI p4, oJ uu, oS, oI dg, oI (1 : Int32), oI xb, oI ps, oI cc, oI ln, oR b324, oI (1 : Int32), oI qq, oR b349, oR o_353, oJ (uu % (own_p10 nD)), oS, oI (0 : Int32), oI (cc - (48 : Int32)), oI (1 : Int32), oU, oU, oU, oU, oU, oU, oU] [(.long (-(uu % (own_p10 nD))))]
          obtain ⟨vl, e_vl⟩ : ∃ z, z = (-(uu % (own_p10 nD))) := ⟨_, rfl⟩
          rw [show (-(uu % (own_p10 nD))) = vl from e_vl.symm]
          have hvl : vl.toInt = (-((U % 10 ^ nD : Nat) : Int)) := (by rw [e_vl]; have z_ := (own_low hU (by omega : nD < 12)); exact own_lneg z_.1 (by omega) (by omega))
          refine own_st (fun t_ k_ => XS.lstore X354.here hx rfl (hb hby at_371) rfl (l' := #[oJ p0, oS, oI p1, oI p2, oI p3, oI p4, oJ uu, oS, oI dg, oI (1 : Int32), oI xb, oI ps, oI cc, oI ln, oR b324, oI (1 : Int32), oI qq, oR b349, oR o_353, oJ (uu % (own_p10 nD)), oS, oI (0 : Int32), oI (cc - (48 : Int32)), oI (1 : Int32), oJ vl, oS, oU, oU, oU, oU, oU]) rfl (XS.goto X354.here hx rfl (pc0 := 373) (pc' := 562) rfl (hb hby at_373) (by decide) (by decide) k_)) ?_
          show own_at p e below _ T354 m 562 #[oJ p0, oS, oI p1, oI p2, oI p3, oI p4, oJ uu, oS, oI dg, oI (1 : Int32), oI xb, oI ps, oI cc, oI ln, oR b324, oI (1 : Int32), oI qq, oR b349, oR o_353, oJ (uu % (own_p10 nD)), oS, oI (0 : Int32), oI (cc - (48 : Int32)), oI (1 : Int32), oJ vl, oS, oU, oU, oU, oU, oU] []
          exact j562 _ _ _ _ _ _ _ _ _ _ _ _ _ _ _ _ _ _ _ _ _ _ _ _ _ _ _ _ _ _ _ _ _ _ _ _ _ _ _ hZ hown S353 X354 rfl N354 K354 C354 kk354 (by decide) (by decide) ((((f351.keep Kq352 (allS ge349 all0)).keep Kq353 all0).keep Kq354 all0)) ((P353_0.keep Kq354)) ((P353_1.keep Kq354 nin0)) ((P353_2.keep Kq354 nin0)) One.u (Or.inr rfl) (by rw [hiff, hvl]; exact ⟨fun z_ => ⟨rfl, z_.2⟩, fun z_ => ⟨(by omega), z_.2⟩⟩) (fun _ => by rw [hpvE, hvl]) P353_3
        · skip
          by_cases c1 : cc < (48 : Int32)
          · skip
            have hnd := own_isd1 c1
            have hgd : ¬ own_good cs (1 + nD) p3 p4 := own_kE (p := 0) (by omega) (by rw [hfirst]; exact hnd) (Or.inr (by rw [hfirst]; exact mt own_45.mpr c4)) p3 p4
            refine own_st (fun t_ k_ => XS.iload X354.here hx rfl (hb hby at_290) rfl (XS.bipush X354.here hx rfl (hb hby at_292) (XS.icmpYes X354.here hx rfl (pc0 := 294) (pc' := 308) rfl (hb hby at_294) rfl (tlt c1).1 (by decide) (by decide) (XS.iconst X354.here hx rfl (hb hby at_308) (XS.istore X354.here hx rfl (hb hby at_309) rfl (l' := #[oJ p0, oS, oI p1, oI p2, oI p3, oI p4, oJ uu, oS, oI dg, oI (1 : Int32), oI xb, oI ps, oI cc, oI ln, oR b324, oI (1 : Int32), oI qq, oR b349, oR o_353, oJ (uu % (own_p10 nD)), oS, oI (0 : Int32), oU, oU, oU, oU, oU, oU, oU, oU, oU]) rfl (XS.iload X354.here hx rfl (hb hby at_311) rfl k_)))))) ?_
            show own_at p e below _ T354 m 313 #[oJ p0, oS, oI p1, oI p2, oI p3, oI p4, oJ uu, oS, oI dg, oI (1 : Int32), oI xb, oI ps, oI cc, oI ln, oR b324, oI (1 : Int32), oI qq, oR b349, oR o_353, oJ (uu % (own_p10 nD)), oS, oI (0 : Int32), oU, oU, oU, oU, oU, oU, oU, oU, oU] [(.int cc)]
            refine own_st (fun t_ k_ => XS.bipush X354.here hx rfl (hb hby at_313) (XS.isub X354.here hx rfl (hb hby at_315) rfl (XS.istore X354.here hx rfl (hb hby at_316) rfl (l' := #[oJ p0, oS, oI p1, oI p2, oI p3, oI p4, oJ uu, oS, oI dg, oI (1 : Int32), oI xb, oI ps, oI cc, oI ln, oR b324, oI (1 : Int32), oI qq, oR b349, oR o_353, oJ (uu % (own_p10 nD)), oS, oI (0 : Int32), oI (cc - (48 : Int32)), oU, oU, oU, oU, oU, oU, oU, oU]) rfl (XS.iload X354.here hx rfl (hb hby at_318) rfl (XS.ifNo X354.here hx rfl (hb hby at_320) rfl ((if0 _ _).trans (feq (by decide : ¬ ((1 : Int32) = (0 : Int32)))).1) (XS.iload X354.here hx rfl (hb hby at_323) rfl k_)))))) ?_
            show own_at p e below _ T354 m 325 #[oJ p0, oS, oI p1, oI p2, oI p3, oI p4, oJ uu, oS, oI dg, oI (1 : Int32), oI xb, oI ps, oI cc, oI ln, oR b324, oI (1 : Int32), oI qq, oR b349, oR o_353, oJ (uu % (own_p10 nD)), oS, oI (0 : Int32), oI (cc - (48 : Int32)), oU, oU, oU, oU, oU, oU, oU, oU] [(.int qq)]
            refine own_st (fun t_ k_ => XS.iload X354.here hx rfl (hb hby at_325) rfl (XS.icmpNo X354.here hx rfl (hb hby at_327) rfl (tlt c3).2.1 (XS.iload X354.here hx rfl (hb hby at_330) rfl (XS.bipush X354.here hx rfl (hb hby at_332) (XS.icmpYes X354.here hx rfl (pc0 := 334) (pc' := 376) rfl (hb hby at_334) rfl (feq c4).2 (by decide) (by decide) (XS.iload X354.here hx rfl (hb hby at_376) rfl k_)))))) ?_
            show own_at p e below _ T354 m 378 #[oJ p0, oS, oI p1, oI p2, oI p3, oI p4, oJ uu, oS, oI dg, oI (1 : Int32), oI xb, oI ps, oI cc, oI ln, oR b324, oI (1 : Int32), oI qq, oR b349, oR o_353, oJ (uu % (own_p10 nD)), oS, oI (0 : Int32), oI (cc - (48 : Int32)), oU, oU, oU, oU, oU, oU, oU, oU] [(.int qq)]
            refine own_st (fun t_ k_ => XS.iload X354.here hx rfl (hb hby at_378) rfl (XS.icmpNo X354.here hx rfl (hb hby at_380) rfl (tlt c3).2.1 (XS.iload X354.here hx rfl (hb hby at_383) rfl (XS.ifYes X354.here hx rfl (pc0 := 385) (pc' := 401) rfl (hb hby at_385) rfl ((if0 _ _).trans (teq (by decide : (0 : Int32) = (0 : Int32))).1) (by decide) (by decide) (XS.iconst X354.here hx rfl (hb hby at_401) (XS.istore X354.here hx rfl (hb hby at_402) rfl (l' := #[oJ p0, oS, oI p1, oI p2, oI p3, oI p4, oJ uu, oS, oI dg, oI (1 : Int32), oI xb, oI ps, oI cc, oI ln, oR b324, oI (1 : Int32), oI qq, oR b349, oR o_353, oJ (uu % (own_p10 nD)), oS, oI (0 : Int32), oI (cc - (48 : Int32)), oI (0 : Int32), oU, oU, oU, oU, oU, oU, oU]) rfl k_)))))) ?_
            show own_at p e below _ T354 m 404 #[oJ p0, oS, oI p1, oI p2, oI p3, oI p4, oJ uu, oS, oI dg, oI (1 : Int32), oI xb, oI ps, oI cc, oI ln, oR b324, oI (1 : Int32), oI qq, oR b349, oR o_353, oJ (uu % (own_p10 nD)), oS, oI (0 : Int32), oI (cc - (48 : Int32)), oI (0 : Int32), oU, oU, oU, oU, oU, oU, oU] []
            refine own_st (fun t_ k_ => XS.iload X354.here hx rfl (hb hby at_404) rfl (XS.i2l X354.here hx rfl (hb hby at_406) rfl (XS.iload X354.here hx rfl (hb hby at_407) rfl k_))) ?_
            show own_at p e below _ T354 m 409 #[oJ p0, oS, oI p1, oI p2, oI p3, oI p4, oJ uu, oS, oI dg, oI (1 : Int32), oI xb, oI ps, oI cc, oI ln, oR b324, oI (1 : Int32), oI qq, oR b349, oR o_353, oJ (uu % (own_p10 nD)), oS, oI (0 : Int32), oI (cc - (48 : Int32)), oI (0 : Int32), oU, oU, oU, oU, oU, oU, oU] [(.int dg), (.long ((cc - (48 : Int32)).toInt64))]
            obtain ⟨_, _, ⟨T357, L357, k357, n357⟩, -, X357, ⟨Lc357, hQ357, l357, y357, z357⟩, st357⟩ := Jvm.LawKit.callS X354 hx (y := own_n18) hown (mvT hZ (own_w hw 10 rfl)) (mvT hZ (own_w hw 11 rfl)) (mvT hZ (own_w hw 5 rfl)) (mvT hZ (own_w hw 12 rfl)) (by decide) (backOf (W := 2) (own_rm3 l Z a0 hw [] dg nD T354.heap n0 (Nat.le_trans Z0 K354.1) ⟨hD.1, (by omega)⟩) hZ (own_w hw 12 rfl) (own_w hw 5 rfl) (by decide) (by decide)) (g := (mkF m 409 #[oJ p0, oS, oI p1, oI p2, oI p3, oI p4, oJ uu, oS, oI dg, oI (1 : Int32), oI xb, oI ps, oI cc, oI ln, oR b324, oI (1 : Int32), oI qq, oR b349, oR o_353, oJ (uu % (own_p10 nD)), oS, oI (0 : Int32), oI (cc - (48 : Int32)), oI (0 : Int32), oU, oU, oU, oU, oU, oU, oU] [(.int dg), (.long ((cc - (48 : Int32)).toInt64))])) rfl (by rw [hml]; rfl) (argsL := [(.int dg)]) (rest := [(.long ((cc - (48 : Int32)).toInt64))]) (lenOf own_pd13 rfl) rfl (own_hW rfl) (hb hby at_409) (fun _ _ => ⟨rfl, rfl, (by decide : 19 + 1 ≤ _), (by decide : 206 + 12 ≤ _)⟩)
            dsimp only [Pt.U, Pt.locs, Pt.cells, Pt.slots] at X357 l357 y357 z357 st357 hQ357
            subst y357 z357
            obtain ⟨rfl, N357q, Kq357⟩ := hQ357
            have N357 : Fr n0 L357 := by rw [l357]; exact Fr.app N354 N357q
            have K357 : Keep h0 T357.heap [] := K354.trans Kq357 all0
            have c357 : CHr Z own_EL _ T354.heap _ T357.heap := CHr.keep Kq357 own_sl0 C354.1
            have C357 := C354.trans c357
            have kk357 := Nat.le_trans kk354 c357.2.1
            refine own_st (st357) ?_
            refine own_st (fun t_ k_ => XS.lmul X357.here hx rfl (hb hby at_412) rfl (XS.lload X357.here hx rfl (hb hby at_413) rfl (XS.ladd X357.here hx rfl (hb hby at_415) rfl (XS.lstore X357.here hx rfl (hb hby at_416) rfl (l' := #[oJ p0, oS, oI p1, oI p2, oI p3, oI p4, oJ uu, oS, oI dg, oI (1 : Int32), oI xb, oI ps, oI cc, oI ln, oR b324, oI (1 : Int32), oI qq, oR b349, oR o_353, oJ (uu % (own_p10 nD)), oS, oI (0 : Int32), oI (cc - (48 : Int32)), oI (0 : Int32), oJ ((((cc - (48 : Int32)).toInt64) * (own_p10 nD)) + (uu % (own_p10 nD))), oS, oU, oU, oU, oU, oU]) rfl (XS.goto X357.here hx rfl (pc0 := 418) (pc' := 562) rfl (hb hby at_418) (by decide) (by decide) k_))))) ?_
            show own_at p e below _ T357 m 562 #[oJ p0, oS, oI p1, oI p2, oI p3, oI p4, oJ uu, oS, oI dg, oI (1 : Int32), oI xb, oI ps, oI cc, oI ln, oR b324, oI (1 : Int32), oI qq, oR b349, oR o_353, oJ (uu % (own_p10 nD)), oS, oI (0 : Int32), oI (cc - (48 : Int32)), oI (0 : Int32), oJ ((((cc - (48 : Int32)).toInt64) * (own_p10 nD)) + (uu % (own_p10 nD))), oS, oU, oU, oU, oU, oU] []
            exact j562 _ _ _ _ _ _ _ _ _ _ _ _ _ _ _ _ _ _ _ _ _ _ _ _ _ _ _ _ _ _ _ _ _ _ _ _ _ _ _ hZ hown S353 X357 rfl N357 K357 C357 kk357 (by decide) (by decide) (((((f351.keep Kq352 (allS ge349 all0)).keep Kq353 all0).keep Kq354 all0).keep Kq357 all0)) (((P353_0.keep Kq354).keep Kq357)) (((P353_1.keep Kq354 nin0).keep Kq357 nin0)) (((P353_2.keep Kq354 nin0).keep Kq357 nin0)) One.u (Or.inl rfl) ⟨fun z_ => absurd z_ hgd, fun z_ => absurd z_.1 (by decide)⟩ (fun z_ => absurd z_ hgd) P353_3
          · skip
            by_cases c2 : (57 : Int32) < cc
            · skip
              have hnd := own_isd2 c2
              have hgd : ¬ own_good cs (1 + nD) p3 p4 := own_kE (p := 0) (by omega) (by rw [hfirst]; exact hnd) (Or.inr (by rw [hfirst]; exact mt own_45.mpr c4)) p3 p4
              refine own_st (fun t_ k_ => XS.iload X354.here hx rfl (hb hby at_290) rfl (XS.bipush X354.here hx rfl (hb hby at_292) (XS.icmpNo X354.here hx rfl (hb hby at_294) rfl (flt c1).1 (XS.iload X354.here hx rfl (hb hby at_297) rfl (XS.bipush X354.here hx rfl (hb hby at_299) (XS.icmpYes X354.here hx rfl (pc0 := 301) (pc' := 308) rfl (hb hby at_301) rfl (tlt c2).2.2.1 (by decide) (by decide) k_)))))) ?_
              show own_at p e below _ T354 m 308 #[oJ p0, oS, oI p1, oI p2, oI p3, oI p4, oJ uu, oS, oI dg, oI (1 : Int32), oI xb, oI ps, oI cc, oI ln, oR b324, oI (1 : Int32), oI qq, oR b349, oR o_353, oJ (uu % (own_p10 nD)), oS, oU, oU, oU, oU, oU, oU, oU, oU, oU, oU] []
              refine own_st (fun t_ k_ => XS.iconst X354.here hx rfl (hb hby at_308) (XS.istore X354.here hx rfl (hb hby at_309) rfl (l' := #[oJ p0, oS, oI p1, oI p2, oI p3, oI p4, oJ uu, oS, oI dg, oI (1 : Int32), oI xb, oI ps, oI cc, oI ln, oR b324, oI (1 : Int32), oI qq, oR b349, oR o_353, oJ (uu % (own_p10 nD)), oS, oI (0 : Int32), oU, oU, oU, oU, oU, oU, oU, oU, oU]) rfl (XS.iload X354.here hx rfl (hb hby at_311) rfl (XS.bipush X354.here hx rfl (hb hby at_313) (XS.isub X354.here hx rfl (hb hby at_315) rfl (XS.istore X354.here hx rfl (hb hby at_316) rfl (l' := #[oJ p0, oS, oI p1, oI p2, oI p3, oI p4, oJ uu, oS, oI dg, oI (1 : Int32), oI xb, oI ps, oI cc, oI ln, oR b324, oI (1 : Int32), oI qq, oR b349, oR o_353, oJ (uu % (own_p10 nD)), oS, oI (0 : Int32), oI (cc - (48 : Int32)), oU, oU, oU, oU, oU, oU, oU, oU]) rfl k_)))))) ?_
              show own_at p e below _ T354 m 318 #[oJ p0, oS, oI p1, oI p2, oI p3, oI p4, oJ uu, oS, oI dg, oI (1 : Int32), oI xb, oI ps, oI cc, oI ln, oR b324, oI (1 : Int32), oI qq, oR b349, oR o_353, oJ (uu % (own_p10 nD)), oS, oI (0 : Int32), oI (cc - (48 : Int32)), oU, oU, oU, oU, oU, oU, oU, oU] []
              refine own_st (fun t_ k_ => XS.iload X354.here hx rfl (hb hby at_318) rfl (XS.ifNo X354.here hx rfl (hb hby at_320) rfl ((if0 _ _).trans (feq (by decide : ¬ ((1 : Int32) = (0 : Int32)))).1) (XS.iload X354.here hx rfl (hb hby at_323) rfl (XS.iload X354.here hx rfl (hb hby at_325) rfl (XS.icmpNo X354.here hx rfl (hb hby at_327) rfl (tlt c3).2.1 (XS.iload X354.here hx rfl (hb hby at_330) rfl k_)))))) ?_
              show own_at p e below _ T354 m 332 #[oJ p0, oS, oI p1, oI p2, oI p3, oI p4, oJ uu, oS, oI dg, oI (1 : Int32), oI xb, oI ps, oI cc, oI ln, oR b324, oI (1 : Int32), oI qq, oR b349, oR o_353, oJ (uu % (own_p10 nD)), oS, oI (0 : Int32), oI (cc - (48 : Int32)), oU, oU, oU, oU, oU, oU, oU, oU] [(.int cc)]
              refine own_st (fun t_ k_ => XS.bipush X354.here hx rfl (hb hby at_332) (XS.icmpYes X354.here hx rfl (pc0 := 334) (pc' := 376) rfl (hb hby at_334) rfl (feq c4).2 (by decide) (by decide) (XS.iload X354.here hx rfl (hb hby at_376) rfl (XS.iload X354.here hx rfl (hb hby at_378) rfl (XS.icmpNo X354.here hx rfl (hb hby at_380) rfl (tlt c3).2.1 (XS.iload X354.here hx rfl (hb hby at_383) rfl k_)))))) ?_
              show own_at p e below _ T354 m 385 #[oJ p0, oS, oI p1, oI p2, oI p3, oI p4, oJ uu, oS, oI dg, oI (1 : Int32), oI xb, oI ps, oI cc, oI ln, oR b324, oI (1 : Int32), oI qq, oR b349, oR o_353, oJ (uu % (own_p10 nD)), oS, oI (0 : Int32), oI (cc - (48 : Int32)), oU, oU, oU, oU, oU, oU, oU, oU] [(.int (0 : Int32))]
              refine own_st (fun t_ k_ => XS.ifYes X354.here hx rfl (pc0 := 385) (pc' := 401) rfl (hb hby at_385) rfl ((if0 _ _).trans (teq (by decide : (0 : Int32) = (0 : Int32))).1) (by decide) (by decide) (XS.iconst X354.here hx rfl (hb hby at_401) (XS.istore X354.here hx rfl (hb hby at_402) rfl (l' := #[oJ p0, oS, oI p1, oI p2, oI p3, oI p4, oJ uu, oS, oI dg, oI (1 : Int32), oI xb, oI ps, oI cc, oI ln, oR b324, oI (1 : Int32), oI qq, oR b349, oR o_353, oJ (uu % (own_p10 nD)), oS, oI (0 : Int32), oI (cc - (48 : Int32)), oI (0 : Int32), oU, oU, oU, oU, oU, oU, oU]) rfl (XS.iload X354.here hx rfl (hb hby at_404) rfl (XS.i2l X354.here hx rfl (hb hby at_406) rfl (XS.iload X354.here hx rfl (hb hby at_407) rfl k_)))))) ?_
              show own_at p e below _ T354 m 409 #[oJ p0, oS, oI p1, oI p2, oI p3, oI p4, oJ uu, oS, oI dg, oI (1 : Int32), oI xb, oI ps, oI cc, oI ln, oR b324, oI (1 : Int32), oI qq, oR b349, oR o_353, oJ (uu % (own_p10 nD)), oS, oI (0 : Int32), oI (cc - (48 : Int32)), oI (0 : Int32), oU, oU, oU, oU, oU, oU, oU] [(.int dg), (.long ((cc - (48 : Int32)).toInt64))]
              obtain ⟨_, _, ⟨T358, L358, k358, n358⟩, -, X358, ⟨Lc358, hQ358, l358, y358, z358⟩, st358⟩ := Jvm.LawKit.callS X354 hx (y := own_n18) hown (mvT hZ (own_w hw 10 rfl)) (mvT hZ (own_w hw 11 rfl)) (mvT hZ (own_w hw 5 rfl)) (mvT hZ (own_w hw 12 rfl)) (by decide) (backOf (W := 2) (own_rm3 l Z a0 hw [] dg nD T354.heap n0 (Nat.le_trans Z0 K354.1) ⟨hD.1, (by omega)⟩) hZ (own_w hw 12 rfl) (own_w hw 5 rfl) (by decide) (by decide)) (g := (mkF m 409 #[oJ p0, oS, oI p1, oI p2, oI p3, oI p4, oJ uu, oS, oI dg, oI (1 : Int32), oI xb, oI ps, oI cc, oI ln, oR b324, oI (1 : Int32), oI qq, oR b349, oR o_353, oJ (uu % (own_p10 nD)), oS, oI (0 : Int32), oI (cc - (48 : Int32)), oI (0 : Int32), oU, oU, oU, oU, oU, oU, oU] [(.int dg), (.long ((cc - (48 : Int32)).toInt64))])) rfl (by rw [hml]; rfl) (argsL := [(.int dg)]) (rest := [(.long ((cc - (48 : Int32)).toInt64))]) (lenOf own_pd13 rfl) rfl (own_hW rfl) (hb hby at_409) (fun _ _ => ⟨rfl, rfl, (by decide : 19 + 1 ≤ _), (by decide : 206 + 12 ≤ _)⟩)
              dsimp only [Pt.U, Pt.locs, Pt.cells, Pt.slots] at X358 l358 y358 z358 st358 hQ358
              subst y358 z358
              obtain ⟨rfl, N358q, Kq358⟩ := hQ358
              have N358 : Fr n0 L358 := by rw [l358]; exact Fr.app N354 N358q
              have K358 : Keep h0 T358.heap [] := K354.trans Kq358 all0
              have c358 : CHr Z own_EL _ T354.heap _ T358.heap := CHr.keep Kq358 own_sl0 C354.1
              have C358 := C354.trans c358
              have kk358 := Nat.le_trans kk354 c358.2.1
              refine own_st (st358) ?_
              refine own_st (fun t_ k_ => XS.lmul X358.here hx rfl (hb hby at_412) rfl (XS.lload X358.here hx rfl (hb hby at_413) rfl (XS.ladd X358.here hx rfl (hb hby at_415) rfl (XS.lstore X358.here hx rfl (hb hby at_416) rfl (l' := #[oJ p0, oS, oI p1, oI p2, oI p3, oI p4, oJ uu, oS, oI dg, oI (1 : Int32), oI xb, oI ps, oI cc, oI ln, oR b324, oI (1 : Int32), oI qq, oR b349, oR o_353, oJ (uu % (own_p10 nD)), oS, oI (0 : Int32), oI (cc - (48 : Int32)), oI (0 : Int32), oJ ((((cc - (48 : Int32)).toInt64) * (own_p10 nD)) + (uu % (own_p10 nD))), oS, oU, oU, oU, oU, oU]) rfl (XS.goto X358.here hx rfl (pc0 := 418) (pc' := 562) rfl (hb hby at_418) (by decide) (by decide) k_))))) ?_
              show own_at p e below _ T358 m 562 #[oJ p0, oS, oI p1, oI p2, oI p3, oI p4, oJ uu, oS, oI dg, oI (1 : Int32), oI xb, oI ps, oI cc, oI ln, oR b324, oI (1 : Int32), oI qq, oR b349, oR o_353, oJ (uu % (own_p10 nD)), oS, oI (0 : Int32), oI (cc - (48 : Int32)), oI (0 : Int32), oJ ((((cc - (48 : Int32)).toInt64) * (own_p10 nD)) + (uu % (own_p10 nD))), oS, oU, oU, oU, oU, oU] []
              exact j562 _ _ _ _ _ _ _ _ _ _ _ _ _ _ _ _ _ _ _ _ _ _ _ _ _ _ _ _ _ _ _ _ _ _ _ _ _ _ _ hZ hown S353 X358 rfl N358 K358 C358 kk358 (by decide) (by decide) (((((f351.keep Kq352 (allS ge349 all0)).keep Kq353 all0).keep Kq354 all0).keep Kq358 all0)) (((P353_0.keep Kq354).keep Kq358)) (((P353_1.keep Kq354 nin0).keep Kq358 nin0)) (((P353_2.keep Kq354 nin0).keep Kq358 nin0)) One.u (Or.inl rfl) ⟨fun z_ => absurd z_ hgd, fun z_ => absurd z_.1 (by decide)⟩ (fun z_ => absurd z_ hgd) P353_3
            · skip
              have hdg := own_isdI c1 c2
              have hk := own_kB (n := nD) (cs := cs) (U := U) (mt own_45.mpr c4) hfirst hrest
              have hiff := own_gA (mn := p3) (mx := p4) hk
              have hiff : own_good cs (1 + nD) p3 p4 ↔ (own_isd cc ∧ nD + 1 ≤ 10) ∧ p3.toInt ≤ ((cc.toInt - 48) * ((10 ^ nD : Nat) : Int) + ((U % 10 ^ nD : Nat) : Int)) ∧ ((cc.toInt - 48) * ((10 ^ nD : Nat) : Int) + ((U % 10 ^ nD : Nat) : Int)) ≤ p4.toInt := hiff
              have hpvE : own_pv cs (own_swn cs (1 + nD)) (1 + nD) = ((cc.toInt - 48) * ((10 ^ nD : Nat) : Int) + ((U % 10 ^ nD : Nat) : Int)) := own_pvE hk
              refine own_st (fun t_ k_ => XS.iload X354.here hx rfl (hb hby at_290) rfl (XS.bipush X354.here hx rfl (hb hby at_292) (XS.icmpNo X354.here hx rfl (hb hby at_294) rfl (flt c1).1 (XS.iload X354.here hx rfl (hb hby at_297) rfl (XS.bipush X354.here hx rfl (hb hby at_299) (XS.icmpNo X354.here hx rfl (hb hby at_301) rfl (flt c2).2.2.1 k_)))))) ?_
              show own_at p e below _ T354 m 304 #[oJ p0, oS, oI p1, oI p2, oI p3, oI p4, oJ uu, oS, oI dg, oI (1 : Int32), oI xb, oI ps, oI cc, oI ln, oR b324, oI (1 : Int32), oI qq, oR b349, oR o_353, oJ (uu % (own_p10 nD)), oS, oU, oU, oU, oU, oU, oU, oU, oU, oU, oU] []
              refine own_st (fun t_ k_ => XS.iconst X354.here hx rfl (hb hby at_304) (XS.goto X354.here hx rfl (pc0 := 305) (pc' := 309) rfl (hb hby at_305) (by decide) (by decide) (XS.istore X354.here hx rfl (hb hby at_309) rfl (l' := #[oJ p0, oS, oI p1, oI p2, oI p3, oI p4, oJ uu, oS, oI dg, oI (1 : Int32), oI xb, oI ps, oI cc, oI ln, oR b324, oI (1 : Int32), oI qq, oR b349, oR o_353, oJ (uu % (own_p10 nD)), oS, oI (1 : Int32), oU, oU, oU, oU, oU, oU, oU, oU, oU]) rfl (XS.iload X354.here hx rfl (hb hby at_311) rfl (XS.bipush X354.here hx rfl (hb hby at_313) (XS.isub X354.here hx rfl (hb hby at_315) rfl k_)))))) ?_
              show own_at p e below _ T354 m 316 #[oJ p0, oS, oI p1, oI p2, oI p3, oI p4, oJ uu, oS, oI dg, oI (1 : Int32), oI xb, oI ps, oI cc, oI ln, oR b324, oI (1 : Int32), oI qq, oR b349, oR o_353, oJ (uu % (own_p10 nD)), oS, oI (1 : Int32), oU, oU, oU, oU, oU, oU, oU, oU, oU] [(.int (cc - (48 : Int32)))]
              refine own_st (fun t_ k_ => XS.istore X354.here hx rfl (hb hby at_316) rfl (l' := #[oJ p0, oS, oI p1, oI p2, oI p3, oI p4, oJ uu, oS, oI dg, oI (1 : Int32), oI xb, oI ps, oI cc, oI ln, oR b324, oI (1 : Int32), oI qq, oR b349, oR o_353, oJ (uu % (own_p10 nD)), oS, oI (1 : Int32), oI (cc - (48 : Int32)), oU, oU, oU, oU, oU, oU, oU, oU]) rfl (XS.iload X354.here hx rfl (hb hby at_318) rfl (XS.ifNo X354.here hx rfl (hb hby at_320) rfl ((if0 _ _).trans (feq (by decide : ¬ ((1 : Int32) = (0 : Int32)))).1) (XS.iload X354.here hx rfl (hb hby at_323) rfl (XS.iload X354.here hx rfl (hb hby at_325) rfl (XS.icmpNo X354.here hx rfl (hb hby at_327) rfl (tlt c3).2.1 k_)))))) ?_
              show own_at p e below _ T354 m 330 #[oJ p0, oS, oI p1, oI p2, oI p3, oI p4, oJ uu, oS, oI dg, oI (1 : Int32), oI xb, oI ps, oI cc, oI ln, oR b324, oI (1 : Int32), oI qq, oR b349, oR o_353, oJ (uu % (own_p10 nD)), oS, oI (1 : Int32), oI (cc - (48 : Int32)), oU, oU, oU, oU, oU, oU, oU, oU] []
              refine own_st (fun t_ k_ => XS.iload X354.here hx rfl (hb hby at_330) rfl (XS.bipush X354.here hx rfl (hb hby at_332) (XS.icmpYes X354.here hx rfl (pc0 := 334) (pc' := 376) rfl (hb hby at_334) rfl (feq c4).2 (by decide) (by decide) (XS.iload X354.here hx rfl (hb hby at_376) rfl (XS.iload X354.here hx rfl (hb hby at_378) rfl (XS.icmpNo X354.here hx rfl (hb hby at_380) rfl (tlt c3).2.1 k_)))))) ?_
              show own_at p e below _ T354 m 383 #[oJ p0, oS, oI p1, oI p2, oI p3, oI p4, oJ uu, oS, oI dg, oI (1 : Int32), oI xb, oI ps, oI cc, oI ln, oR b324, oI (1 : Int32), oI qq, oR b349, oR o_353, oJ (uu % (own_p10 nD)), oS, oI (1 : Int32), oI (cc - (48 : Int32)), oU, oU, oU, oU, oU, oU, oU, oU] []
              refine own_st (fun t_ k_ => XS.iload X354.here hx rfl (hb hby at_383) rfl (XS.ifNo X354.here hx rfl (hb hby at_385) rfl ((if0 _ _).trans (feq (by decide : ¬ ((1 : Int32) = (0 : Int32)))).1) (XS.iload X354.here hx rfl (hb hby at_388) rfl (XS.iconst X354.here hx rfl (hb hby at_390) (XS.iadd X354.here hx rfl (hb hby at_391) rfl (XS.bipush X354.here hx rfl (hb hby at_392) k_)))))) ?_
              show own_at p e below _ T354 m 394 #[oJ p0, oS, oI p1, oI p2, oI p3, oI p4, oJ uu, oS, oI dg, oI (1 : Int32), oI xb, oI ps, oI cc, oI ln, oR b324, oI (1 : Int32), oI qq, oR b349, oR o_353, oJ (uu % (own_p10 nD)), oS, oI (1 : Int32), oI (cc - (48 : Int32)), oU, oU, oU, oU, oU, oU, oU, oU] [(.int (10 : Int32)), (.int (dg + (1 : Int32)))]
              by_cases c394_359 : (10 : Int32) < (dg + (1 : Int32))
              · skip
                have rhi_394 := (own_ltp (by decide : (10 : Int32).toInt = ((10 : Nat) : Int)) (own_cadd hD.1 (by decide : (1 : Int32).toInt = ((1 : Nat) : Int)) (by omega))).mp c394_359
                refine own_st (fun t_ k_ => XS.icmpYes X354.here hx rfl (pc0 := 394) (pc' := 401) rfl (hb hby at_394) rfl (tlt c394_359).2.2.1 (by decide) (by decide) (XS.iconst X354.here hx rfl (hb hby at_401) (XS.istore X354.here hx rfl (hb hby at_402) rfl (l' := #[oJ p0, oS, oI p1, oI p2, oI p3, oI p4, oJ uu, oS, oI dg, oI (1 : Int32), oI xb, oI ps, oI cc, oI ln, oR b324, oI (1 : Int32), oI qq, oR b349, oR o_353, oJ (uu % (own_p10 nD)), oS, oI (1 : Int32), oI (cc - (48 : Int32)), oI (0 : Int32), oU, oU, oU, oU, oU, oU, oU]) rfl (XS.iload X354.here hx rfl (hb hby at_404) rfl (XS.i2l X354.here hx rfl (hb hby at_406) rfl (XS.iload X354.here hx rfl (hb hby at_407) rfl k_)))))) ?_
                show own_at p e below _ T354 m 409 #[oJ p0, oS, oI p1, oI p2, oI p3, oI p4, oJ uu, oS, oI dg, oI (1 : Int32), oI xb, oI ps, oI cc, oI ln, oR b324, oI (1 : Int32), oI qq, oR b349, oR o_353, oJ (uu % (own_p10 nD)), oS, oI (1 : Int32), oI (cc - (48 : Int32)), oI (0 : Int32), oU, oU, oU, oU, oU, oU, oU] [(.int dg), (.long ((cc - (48 : Int32)).toInt64))]
                obtain ⟨_, _, ⟨T360, L360, k360, n360⟩, -, X360, ⟨Lc360, hQ360, l360, y360, z360⟩, st360⟩ := Jvm.LawKit.callS X354 hx (y := own_n18) hown (mvT hZ (own_w hw 10 rfl)) (mvT hZ (own_w hw 11 rfl)) (mvT hZ (own_w hw 5 rfl)) (mvT hZ (own_w hw 12 rfl)) (by decide) (backOf (W := 2) (own_rm3 l Z a0 hw [] dg nD T354.heap n0 (Nat.le_trans Z0 K354.1) ⟨hD.1, (by omega)⟩) hZ (own_w hw 12 rfl) (own_w hw 5 rfl) (by decide) (by decide)) (g := (mkF m 409 #[oJ p0, oS, oI p1, oI p2, oI p3, oI p4, oJ uu, oS, oI dg, oI (1 : Int32), oI xb, oI ps, oI cc, oI ln, oR b324, oI (1 : Int32), oI qq, oR b349, oR o_353, oJ (uu % (own_p10 nD)), oS, oI (1 : Int32), oI (cc - (48 : Int32)), oI (0 : Int32), oU, oU, oU, oU, oU, oU, oU] [(.int dg), (.long ((cc - (48 : Int32)).toInt64))])) rfl (by rw [hml]; rfl) (argsL := [(.int dg)]) (rest := [(.long ((cc - (48 : Int32)).toInt64))]) (lenOf own_pd13 rfl) rfl (own_hW rfl) (hb hby at_409) (fun _ _ => ⟨rfl, rfl, (by decide : 19 + 1 ≤ _), (by decide : 206 + 12 ≤ _)⟩)
                dsimp only [Pt.U, Pt.locs, Pt.cells, Pt.slots] at X360 l360 y360 z360 st360 hQ360
                subst y360 z360
                obtain ⟨rfl, N360q, Kq360⟩ := hQ360
                have N360 : Fr n0 L360 := by rw [l360]; exact Fr.app N354 N360q
                have K360 : Keep h0 T360.heap [] := K354.trans Kq360 all0
                have c360 : CHr Z own_EL _ T354.heap _ T360.heap := CHr.keep Kq360 own_sl0 C354.1
                have C360 := C354.trans c360
                have kk360 := Nat.le_trans kk354 c360.2.1
                refine own_st (st360) ?_
                refine own_st (fun t_ k_ => XS.lmul X360.here hx rfl (hb hby at_412) rfl (XS.lload X360.here hx rfl (hb hby at_413) rfl (XS.ladd X360.here hx rfl (hb hby at_415) rfl k_))) ?_
                show own_at p e below _ T360 m 416 #[oJ p0, oS, oI p1, oI p2, oI p3, oI p4, oJ uu, oS, oI dg, oI (1 : Int32), oI xb, oI ps, oI cc, oI ln, oR b324, oI (1 : Int32), oI qq, oR b349, oR o_353, oJ (uu % (own_p10 nD)), oS, oI (1 : Int32), oI (cc - (48 : Int32)), oI (0 : Int32), oU, oU, oU, oU, oU, oU, oU] [(.long ((((cc - (48 : Int32)).toInt64) * (own_p10 nD)) + (uu % (own_p10 nD))))]
                obtain ⟨vl, e_vl⟩ : ∃ z, z = ((((cc - (48 : Int32)).toInt64) * (own_p10 nD)) + (uu % (own_p10 nD))) := ⟨_, rfl⟩
                rw [show ((((cc - (48 : Int32)).toInt64) * (own_p10 nD)) + (uu % (own_p10 nD))) = vl from e_vl.symm]
                have hvl : vl.toInt = ((cc.toInt - 48) * ((10 ^ nD : Nat) : Int) + ((U % 10 ^ nD : Nat) : Int)) := (by rw [e_vl]; exact own_VB hU (by omega) hcc.1 hcc.2)
                refine own_st (fun t_ k_ => XS.lstore X360.here hx rfl (hb hby at_416) rfl (l' := #[oJ p0, oS, oI p1, oI p2, oI p3, oI p4, oJ uu, oS, oI dg, oI (1 : Int32), oI xb, oI ps, oI cc, oI ln, oR b324, oI (1 : Int32), oI qq, oR b349, oR o_353, oJ (uu % (own_p10 nD)), oS, oI (1 : Int32), oI (cc - (48 : Int32)), oI (0 : Int32), oJ vl, oS, oU, oU, oU, oU, oU]) rfl (XS.goto X360.here hx rfl (pc0 := 418) (pc' := 562) rfl (hb hby at_418) (by decide) (by decide) k_)) ?_
                show own_at p e below _ T360 m 562 #[oJ p0, oS, oI p1, oI p2, oI p3, oI p4, oJ uu, oS, oI dg, oI (1 : Int32), oI xb, oI ps, oI cc, oI ln, oR b324, oI (1 : Int32), oI qq, oR b349, oR o_353, oJ (uu % (own_p10 nD)), oS, oI (1 : Int32), oI (cc - (48 : Int32)), oI (0 : Int32), oJ vl, oS, oU, oU, oU, oU, oU] []
                have hgd : ¬ own_good cs (1 + nD) p3 p4 := fun z_ => by have y_ := (hiff.mp z_).1.2; omega
                exact j562 _ _ _ _ _ _ _ _ _ _ _ _ _ _ _ _ _ _ _ _ _ _ _ _ _ _ _ _ _ _ _ _ _ _ _ _ _ _ _ hZ hown S353 X360 rfl N360 K360 C360 kk360 (by decide) (by decide) (((((f351.keep Kq352 (allS ge349 all0)).keep Kq353 all0).keep Kq354 all0).keep Kq360 all0)) (((P353_0.keep Kq354).keep Kq360)) (((P353_1.keep Kq354 nin0).keep Kq360 nin0)) (((P353_2.keep Kq354 nin0).keep Kq360 nin0)) One.u (Or.inl rfl) ⟨fun z_ => absurd z_ hgd, fun z_ => absurd z_.1 (by decide)⟩ (fun z_ => absurd z_ hgd) P353_3
              have rhi_394 := mt (own_ltp (by decide : (10 : Int32).toInt = ((10 : Nat) : Int)) (own_cadd hD.1 (by decide : (1 : Int32).toInt = ((1 : Nat) : Int)) (by omega))).mpr c394_359
              refine own_st (fun t_ k_ => XS.icmpNo X354.here hx rfl (hb hby at_394) rfl (flt c394_359).2.2.1 (XS.iconst X354.here hx rfl (hb hby at_397) (XS.goto X354.here hx rfl (pc0 := 398) (pc' := 402) rfl (hb hby at_398) (by decide) (by decide) (XS.istore X354.here hx rfl (hb hby at_402) rfl (l' := #[oJ p0, oS, oI p1, oI p2, oI p3, oI p4, oJ uu, oS, oI dg, oI (1 : Int32), oI xb, oI ps, oI cc, oI ln, oR b324, oI (1 : Int32), oI qq, oR b349, oR o_353, oJ (uu % (own_p10 nD)), oS, oI (1 : Int32), oI (cc - (48 : Int32)), oI (1 : Int32), oU, oU, oU, oU, oU, oU, oU]) rfl (XS.iload X354.here hx rfl (hb hby at_404) rfl (XS.i2l X354.here hx rfl (hb hby at_406) rfl k_)))))) ?_
              show own_at p e below _ T354 m 407 #[oJ p0, oS, oI p1, oI p2, oI p3, oI p4, oJ uu, oS, oI dg, oI (1 : Int32), oI xb, oI ps, oI cc, oI ln, oR b324, oI (1 : Int32), oI qq, oR b349, oR o_353, oJ (uu % (own_p10 nD)), oS, oI (1 : Int32), oI (cc - (48 : Int32)), oI (1 : Int32), oU, oU, oU, oU, oU, oU, oU] [(.long ((cc - (48 : Int32)).toInt64))]
              refine own_st (fun t_ k_ => XS.iload X354.here hx rfl (hb hby at_407) rfl k_) ?_
              show own_at p e below _ T354 m 409 #[oJ p0, oS, oI p1, oI p2, oI p3, oI p4, oJ uu, oS, oI dg, oI (1 : Int32), oI xb, oI ps, oI cc, oI ln, oR b324, oI (1 : Int32), oI qq, oR b349, oR o_353, oJ (uu % (own_p10 nD)), oS, oI (1 : Int32), oI (cc - (48 : Int32)), oI (1 : Int32), oU, oU, oU, oU, oU, oU, oU] [(.int dg), (.long ((cc - (48 : Int32)).toInt64))]
              obtain ⟨_, _, ⟨T361, L361, k361, n361⟩, -, X361, ⟨Lc361, hQ361, l361, y361, z361⟩, st361⟩ := Jvm.LawKit.callS X354 hx (y := own_n18) hown (mvT hZ (own_w hw 10 rfl)) (mvT hZ (own_w hw 11 rfl)) (mvT hZ (own_w hw 5 rfl)) (mvT hZ (own_w hw 12 rfl)) (by decide) (backOf (W := 2) (own_rm3 l Z a0 hw [] dg nD T354.heap n0 (Nat.le_trans Z0 K354.1) ⟨hD.1, (by omega)⟩) hZ (own_w hw 12 rfl) (own_w hw 5 rfl) (by decide) (by decide)) (g := (mkF m 409 #[oJ p0, oS, oI p1, oI p2, oI p3, oI p4, oJ uu, oS, oI dg, oI (1 : Int32), oI xb, oI ps, oI cc, oI ln, oR b324, oI (1 : Int32), oI qq, oR b349, oR o_353, oJ (uu % (own_p10 nD)), oS, oI (1 : Int32), oI (cc - (48 : Int32)), oI (1 : Int32), oU, oU, oU, oU, oU, oU, oU] [(.int dg), (.long ((cc - (48 : Int32)).toInt64))])) rfl (by rw [hml]; rfl) (argsL := [(.int dg)]) (rest := [(.long ((cc - (48 : Int32)).toInt64))]) (lenOf own_pd13 rfl) rfl (own_hW rfl) (hb hby at_409) (fun _ _ => ⟨rfl, rfl, (by decide : 19 + 1 ≤ _), (by decide : 206 + 12 ≤ _)⟩)
              dsimp only [Pt.U, Pt.locs, Pt.cells, Pt.slots] at X361 l361 y361 z361 st361 hQ361
              subst y361 z361
              obtain ⟨rfl, N361q, Kq361⟩ := hQ361
              have N361 : Fr n0 L361 := by rw [l361]; exact Fr.app N354 N361q
              have K361 : Keep h0 T361.heap [] := K354.trans Kq361 all0
              have c361 : CHr Z own_EL _ T354.heap _ T361.heap := CHr.keep Kq361 own_sl0 C354.1
              have C361 := C354.trans c361
              have kk361 := Nat.le_trans kk354 c361.2.1
              refine own_st (st361) ?_
              refine own_st (fun t_ k_ => XS.lmul X361.here hx rfl (hb hby at_412) rfl (XS.lload X361.here hx rfl (hb hby at_413) rfl (XS.ladd X361.here hx rfl (hb hby at_415) rfl k_))) ?_
              show own_at p e below _ T361 m 416 #[oJ p0, oS, oI p1, oI p2, oI p3, oI p4, oJ uu, oS, oI dg, oI (1 : Int32), oI xb, oI ps, oI cc, oI ln, oR b324, oI (1 : Int32), oI qq, oR b349, oR o_353, oJ (uu % (own_p10 nD)), oS, oI (1 : Int32), oI (cc - (48 : Int32)), oI (1 : Int32), oU, oU, oU, oU, oU, oU, oU] [(.long ((((cc - (48 : Int32)).toInt64) * (own_p10 nD)) + (uu % (own_p10 nD))))]
              obtain ⟨vl, e_vl⟩ : ∃ z, z = ((((cc - (48 : Int32)).toInt64) * (own_p10 nD)) + (uu % (own_p10 nD))) := ⟨_, rfl⟩
              rw [show ((((cc - (48 : Int32)).toInt64) * (own_p10 nD)) + (uu % (own_p10 nD))) = vl from e_vl.symm]
              have hvl : vl.toInt = ((cc.toInt - 48) * ((10 ^ nD : Nat) : Int) + ((U % 10 ^ nD : Nat) : Int)) := (by rw [e_vl]; exact own_VB hU (by omega) hcc.1 hcc.2)
              refine own_st (fun t_ k_ => XS.lstore X361.here hx rfl (hb hby at_416) rfl (l' := #[oJ p0, oS, oI p1, oI p2, oI p3, oI p4, oJ uu, oS, oI dg, oI (1 : Int32), oI xb, oI ps, oI cc, oI ln, oR b324, oI (1 : Int32), oI qq, oR b349, oR o_353, oJ (uu % (own_p10 nD)), oS, oI (1 : Int32), oI (cc - (48 : Int32)), oI (1 : Int32), oJ vl, oS, oU, oU, oU, oU, oU]) rfl (XS.goto X361.here hx rfl (pc0 := 418) (pc' := 562) rfl (hb hby at_418) (by decide) (by decide) k_)) ?_
              show own_at p e below _ T361 m 562 #[oJ p0, oS, oI p1, oI p2, oI p3, oI p4, oJ uu, oS, oI dg, oI (1 : Int32), oI xb, oI ps, oI cc, oI ln, oR b324, oI (1 : Int32), oI qq, oR b349, oR o_353, oJ (uu % (own_p10 nD)), oS, oI (1 : Int32), oI (cc - (48 : Int32)), oI (1 : Int32), oJ vl, oS, oU, oU, oU, oU, oU] []
              exact j562 _ _ _ _ _ _ _ _ _ _ _ _ _ _ _ _ _ _ _ _ _ _ _ _ _ _ _ _ _ _ _ _ _ _ _ _ _ _ _ hZ hown S353 X361 rfl N361 K361 C361 kk361 (by decide) (by decide) (((((f351.keep Kq352 (allS ge349 all0)).keep Kq353 all0).keep Kq354 all0).keep Kq361 all0)) (((P353_0.keep Kq354).keep Kq361)) (((P353_1.keep Kq354 nin0).keep Kq361 nin0)) (((P353_2.keep Kq354 nin0).keep Kq361 nin0)) One.u (Or.inr rfl) (by rw [hiff, hvl]; exact ⟨fun z_ => ⟨rfl, z_.2⟩, fun z_ => ⟨⟨hdg, (by omega)⟩, z_.2⟩⟩) (fun _ => by rw [hpvE, hvl]) P353_3
      · skip
        have hqs : 1 ≤ qx9 := by have z_ := mt (own_ltp hqq.1 (by decide : (1 : Int32).toInt = ((1 : Nat) : Int))).mpr c3; omega
        have hat : cs qx9 = cc := by rw [e_cs]; unfold own_upd; rw [if_pos rfl]
        by_cases c1 : cc < (48 : Int32)
        · skip
          have hnd := own_isd1 c1
          have c5 : ¬ qq = (0 : Int32) := own_nz hqq.1 hqs
          have hgd : ¬ own_good cs (1 + nD) p3 p4 := own_kE hqq.2 (by rw [hat]; exact hnd) (Or.inl hqs) p3 p4
          refine own_st (fun t_ k_ => XS.iload X354.here hx rfl (hb hby at_290) rfl (XS.bipush X354.here hx rfl (hb hby at_292) (XS.icmpYes X354.here hx rfl (pc0 := 294) (pc' := 308) rfl (hb hby at_294) rfl (tlt c1).1 (by decide) (by decide) (XS.iconst X354.here hx rfl (hb hby at_308) (XS.istore X354.here hx rfl (hb hby at_309) rfl (l' := #[oJ p0, oS, oI p1, oI p2, oI p3, oI p4, oJ uu, oS, oI dg, oI (1 : Int32), oI xb, oI ps, oI cc, oI ln, oR b324, oI (1 : Int32), oI qq, oR b349, oR o_353, oJ (uu % (own_p10 nD)), oS, oI (0 : Int32), oU, oU, oU, oU, oU, oU, oU, oU, oU]) rfl (XS.iload X354.here hx rfl (hb hby at_311) rfl k_)))))) ?_
          show own_at p e below _ T354 m 313 #[oJ p0, oS, oI p1, oI p2, oI p3, oI p4, oJ uu, oS, oI dg, oI (1 : Int32), oI xb, oI ps, oI cc, oI ln, oR b324, oI (1 : Int32), oI qq, oR b349, oR o_353, oJ (uu % (own_p10 nD)), oS, oI (0 : Int32), oU, oU, oU, oU, oU, oU, oU, oU, oU] [(.int cc)]
          refine own_st (fun t_ k_ => XS.bipush X354.here hx rfl (hb hby at_313) (XS.isub X354.here hx rfl (hb hby at_315) rfl (XS.istore X354.here hx rfl (hb hby at_316) rfl (l' := #[oJ p0, oS, oI p1, oI p2, oI p3, oI p4, oJ uu, oS, oI dg, oI (1 : Int32), oI xb, oI ps, oI cc, oI ln, oR b324, oI (1 : Int32), oI qq, oR b349, oR o_353, oJ (uu % (own_p10 nD)), oS, oI (0 : Int32), oI (cc - (48 : Int32)), oU, oU, oU, oU, oU, oU, oU, oU]) rfl (XS.iload X354.here hx rfl (hb hby at_318) rfl (XS.ifNo X354.here hx rfl (hb hby at_320) rfl ((if0 _ _).trans (feq (by decide : ¬ ((1 : Int32) = (0 : Int32)))).1) (XS.iload X354.here hx rfl (hb hby at_323) rfl k_)))))) ?_
          show own_at p e below _ T354 m 325 #[oJ p0, oS, oI p1, oI p2, oI p3, oI p4, oJ uu, oS, oI dg, oI (1 : Int32), oI xb, oI ps, oI cc, oI ln, oR b324, oI (1 : Int32), oI qq, oR b349, oR o_353, oJ (uu % (own_p10 nD)), oS, oI (0 : Int32), oI (cc - (48 : Int32)), oU, oU, oU, oU, oU, oU, oU, oU] [(.int qq)]
          refine own_st (fun t_ k_ => XS.iload X354.here hx rfl (hb hby at_325) rfl (XS.icmpYes X354.here hx rfl (pc0 := 327) (pc' := 376) rfl (hb hby at_327) rfl (flt c3).2.1 (by decide) (by decide) (XS.iload X354.here hx rfl (hb hby at_376) rfl (XS.iload X354.here hx rfl (hb hby at_378) rfl (XS.icmpYes X354.here hx rfl (pc0 := 380) (pc' := 421) rfl (hb hby at_380) rfl (flt c3).2.1 (by decide) (by decide) (XS.iload X354.here hx rfl (hb hby at_421) rfl k_)))))) ?_
          show own_at p e below _ T354 m 423 #[oJ p0, oS, oI p1, oI p2, oI p3, oI p4, oJ uu, oS, oI dg, oI (1 : Int32), oI xb, oI ps, oI cc, oI ln, oR b324, oI (1 : Int32), oI qq, oR b349, oR o_353, oJ (uu % (own_p10 nD)), oS, oI (0 : Int32), oI (cc - (48 : Int32)), oU, oU, oU, oU, oU, oU, oU, oU] [(.int (0 : Int32))]
          refine own_st (fun t_ k_ => XS.ifYes X354.here hx rfl (pc0 := 423) (pc' := 504) rfl (hb hby at_423) rfl ((if0 _ _).trans (teq (by decide : (0 : Int32) = (0 : Int32))).1) (by decide) (by decide) (XS.iload X354.here hx rfl (hb hby at_504) rfl (XS.bipush X354.here hx rfl (hb hby at_506) k_))) ?_
          show own_at p e below _ T354 m 508 #[oJ p0, oS, oI p1, oI p2, oI p3, oI p4, oJ uu, oS, oI dg, oI (1 : Int32), oI xb, oI ps, oI cc, oI ln, oR b324, oI (1 : Int32), oI qq, oR b349, oR o_353, oJ (uu % (own_p10 nD)), oS, oI (0 : Int32), oI (cc - (48 : Int32)), oU, oU, oU, oU, oU, oU, oU, oU] [(.int (45 : Int32)), (.int cc)]
          by_cases c508_362 : cc = (45 : Int32)
          · skip
            refine own_st (fun t_ k_ => XS.icmpNo X354.here hx rfl (hb hby at_508) rfl (teq c508_362).2 (XS.iload X354.here hx rfl (hb hby at_511) rfl (XS.ifYes X354.here hx rfl (pc0 := 513) (pc' := 556) rfl (hb hby at_513) rfl ((if0 _ _).trans (feq c5).2) (by decide) (by decide) (XS.iconst X354.here hx rfl (hb hby at_556) (XS.istore X354.here hx rfl (hb hby at_557) rfl (l' := #[oJ p0, oS, oI p1, oI p2, oI p3, oI p4, oJ uu, oS, oI dg, oI (1 : Int32), oI xb, oI ps, oI cc, oI ln, oR b324, oI (1 : Int32), oI qq, oR b349, oR o_353, oJ (uu % (own_p10 nD)), oS, oI (0 : Int32), oI (cc - (48 : Int32)), oI (0 : Int32), oU, oU, oU, oU, oU, oU, oU]) rfl (XS.lconst X354.here hx rfl (hb hby at_559) k_)))))) ?_
            show own_at p e below _ T354 m 560 #[oJ p0, oS, oI p1, oI p2, oI p3, oI p4, oJ uu, oS, oI dg, oI (1 : Int32), oI xb, oI ps, oI cc, oI ln, oR b324, oI (1 : Int32), oI qq, oR b349, oR o_353, oJ (uu % (own_p10 nD)), oS, oI (0 : Int32), oI (cc - (48 : Int32)), oI (0 : Int32), oU, oU, oU, oU, oU, oU, oU] [(.long (0 : Int64))]
            refine own_st (fun t_ k_ => XS.lstore X354.here hx rfl (hb hby at_560) rfl (l' := #[oJ p0, oS, oI p1, oI p2, oI p3, oI p4, oJ uu, oS, oI dg, oI (1 : Int32), oI xb, oI ps, oI cc, oI ln, oR b324, oI (1 : Int32), oI qq, oR b349, oR o_353, oJ (uu % (own_p10 nD)), oS, oI (0 : Int32), oI (cc - (48 : Int32)), oI (0 : Int32), oJ (0 : Int64), oS, oU, oU, oU, oU, oU]) rfl k_) ?_
            show own_at p e below _ T354 m 562 #[oJ p0, oS, oI p1, oI p2, oI p3, oI p4, oJ uu, oS, oI dg, oI (1 : Int32), oI xb, oI ps, oI cc, oI ln, oR b324, oI (1 : Int32), oI qq, oR b349, oR o_353, oJ (uu % (own_p10 nD)), oS, oI (0 : Int32), oI (cc - (48 : Int32)), oI (0 : Int32), oJ (0 : Int64), oS, oU, oU, oU, oU, oU] []
            exact j562 _ _ _ _ _ _ _ _ _ _ _ _ _ _ _ _ _ _ _ _ _ _ _ _ _ _ _ _ _ _ _ _ _ _ _ _ _ _ _ hZ hown S353 X354 rfl N354 K354 C354 kk354 (by decide) (by decide) ((((f351.keep Kq352 (allS ge349 all0)).keep Kq353 all0).keep Kq354 all0)) ((P353_0.keep Kq354)) ((P353_1.keep Kq354 nin0)) ((P353_2.keep Kq354 nin0)) One.u (Or.inl rfl) ⟨fun z_ => absurd z_ hgd, fun z_ => absurd z_.1 (by decide)⟩ (fun z_ => absurd z_ hgd) P353_3
          refine own_st (fun t_ k_ => XS.icmpYes X354.here hx rfl (pc0 := 508) (pc' := 556) rfl (hb hby at_508) rfl (feq c508_362).2 (by decide) (by decide) (XS.iconst X354.here hx rfl (hb hby at_556) (XS.istore X354.here hx rfl (hb hby at_557) rfl (l' := #[oJ p0, oS, oI p1, oI p2, oI p3, oI p4, oJ uu, oS, oI dg, oI (1 : Int32), oI xb, oI ps, oI cc, oI ln, oR b324, oI (1 : Int32), oI qq, oR b349, oR o_353, oJ (uu % (own_p10 nD)), oS, oI (0 : Int32), oI (cc - (48 : Int32)), oI (0 : Int32), oU, oU, oU, oU, oU, oU, oU]) rfl (XS.lconst X354.here hx rfl (hb hby at_559) (XS.lstore X354.here hx rfl (hb hby at_560) rfl (l' := #[oJ p0, oS, oI p1, oI p2, oI p3, oI p4, oJ uu, oS, oI dg, oI (1 : Int32), oI xb, oI ps, oI cc, oI ln, oR b324, oI (1 : Int32), oI qq, oR b349, oR o_353, oJ (uu % (own_p10 nD)), oS, oI (0 : Int32), oI (cc - (48 : Int32)), oI (0 : Int32), oJ (0 : Int64), oS, oU, oU, oU, oU, oU]) rfl k_))))) ?_
          show own_at p e below _ T354 m 562 #[oJ p0, oS, oI p1, oI p2, oI p3, oI p4, oJ uu, oS, oI dg, oI (1 : Int32), oI xb, oI ps, oI cc, oI ln, oR b324, oI (1 : Int32), oI qq, oR b349, oR o_353, oJ (uu % (own_p10 nD)), oS, oI (0 : Int32), oI (cc - (48 : Int32)), oI (0 : Int32), oJ (0 : Int64), oS, oU, oU, oU, oU, oU] []
          exact j562 _ _ _ _ _ _ _ _ _ _ _ _ _ _ _ _ _ _ _ _ _ _ _ _ _ _ _ _ _ _ _ _ _ _ _ _ _ _ _ hZ hown S353 X354 rfl N354 K354 C354 kk354 (by decide) (by decide) ((((f351.keep Kq352 (allS ge349 all0)).keep Kq353 all0).keep Kq354 all0)) ((P353_0.keep Kq354)) ((P353_1.keep Kq354 nin0)) ((P353_2.keep Kq354 nin0)) One.u (Or.inl rfl) ⟨fun z_ => absurd z_ hgd, fun z_ => absurd z_.1 (by decide)⟩ (fun z_ => absurd z_ hgd) P353_3
        · skip
          by_cases c2 : (57 : Int32) < cc
          · skip
            have hnd := own_isd2 c2
            have c4 : ¬ cc = (45 : Int32) := fun z_ => absurd (z_ ▸ c2) (by decide)
            have c5 : ¬ qq = (0 : Int32) := own_nz hqq.1 hqs
            have hgd : ¬ own_good cs (1 + nD) p3 p4 := own_kE hqq.2 (by rw [hat]; exact hnd) (Or.inl hqs) p3 p4
            refine own_st (fun t_ k_ => XS.iload X354.here hx rfl (hb hby at_290) rfl (XS.bipush X354.here hx rfl (hb hby at_292) (XS.icmpNo X354.here hx rfl (hb hby at_294) rfl (flt c1).1 (XS.iload X354.here hx rfl (hb hby at_297) rfl (XS.bipush X354.here hx rfl (hb hby at_299) (XS.icmpYes X354.here hx rfl (pc0 := 301) (pc' := 308) rfl (hb hby at_301) rfl (tlt c2).2.2.1 (by decide) (by decide) k_)))))) ?_
            show own_at p e below _ T354 m 308 #[oJ p0, oS, oI p1, oI p2, oI p3, oI p4, oJ uu, oS, oI dg, oI (1 : Int32), oI xb, oI ps, oI cc, oI ln, oR b324, oI (1 : Int32), oI qq, oR b349, oR o_353, oJ (uu % (own_p10 nD)), oS, oU, oU, oU, oU, oU, oU, oU, oU, oU, oU] []
            refine own_st (fun t_ k_ => XS.iconst X354.here hx rfl (hb hby at_308) (XS.istore X354.here hx rfl (hb hby at_309) rfl (l' := #[oJ p0, oS, oI p1, oI p2, oI p3, oI p4, oJ uu, oS, oI dg, oI (1 : Int32), oI xb, oI ps, oI cc, oI ln, oR b324, oI (1 : Int32), oI qq, oR b349, oR o_353, oJ (uu % (own_p10 nD)), oS, oI (0 : Int32), oU, oU, oU, oU, oU, oU, oU, oU, oU]) rfl (XS.iload X354.here hx rfl (hb hby at_311) rfl (XS.bipush X354.here hx rfl (hb hby at_313) (XS.isub X354.here hx rfl (hb hby at_315) rfl (XS.istore X354.here hx rfl (hb hby at_316) rfl (l' := #[oJ p0, oS, oI p1, oI p2, oI p3, oI p4, oJ uu, oS, oI dg, oI (1 : Int32), oI xb, oI ps, oI cc, oI ln, oR b324, oI (1 : Int32), oI qq, oR b349, oR o_353, oJ (uu % (own_p10 nD)), oS, oI (0 : Int32), oI (cc - (48 : Int32)), oU, oU, oU, oU, oU, oU, oU, oU]) rfl k_)))))) ?_
            show own_at p e below _ T354 m 318 #[oJ p0, oS, oI p1, oI p2, oI p3, oI p4, oJ uu, oS, oI dg, oI (1 : Int32), oI xb, oI ps, oI cc, oI ln, oR b324, oI (1 : Int32), oI qq, oR b349, oR o_353, oJ (uu % (own_p10 nD)), oS, oI (0 : Int32), oI (cc - (48 : Int32)), oU, oU, oU, oU, oU, oU, oU, oU] []
            refine own_st (fun t_ k_ => XS.iload X354.here hx rfl (hb hby at_318) rfl (XS.ifNo X354.here hx rfl (hb hby at_320) rfl ((if0 _ _).trans (feq (by decide : ¬ ((1 : Int32) = (0 : Int32)))).1) (XS.iload X354.here hx rfl (hb hby at_323) rfl (XS.iload X354.here hx rfl (hb hby at_325) rfl (XS.icmpYes X354.here hx rfl (pc0 := 327) (pc' := 376) rfl (hb hby at_327) rfl (flt c3).2.1 (by decide) (by decide) (XS.iload X354.here hx rfl (hb hby at_376) rfl k_)))))) ?_
            show own_at p e below _ T354 m 378 #[oJ p0, oS, oI p1, oI p2, oI p3, oI p4, oJ uu, oS, oI dg, oI (1 : Int32), oI xb, oI ps, oI cc, oI ln, oR b324, oI (1 : Int32), oI qq, oR b349, oR o_353, oJ (uu % (own_p10 nD)), oS, oI (0 : Int32), oI (cc - (48 : Int32)), oU, oU, oU, oU, oU, oU, oU, oU] [(.int qq)]
            refine own_st (fun t_ k_ => XS.iload X354.here hx rfl (hb hby at_378) rfl (XS.icmpYes X354.here hx rfl (pc0 := 380) (pc' := 421) rfl (hb hby at_380) rfl (flt c3).2.1 (by decide) (by decide) (XS.iload X354.here hx rfl (hb hby at_421) rfl (XS.ifYes X354.here hx rfl (pc0 := 423) (pc' := 504) rfl (hb hby at_423) rfl ((if0 _ _).trans (teq (by decide : (0 : Int32) = (0 : Int32))).1) (by decide) (by decide) (XS.iload X354.here hx rfl (hb hby at_504) rfl (XS.bipush X354.here hx rfl (hb hby at_506) k_)))))) ?_
            show own_at p e below _ T354 m 508 #[oJ p0, oS, oI p1, oI p2, oI p3, oI p4, oJ uu, oS, oI dg, oI (1 : Int32), oI xb, oI ps, oI cc, oI ln, oR b324, oI (1 : Int32), oI qq, oR b349, oR o_353, oJ (uu % (own_p10 nD)), oS, oI (0 : Int32), oI (cc - (48 : Int32)), oU, oU, oU, oU, oU, oU, oU, oU] [(.int (45 : Int32)), (.int cc)]
            refine own_st (fun t_ k_ => XS.icmpYes X354.here hx rfl (pc0 := 508) (pc' := 556) rfl (hb hby at_508) rfl (feq c4).2 (by decide) (by decide) (XS.iconst X354.here hx rfl (hb hby at_556) (XS.istore X354.here hx rfl (hb hby at_557) rfl (l' := #[oJ p0, oS, oI p1, oI p2, oI p3, oI p4, oJ uu, oS, oI dg, oI (1 : Int32), oI xb, oI ps, oI cc, oI ln, oR b324, oI (1 : Int32), oI qq, oR b349, oR o_353, oJ (uu % (own_p10 nD)), oS, oI (0 : Int32), oI (cc - (48 : Int32)), oI (0 : Int32), oU, oU, oU, oU, oU, oU, oU]) rfl (XS.lconst X354.here hx rfl (hb hby at_559) (XS.lstore X354.here hx rfl (hb hby at_560) rfl (l' := #[oJ p0, oS, oI p1, oI p2, oI p3, oI p4, oJ uu, oS, oI dg, oI (1 : Int32), oI xb, oI ps, oI cc, oI ln, oR b324, oI (1 : Int32), oI qq, oR b349, oR o_353, oJ (uu % (own_p10 nD)), oS, oI (0 : Int32), oI (cc - (48 : Int32)), oI (0 : Int32), oJ (0 : Int64), oS, oU, oU, oU, oU, oU]) rfl k_))))) ?_
            show own_at p e below _ T354 m 562 #[oJ p0, oS, oI p1, oI p2, oI p3, oI p4, oJ uu, oS, oI dg, oI (1 : Int32), oI xb, oI ps, oI cc, oI ln, oR b324, oI (1 : Int32), oI qq, oR b349, oR o_353, oJ (uu % (own_p10 nD)), oS, oI (0 : Int32), oI (cc - (48 : Int32)), oI (0 : Int32), oJ (0 : Int64), oS, oU, oU, oU, oU, oU] []
            exact j562 _ _ _ _ _ _ _ _ _ _ _ _ _ _ _ _ _ _ _ _ _ _ _ _ _ _ _ _ _ _ _ _ _ _ _ _ _ _ _ hZ hown S353 X354 rfl N354 K354 C354 kk354 (by decide) (by decide) ((((f351.keep Kq352 (allS ge349 all0)).keep Kq353 all0).keep Kq354 all0)) ((P353_0.keep Kq354)) ((P353_1.keep Kq354 nin0)) ((P353_2.keep Kq354 nin0)) One.u (Or.inl rfl) ⟨fun z_ => absurd z_ hgd, fun z_ => absurd z_.1 (by decide)⟩ (fun z_ => absurd z_ hgd) P353_3
          · skip
            have hdg := own_isdI c1 c2
            have hk := own_kC (s := 1) (n := nD) (cs := cs) (U := U) (by decide) hdg hqs hqq.2 h45 hd0 e_cs
            have hiff := own_gA (mn := p3) (mx := p4) hk
            have hiff : own_good cs (1 + nD) p3 p4 ↔ (1 ≤ nD ∧ nD ≤ 10) ∧ p3.toInt ≤ (-(((U % 10 ^ nD : Nat) : Int) + (cc.toInt - 48 - ((U / 10 ^ (1 + nD - 1 - qx9) % 10 : Nat) : Int)) * ((10 ^ (1 + nD - 1 - qx9) : Nat) : Int))) ∧ (-(((U % 10 ^ nD : Nat) : Int) + (cc.toInt - 48 - ((U / 10 ^ (1 + nD - 1 - qx9) % 10 : Nat) : Int)) * ((10 ^ (1 + nD - 1 - qx9) : Nat) : Int))) ≤ p4.toInt := hiff
            have hpvE : own_pv cs (own_swn cs (1 + nD)) (1 + nD) = (-(((U % 10 ^ nD : Nat) : Int) + (cc.toInt - 48 - ((U / 10 ^ (1 + nD - 1 - qx9) % 10 : Nat) : Int)) * ((10 ^ (1 + nD - 1 - qx9) : Nat) : Int))) := own_pvE hk
            refine own_st (fun t_ k_ => XS.iload X354.here hx rfl (hb hby at_290) rfl (XS.bipush X354.here hx rfl (hb hby at_292) (XS.icmpNo X354.here hx rfl (hb hby at_294) rfl (flt c1).1 (XS.iload X354.here hx rfl (hb hby at_297) rfl (XS.bipush X354.here hx rfl (hb hby at_299) (XS.icmpNo X354.here hx rfl (hb hby at_301) rfl (flt c2).2.2.1 k_)))))) ?_
            show own_at p e below _ T354 m 304 #[oJ p0, oS, oI p1, oI p2, oI p3, oI p4, oJ uu, oS, oI dg, oI (1 : Int32), oI xb, oI ps, oI cc, oI ln, oR b324, oI (1 : Int32), oI qq, oR b349, oR o_353, oJ (uu % (own_p10 nD)), oS, oU, oU, oU, oU, oU, oU, oU, oU, oU, oU] []
            refine own_st (fun t_ k_ => XS.iconst X354.here hx rfl (hb hby at_304) (XS.goto X354.here hx rfl (pc0 := 305) (pc' := 309) rfl (hb hby at_305) (by decide) (by decide) (XS.istore X354.here hx rfl (hb hby at_309) rfl (l' := #[oJ p0, oS, oI p1, oI p2, oI p3, oI p4, oJ uu, oS, oI dg, oI (1 : Int32), oI xb, oI ps, oI cc, oI ln, oR b324, oI (1 : Int32), oI qq, oR b349, oR o_353, oJ (uu % (own_p10 nD)), oS, oI (1 : Int32), oU, oU, oU, oU, oU, oU, oU, oU, oU]) rfl (XS.iload X354.here hx rfl (hb hby at_311) rfl (XS.bipush X354.here hx rfl (hb hby at_313) (XS.isub X354.here hx rfl (hb hby at_315) rfl k_)))))) ?_
            show own_at p e below _ T354 m 316 #[oJ p0, oS, oI p1, oI p2, oI p3, oI p4, oJ uu, oS, oI dg, oI (1 : Int32), oI xb, oI ps, oI cc, oI ln, oR b324, oI (1 : Int32), oI qq, oR b349, oR o_353, oJ (uu % (own_p10 nD)), oS, oI (1 : Int32), oU, oU, oU, oU, oU, oU, oU, oU, oU] [(.int (cc - (48 : Int32)))]
            refine own_st (fun t_ k_ => XS.istore X354.here hx rfl (hb hby at_316) rfl (l' := #[oJ p0, oS, oI p1, oI p2, oI p3, oI p4, oJ uu, oS, oI dg, oI (1 : Int32), oI xb, oI ps, oI cc, oI ln, oR b324, oI (1 : Int32), oI qq, oR b349, oR o_353, oJ (uu % (own_p10 nD)), oS, oI (1 : Int32), oI (cc - (48 : Int32)), oU, oU, oU, oU, oU, oU, oU, oU]) rfl (XS.iload X354.here hx rfl (hb hby at_318) rfl (XS.ifNo X354.here hx rfl (hb hby at_320) rfl ((if0 _ _).trans (feq (by decide : ¬ ((1 : Int32) = (0 : Int32)))).1) (XS.iload X354.here hx rfl (hb hby at_323) rfl (XS.iload X354.here hx rfl (hb hby at_325) rfl (XS.icmpYes X354.here hx rfl (pc0 := 327) (pc' := 376) rfl (hb hby at_327) rfl (flt c3).2.1 (by decide) (by decide) k_)))))) ?_
            show own_at p e below _ T354 m 376 #[oJ p0, oS, oI p1, oI p2, oI p3, oI p4, oJ uu, oS, oI dg, oI (1 : Int32), oI xb, oI ps, oI cc, oI ln, oR b324, oI (1 : Int32), oI qq, oR b349, oR o_353, oJ (uu % (own_p10 nD)), oS, oI (1 : Int32), oI (cc - (48 : Int32)), oU, oU, oU, oU, oU, oU, oU, oU] []
            refine own_st (fun t_ k_ => XS.iload X354.here hx rfl (hb hby at_376) rfl (XS.iload X354.here hx rfl (hb hby at_378) rfl (XS.icmpYes X354.here hx rfl (pc0 := 380) (pc' := 421) rfl (hb hby at_380) rfl (flt c3).2.1 (by decide) (by decide) (XS.iload X354.here hx rfl (hb hby at_421) rfl (XS.ifNo X354.here hx rfl (hb hby at_423) rfl ((if0 _ _).trans (feq (by decide : ¬ ((1 : Int32) = (0 : Int32)))).1) (XS.iload X354.here hx rfl (hb hby at_426) rfl k_)))))) ?_
            show own_at p e below _ T354 m 428 #[oJ p0, oS, oI p1, oI p2, oI p3, oI p4, oJ uu, oS, oI dg, oI (1 : Int32), oI xb, oI ps, oI cc, oI ln, oR b324, oI (1 : Int32), oI qq, oR b349, oR o_353, oJ (uu % (own_p10 nD)), oS, oI (1 : Int32), oI (cc - (48 : Int32)), oU, oU, oU, oU, oU, oU, oU, oU] [(.int ln)]
            refine own_st (fun t_ k_ => XS.iconst X354.here hx rfl (hb hby at_428) (XS.isub X354.here hx rfl (hb hby at_429) rfl (XS.iload X354.here hx rfl (hb hby at_430) rfl (XS.isub X354.here hx rfl (hb hby at_432) rfl (XS.istore X354.here hx rfl (hb hby at_433) rfl (l' := #[oJ p0, oS, oI p1, oI p2, oI p3, oI p4, oJ uu, oS, oI dg, oI (1 : Int32), oI xb, oI ps, oI cc, oI ln, oR b324, oI (1 : Int32), oI qq, oR b349, oR o_353, oJ (uu % (own_p10 nD)), oS, oI (1 : Int32), oI (cc - (48 : Int32)), oU, oU, oU, oI ((ln - (1 : Int32)) - qq), oU, oU, oU, oU]) rfl (XS.iload X354.here hx rfl (hb hby at_435) rfl k_)))))) ?_
            show own_at p e below _ T354 m 437 #[oJ p0, oS, oI p1, oI p2, oI p3, oI p4, oJ uu, oS, oI dg, oI (1 : Int32), oI xb, oI ps, oI cc, oI ln, oR b324, oI (1 : Int32), oI qq, oR b349, oR o_353, oJ (uu % (own_p10 nD)), oS, oI (1 : Int32), oI (cc - (48 : Int32)), oU, oU, oU, oI ((ln - (1 : Int32)) - qq), oU, oU, oU, oU] [(.int ((ln - (1 : Int32)) - qq))]
            obtain ⟨_, _, ⟨T363, L363, k363, n363⟩, -, X363, ⟨Lc363, hQ363, l363, y363, z363⟩, st363⟩ := Jvm.LawKit.callS X354 hx (y := own_n18) hown (mvT hZ (own_w hw 10 rfl)) (mvT hZ (own_w hw 11 rfl)) (mvT hZ (own_w hw 5 rfl)) (mvT hZ (own_w hw 12 rfl)) (by decide) (backOf (W := 0) (own_rm3 l Z a0 hw [] ((ln - (1 : Int32)) - qq) (1 + nD - 1 - qx9) T354.heap n0 (Nat.le_trans Z0 K354.1) ⟨own_csub (own_csub hln (by decide : (1 : Int32).toInt = ((1 : Nat) : Int)) (by omega) (by omega)) hqq.1 (by omega) (by omega), (by omega)⟩) hZ (own_w hw 12 rfl) (own_w hw 5 rfl) (by decide) (by decide)) (g := (mkF m 437 #[oJ p0, oS, oI p1, oI p2, oI p3, oI p4, oJ uu, oS, oI dg, oI (1 : Int32), oI xb, oI ps, oI cc, oI ln, oR b324, oI (1 : Int32), oI qq, oR b349, oR o_353, oJ (uu % (own_p10 nD)), oS, oI (1 : Int32), oI (cc - (48 : Int32)), oU, oU, oU, oI ((ln - (1 : Int32)) - qq), oU, oU, oU, oU] [(.int ((ln - (1 : Int32)) - qq))])) rfl (by rw [hml]; rfl) (argsL := [(.int ((ln - (1 : Int32)) - qq))]) (rest := []) (lenOf own_pd13 rfl) rfl (own_hW rfl) (hb hby at_437) (fun _ _ => ⟨rfl, rfl, (by decide : 19 + 1 ≤ _), (by decide : 206 + 12 ≤ _)⟩)
            dsimp only [Pt.U, Pt.locs, Pt.cells, Pt.slots] at X363 l363 y363 z363 st363 hQ363
            subst y363 z363
            obtain ⟨rfl, N363q, Kq363⟩ := hQ363
            have N363 : Fr n0 L363 := by rw [l363]; exact Fr.app N354 N363q
            have K363 : Keep h0 T363.heap [] := K354.trans Kq363 all0
            have c363 : CHr Z own_EL _ T354.heap _ T363.heap := CHr.keep Kq363 own_sl0 C354.1
            have C363 := C354.trans c363
            have kk363 := Nat.le_trans kk354 c363.2.1
            refine own_st (st363) ?_
            refine own_st (fun t_ k_ => XS.lstore X363.here hx rfl (hb hby at_440) rfl (l' := #[oJ p0, oS, oI p1, oI p2, oI p3, oI p4, oJ uu, oS, oI dg, oI (1 : Int32), oI xb, oI ps, oI cc, oI ln, oR b324, oI (1 : Int32), oI qq, oR b349, oR o_353, oJ (uu % (own_p10 nD)), oS, oI (1 : Int32), oI (cc - (48 : Int32)), oU, oU, oU, oI ((ln - (1 : Int32)) - qq), oJ (own_p10 (1 + nD - 1 - qx9)), oS, oU, oU]) rfl (XS.lload X363.here hx rfl (hb hby at_442) rfl (XS.lload X363.here hx rfl (hb hby at_444) rfl (XS.iload X363.here hx rfl (hb hby at_446) rfl k_)))) ?_
            show own_at p e below _ T363 m 448 #[oJ p0, oS, oI p1, oI p2, oI p3, oI p4, oJ uu, oS, oI dg, oI (1 : Int32), oI xb, oI ps, oI cc, oI ln, oR b324, oI (1 : Int32), oI qq, oR b349, oR o_353, oJ (uu % (own_p10 nD)), oS, oI (1 : Int32), oI (cc - (48 : Int32)), oU, oU, oU, oI ((ln - (1 : Int32)) - qq), oJ (own_p10 (1 + nD - 1 - qx9)), oS, oU, oU] [(.int ((ln - (1 : Int32)) - qq)), (.long uu), (.long (uu % (own_p10 nD)))]
            obtain ⟨_, _, ⟨T364, L364, k364, n364⟩, -, X364, ⟨Lc364, hQ364, l364, y364, z364⟩, st364⟩ := Jvm.LawKit.callS X363 hx (y := own_n19) hown (mvT hZ (own_w hw 7 rfl)) (mvT hZ (own_w hw 8 rfl)) (mvT hZ (own_w hw 5 rfl)) (mvT hZ (own_w hw 9 rfl)) (by decide) (backOf (W := 2) (own_rm2 l Z a0 hw [] uu ((ln - (1 : Int32)) - qq) (1 + nD - 1 - qx9) T363.heap n0 (Nat.le_trans Z0 K363.1) ⟨own_csub (own_csub hln (by decide : (1 : Int32).toInt = ((1 : Nat) : Int)) (by omega) (by omega)) hqq.1 (by omega) (by omega), (by omega)⟩) hZ (own_w hw 9 rfl) (own_w hw 5 rfl) (by decide) (by decide)) (g := (mkF m 448 #[oJ p0, oS, oI p1, oI p2, oI p3, oI p4, oJ uu, oS, oI dg, oI (1 : Int32), oI xb, oI ps, oI cc, oI ln, oR b324, oI (1 : Int32), oI qq, oR b349, oR o_353, oJ (uu % (own_p10 nD)), oS, oI (1 : Int32), oI (cc - (48 : Int32)), oU, oU, oU, oI ((ln - (1 : Int32)) - qq), oJ (own_p10 (1 + nD - 1 - qx9)), oS, oU, oU] [(.int ((ln - (1 : Int32)) - qq)), (.long uu), (.long (uu % (own_p10 nD)))])) rfl (by rw [hml]; rfl) (argsL := [(.long uu), (.int ((ln - (1 : Int32)) - qq))]) (rest := [(.long (uu % (own_p10 nD)))]) (lenOf own_pd14 rfl) rfl (own_hW rfl) (hb hby at_448) (fun _ _ => ⟨rfl, rfl, (by decide : 20 + 1 ≤ _), (by decide : 218 + 12 ≤ _)⟩)
            dsimp only [Pt.U, Pt.locs, Pt.cells, Pt.slots] at X364 l364 y364 z364 st364 hQ364
            subst y364 z364
            obtain ⟨rfl, N364q, Kq364⟩ := hQ364
            have N364 : Fr n0 L364 := by rw [l364]; exact Fr.app N363 N364q
            have K364 : Keep h0 T364.heap [] := K363.trans Kq364 all0
            have c364 : CHr Z own_EL _ T363.heap _ T364.heap := CHr.keep Kq364 own_sl0 C363.1
            have C364 := C363.trans c364
            have kk364 := Nat.le_trans kk363 c364.2.1
            refine own_st (st364) ?_
            refine own_st (fun t_ k_ => XS.i2l X364.here hx rfl (hb hby at_451) rfl (XS.lload X364.here hx rfl (hb hby at_452) rfl (XS.lmul X364.here hx rfl (hb hby at_454) rfl (XS.lsub X364.here hx rfl (hb hby at_455) rfl (XS.iload X364.here hx rfl (hb hby at_456) rfl (XS.i2l X364.here hx rfl (hb hby at_458) rfl k_)))))) ?_
            show own_at p e below _ T364 m 459 #[oJ p0, oS, oI p1, oI p2, oI p3, oI p4, oJ uu, oS, oI dg, oI (1 : Int32), oI xb, oI ps, oI cc, oI ln, oR b324, oI (1 : Int32), oI qq, oR b349, oR o_353, oJ (uu % (own_p10 nD)), oS, oI (1 : Int32), oI (cc - (48 : Int32)), oU, oU, oU, oI ((ln - (1 : Int32)) - qq), oJ (own_p10 (1 + nD - 1 - qx9)), oS, oU, oU] [(.long ((cc - (48 : Int32)).toInt64)), (.long ((uu % (own_p10 nD)) - (((own_d10 uu (1 + nD - 1 - qx9)).toInt64) * (own_p10 (1 + nD - 1 - qx9)))))]
            refine own_st (fun t_ k_ => XS.lload X364.here hx rfl (hb hby at_459) rfl (XS.lmul X364.here hx rfl (hb hby at_461) rfl (XS.ladd X364.here hx rfl (hb hby at_462) rfl (XS.lstore X364.here hx rfl (hb hby at_463) rfl (l' := #[oJ p0, oS, oI p1, oI p2, oI p3, oI p4, oJ uu, oS, oI dg, oI (1 : Int32), oI xb, oI ps, oI cc, oI ln, oR b324, oI (1 : Int32), oI qq, oR b349, oR o_353, oJ (uu % (own_p10 nD)), oS, oI (1 : Int32), oI (cc - (48 : Int32)), oU, oU, oU, oI ((ln - (1 : Int32)) - qq), oJ (own_p10 (1 + nD - 1 - qx9)), oS, oJ (((uu % (own_p10 nD)) - (((own_d10 uu (1 + nD - 1 - qx9)).toInt64) * (own_p10 (1 + nD - 1 - qx9)))) + (((cc - (48 : Int32)).toInt64) * (own_p10 (1 + nD - 1 - qx9)))), oS]) rfl (XS.iload X364.here hx rfl (hb hby at_465) rfl (XS.iconst X364.here hx rfl (hb hby at_467) k_)))))) ?_
            show own_at p e below _ T364 m 468 #[oJ p0, oS, oI p1, oI p2, oI p3, oI p4, oJ uu, oS, oI dg, oI (1 : Int32), oI xb, oI ps, oI cc, oI ln, oR b324, oI (1 : Int32), oI qq, oR b349, oR o_353, oJ (uu % (own_p10 nD)), oS, oI (1 : Int32), oI (cc - (48 : Int32)), oU, oU, oU, oI ((ln - (1 : Int32)) - qq), oJ (own_p10 (1 + nD - 1 - qx9)), oS, oJ (((uu % (own_p10 nD)) - (((own_d10 uu (1 + nD - 1 - qx9)).toInt64) * (own_p10 (1 + nD - 1 - qx9)))) + (((cc - (48 : Int32)).toInt64) * (own_p10 (1 + nD - 1 - qx9)))), oS] [(.int (1 : Int32)), (.int dg)]
            by_cases c468_365 : dg < (1 : Int32)
            · skip
              have rlo_468 := (own_ltp hD.1 (by decide : (1 : Int32).toInt = ((1 : Nat) : Int))).mp c468_365
              refine own_st (fun t_ k_ => XS.icmpYes X364.here hx rfl (pc0 := 468) (pc' := 482) rfl (hb hby at_468) rfl (tlt c468_365).1 (by decide) (by decide) (XS.iconst X364.here hx rfl (hb hby at_482) (XS.istore X364.here hx rfl (hb hby at_483) rfl (l' := #[oJ p0, oS, oI p1, oI p2, oI p3, oI p4, oJ uu, oS, oI dg, oI (1 : Int32), oI xb, oI ps, oI cc, oI ln, oR b324, oI (1 : Int32), oI qq, oR b349, oR o_353, oJ (uu % (own_p10 nD)), oS, oI (1 : Int32), oI (cc - (48 : Int32)), oI (0 : Int32), oU, oU, oI ((ln - (1 : Int32)) - qq), oJ (own_p10 (1 + nD - 1 - qx9)), oS, oJ (((uu % (own_p10 nD)) - (((own_d10 uu (1 + nD - 1 - qx9)).toInt64) * (own_p10 (1 + nD - 1 - qx9)))) + (((cc - (48 : Int32)).toInt64) * (own_p10 (1 + nD - 1 - qx9)))), oS]) rfl (XS.iload X364.here hx rfl (hb hby at_485) rfl (XS.iconst X364.here hx rfl (hb hby at_487) (XS.icmpNo X364.here hx rfl (hb hby at_488) rfl (teq (by decide : (1 : Int32) = (1 : Int32))).2 k_)))))) ?_
              show own_at p e below _ T364 m 491 #[oJ p0, oS, oI p1, oI p2, oI p3, oI p4, oJ uu, oS, oI dg, oI (1 : Int32), oI xb, oI ps, oI cc, oI ln, oR b324, oI (1 : Int32), oI qq, oR b349, oR o_353, oJ (uu % (own_p10 nD)), oS, oI (1 : Int32), oI (cc - (48 : Int32)), oI (0 : Int32), oU, oU, oI ((ln - (1 : Int32)) - qq), oJ (own_p10 (1 + nD - 1 - qx9)), oS, oJ (((uu % (own_p10 nD)) - (((own_d10 uu (1 + nD - 1 - qx9)).toInt64) * (own_p10 (1 + nD - 1 - qx9)))) + (((cc - (48 : Int32)).toInt64) * (own_p10 (1 + nD - 1 - qx9)))), oS] []
              refine own_st (fun t_ k_ => XS.lload X364.here hx rfl (hb hby at_491) rfl (XS.lneg X364.here hx rfl (hb hby at_493) rfl (XS.goto X364.here hx rfl (pc0 := 494) (pc' := 499) rfl (hb hby at_494) (by decide) (by decide) k_))) ?_
              show own_at p e below _ T364 m 499 #[oJ p0, oS, oI p1, oI p2, oI p3, oI p4, oJ uu, oS, oI dg, oI (1 : Int32), oI xb, oI ps, oI cc, oI ln, oR b324, oI (1 : Int32), oI qq, oR b349, oR o_353, oJ (uu % (own_p10 nD)), oS, oI (1 : Int32), oI (cc - (48 : Int32)), oI (0 : Int32), oU, oU, oI ((ln - (1 : Int32)) - qq), oJ (own_p10 (1 + nD - 1 - qx9)), oS, oJ (((uu % (own_p10 nD)) - (((own_d10 uu (1 + nD - 1 - qx9)).toInt64) * (own_p10 (1 + nD - 1 - qx9)))) + (((cc - (48 : Int32)).toInt64) * (own_p10 (1 + nD - 1 - qx9)))), oS] [(.long (-(((uu % (own_p10 nD)) - (((own_d10 uu (1 + nD - 1 - qx9)).toInt64) * (own_p10 (1 + nD - 1 - qx9)))) + (((cc - (48 : Int32)).toInt64) * (own_p10 (1 + nD - 1 - qx9))))))]
              obtain ⟨vl, e_vl⟩ : ∃ z, z = (-(((uu % (own_p10 nD)) - (((own_d10 uu (1 + nD - 1 - qx9)).toInt64) * (own_p10 (1 + nD - 1 - qx9)))) + (((cc - (48 : Int32)).toInt64) * (own_p10 (1 + nD - 1 - qx9))))) := ⟨_, rfl⟩
              rw [show (-(((uu % (own_p10 nD)) - (((own_d10 uu (1 + nD - 1 - qx9)).toInt64) * (own_p10 (1 + nD - 1 - qx9)))) + (((cc - (48 : Int32)).toInt64) * (own_p10 (1 + nD - 1 - qx9))))) = vl from e_vl.symm]
              have hvl : vl.toInt = (-(((U % 10 ^ nD : Nat) : Int) + (cc.toInt - 48 - ((U / 10 ^ (1 + nD - 1 - qx9) % 10 : Nat) : Int)) * ((10 ^ (1 + nD - 1 - qx9) : Nat) : Int))) := (by rw [e_vl]; have z_ := own_VC (c := cc) (k := 1 + nD - 1 - qx9) hU (by omega : nD < 12) (by omega) hcc.1 hcc.2; exact own_VN z_)
              refine own_st (fun t_ k_ => XS.lstore X364.here hx rfl (hb hby at_499) rfl (l' := #[oJ p0, oS, oI p1, oI p2, oI p3, oI p4, oJ uu, oS, oI dg, oI (1 : Int32), oI xb, oI ps, oI cc, oI ln, oR b324, oI (1 : Int32), oI qq, oR b349, oR o_353, oJ (uu % (own_p10 nD)), oS, oI (1 : Int32), oI (cc - (48 : Int32)), oI (0 : Int32), oJ vl, oS, oI ((ln - (1 : Int32)) - qq), oJ (own_p10 (1 + nD - 1 - qx9)), oS, oJ (((uu % (own_p10 nD)) - (((own_d10 uu (1 + nD - 1 - qx9)).toInt64) * (own_p10 (1 + nD - 1 - qx9)))) + (((cc - (48 : Int32)).toInt64) * (own_p10 (1 + nD - 1 - qx9)))), oS]) rfl (XS.goto X364.here hx rfl (pc0 := 501) (pc' := 562) rfl (hb hby at_501) (by decide) (by decide) k_)) ?_
              show own_at p e below _ T364 m 562 #[oJ p0, oS, oI p1, oI p2, oI p3, oI p4, oJ uu, oS, oI dg, oI (1 : Int32), oI xb, oI ps, oI cc, oI ln, oR b324, oI (1 : Int32), oI qq, oR b349, oR o_353, oJ (uu % (own_p10 nD)), oS, oI (1 : Int32), oI (cc - (48 : Int32)), oI (0 : Int32), oJ vl, oS, oI ((ln - (1 : Int32)) - qq), oJ (own_p10 (1 + nD - 1 - qx9)), oS, oJ (((uu % (own_p10 nD)) - (((own_d10 uu (1 + nD - 1 - qx9)).toInt64) * (own_p10 (1 + nD - 1 - qx9)))) + (((cc - (48 : Int32)).toInt64) * (own_p10 (1 + nD - 1 - qx9)))), oS] []
              have hgd : ¬ own_good cs (1 + nD) p3 p4 := fun z_ => by have y_ := (hiff.mp z_).1; omega
              exact j562 _ _ _ _ _ _ _ _ _ _ _ _ _ _ _ _ _ _ _ _ _ _ _ _ _ _ _ _ _ _ _ _ _ _ _ _ _ _ _ hZ hown S353 X364 rfl N364 K364 C364 kk364 (by decide) (by decide) ((((((f351.keep Kq352 (allS ge349 all0)).keep Kq353 all0).keep Kq354 all0).keep Kq363 all0).keep Kq364 all0)) ((((P353_0.keep Kq354).keep Kq363).keep Kq364)) ((((P353_1.keep Kq354 nin0).keep Kq363 nin0).keep Kq364 nin0)) ((((P353_2.keep Kq354 nin0).keep Kq363 nin0).keep Kq364 nin0)) (One.val rfl) (Or.inl rfl) ⟨fun z_ => absurd z_ hgd, fun z_ => absurd z_.1 (by decide)⟩ (fun z_ => absurd z_ hgd) P353_3
            have rlo_468 := mt (own_ltp hD.1 (by decide : (1 : Int32).toInt = ((1 : Nat) : Int))).mpr c468_365
            refine own_st (fun t_ k_ => XS.icmpNo X364.here hx rfl (hb hby at_468) rfl (flt c468_365).1 (XS.iload X364.here hx rfl (hb hby at_471) rfl (XS.bipush X364.here hx rfl (hb hby at_473) k_))) ?_
            show own_at p e below _ T364 m 475 #[oJ p0, oS, oI p1, oI p2, oI p3, oI p4, oJ uu, oS, oI dg, oI (1 : Int32), oI xb, oI ps, oI cc, oI ln, oR b324, oI (1 : Int32), oI qq, oR b349, oR o_353, oJ (uu % (own_p10 nD)), oS, oI (1 : Int32), oI (cc - (48 : Int32)), oU, oU, oU, oI ((ln - (1 : Int32)) - qq), oJ (own_p10 (1 + nD - 1 - qx9)), oS, oJ (((uu % (own_p10 nD)) - (((own_d10 uu (1 + nD - 1 - qx9)).toInt64) * (own_p10 (1 + nD - 1 - qx9)))) + (((cc - (48 : Int32)).toInt64) * (own_p10 (1 + nD - 1 - qx9)))), oS] [(.int (10 : Int32)), (.int dg)]
            by_cases c475_366 : (10 : Int32) < dg
            · skip
              have rhi_475 := (own_ltp (by decide : (10 : Int32).toInt = ((10 : Nat) : Int)) hD.1).mp c475_366
              refine own_st (fun t_ k_ => XS.icmpYes X364.here hx rfl (pc0 := 475) (pc' := 482) rfl (hb hby at_475) rfl (tlt c475_366).2.2.1 (by decide) (by decide) (XS.iconst X364.here hx rfl (hb hby at_482) (XS.istore X364.here hx rfl (hb hby at_483) rfl (l' := #[oJ p0, oS, oI p1, oI p2, oI p3, oI p4, oJ uu, oS, oI dg, oI (1 : Int32), oI xb, oI ps, oI cc, oI ln, oR b324, oI (1 : Int32), oI qq, oR b349, oR o_353, oJ (uu % (own_p10 nD)), oS, oI (1 : Int32), oI (cc - (48 : Int32)), oI (0 : Int32), oU, oU, oI ((ln - (1 : Int32)) - qq), oJ (own_p10 (1 + nD - 1 - qx9)), oS, oJ (((uu % (own_p10 nD)) - (((own_d10 uu (1 + nD - 1 - qx9)).toInt64) * (own_p10 (1 + nD - 1 - qx9)))) + (((cc - (48 : Int32)).toInt64) * (own_p10 (1 + nD - 1 - qx9)))), oS]) rfl (XS.iload X364.here hx rfl (hb hby at_485) rfl (XS.iconst X364.here hx rfl (hb hby at_487) (XS.icmpNo X364.here hx rfl (hb hby at_488) rfl (teq (by decide : (1 : Int32) = (1 : Int32))).2 k_)))))) ?_
              show own_at p e below _ T364 m 491 #[oJ p0, oS, oI p1, oI p2, oI p3, oI p4, oJ uu, oS, oI dg, oI (1 : Int32), oI xb, oI ps, oI cc, oI ln, oR b324, oI (1 : Int32), oI qq, oR b349, oR o_353, oJ (uu % (own_p10 nD)), oS, oI (1 : Int32), oI (cc - (48 : Int32)), oI (0 : Int32), oU, oU, oI ((ln - (1 : Int32)) - qq), oJ (own_p10 (1 + nD - 1 - qx9)), oS, oJ (((uu % (own_p10 nD)) - (((own_d10 uu (1 + nD - 1 - qx9)).toInt64) * (own_p10 (1 + nD - 1 - qx9)))) + (((cc - (48 : Int32)).toInt64) * (own_p10 (1 + nD - 1 - qx9)))), oS] []
              refine own_st (fun t_ k_ => XS.lload X364.here hx rfl (hb hby at_491) rfl (XS.lneg X364.here hx rfl (hb hby at_493) rfl (XS.goto X364.here hx rfl (pc0 := 494) (pc' := 499) rfl (hb hby at_494) (by decide) (by decide) k_))) ?_
              show own_at p e below _ T364 m 499 #[oJ p0, oS, oI p1, oI p2, oI p3, oI p4, oJ uu, oS, oI dg, oI (1 : Int32), oI xb, oI ps, oI cc, oI ln, oR b324, oI (1 : Int32), oI qq, oR b349, oR o_353, oJ (uu % (own_p10 nD)), oS, oI (1 : Int32), oI (cc - (48 : Int32)), oI (0 : Int32), oU, oU, oI ((ln - (1 : Int32)) - qq), oJ (own_p10 (1 + nD - 1 - qx9)), oS, oJ (((uu % (own_p10 nD)) - (((own_d10 uu (1 + nD - 1 - qx9)).toInt64) * (own_p10 (1 + nD - 1 - qx9)))) + (((cc - (48 : Int32)).toInt64) * (own_p10 (1 + nD - 1 - qx9)))), oS] [(.long (-(((uu % (own_p10 nD)) - (((own_d10 uu (1 + nD - 1 - qx9)).toInt64) * (own_p10 (1 + nD - 1 - qx9)))) + (((cc - (48 : Int32)).toInt64) * (own_p10 (1 + nD - 1 - qx9))))))]
              obtain ⟨vl, e_vl⟩ : ∃ z, z = (-(((uu % (own_p10 nD)) - (((own_d10 uu (1 + nD - 1 - qx9)).toInt64) * (own_p10 (1 + nD - 1 - qx9)))) + (((cc - (48 : Int32)).toInt64) * (own_p10 (1 + nD - 1 - qx9))))) := ⟨_, rfl⟩
              rw [show (-(((uu % (own_p10 nD)) - (((own_d10 uu (1 + nD - 1 - qx9)).toInt64) * (own_p10 (1 + nD - 1 - qx9)))) + (((cc - (48 : Int32)).toInt64) * (own_p10 (1 + nD - 1 - qx9))))) = vl from e_vl.symm]
              have hvl : vl.toInt = (-(((U % 10 ^ nD : Nat) : Int) + (cc.toInt - 48 - ((U / 10 ^ (1 + nD - 1 - qx9) % 10 : Nat) : Int)) * ((10 ^ (1 + nD - 1 - qx9) : Nat) : Int))) := (by rw [e_vl]; have z_ := own_VC (c := cc) (k := 1 + nD - 1 - qx9) hU (by omega : nD < 12) (by omega) hcc.1 hcc.2; exact own_VN z_)
              refine own_st (fun t_ k_ => XS.lstore X364.here hx rfl (hb hby at_499) rfl (l' := #[oJ p0, oS, oI p1, oI p2, oI p3, oI p4, oJ uu, oS, oI dg, oI (1 : Int32), oI xb, oI ps, oI cc, oI ln, oR b324, oI (1 : Int32), oI qq, oR b349, oR o_353, oJ (uu % (own_p10 nD)), oS, oI (1 : Int32), oI (cc - (48 : Int32)), oI (0 : Int32), oJ vl, oS, oI ((ln - (1 : Int32)) - qq), oJ (own_p10 (1 + nD - 1 - qx9)), oS, oJ (((uu % (own_p10 nD)) - (((own_d10 uu (1 + nD - 1 - qx9)).toInt64) * (own_p10 (1 + nD - 1 - qx9)))) + (((cc - (48 : Int32)).toInt64) * (own_p10 (1 + nD - 1 - qx9)))), oS]) rfl (XS.goto X364.here hx rfl (pc0 := 501) (pc' := 562) rfl (hb hby at_501) (by decide) (by decide) k_)) ?_
              show own_at p e below _ T364 m 562 #[oJ p0, oS, oI p1, oI p2, oI p3, oI p4, oJ uu, oS, oI dg, oI (1 : Int32), oI xb, oI ps, oI cc, oI ln, oR b324, oI (1 : Int32), oI qq, oR b349, oR o_353, oJ (uu % (own_p10 nD)), oS, oI (1 : Int32), oI (cc - (48 : Int32)), oI (0 : Int32), oJ vl, oS, oI ((ln - (1 : Int32)) - qq), oJ (own_p10 (1 + nD - 1 - qx9)), oS, oJ (((uu % (own_p10 nD)) - (((own_d10 uu (1 + nD - 1 - qx9)).toInt64) * (own_p10 (1 + nD - 1 - qx9)))) + (((cc - (48 : Int32)).toInt64) * (own_p10 (1 + nD - 1 - qx9)))), oS] []
              have hgd : ¬ own_good cs (1 + nD) p3 p4 := fun z_ => by have y_ := (hiff.mp z_).1; omega
              exact j562 _ _ _ _ _ _ _ _ _ _ _ _ _ _ _ _ _ _ _ _ _ _ _ _ _ _ _ _ _ _ _ _ _ _ _ _ _ _ _ hZ hown S353 X364 rfl N364 K364 C364 kk364 (by decide) (by decide) ((((((f351.keep Kq352 (allS ge349 all0)).keep Kq353 all0).keep Kq354 all0).keep Kq363 all0).keep Kq364 all0)) ((((P353_0.keep Kq354).keep Kq363).keep Kq364)) ((((P353_1.keep Kq354 nin0).keep Kq363 nin0).keep Kq364 nin0)) ((((P353_2.keep Kq354 nin0).keep Kq363 nin0).keep Kq364 nin0)) (One.val rfl) (Or.inl rfl) ⟨fun z_ => absurd z_ hgd, fun z_ => absurd z_.1 (by decide)⟩ (fun z_ => absurd z_ hgd) P353_3
            have rhi_475 := mt (own_ltp (by decide : (10 : Int32).toInt = ((10 : Nat) : Int)) hD.1).mpr c475_366
            refine own_st (fun t_ k_ => XS.icmpNo X364.here hx rfl (hb hby at_475) rfl (flt c475_366).2.2.1 (XS.iconst X364.here hx rfl (hb hby at_478) (XS.goto X364.here hx rfl (pc0 := 479) (pc' := 483) rfl (hb hby at_479) (by decide) (by decide) (XS.istore X364.here hx rfl (hb hby at_483) rfl (l' := #[oJ p0, oS, oI p1, oI p2, oI p3, oI p4, oJ uu, oS, oI dg, oI (1 : Int32), oI xb, oI ps, oI cc, oI ln, oR b324, oI (1 : Int32), oI qq, oR b349, oR o_353, oJ (uu % (own_p10 nD)), oS, oI (1 : Int32), oI (cc - (48 : Int32)), oI (1 : Int32), oU, oU, oI ((ln - (1 : Int32)) - qq), oJ (own_p10 (1 + nD - 1 - qx9)), oS, oJ (((uu % (own_p10 nD)) - (((own_d10 uu (1 + nD - 1 - qx9)).toInt64) * (own_p10 (1 + nD - 1 - qx9)))) + (((cc - (48 : Int32)).toInt64) * (own_p10 (1 + nD - 1 - qx9)))), oS]) rfl (XS.iload X364.here hx rfl (hb hby at_485) rfl (XS.iconst X364.here hx rfl (hb hby at_487) k_)))))) ?_
            show own_at p e below _ T364 m 488 #[oJ p0, oS, oI p1, oI p2, oI p3, oI p4, oJ uu, oS, oI dg, oI (1 : Int32), oI xb, oI ps, oI cc, oI ln, oR b324, oI (1 : Int32), oI qq, oR b349, oR o_353, oJ (uu % (own_p10 nD)), oS, oI (1 : Int32), oI (cc - (48 : Int32)), oI (1 : Int32), oU, oU, oI ((ln - (1 : Int32)) - qq), oJ (own_p10 (1 + nD - 1 - qx9)), oS, oJ (((uu % (own_p10 nD)) - (((own_d10 uu (1 + nD - 1 - qx9)).toInt64) * (own_p10 (1 + nD - 1 - qx9)))) + (((cc - (48 : Int32)).toInt64) * (own_p10 (1 + nD - 1 - qx9)))), oS] [(.int (1 : Int32)), (.int (1 : Int32))]
            refine own_st (fun t_ k_ => XS.icmpNo X364.here hx rfl (hb hby at_488) rfl (teq (by decide : (1 : Int32) = (1 : Int32))).2 (XS.lload X364.here hx rfl (hb hby at_491) rfl (XS.lneg X364.here hx rfl (hb hby at_493) rfl (XS.goto X364.here hx rfl (pc0 := 494) (pc' := 499) rfl (hb hby at_494) (by decide) (by decide) k_)))) ?_
            show own_at p e below _ T364 m 499 #[oJ p0, oS, oI p1, oI p2, oI p3, oI p4, oJ uu, oS, oI dg, oI (1 : Int32), oI xb, oI ps, oI cc, oI ln, oR b324, oI (1 : Int32), oI qq, oR b349, oR o_353, oJ (uu % (own_p10 nD)), oS, oI (1 : Int32), oI (cc - (48 : Int32)), oI (1 : Int32), oU, oU, oI ((ln - (1 : Int32)) - qq), oJ (own_p10 (1 + nD - 1 - qx9)), oS, oJ (((uu % (own_p10 nD)) - (((own_d10 uu (1 + nD - 1 - qx9)).toInt64) * (own_p10 (1 + nD - 1 - qx9)))) + (((cc - (48 : Int32)).toInt64) * (own_p10 (1 + nD - 1 - qx9)))), oS] [(.long (-(((uu % (own_p10 nD)) - (((own_d10 uu (1 + nD - 1 - qx9)).toInt64) * (own_p10 (1 + nD - 1 - qx9)))) + (((cc - (48 : Int32)).toInt64) * (own_p10 (1 + nD - 1 - qx9))))))]
            obtain ⟨vl, e_vl⟩ : ∃ z, z = (-(((uu % (own_p10 nD)) - (((own_d10 uu (1 + nD - 1 - qx9)).toInt64) * (own_p10 (1 + nD - 1 - qx9)))) + (((cc - (48 : Int32)).toInt64) * (own_p10 (1 + nD - 1 - qx9))))) := ⟨_, rfl⟩
            rw [show (-(((uu % (own_p10 nD)) - (((own_d10 uu (1 + nD - 1 - qx9)).toInt64) * (own_p10 (1 + nD - 1 - qx9)))) + (((cc - (48 : Int32)).toInt64) * (own_p10 (1 + nD - 1 - qx9))))) = vl from e_vl.symm]
            have hvl : vl.toInt = (-(((U % 10 ^ nD : Nat) : Int) + (cc.toInt - 48 - ((U / 10 ^ (1 + nD - 1 - qx9) % 10 : Nat) : Int)) * ((10 ^ (1 + nD - 1 - qx9) : Nat) : Int))) := (by rw [e_vl]; have z_ := own_VC (c := cc) (k := 1 + nD - 1 - qx9) hU (by omega : nD < 12) (by omega) hcc.1 hcc.2; exact own_VN z_)
            refine own_st (fun t_ k_ => XS.lstore X364.here hx rfl (hb hby at_499) rfl (l' := #[oJ p0, oS, oI p1, oI p2, oI p3, oI p4, oJ uu, oS, oI dg, oI (1 : Int32), oI xb, oI ps, oI cc, oI ln, oR b324, oI (1 : Int32), oI qq, oR b349, oR o_353, oJ (uu % (own_p10 nD)), oS, oI (1 : Int32), oI (cc - (48 : Int32)), oI (1 : Int32), oJ vl, oS, oI ((ln - (1 : Int32)) - qq), oJ (own_p10 (1 + nD - 1 - qx9)), oS, oJ (((uu % (own_p10 nD)) - (((own_d10 uu (1 + nD - 1 - qx9)).toInt64) * (own_p10 (1 + nD - 1 - qx9)))) + (((cc - (48 : Int32)).toInt64) * (own_p10 (1 + nD - 1 - qx9)))), oS]) rfl (XS.goto X364.here hx rfl (pc0 := 501) (pc' := 562) rfl (hb hby at_501) (by decide) (by decide) k_)) ?_
            show own_at p e below _ T364 m 562 #[oJ p0, oS, oI p1, oI p2, oI p3, oI p4, oJ uu, oS, oI dg, oI (1 : Int32), oI xb, oI ps, oI cc, oI ln, oR b324, oI (1 : Int32), oI qq, oR b349, oR o_353, oJ (uu % (own_p10 nD)), oS, oI (1 : Int32), oI (cc - (48 : Int32)), oI (1 : Int32), oJ vl, oS, oI ((ln - (1 : Int32)) - qq), oJ (own_p10 (1 + nD - 1 - qx9)), oS, oJ (((uu % (own_p10 nD)) - (((own_d10 uu (1 + nD - 1 - qx9)).toInt64) * (own_p10 (1 + nD - 1 - qx9)))) + (((cc - (48 : Int32)).toInt64) * (own_p10 (1 + nD - 1 - qx9)))), oS] []
            exact j562 _ _ _ _ _ _ _ _ _ _ _ _ _ _ _ _ _ _ _ _ _ _ _ _ _ _ _ _ _ _ _ _ _ _ _ _ _ _ _ hZ hown S353 X364 rfl N364 K364 C364 kk364 (by decide) (by decide) ((((((f351.keep Kq352 (allS ge349 all0)).keep Kq353 all0).keep Kq354 all0).keep Kq363 all0).keep Kq364 all0)) ((((P353_0.keep Kq354).keep Kq363).keep Kq364)) ((((P353_1.keep Kq354 nin0).keep Kq363 nin0).keep Kq364 nin0)) ((((P353_2.keep Kq354 nin0).keep Kq363 nin0).keep Kq364 nin0)) (One.val rfl) (Or.inr rfl) (by rw [hiff, hvl]; exact ⟨fun z_ => ⟨rfl, z_.2⟩, fun z_ => ⟨(by omega), z_.2⟩⟩) (fun _ => by rw [hpvE, hvl]) P353_3
    refine own_st (fun t_ k_ => XS.iloadN X0.here hx rfl (hb hby at_23) rfl (XS.iconst X0.here hx rfl (hb hby at_24) (XS.iushr X0.here hx rfl (hb hby at_25) rfl (XS.iconst X0.here hx rfl (hb hby at_26) (XS.iand X0.here hx rfl (hb hby at_27) rfl k_))))) ?_
    show own_at p e below _ s₁ m 28 #[oJ p0, oS, oI p1, oI p2, oI p3, oI p4, oJ uu, oS, oI dg, oI (1 : Int32), oU, oU, oU, oU, oU, oU, oU, oU, oU, oU, oU, oU, oU, oU, oU, oU, oU, oU, oU, oU, oU] [(.int (((p1.toUInt32 >>> ((5 : Int32) &&& 31).toUInt32).toInt32) &&& (1 : Int32)))]
    by_cases c28_367 : (((p1.toUInt32 >>> ((5 : Int32) &&& 31).toUInt32).toInt32) &&& (1 : Int32)) = (0 : Int32)
    · skip
      refine own_st (fun t_ k_ => XS.ifYes X0.here hx rfl (pc0 := 28) (pc' := 35) rfl (hb hby at_28) rfl ((if0 _ _).trans (teq c28_367).1) (by decide) (by decide) (XS.iconst X0.here hx rfl (hb hby at_35) k_)) ?_
      show own_at p e below _ s₁ m 36 #[oJ p0, oS, oI p1, oI p2, oI p3, oI p4, oJ uu, oS, oI dg, oI (1 : Int32), oU, oU, oU, oU, oU, oU, oU, oU, oU, oU, oU, oU, oU, oU, oU, oU, oU, oU, oU, oU, oU] [(.int (0 : Int32))]
      exact j36 _
    refine own_st (fun t_ k_ => XS.ifNo X0.here hx rfl (hb hby at_28) rfl ((if0 _ _).trans (feq c28_367).1) (XS.iconst X0.here hx rfl (hb hby at_31) (XS.goto X0.here hx rfl (pc0 := 32) (pc' := 36) rfl (hb hby at_32) (by decide) (by decide) k_))) ?_
    show own_at p e below _ s₁ m 36 #[oJ p0, oS, oI p1, oI p2, oI p3, oI p4, oJ uu, oS, oI dg, oI (1 : Int32), oU, oU, oU, oU, oU, oU, oU, oU, oU, oU, oU, oU, oU, oU, oU, oU, oU, oU, oU, oU, oU] [(.int (1 : Int32))]
    exact j36 _

set_option maxRecDepth 65536 in
set_option maxHeartbeats 40000000 in
theorem comes_1 {Post : Tables → Env → Array Value → State → Outcome → State → Prop} (hpost : ∀ tb e args s v u, (limb_1_1.after args s (.returned v) u = true ∧ limb_1_2.after args s (.returned v) u = true ∧ True) → ReturnedEndW s (.returned v) u (Jvm.fieldLocs frame_1_writes args s ++ Jvm.arrayLocs frame_1_arrays args s ++ Jvm.staticLocs frame_1_statics s) 48 2560 → Post tb e args s (.returned v) u) :
    ArmFor flags0 classFile x code maxLocals ret World_1 tables_1 room_1 Calls_1 rest_1 Pre_1 Post := by
  intro l hfl _ _ p e ha hc hk s m args below hf hA hF happ hP
  obtain ⟨hcalls, hrest, hpre⟩ := hP
  obtain ⟨-, -, -, hnamed, -, -, -, hat⟩ := (Spec.applies_iff hf).mp happ
  obtain ⟨hg, hn⟩ := and_e (Cond.before_iff.mp (show (Jvm.Cond.and given_1 narrow_1).before args s = true from hpre))
  obtain ⟨hcount, g0⟩ := and_e hg
  obtain ⟨v0, g1⟩ := and_e g0
  obtain ⟨v1, g2⟩ := and_e g1
  obtain ⟨v2, g3⟩ := and_e g2
  obtain ⟨v3, g4⟩ := and_e g3
  have v4 := g4
  obtain ⟨w0, w1, w2, w3, w4, rfl⟩ : ∃ w0 w1 w2 w3 w4 : Value, args = #[w0, w1, w2, w3, w4] := by
    have hs : args.size = 5 := by simpa [Cond.value, given_1] using hcount
    obtain ⟨L⟩ := args
    match L, hs with
    | [w0, w1, w2, w3, w4], _ => exact ⟨w0, w1, w2, w3, w4, rfl⟩
  have hw := fun d (hd : d ∈ tables_1) => atoms_spec (ws := Jvm.Cond.code x code maxLocals ret :: tables_1) hat d (List.mem_cons_of_mem _ hd)
  have hfit : Fit s := fun {y c} hc i hi => by
    obtain ⟨ha, rfl⟩ := Array.getElem?_eq_some_iff.mp hc
    have q := List.all_eq_true.mp ((Array.all_eq_true_iff_forall_mem.mp hF) _ (Array.getElem_mem ha)) i (List.mem_range.mpr hi)
    simpa [Array.getElem?_eq_getElem hi] using q
  obtain ⟨hsets, hown0⟩ := atoms_of _ (rest_1_c_eq ▸ (show rest_1_c.before _ s = true from hrest))
  have hr0 := Cond.before_iff.mp hown0
  obtain ⟨i0, ei0⟩ := isL_v v0
  obtain rfl : w0 = (.long i0) := Option.some.inj ei0
  obtain ⟨i1, ei1⟩ := is_v v1
  obtain rfl : w1 = (.int i1) := Option.some.inj ei1
  obtain ⟨i2, ei2⟩ := is_v v2
  obtain rfl : w2 = (.int i2) := Option.some.inj ei2
  obtain ⟨i3, ei3⟩ := is_v v3
  obtain rfl : w3 = (.int i3) := Option.some.inj ei3
  obtain ⟨i4, ei4⟩ := is_v v4
  obtain rfl : w4 = (.int i4) := Option.some.inj ei4
  obtain ⟨G1, eG1⟩ := is_v (Cond.before_iff.mp (hsets _ (List.mem_of_getElem? (i := 1) rfl)))
  have SG1 := Sta.start eG1 (Or.inl (hsets _ (List.mem_of_getElem? (i := 0) rfl)))
  have hG1 := own_neq0 eG1 (Cond.before_iff.mp (hsets _ (List.mem_of_getElem? (i := 2) rfl)))
  obtain ⟨G3, eG3, rG3⟩ := isR_v (Cond.before_iff.mp (hsets _ (List.mem_of_getElem? (i := 8) rfl)))
  have SG3 := Sta.start eG3 (Or.inl (hsets _ (List.mem_of_getElem? (i := 7) rfl)))
  have SA := Sta.start (own_eqI (Cond.before_iff.mp (hsets _ (List.mem_of_getElem? (i := 17) rfl)))) (Or.inl (hsets _ (List.mem_of_getElem? (i := 16) rfl)))
  have SH := Sta.start (own_eqI (Cond.before_iff.mp (hsets _ (List.mem_of_getElem? (i := 20) rfl)))) (Or.inl (hsets _ (List.mem_of_getElem? (i := 19) rfl)))
  have SL := Sta.start (own_eqI (Cond.before_iff.mp (hsets _ (List.mem_of_getElem? (i := 23) rfl)))) (Or.inl (hsets _ (List.mem_of_getElem? (i := 22) rfl)))
  obtain ⟨aE, eaE⟩ := exa_v (Cond.before_iff.mp (hsets _ (List.mem_of_getElem? (i := 11) rfl)))
  have EaE := Exa.start eaE (Cond.before_iff.mp (hsets _ (List.mem_of_getElem? (i := 11) rfl)))
  have SaE := Sta.start eaE (Or.inl (hsets _ (List.mem_of_getElem? (i := 10) rfl)))
  have FaE : Fld s s.heap aE "java/util/OptionalInt" "isPresent" "Z" (.int (0 : Int32)) := Fld.start ((fld_at eaE).symm.trans (own_eqI (Cond.before_iff.mp (hsets _ (List.mem_of_getElem? (i := 12) rfl)))))
  have FvE : Fld s s.heap aE "java/util/OptionalInt" "value" "I" (.int (0 : Int32)) := Fld.start ((fld_at eaE).symm.trans (own_eqI (Cond.before_iff.mp (hsets _ (List.mem_of_getElem? (i := 13) rfl)))))
  have hCH : CHv s own_EL s.vm s.heap := CHv.start (own_hEL hw) (fun p hp => hcalls.1 p hp) (hsets _ (List.mem_of_getElem? (i := 2) rfl)) (own_w hw 43 rfl) (own_w hw 26 rfl)
  obtain ⟨n, o, h1, h2, h3, _, L, rfl, ⟨rfl, N, -⟩, -, hq⟩ := own_rm0 l s _ hw tables_1 i0 i1 i2 i3 i4 G1 G3 aE s.heap s.heap.size (Nat.le_refl _) (Old.start s) SG1 hG1 SG3 rG3 SA SH SL SaE EaE FaE FvE p e ha hc hk s m _ below hf ((Spec.applies_iff_loose hf).mp happ).1 ⟨rfl, State.Warmed39.refl s, rfl, hCH, own_sl0⟩ trivial
  refine ⟨n, _, h1, h2, h3, hpost _ _ _ _ _ _ ⟨Cond.after_iff.mpr rfl, Cond.after_iff.mpr (eq_i res_at (Term.int_eval (1)) rfl), trivial⟩ ⟨hq.1, hq.2.1, hq.2.2.1, (hq.2.2.2.sift fun y hy => Or.inr (N y hy)).mono (by decide) (by decide)⟩⟩
theorem main_1_1 : Claimed_1_1 := comes_1 fun _ _ _ _ _ _ h hF => ⟨h.1, hF⟩
theorem main_1_2 : Claimed_1_2 := comes_1 fun _ _ _ _ _ _ h hF => ⟨h.2.1, hF⟩

end Jvm.Pilot.@@N@@
namespace Jvm.Pilot.@@N@@
open Jvm Jvm.ClassFile Sem Op Lib Jvm.Free Jvm.Stand Jvm.Pilot.@@N@@.Jvm.D
/-! MADE BY PROGRAM (witnessworld.py) out of the Statement's table words and the real class files: 23 classes; the members and pool entries that the words name. The judged class is class 1, her method 4. -/
namespace start1
open Jvm.ClassFile
def u (s : String) : CpInfo := .utf8 (stringToUtf16 s)
/-- a pool by its gaps: so many unusable entries, then the entry; so many at the end -/
def gap : Nat → List CpInfo → List CpInfo
  | 0, r => r
  | n + 1, r => .unusable :: gap n r
def poolList (es : List (Nat × CpInfo)) (last : Nat) : List CpInfo := es.foldr (fun e r => gap e.1 (e.2 :: r)) (gap last [])
def pool (es : List (Nat × CpInfo)) (last : Nat) : Array CpInfo := ⟨poolList es last⟩
def fileOf (pool : Array CpInfo) (this : Nat) (attrs : Array Attribute := #[]) (ms : Array MethodInfo := #[]) (fl : Nat := 33) (sup : Nat := 0) (ifs : Array Nat := #[]) (fds : Array FieldInfo := #[]) : ClassFile where
  minorVersion := 0
  majorVersion := 65
  constantPool := pool
  accessFlags := fl
  thisClass := this
  superClass := sup
  interfaces := ifs
  fields := fds
  methods := ms
  attributes := attrs
def plain (name : String) (sup : Option ClassId) : Class where
  name := name
  kind := .ordinary
  loader := none
  accessFlags := 33
  super := sup
  interfaces := #[]
  cf := none
  fields := #[]
  methods := #[]
  instanceTypes := #[]
  staticTypes := #[]
  resolved := #[]
  callSites := []
  init := .initialized
  statics := none
  mirror := none

def pool0 : Array CpInfo := pool [(5, u "<init>"), (0, u "()V"), (1, .class_ 10), (1, u "java/lang/Object")] 113

def k0c0 : Code := { maxStack := 0, maxLocals := 1, code := object_method_1_code, exceptionTable := #[], attributes := #[] }
def k0m0 : Method := { name := "<init>", desc := "()V", sig := { parameters := [], returnType := none }, accessFlags := 1, code := some k0c0 }
/-- java/lang/Object -/
def k0 : Class := { plain "java/lang/Object" none with
  accessFlags := 33
  interfaces := #[]
  cf := some (fileOf pool0 8 #[] #[{ accessFlags := 1, nameIndex := 5, descriptorIndex := 6, attributes := #[] }] 33 0 #[] #[])
  fields := #[]
  methods := #[k0m0]
  instanceTypes := #[]
  staticTypes := #[]
  resolved := Array.replicate 124 none
  statics := none }

def pool1 : Array CpInfo := pool [(2, .class_ 4), (1, u "java/lang/Object"), (0, u "<init>"), (0, u "()V"), (0, .long 10), (1, .long 100), (1, .long 1000), (1, .long 10000), (1, .long 100000), (1, .long 1000000), (1, .long 10000000), (1, .long 100000000), (1, .long 1000000000), (1, .long 10000000000), (1, .long 100000000000), (1, .methodref 30 31), (0, .class_ 32), (0, .nameAndType 33 34), (0, u "com/example/marshalyard/marshalyard/engine/DecimalIntegerParsePinLaw"), (0, u "pow10"), (0, u "(I)J"), (0, .methodref 30 36), (0, .nameAndType 37 38), (0, u "digit"), (0, u "(JI)I"), (2, .long 9223372036854775807), (1, .integer 65535), (0, .methodref 30 45), (0, .nameAndType 46 47), (0, u "put"), (0, u "([CIIJI)V"), (0, .class_ 49), (0, u "java/lang/String"), (0, .methodref 48 51), (0, .nameAndType 5 52), (0, u "([C)V"), (0, .methodref 54 55), (0, .class_ 56), (0, .nameAndType 57 58), (0, u "com/example/marshalyard/marshalyard/engine/DecimalInteger"), (0, u "parse"), (0, u "(Ljava/lang/String;II)Ljava/util/OptionalInt;"), (0, .methodref 60 61), (0, .class_ 62), (0, .nameAndType 63 64), (0, u "java/util/OptionalInt"), (0, u "isPresent"), (0, u "()Z"), (0, .methodref 60 66), (0, .nameAndType 67 68), (0, u "getAsInt"), (0, u "()I"), (3, u "law"), (0, u "(JIIII)Z")] 4

def k1m0 : Method := { name := "<init>", desc := "()V", sig := { parameters := [], returnType := none }, accessFlags := 2, code := none }
def k1c1 : Code := { maxStack := 5, maxLocals := 2, code := method_2_code, exceptionTable := #[], attributes := #[] }
def k1m1 : Method := { name := "pow10", desc := "(I)J", sig := { parameters := [.int], returnType := some .long }, accessFlags := 10, code := some k1c1 }
def k1c2 : Code := { maxStack := 4, maxLocals := 3, code := method_3_code, exceptionTable := #[], attributes := #[] }
def k1m2 : Method := { name := "digit", desc := "(JI)I", sig := { parameters := [.long, .int], returnType := some .int }, accessFlags := 10, code := some k1c2 }
def k1c3 : Code := { maxStack := 6, maxLocals := 6, code := method_4_code, exceptionTable := #[], attributes := #[] }
def k1m3 : Method := { name := "put", desc := "([CIIJI)V", sig := { parameters := [(.array .char), .int, .int, .long, .int], returnType := none }, accessFlags := 10, code := some k1c3 }
def k1c4 : Code := { maxStack := 6, maxLocals := 31, code := code, exceptionTable := #[], attributes := #[] }
def k1m4 : Method := { name := "law", desc := "(JIIII)Z", sig := { parameters := [.long, .int, .int, .int, .int], returnType := some .boolean }, accessFlags := 9, code := some k1c4 }
/-- com/example/marshalyard/marshalyard/engine/DecimalIntegerParsePinLaw -/
def k1 : Class := { plain "com/example/marshalyard/marshalyard/engine/DecimalIntegerParsePinLaw" (some 0) with
  accessFlags := 49
  interfaces := #[]
  cf := some (fileOf pool1 30 #[] #[{ accessFlags := 2, nameIndex := 5, descriptorIndex := 6, attributes := #[] }, { accessFlags := 10, nameIndex := 33, descriptorIndex := 34, attributes := #[] }, { accessFlags := 10, nameIndex := 37, descriptorIndex := 38, attributes := #[] }, { accessFlags := 10, nameIndex := 46, descriptorIndex := 47, attributes := #[] }, { accessFlags := 9, nameIndex := 72, descriptorIndex := 73, attributes := #[] }] 49 2 #[] #[])
  fields := #[]
  methods := #[k1m0, k1m1, k1m2, k1m3, k1m4]
  instanceTypes := #[]
  staticTypes := #[]
  resolved := Array.replicate 78 none
  statics := none }

def pool2 : Array CpInfo := pool [(1, .class_ 2), (0, u "java/io/Serializable"), (0, .class_ 4), (0, u "java/lang/Object")] 2

/-- java/io/Serializable -/
def k2 : Class := { plain "java/io/Serializable" (some 0) with
  accessFlags := 1537
  interfaces := #[]
  cf := some (fileOf pool2 1 #[] #[] 1537 3 #[] #[])
  fields := #[]
  methods := #[]
  instanceTypes := #[]
  staticTypes := #[]
  resolved := Array.replicate 7 none
  statics := none }

def pool3 : Array CpInfo := pool [(1, .class_ 2), (0, u "java/lang/Comparable"), (0, .class_ 4), (0, u "java/lang/Object")] 7

/-- java/lang/Comparable -/
def k3 : Class := { plain "java/lang/Comparable" (some 0) with
  accessFlags := 1537
  interfaces := #[]
  cf := some (fileOf pool3 1 #[] #[] 1537 3 #[] #[])
  fields := #[]
  methods := #[]
  instanceTypes := #[]
  staticTypes := #[]
  resolved := Array.replicate 12 none
  statics := none }

def pool4 : Array CpInfo := pool [(2, .class_ 4), (1, u "java/lang/CharSequence"), (42, .class_ 48), (0, u "java/lang/CharSequence$1CodePointIterator"), (10, .class_ 60), (0, u "java/lang/CharSequence$1CharIterator"), (5, .class_ 67), (0, u "java/lang/Object")] 63

/-- java/lang/CharSequence -/
def k4 : Class := { plain "java/lang/CharSequence" (some 0) with
  accessFlags := 1537
  interfaces := #[]
  cf := some (fileOf pool4 2 #[.nestMembers #[47, 59]] #[] 1537 66 #[] #[])
  fields := #[]
  methods := #[]
  instanceTypes := #[]
  staticTypes := #[]
  resolved := Array.replicate 131 none
  statics := none }

def pool5 : Array CpInfo := pool [(1, .class_ 2), (0, u "java/lang/constant/Constable"), (0, .class_ 4), (0, u "java/lang/Object")] 6

/-- java/lang/constant/Constable -/
def k5 : Class := { plain "java/lang/constant/Constable" (some 0) with
  accessFlags := 1537
  interfaces := #[]
  cf := some (fileOf pool5 1 #[] #[] 1537 3 #[] #[])
  fields := #[]
  methods := #[]
  instanceTypes := #[]
  staticTypes := #[]
  resolved := Array.replicate 11 none
  statics := none }

def pool6 : Array CpInfo := pool [(1, .class_ 2), (0, u "java/lang/constant/ConstantDesc"), (0, .class_ 4), (0, u "java/lang/Object")] 32

/-- java/lang/constant/ConstantDesc -/
def k6 : Class := { plain "java/lang/constant/ConstantDesc" (some 0) with
  accessFlags := 1537
  interfaces := #[]
  cf := some (fileOf pool6 1 #[] #[] 1537 3 #[] #[])
  fields := #[]
  methods := #[]
  instanceTypes := #[]
  staticTypes := #[]
  resolved := Array.replicate 37 none
  statics := none }

def pool7 : Array CpInfo := pool [(1, .methodref 2 3), (0, .class_ 4), (0, .nameAndType 5 6), (0, u "java/lang/Object"), (0, u "<init>"), (0, u "()V"), (0, .string 8), (0, u ""), (0, .fieldref 10 11), (0, .class_ 12), (0, .nameAndType 13 14), (0, u "java/lang/String"), (0, u "value"), (0, u "[B"), (0, .fieldref 10 16), (0, .nameAndType 17 18), (0, u "coder"), (0, u "B"), (2, u "hash"), (0, u "I"), (2, u "hashIsZero"), (0, u "Z"), (0, .methodref 10 28), (0, .nameAndType 5 29), (0, u "([CIILjava/lang/Void;)V"), (8, .fieldref 10 39), (0, .nameAndType 40 26), (0, u "COMPACT_STRINGS"), (1, .class_ 44), (1, u "java/lang/StringUTF16"), (0, u "compress"), (1, .methodref 42 48), (0, .nameAndType 49 50), (0, u "coderFromArrayLen"), (0, u "([BI)B"), (56, .class_ 109), (1, u "java/lang/StringLatin1"), (32, u "()Z"), (34, .methodref 42 178), (0, .nameAndType 45 179), (0, u "([CII)[B"), (154, u "()I"), (0, .methodref 10 336), (0, .nameAndType 17 337), (0, u "()B"), (22, .methodref 42 361), (0, .nameAndType 362 363), (0, u "getChar"), (0, u "([BI)C"), (12, u "([BI[BII)I"), (14, u "(II)V"), (35, u "(I)C"), (64, .methodref 10 493), (0, .nameAndType 494 142), (0, u "isLatin1"), (0, .methodref 107 496), (0, .nameAndType 497 363), (0, u "charAt"), (0, .methodref 42 496), (2, u "checkIndex"), (3, .methodref 10 506), (0, .nameAndType 507 334), (0, u "length"), (51, .class_ 561), (1, u "jdk/internal/util/ArraysSupport"), (0, u "mismatch"), (12, .class_ 576), (0, u "java/lang/CharSequence"), (22, u "CASE_INSENSITIVE_ORDER"), (0, u "Ljava/util/Comparator;"), (6, .methodref 559 608), (0, .nameAndType 562 376), (15, .methodref 10 625), (0, .nameAndType 626 627), (0, u "startsWith"), (0, u "(Ljava/lang/String;I)Z"), (382, u "([C)V"), (42, .fieldref 1054 1055), (0, .class_ 1056), (0, .nameAndType 1057 1058), (0, u "jdk/internal/util/Preconditions"), (0, u "SIOOBE_FORMATTER"), (0, u "Ljava/util/function/BiFunction;"), (0, .methodref 1054 1060), (0, .nameAndType 501 1061), (0, u "(IILjava/util/function/BiFunction;)I"), (39, u "serialPersistentFields"), (0, u "[Ljava/io/ObjectStreamField;"), (0, .class_ 1104), (0, u "java/lang/String$CaseInsensitiveComparator"), (1, .class_ 1107), (0, u "java/io/Serializable"), (0, .class_ 1109), (0, u "java/lang/Comparable"), (0, .class_ 1111), (0, u "java/lang/constant/Constable"), (0, .class_ 1113), (0, u "java/lang/constant/ConstantDesc"), (2, u "serialVersionUID"), (0, u "J"), (3, u "REPL"), (0, u "C"), (2, u "LATIN1"), (1, u "UTF16"), (129, u "(Ljava/lang/String;)Z")] 193

def k7m0 : Method := { name := "<init>", desc := "()V", sig := { parameters := [], returnType := none }, accessFlags := 1, code := none }
def k7c1 : Code := { maxStack := 5, maxLocals := 2, code := jdk_42_method_3_code, exceptionTable := #[], attributes := #[] }
def k7m1 : Method := { name := "<init>", desc := "([C)V", sig := { parameters := [(.array .char)], returnType := none }, accessFlags := 1, code := some k7c1 }
def k7c2 : Code := { maxStack := 2, maxLocals := 1, code := jdk_42_method_54_code, exceptionTable := #[], attributes := #[] }
def k7m2 : Method := { name := "length", desc := "()I", sig := { parameters := [], returnType := some .int }, accessFlags := 1, code := some k7c2 }
def k7c3 : Code := { maxStack := 2, maxLocals := 2, code := jdk_42_method_56_code, exceptionTable := #[], attributes := #[] }
def k7m3 : Method := { name := "charAt", desc := "(I)C", sig := { parameters := [.int], returnType := some .char }, accessFlags := 1, code := some k7c3 }
def k7c4 : Code := { maxStack := 5, maxLocals := 8, code := jdk_42_method_75_code, exceptionTable := #[], attributes := #[] }
def k7m4 : Method := { name := "startsWith", desc := "(Ljava/lang/String;I)Z", sig := { parameters := [(.object "java/lang/String"), .int], returnType := some .boolean }, accessFlags := 1, code := some k7c4 }
def k7c5 : Code := { maxStack := 3, maxLocals := 2, code := jdk_42_method_76_code, exceptionTable := #[], attributes := #[] }
def k7m5 : Method := { name := "startsWith", desc := "(Ljava/lang/String;)Z", sig := { parameters := [(.object "java/lang/String")], returnType := some .boolean }, accessFlags := 1, code := some k7c5 }
def k7c6 : Code := { maxStack := 4, maxLocals := 6, code := jdk_42_method_149_code, exceptionTable := #[], attributes := #[] }
def k7m6 : Method := { name := "<init>", desc := "([CIILjava/lang/Void;)V", sig := { parameters := [(.array .char), .int, .int, (.object "java/lang/Void")], returnType := none }, accessFlags := 2, code := some k7c6 }
def k7c7 : Code := { maxStack := 1, maxLocals := 1, code := jdk_42_method_152_code, exceptionTable := #[], attributes := #[] }
def k7m7 : Method := { name := "coder", desc := "()B", sig := { parameters := [], returnType := some .byte }, accessFlags := 0, code := some k7c7 }
def k7c8 : Code := { maxStack := 1, maxLocals := 1, code := jdk_42_method_154_code, exceptionTable := #[], attributes := #[] }
def k7m8 : Method := { name := "isLatin1", desc := "()Z", sig := { parameters := [], returnType := some .boolean }, accessFlags := 0, code := some k7c8 }
def k7c9 : Code := { maxStack := 3, maxLocals := 2, code := jdk_42_method_155_code, exceptionTable := #[], attributes := #[] }
def k7m9 : Method := { name := "checkIndex", desc := "(II)V", sig := { parameters := [.int, .int], returnType := none }, accessFlags := 8, code := some k7c9 }
/-- java/lang/String -/
def k7 : Class := { plain "java/lang/String" (some 0) with
  accessFlags := 49
  interfaces := #[2, 3, 4, 5, 6]
  cf := some (fileOf pool7 10 #[.nestMembers #[1103]] #[{ accessFlags := 1, nameIndex := 5, descriptorIndex := 6, attributes := #[] }, { accessFlags := 1, nameIndex := 5, descriptorIndex := 1010, attributes := #[] }, { accessFlags := 1, nameIndex := 507, descriptorIndex := 334, attributes := #[] }, { accessFlags := 1, nameIndex := 497, descriptorIndex := 427, attributes := #[] }, { accessFlags := 1, nameIndex := 626, descriptorIndex := 627, attributes := #[] }, { accessFlags := 1, nameIndex := 626, descriptorIndex := 1257, attributes := #[] }, { accessFlags := 2, nameIndex := 5, descriptorIndex := 29, attributes := #[] }, { accessFlags := 0, nameIndex := 17, descriptorIndex := 337, attributes := #[] }, { accessFlags := 0, nameIndex := 494, descriptorIndex := 142, attributes := #[] }, { accessFlags := 8, nameIndex := 501, descriptorIndex := 391, attributes := #[] }] 49 2 #[1106, 1108, 575, 1110, 1112] #[{ accessFlags := 18, nameIndex := 13, descriptorIndex := 14, attributes := #[] }, { accessFlags := 18, nameIndex := 17, descriptorIndex := 18, attributes := #[] }, { accessFlags := 2, nameIndex := 21, descriptorIndex := 22, attributes := #[] }, { accessFlags := 2, nameIndex := 25, descriptorIndex := 26, attributes := #[] }, { accessFlags := 26, nameIndex := 1116, descriptorIndex := 1117, attributes := #[] }, { accessFlags := 24, nameIndex := 40, descriptorIndex := 26, attributes := #[] }, { accessFlags := 26, nameIndex := 1101, descriptorIndex := 1102, attributes := #[] }, { accessFlags := 26, nameIndex := 1121, descriptorIndex := 1122, attributes := #[] }, { accessFlags := 25, nameIndex := 599, descriptorIndex := 600, attributes := #[] }, { accessFlags := 24, nameIndex := 1125, descriptorIndex := 18, attributes := #[] }, { accessFlags := 24, nameIndex := 1127, descriptorIndex := 18, attributes := #[] }])
  fields := #[{ name := "value", type := (.array .byte), accessFlags := 18, slot := 0, constantValue := 0 }, { name := "coder", type := .byte, accessFlags := 18, slot := 1, constantValue := 0 }, { name := "hash", type := .int, accessFlags := 2, slot := 2, constantValue := 0 }, { name := "hashIsZero", type := .boolean, accessFlags := 2, slot := 3, constantValue := 0 }, { name := "serialVersionUID", type := .long, accessFlags := 26, slot := 0, constantValue := 0 }, { name := "COMPACT_STRINGS", type := .boolean, accessFlags := 24, slot := 1, constantValue := 0 }, { name := "serialPersistentFields", type := (.array (.object "java/io/ObjectStreamField")), accessFlags := 26, slot := 2, constantValue := 0 }, { name := "REPL", type := .char, accessFlags := 26, slot := 3, constantValue := 0 }, { name := "CASE_INSENSITIVE_ORDER", type := (.object "java/util/Comparator"), accessFlags := 25, slot := 4, constantValue := 0 }, { name := "LATIN1", type := .byte, accessFlags := 24, slot := 5, constantValue := 0 }, { name := "UTF16", type := .byte, accessFlags := 24, slot := 6, constantValue := 0 }]
  methods := #[k7m0, k7m1, k7m2, k7m3, k7m4, k7m5, k7m6, k7m7, k7m8, k7m9]
  instanceTypes := #[(.array .byte), .byte, .int, .boolean]
  staticTypes := #[.long, .boolean, (.array (.object "java/io/ObjectStreamField")), .char, (.object "java/util/Comparator"), .byte, .byte]
  resolved := Array.replicate 1451 none
  statics := some 0 }

def pool8 : Array CpInfo := pool [(3, .class_ 4), (0, u "java/lang/String"), (1, .class_ 8), (1, u "java/lang/Object"), (0, u "<init>"), (0, u "()V"), (0, .methodref 12 13), (0, .class_ 14), (0, .nameAndType 15 16), (0, u "java/lang/StringUTF16"), (0, u "newBytesLength"), (0, u "(I)I"), (3, .integer 1073741823), (23, .fieldref 12 45), (0, .nameAndType 46 47), (0, u "$assertionsDisabled"), (0, u "Z"), (0, .methodref 12 49), (0, .nameAndType 50 51), (0, u "length"), (0, u "([B)I"), (7, .fieldref 12 60), (0, .nameAndType 61 62), (0, u "HI_BYTE_SHIFT"), (0, u "I"), (0, .fieldref 12 64), (0, .nameAndType 65 62), (0, u "LO_BYTE_SHIFT"), (1, .methodref 12 68), (0, .nameAndType 69 70), (0, u "checkIndex"), (0, u "(I[B)V"), (0, .methodref 12 72), (0, .nameAndType 73 74), (0, u "getChar"), (0, u "([BI)C"), (32, .methodref 12 108), (0, .nameAndType 109 110), (0, u "newBytesFor"), (0, u "(I)[B"), (0, .methodref 12 112), (0, .nameAndType 113 114), (0, u "putChar"), (0, u "([BII)V"), (0, .methodref 12 116), (0, .nameAndType 117 118), (0, u "compress"), (0, u "([CI[BII)I"), (0, .methodref 12 120), (0, .nameAndType 121 122), (0, u "toBytes"), (0, u "([CII)[B"), (138, u "coderFromArrayLen"), (0, u "([BI)B"), (106, .class_ 371), (1, u "java/lang/StringUTF16$LinesSpliterator"), (20, u "charAt"), (21, .methodref 3 415), (0, .nameAndType 69 416), (0, u "(II)V"), (13, u "MAX_LENGTH"), (196, .class_ 628), (0, u "java/lang/StringUTF16$CodePointsSpliterator"), (0, .class_ 630), (0, u "java/lang/StringUTF16$CharsSpliterator")] 4

def k8m0 : Method := { name := "<init>", desc := "()V", sig := { parameters := [], returnType := none }, accessFlags := 0, code := none }
def k8c1 : Code := { maxStack := 1, maxLocals := 1, code := jdk_52_method_2_code, exceptionTable := #[], attributes := #[] }
def k8m1 : Method := { name := "newBytesFor", desc := "(I)[B", sig := { parameters := [.int], returnType := some (.array .byte) }, accessFlags := 9, code := some k8c1 }
def k8c2 : Code := { maxStack := 4, maxLocals := 1, code := jdk_52_method_3_code, exceptionTable := #[], attributes := #[] }
def k8m2 : Method := { name := "newBytesLength", desc := "(I)I", sig := { parameters := [.int], returnType := some .int }, accessFlags := 9, code := some k8c2 }
def k8c3 : Code := { maxStack := 4, maxLocals := 3, code := jdk_52_method_4_code, exceptionTable := #[], attributes := #[] }
def k8m3 : Method := { name := "putChar", desc := "([BII)V", sig := { parameters := [(.array .byte), .int, .int], returnType := none }, accessFlags := 8, code := some k8c3 }
def k8c4 : Code := { maxStack := 3, maxLocals := 2, code := jdk_52_method_5_code, exceptionTable := #[], attributes := #[] }
def k8m4 : Method := { name := "getChar", desc := "([BI)C", sig := { parameters := [(.array .byte), .int], returnType := some .char }, accessFlags := 8, code := some k8c4 }
def k8c5 : Code := { maxStack := 2, maxLocals := 1, code := jdk_52_method_6_code, exceptionTable := #[], attributes := #[] }
def k8m5 : Method := { name := "length", desc := "([B)I", sig := { parameters := [(.array .byte)], returnType := some .int }, accessFlags := 9, code := some k8c5 }
def k8c6 : Code := { maxStack := 4, maxLocals := 5, code := jdk_52_method_14_code, exceptionTable := #[], attributes := #[] }
def k8m6 : Method := { name := "toBytes", desc := "([CII)[B", sig := { parameters := [(.array .char), .int, .int], returnType := some (.array .byte) }, accessFlags := 9, code := some k8c6 }
def k8c7 : Code := { maxStack := 2, maxLocals := 2, code := jdk_52_method_15_code, exceptionTable := #[], attributes := #[] }
def k8m7 : Method := { name := "coderFromArrayLen", desc := "([BI)B", sig := { parameters := [(.array .byte), .int], returnType := some .byte }, accessFlags := 8, code := some k8c7 }
def k8c8 : Code := { maxStack := 5, maxLocals := 6, code := jdk_52_method_16_code, exceptionTable := #[], attributes := #[] }
def k8m8 : Method := { name := "compress", desc := "([CII)[B", sig := { parameters := [(.array .char), .int, .int], returnType := some (.array .byte) }, accessFlags := 9, code := some k8c8 }
def k8c9 : Code := { maxStack := 3, maxLocals := 7, code := jdk_52_method_21_code, exceptionTable := #[], attributes := #[] }
def k8m9 : Method := { name := "compress", desc := "([CI[BII)I", sig := { parameters := [(.array .char), .int, (.array .byte), .int, .int], returnType := some .int }, accessFlags := 9, code := some k8c9 }
def k8c10 : Code := { maxStack := 2, maxLocals := 2, code := jdk_52_method_83_code, exceptionTable := #[], attributes := #[] }
def k8m10 : Method := { name := "charAt", desc := "([BI)C", sig := { parameters := [(.array .byte), .int], returnType := some .char }, accessFlags := 9, code := some k8c10 }
def k8c11 : Code := { maxStack := 2, maxLocals := 2, code := jdk_52_method_91_code, exceptionTable := #[], attributes := #[] }
def k8m11 : Method := { name := "checkIndex", desc := "(I[B)V", sig := { parameters := [.int, (.array .byte)], returnType := none }, accessFlags := 9, code := some k8c11 }
/-- java/lang/StringUTF16 -/
def k8 : Class := { plain "java/lang/StringUTF16" (some 0) with
  accessFlags := 48
  interfaces := #[]
  cf := some (fileOf pool8 12 #[.nestMembers #[627, 629, 369]] #[{ accessFlags := 0, nameIndex := 9, descriptorIndex := 10, attributes := #[] }, { accessFlags := 9, nameIndex := 109, descriptorIndex := 110, attributes := #[] }, { accessFlags := 9, nameIndex := 15, descriptorIndex := 16, attributes := #[] }, { accessFlags := 8, nameIndex := 113, descriptorIndex := 114, attributes := #[] }, { accessFlags := 8, nameIndex := 73, descriptorIndex := 74, attributes := #[] }, { accessFlags := 9, nameIndex := 50, descriptorIndex := 51, attributes := #[] }, { accessFlags := 9, nameIndex := 121, descriptorIndex := 122, attributes := #[] }, { accessFlags := 8, nameIndex := 261, descriptorIndex := 262, attributes := #[] }, { accessFlags := 9, nameIndex := 117, descriptorIndex := 122, attributes := #[] }, { accessFlags := 9, nameIndex := 117, descriptorIndex := 118, attributes := #[] }, { accessFlags := 9, nameIndex := 392, descriptorIndex := 74, attributes := #[] }, { accessFlags := 9, nameIndex := 69, descriptorIndex := 70, attributes := #[] }] 48 6 #[] #[{ accessFlags := 26, nameIndex := 61, descriptorIndex := 62, attributes := #[] }, { accessFlags := 26, nameIndex := 65, descriptorIndex := 62, attributes := #[] }, { accessFlags := 24, nameIndex := 430, descriptorIndex := 62, attributes := #[] }, { accessFlags := 4120, nameIndex := 46, descriptorIndex := 47, attributes := #[] }])
  fields := #[{ name := "HI_BYTE_SHIFT", type := .int, accessFlags := 26, slot := 0, constantValue := 0 }, { name := "LO_BYTE_SHIFT", type := .int, accessFlags := 26, slot := 1, constantValue := 0 }, { name := "MAX_LENGTH", type := .int, accessFlags := 24, slot := 2, constantValue := 0 }, { name := "$assertionsDisabled", type := .boolean, accessFlags := 4120, slot := 3, constantValue := 0 }]
  methods := #[k8m0, k8m1, k8m2, k8m3, k8m4, k8m5, k8m6, k8m7, k8m8, k8m9, k8m10, k8m11]
  instanceTypes := #[]
  staticTypes := #[.int, .int, .int, .boolean]
  resolved := Array.replicate 635 none
  statics := some 1 }

def pool9 : Array CpInfo := pool [(2, .class_ 4), (1, u "java/lang/Object"), (0, u "<init>"), (0, u "()V"), (0, .string 8), (0, u "-"), (0, .methodref 10 11), (0, .class_ 12), (0, .nameAndType 13 14), (0, u "java/lang/String"), (0, u "startsWith"), (0, u "(Ljava/lang/String;)Z"), (0, .methodref 10 16), (0, .nameAndType 17 18), (0, u "length"), (0, u "()I"), (0, .class_ 20), (0, u "com/example/marshalyard/marshalyard/engine/DecimalInteger"), (0, .methodref 10 22), (0, .nameAndType 23 24), (0, u "charAt"), (0, u "(I)C"), (0, .long 10), (1, .methodref 28 29), (0, .class_ 30), (0, .nameAndType 31 32), (0, u "java/util/OptionalInt"), (0, u "empty"), (0, u "()Ljava/util/OptionalInt;"), (0, .methodref 28 34), (0, .nameAndType 35 36), (0, u "of"), (0, u "(I)Ljava/util/OptionalInt;"), (0, u "MAX_DIGITS"), (0, u "I"), (4, u "parse"), (0, u "(Ljava/lang/String;II)Ljava/util/OptionalInt;")] 3

def k9m0 : Method := { name := "<init>", desc := "()V", sig := { parameters := [], returnType := none }, accessFlags := 2, code := none }
def k9c1 : Code := { maxStack := 4, maxLocals := 10, code := prog_18_method_2_code, exceptionTable := #[], attributes := #[] }
def k9m1 : Method := { name := "parse", desc := "(Ljava/lang/String;II)Ljava/util/OptionalInt;", sig := { parameters := [(.object "java/lang/String"), .int, .int], returnType := some (.object "java/util/OptionalInt") }, accessFlags := 9, code := some k9c1 }
/-- com/example/marshalyard/marshalyard/engine/DecimalInteger -/
def k9 : Class := { plain "com/example/marshalyard/marshalyard/engine/DecimalInteger" (some 0) with
  accessFlags := 49
  interfaces := #[]
  cf := some (fileOf pool9 19 #[] #[{ accessFlags := 2, nameIndex := 5, descriptorIndex := 6, attributes := #[] }, { accessFlags := 9, nameIndex := 43, descriptorIndex := 44, attributes := #[] }] 49 2 #[] #[{ accessFlags := 26, nameIndex := 37, descriptorIndex := 38, attributes := #[] }])
  fields := #[{ name := "MAX_DIGITS", type := .int, accessFlags := 26, slot := 0, constantValue := 0 }]
  methods := #[k9m0, k9m1]
  instanceTypes := #[]
  staticTypes := #[.int]
  resolved := Array.replicate 48 none
  statics := none }

def pool10 : Array CpInfo := pool [(9, u "<init>"), (6, .class_ 18), (1, u "java/lang/Object"), (0, u "()V"), (1, .class_ 23), (1, u "jdk/internal/util/ArraysSupport"), (0, u "LOG2_ARRAY_LONG_INDEX_SCALE"), (0, u "I"), (2, u "U"), (0, u "Ljdk/internal/misc/Unsafe;"), (8, u "BIG_ENDIAN"), (0, u "Z"), (8, u "LOG2_BYTE_BIT_SIZE"), (4, u "LOG2_ARRAY_INT_INDEX_SCALE"), (54, u "JLA"), (0, u "Ljdk/internal/access/JavaLangAccess;"), (11, u "LOG2_ARRAY_BOOLEAN_INDEX_SCALE"), (9, u "LOG2_ARRAY_BYTE_INDEX_SCALE"), (5, u "LOG2_ARRAY_CHAR_INDEX_SCALE"), (5, u "LOG2_ARRAY_SHORT_INDEX_SCALE"), (5, u "mismatch"), (12, u "LOG2_ARRAY_FLOAT_INDEX_SCALE"), (24, u "LOG2_ARRAY_DOUBLE_INDEX_SCALE"), (89, u "T_BOOLEAN"), (2, u "T_CHAR"), (1, u "T_FLOAT"), (1, u "T_DOUBLE"), (1, u "T_BYTE"), (1, u "T_SHORT"), (1, u "T_INT"), (1, u "T_LONG"), (1, u "SOFT_MAX_ARRAY_LENGTH"), (42, u "([BI[BII)I")] 40

def k10m0 : Method := { name := "<init>", desc := "()V", sig := { parameters := [], returnType := none }, accessFlags := 2, code := none }
def k10c1 : Code := { maxStack := 8, maxLocals := 8, code := jdk_48_method_14_code, exceptionTable := #[], attributes := #[] }
def k10m1 : Method := { name := "mismatch", desc := "([BI[BII)I", sig := { parameters := [(.array .byte), .int, (.array .byte), .int, .int], returnType := some .int }, accessFlags := 9, code := some k10c1 }
/-- jdk/internal/util/ArraysSupport -/
def k10 : Class := { plain "jdk/internal/util/ArraysSupport" (some 0) with
  accessFlags := 33
  interfaces := #[]
  cf := some (fileOf pool10 21 #[] #[{ accessFlags := 2, nameIndex := 9, descriptorIndex := 19, attributes := #[] }, { accessFlags := 9, nameIndex := 149, descriptorIndex := 337, attributes := #[] }] 33 16 #[] #[{ accessFlags := 24, nameIndex := 28, descriptorIndex := 29, attributes := #[] }, { accessFlags := 26, nameIndex := 38, descriptorIndex := 39, attributes := #[] }, { accessFlags := 25, nameIndex := 121, descriptorIndex := 25, attributes := #[] }, { accessFlags := 25, nameIndex := 131, descriptorIndex := 25, attributes := #[] }, { accessFlags := 25, nameIndex := 137, descriptorIndex := 25, attributes := #[] }, { accessFlags := 25, nameIndex := 143, descriptorIndex := 25, attributes := #[] }, { accessFlags := 25, nameIndex := 53, descriptorIndex := 25, attributes := #[] }, { accessFlags := 25, nameIndex := 24, descriptorIndex := 25, attributes := #[] }, { accessFlags := 25, nameIndex := 162, descriptorIndex := 25, attributes := #[] }, { accessFlags := 25, nameIndex := 187, descriptorIndex := 25, attributes := #[] }, { accessFlags := 26, nameIndex := 48, descriptorIndex := 25, attributes := #[] }, { accessFlags := 25, nameIndex := 277, descriptorIndex := 25, attributes := #[] }, { accessFlags := 25, nameIndex := 280, descriptorIndex := 25, attributes := #[] }, { accessFlags := 25, nameIndex := 282, descriptorIndex := 25, attributes := #[] }, { accessFlags := 25, nameIndex := 284, descriptorIndex := 25, attributes := #[] }, { accessFlags := 25, nameIndex := 286, descriptorIndex := 25, attributes := #[] }, { accessFlags := 25, nameIndex := 288, descriptorIndex := 25, attributes := #[] }, { accessFlags := 25, nameIndex := 290, descriptorIndex := 25, attributes := #[] }, { accessFlags := 25, nameIndex := 292, descriptorIndex := 25, attributes := #[] }, { accessFlags := 26, nameIndex := 108, descriptorIndex := 109, attributes := #[] }, { accessFlags := 25, nameIndex := 294, descriptorIndex := 25, attributes := #[] }])
  fields := #[{ name := "U", type := (.object "jdk/internal/misc/Unsafe"), accessFlags := 24, slot := 0, constantValue := 0 }, { name := "BIG_ENDIAN", type := .boolean, accessFlags := 26, slot := 1, constantValue := 0 }, { name := "LOG2_ARRAY_BOOLEAN_INDEX_SCALE", type := .int, accessFlags := 25, slot := 2, constantValue := 0 }, { name := "LOG2_ARRAY_BYTE_INDEX_SCALE", type := .int, accessFlags := 25, slot := 3, constantValue := 0 }, { name := "LOG2_ARRAY_CHAR_INDEX_SCALE", type := .int, accessFlags := 25, slot := 4, constantValue := 0 }, { name := "LOG2_ARRAY_SHORT_INDEX_SCALE", type := .int, accessFlags := 25, slot := 5, constantValue := 0 }, { name := "LOG2_ARRAY_INT_INDEX_SCALE", type := .int, accessFlags := 25, slot := 6, constantValue := 0 }, { name := "LOG2_ARRAY_LONG_INDEX_SCALE", type := .int, accessFlags := 25, slot := 7, constantValue := 0 }, { name := "LOG2_ARRAY_FLOAT_INDEX_SCALE", type := .int, accessFlags := 25, slot := 8, constantValue := 0 }, { name := "LOG2_ARRAY_DOUBLE_INDEX_SCALE", type := .int, accessFlags := 25, slot := 9, constantValue := 0 }, { name := "LOG2_BYTE_BIT_SIZE", type := .int, accessFlags := 26, slot := 10, constantValue := 0 }, { name := "T_BOOLEAN", type := .int, accessFlags := 25, slot := 11, constantValue := 0 }, { name := "T_CHAR", type := .int, accessFlags := 25, slot := 12, constantValue := 0 }, { name := "T_FLOAT", type := .int, accessFlags := 25, slot := 13, constantValue := 0 }, { name := "T_DOUBLE", type := .int, accessFlags := 25, slot := 14, constantValue := 0 }, { name := "T_BYTE", type := .int, accessFlags := 25, slot := 15, constantValue := 0 }, { name := "T_SHORT", type := .int, accessFlags := 25, slot := 16, constantValue := 0 }, { name := "T_INT", type := .int, accessFlags := 25, slot := 17, constantValue := 0 }, { name := "T_LONG", type := .int, accessFlags := 25, slot := 18, constantValue := 0 }, { name := "JLA", type := (.object "jdk/internal/access/JavaLangAccess"), accessFlags := 26, slot := 19, constantValue := 0 }, { name := "SOFT_MAX_ARRAY_LENGTH", type := .int, accessFlags := 25, slot := 20, constantValue := 0 }]
  methods := #[k10m0, k10m1]
  instanceTypes := #[]
  staticTypes := #[(.object "jdk/internal/misc/Unsafe"), .boolean, .int, .int, .int, .int, .int, .int, .int, .int, .int, .int, .int, .int, .int, .int, .int, .int, .int, (.object "jdk/internal/access/JavaLangAccess"), .int]
  resolved := Array.replicate 378 none
  statics := none }

def pool11 : Array CpInfo := pool [(1, .class_ 2), (0, u "java/lang/String"), (1, .class_ 6), (1, u "java/lang/Object"), (0, u "<init>"), (0, u "()V"), (0, .methodref 1 10), (0, .nameAndType 11 12), (0, u "checkIndex"), (0, u "(II)V"), (1, .class_ 16), (1, u "java/lang/StringLatin1"), (36, u "([BI)C"), (67, u "$assertionsDisabled"), (0, u "Z"), (98, .class_ 223), (1, u "java/lang/StringLatin1$LinesSpliterator"), (28, u "charAt"), (137, .class_ 391), (0, u "java/lang/StringLatin1$CharsSpliterator")] 3

def k11m0 : Method := { name := "<init>", desc := "()V", sig := { parameters := [], returnType := none }, accessFlags := 0, code := none }
def k11c1 : Code := { maxStack := 2, maxLocals := 2, code := jdk_43_method_2_code, exceptionTable := #[], attributes := #[] }
def k11m1 : Method := { name := "charAt", desc := "([BI)C", sig := { parameters := [(.array .byte), .int], returnType := some .char }, accessFlags := 9, code := some k11c1 }
/-- java/lang/StringLatin1 -/
def k11 : Class := { plain "java/lang/StringLatin1" (some 0) with
  accessFlags := 48
  interfaces := #[]
  cf := some (fileOf pool11 14 #[.nestMembers #[390, 221]] #[{ accessFlags := 0, nameIndex := 7, descriptorIndex := 8, attributes := #[] }, { accessFlags := 9, nameIndex := 252, descriptorIndex := 53, attributes := #[] }] 48 4 #[] #[{ accessFlags := 4120, nameIndex := 121, descriptorIndex := 122, attributes := #[] }])
  fields := #[{ name := "$assertionsDisabled", type := .boolean, accessFlags := 4120, slot := 0, constantValue := 0 }]
  methods := #[k11m0, k11m1]
  instanceTypes := #[]
  staticTypes := #[.boolean]
  resolved := Array.replicate 395 none
  statics := none }

def pool12 : Array CpInfo := pool [(2, .class_ 4), (1, u "java/lang/Object"), (0, u "<init>"), (0, u "()V"), (17, .class_ 26), (1, u "jdk/internal/util/Preconditions"), (6, u "checkIndex"), (21, .class_ 56), (0, u "jdk/internal/util/Preconditions$4"), (57, .class_ 115), (0, u "jdk/internal/util/Preconditions$1"), (7, u "SIOOBE_FORMATTER"), (0, u "Ljava/util/function/BiFunction;"), (0, .class_ 126), (0, u "jdk/internal/util/Preconditions$2"), (3, u "AIOOBE_FORMATTER"), (0, .class_ 132), (0, u "jdk/internal/util/Preconditions$3"), (3, u "IOOBE_FORMATTER"), (41, u "(IILjava/util/function/BiFunction;)I")] 15

def k12m0 : Method := { name := "<init>", desc := "()V", sig := { parameters := [], returnType := none }, accessFlags := 1, code := none }
def k12c1 : Code := { maxStack := 3, maxLocals := 3, code := jdk_41_method_11_code, exceptionTable := #[], attributes := #[] }
def k12m1 : Method := { name := "checkIndex", desc := "(IILjava/util/function/BiFunction;)I", sig := { parameters := [.int, .int, (.object "java/util/function/BiFunction")], returnType := some .int }, accessFlags := 9, code := some k12c1 }
/-- jdk/internal/util/Preconditions -/
def k12 : Class := { plain "jdk/internal/util/Preconditions" (some 0) with
  accessFlags := 33
  interfaces := #[]
  cf := some (fileOf pool12 24 #[.nestMembers #[55, 131, 125, 114]] #[{ accessFlags := 1, nameIndex := 5, descriptorIndex := 6, attributes := #[] }, { accessFlags := 9, nameIndex := 33, descriptorIndex := 178, attributes := #[] }] 33 2 #[] #[{ accessFlags := 25, nameIndex := 123, descriptorIndex := 124, attributes := #[] }, { accessFlags := 25, nameIndex := 130, descriptorIndex := 124, attributes := #[] }, { accessFlags := 25, nameIndex := 136, descriptorIndex := 124, attributes := #[] }])
  fields := #[{ name := "SIOOBE_FORMATTER", type := (.object "java/util/function/BiFunction"), accessFlags := 25, slot := 0, constantValue := 0 }, { name := "AIOOBE_FORMATTER", type := (.object "java/util/function/BiFunction"), accessFlags := 25, slot := 1, constantValue := 0 }, { name := "IOOBE_FORMATTER", type := (.object "java/util/function/BiFunction"), accessFlags := 25, slot := 2, constantValue := 0 }]
  methods := #[k12m0, k12m1]
  instanceTypes := #[]
  staticTypes := #[(.object "java/util/function/BiFunction"), (.object "java/util/function/BiFunction"), (.object "java/util/function/BiFunction")]
  resolved := Array.replicate 194 none
  statics := some 2 }

def pool13 : Array CpInfo := pool [(1, .methodref 2 3), (0, .class_ 4), (0, .nameAndType 5 6), (0, u "java/lang/Object"), (0, u "<init>"), (0, u "()V"), (0, .fieldref 8 9), (0, .class_ 10), (0, .nameAndType 11 12), (0, u "java/util/OptionalInt"), (0, u "isPresent"), (0, u "Z"), (0, .fieldref 8 14), (0, .nameAndType 15 16), (0, u "value"), (0, u "I"), (0, .fieldref 8 18), (0, .nameAndType 19 20), (0, u "EMPTY"), (0, u "Ljava/util/OptionalInt;"), (0, .methodref 8 22), (0, .nameAndType 5 23), (0, u "(I)V"), (21, u "of"), (3, u "empty"), (5, u "getAsInt"), (0, u "()I"), (39, u "()Ljava/util/OptionalInt;"), (0, u "(I)Ljava/util/OptionalInt;"), (1, u "()Z")] 36

def k13m0 : Method := { name := "<init>", desc := "()V", sig := { parameters := [], returnType := none }, accessFlags := 2, code := none }
def k13c1 : Code := { maxStack := 1, maxLocals := 0, code := jdk_2649_method_2_code, exceptionTable := #[], attributes := #[] }
def k13m1 : Method := { name := "empty", desc := "()Ljava/util/OptionalInt;", sig := { parameters := [], returnType := some (.object "java/util/OptionalInt") }, accessFlags := 9, code := some k13c1 }
def k13c2 : Code := { maxStack := 2, maxLocals := 2, code := jdk_2649_method_3_code, exceptionTable := #[], attributes := #[] }
def k13m2 : Method := { name := "<init>", desc := "(I)V", sig := { parameters := [.int], returnType := none }, accessFlags := 2, code := some k13c2 }
def k13c3 : Code := { maxStack := 3, maxLocals := 1, code := jdk_2649_method_4_code, exceptionTable := #[], attributes := #[] }
def k13m3 : Method := { name := "of", desc := "(I)Ljava/util/OptionalInt;", sig := { parameters := [.int], returnType := some (.object "java/util/OptionalInt") }, accessFlags := 9, code := some k13c3 }
def k13c4 : Code := { maxStack := 3, maxLocals := 1, code := jdk_2649_method_5_code, exceptionTable := #[], attributes := #[] }
def k13m4 : Method := { name := "getAsInt", desc := "()I", sig := { parameters := [], returnType := some .int }, accessFlags := 1, code := some k13c4 }
def k13c5 : Code := { maxStack := 1, maxLocals := 1, code := jdk_2649_method_6_code, exceptionTable := #[], attributes := #[] }
def k13m5 : Method := { name := "isPresent", desc := "()Z", sig := { parameters := [], returnType := some .boolean }, accessFlags := 1, code := some k13c5 }
/-- java/util/OptionalInt -/
def k13 : Class := { plain "java/util/OptionalInt" (some 0) with
  accessFlags := 49
  interfaces := #[]
  cf := some (fileOf pool13 8 #[] #[{ accessFlags := 2, nameIndex := 5, descriptorIndex := 6, attributes := #[] }, { accessFlags := 9, nameIndex := 49, descriptorIndex := 96, attributes := #[] }, { accessFlags := 2, nameIndex := 5, descriptorIndex := 23, attributes := #[] }, { accessFlags := 9, nameIndex := 45, descriptorIndex := 97, attributes := #[] }, { accessFlags := 1, nameIndex := 55, descriptorIndex := 56, attributes := #[] }, { accessFlags := 1, nameIndex := 11, descriptorIndex := 99, attributes := #[] }] 49 2 #[] #[{ accessFlags := 26, nameIndex := 19, descriptorIndex := 20, attributes := #[] }, { accessFlags := 18, nameIndex := 11, descriptorIndex := 12, attributes := #[] }, { accessFlags := 18, nameIndex := 15, descriptorIndex := 16, attributes := #[] }])
  fields := #[{ name := "EMPTY", type := (.object "java/util/OptionalInt"), accessFlags := 26, slot := 0, constantValue := 0 }, { name := "isPresent", type := .boolean, accessFlags := 18, slot := 0, constantValue := 0 }, { name := "value", type := .int, accessFlags := 18, slot := 1, constantValue := 0 }]
  methods := #[k13m0, k13m1, k13m2, k13m3, k13m4, k13m5]
  instanceTypes := #[.boolean, .int]
  staticTypes := #[(.object "java/util/OptionalInt")]
  resolved := Array.replicate 136 none
  statics := some 3 }

def pool14 : Array CpInfo := pool [(1, u "java/lang/Cloneable"), (0, .class_ 1), (0, u "java/lang/Object"), (0, .class_ 3)] 3

/-- java/lang/Cloneable -/
def k14 : Class := { plain "java/lang/Cloneable" (some 0) with
  accessFlags := 1537
  interfaces := #[]
  cf := some (fileOf pool14 2 #[] #[] 1537 4 #[] #[])
  fields := #[]
  methods := #[]
  instanceTypes := #[]
  staticTypes := #[]
  resolved := Array.replicate 8 none
  statics := none }

/-- the primitive byte -/
def k15 : Class := { plain "byte" none with kind := .primitive 'B', accessFlags := 0x411 }
/-- [B -/
def k16 : Class := { plain "[B" (some 0) with kind := .array 15 .byte, interfaces := #[14, 2], accessFlags := 1041 }

/-- the primitive char -/
def k17 : Class := { plain "char" none with kind := .primitive 'C', accessFlags := 0x411 }
/-- [C -/
def k18 : Class := { plain "[C" (some 0) with kind := .array 17 .char, interfaces := #[14, 2], accessFlags := 1041 }

/-- the primitive int -/
def k19 : Class := { plain "int" none with kind := .primitive 'I', accessFlags := 0x411 }
/-- [I -/
def k20 : Class := { plain "[I" (some 0) with kind := .array 19 .int, interfaces := #[14, 2], accessFlags := 1041 }

/-- the primitive long -/
def k21 : Class := { plain "long" none with kind := .primitive 'J', accessFlags := 0x411 }
/-- [J -/
def k22 : Class := { plain "[J" (some 0) with kind := .array 21 .long, interfaces := #[14, 2], accessFlags := 1041 }

def heap : Heap := #[{ cls := 7, slots := #[.long 0, .int 1, .null, .int 0, .null, .int 0, .int 0], vm := .statics 7 },
  { cls := 8, slots := #[.int 0, .int 8, .int 0, .int 1], vm := .statics 8 },
  { cls := 12, slots := #[.null, .null, .null], vm := .statics 12 },
  { cls := 13, slots := #[.ref 4], vm := .statics 13 },
  { cls := 13, slots := #[.int 0, .int 0], vm := .none }]
def classes : Array Class := #[k0, k1, k2, k3, k4, k5, k6, k7, k8, k9, k10, k11, k12, k13, k14, k15, k16, k17, k18, k19, k20, k21, k22]
def interned : List (Array UInt16 × Addr) := []
def slotsUsed : Nat := 17
def theMethod : MethodId := ⟨1, 4⟩
def args0 : Array Value := #[.long 123, .int 3, .int 48, .int 0, .int 1000]
def aboutOver (below : List Frame) : State where
  vm := { classes := classes, interned := interned.toArray }
  heap := heap
  slotsUsed := slotsUsed
  threads := #[{ frames := .invoking theMethod args0 :: below }]
def below0 : List Frame := [.native { method := ⟨0, 0⟩, args := #[] }]
def about1 : State := aboutOver below0
def p0 : Program := .bare "" "" ""
def e0 : Env := launch0.env 0 0 0
theorem w_frames : about1.frames = Frame.invoking theMethod args0 :: below0 := rfl
set_option maxRecDepth 65536 in
theorem w_args : argsFit about1.vm theMethod args0 = true := by decide +kernel
set_option maxRecDepth 65536 in
theorem w_heap : heapFits about1 = true := by decide +kernel
set_option maxRecDepth 65536 in
theorem w_runnable : about1.curStatus? = some .runnable := by decide +kernel
set_option maxRecDepth 65536 in
theorem w_alone : about1.alone = true := by decide +kernel
set_option maxRecDepth 65536 in
theorem w_named : about1.methodNamed? x = some theMethod := by decide +kernel
set_option maxRecDepth 65536 in
theorem w_hears : about1.hears theMethod below0 = true := by decide +kernel
set_option maxRecDepth 65536 in
theorem w_ripe : about1.ripe theMethod args0 below0 = true := by decide +kernel
theorem w_running : about1.status = .running := rfl
set_option maxRecDepth 65536 in
theorem w_room : about1.hasRoom e0.platform room_1 = true :=
  launch0.hasRoom_least _ room_1 (by decide +kernel) (by decide +kernel) (by decide +kernel) (by decide +kernel) (by decide +kernel) (by decide +kernel)
theorem allAtoms_all (ts : List Jvm.Cond) (a : Array Jvm.Value) (st : Jvm.State) : (allAtoms ts).before a st = ts.all (fun c => c.before a st) := by
  induction ts with
  | nil => rfl
  | cons c t ih =>
    show (Jvm.Cond.and c (allAtoms t)).before a st = _
    rw [Jvm.Cond.before_and, ih, List.all_cons]
def words1 : List Jvm.Cond := Jvm.Cond.code x code maxLocals ret :: tables_1
/-- a 'code' word, met by the world's own term for the bytes: nothing is compared byte by byte -/
theorem code_word {y : MethodName} {bytes : ByteArray} {mx : Nat} {rt : Option FieldType} {a : Array Value} {s : State} {m : MethodId} {meth : Method} {c : Code} (h1 : s.methodNamed? y = some m) (h2 : s.vm.method? m = some meth) (h3 : meth.code = some c) (h4 : c.code = bytes)
    (h5 : (c.maxLocals == mx && c.exceptionTable.isEmpty && decide (c.maxStack ≤ mostOperands) && decide (meth.sig.returnType = rt) && !meth.locks && decide (parseMethodDescriptor y.desc = some meth.sig)) = true) : (Jvm.Cond.code y bytes mx rt).before a s = true := by
  simp only [Bool.and_eq_true, beq_iff_eq, Bool.not_eq_true', decide_eq_true_eq] at h5
  obtain ⟨⟨⟨⟨⟨g1, g2⟩, g3⟩, g4⟩, g5⟩, g6⟩ := h5
  simp [Cond.before, Cond.holds, Cond.value, h1, h2, h3, h4, g1, g2, g3, g4, g5, g6]
def isCode : Jvm.Cond → Bool
  | .code _ _ _ _ => true
  | _ => false
theorem all_split {L : List Jvm.Cond} {P : Jvm.Cond → Bool} (h1 : L.all (fun c => isCode c || P c) = true) (h2 : ∀ c ∈ L.filter isCode, P c = true) : L.all P = true := by
  refine List.all_eq_true.mpr fun c hc => ?_
  have h := List.all_eq_true.mp h1 c hc
  rcases Bool.eq_false_or_eq_true (isCode c) with hi | hi
  · exact h2 c (List.mem_filter.mpr ⟨hc, hi⟩)
  · simpa [hi] using h
set_option maxRecDepth 65536 in
theorem w_c0 : (Jvm.Cond.code x code maxLocals ret).before args0 about1 = true := code_word (m := ⟨1, 4⟩) (meth := k1m4) (c := k1c4) (by decide +kernel) rfl rfl rfl (by decide +kernel)
set_option maxRecDepth 65536 in
theorem w_c1 : (Jvm.Cond.code ({ cls := "com/example/marshalyard/marshalyard/engine/DecimalIntegerParsePinLaw", name := "put", desc := "([CIIJI)V" } : Jvm.MethodName) method_4_code (6 : Nat) (Option.none : Option Jvm.ClassFile.FieldType)).before args0 about1 = true := code_word (m := ⟨1, 3⟩) (meth := k1m3) (c := k1c3) (by decide +kernel) rfl rfl rfl (by decide +kernel)
set_option maxRecDepth 65536 in
theorem w_c2 : (Jvm.Cond.code ({ cls := "com/example/marshalyard/marshalyard/engine/DecimalIntegerParsePinLaw", name := "digit", desc := "(JI)I" } : Jvm.MethodName) method_3_code (3 : Nat) (Option.some Jvm.ClassFile.FieldType.int)).before args0 about1 = true := code_word (m := ⟨1, 2⟩) (meth := k1m2) (c := k1c2) (by decide +kernel) rfl rfl rfl (by decide +kernel)
set_option maxRecDepth 65536 in
theorem w_c3 : (Jvm.Cond.code ({ cls := "com/example/marshalyard/marshalyard/engine/DecimalIntegerParsePinLaw", name := "pow10", desc := "(I)J" } : Jvm.MethodName) method_2_code (2 : Nat) (Option.some Jvm.ClassFile.FieldType.long)).before args0 about1 = true := code_word (m := ⟨1, 1⟩) (meth := k1m1) (c := k1c1) (by decide +kernel) rfl rfl rfl (by decide +kernel)
set_option maxRecDepth 65536 in
theorem w_c4 : (Jvm.Cond.code ({ cls := "java/lang/String", name := "<init>", desc := "([C)V" } : Jvm.MethodName) jdk_42_method_3_code (2 : Nat) (Option.none : Option Jvm.ClassFile.FieldType)).before args0 about1 = true := code_word (m := ⟨7, 1⟩) (meth := k7m1) (c := k7c1) (by decide +kernel) rfl rfl rfl (by decide +kernel)
set_option maxRecDepth 65536 in
theorem w_c5 : (Jvm.Cond.code ({ cls := "java/lang/String", name := "<init>", desc := "([CIILjava/lang/Void;)V" } : Jvm.MethodName) jdk_42_method_149_code (6 : Nat) (Option.none : Option Jvm.ClassFile.FieldType)).before args0 about1 = true := code_word (m := ⟨7, 6⟩) (meth := k7m6) (c := k7c6) (by decide +kernel) rfl rfl rfl (by decide +kernel)
set_option maxRecDepth 65536 in
theorem w_c6 : (Jvm.Cond.code ({ cls := "java/lang/Object", name := "<init>", desc := "()V" } : Jvm.MethodName) object_method_1_code (1 : Nat) (Option.none : Option Jvm.ClassFile.FieldType)).before args0 about1 = true := code_word (m := ⟨0, 0⟩) (meth := k0m0) (c := k0c0) (by decide +kernel) rfl rfl rfl (by decide +kernel)
set_option maxRecDepth 65536 in
theorem w_c7 : (Jvm.Cond.code ({ cls := "java/lang/StringUTF16", name := "compress", desc := "([CII)[B" } : Jvm.MethodName) jdk_52_method_16_code (6 : Nat) (Option.some (Jvm.ClassFile.FieldType.array Jvm.ClassFile.FieldType.byte))).before args0 about1 = true := code_word (m := ⟨8, 8⟩) (meth := k8m8) (c := k8c8) (by decide +kernel) rfl rfl rfl (by decide +kernel)
set_option maxRecDepth 65536 in
theorem w_c8 : (Jvm.Cond.code ({ cls := "java/lang/StringUTF16", name := "compress", desc := "([CI[BII)I" } : Jvm.MethodName) jdk_52_method_21_code (7 : Nat) (Option.some Jvm.ClassFile.FieldType.int)).before args0 about1 = true := code_word (m := ⟨8, 9⟩) (meth := k8m9) (c := k8c9) (by decide +kernel) rfl rfl rfl (by decide +kernel)
set_option maxRecDepth 65536 in
theorem w_c9 : (Jvm.Cond.code ({ cls := "java/lang/StringUTF16", name := "coderFromArrayLen", desc := "([BI)B" } : Jvm.MethodName) jdk_52_method_15_code (2 : Nat) (Option.some Jvm.ClassFile.FieldType.byte)).before args0 about1 = true := code_word (m := ⟨8, 7⟩) (meth := k8m7) (c := k8c7) (by decide +kernel) rfl rfl rfl (by decide +kernel)
set_option maxRecDepth 65536 in
theorem w_c10 : (Jvm.Cond.code ({ cls := "com/example/marshalyard/marshalyard/engine/DecimalInteger", name := "parse", desc := "(Ljava/lang/String;II)Ljava/util/OptionalInt;" } : Jvm.MethodName) prog_18_method_2_code (10 : Nat) (Option.some (Jvm.ClassFile.FieldType.object "java/util/OptionalInt"))).before args0 about1 = true := code_word (m := ⟨9, 1⟩) (meth := k9m1) (c := k9c1) (by decide +kernel) rfl rfl rfl (by decide +kernel)
set_option maxRecDepth 65536 in
theorem w_c11 : (Jvm.Cond.code ({ cls := "java/lang/String", name := "startsWith", desc := "(Ljava/lang/String;)Z" } : Jvm.MethodName) jdk_42_method_76_code (2 : Nat) (Option.some Jvm.ClassFile.FieldType.boolean)).before args0 about1 = true := code_word (m := ⟨7, 5⟩) (meth := k7m5) (c := k7c5) (by decide +kernel) rfl rfl rfl (by decide +kernel)
set_option maxRecDepth 65536 in
theorem w_c12 : (Jvm.Cond.code ({ cls := "java/lang/String", name := "startsWith", desc := "(Ljava/lang/String;I)Z" } : Jvm.MethodName) jdk_42_method_75_code (8 : Nat) (Option.some Jvm.ClassFile.FieldType.boolean)).before args0 about1 = true := code_word (m := ⟨7, 4⟩) (meth := k7m4) (c := k7c4) (by decide +kernel) rfl rfl rfl (by decide +kernel)
set_option maxRecDepth 65536 in
theorem w_c13 : (Jvm.Cond.code ({ cls := "java/lang/String", name := "length", desc := "()I" } : Jvm.MethodName) jdk_42_method_54_code (1 : Nat) (Option.some Jvm.ClassFile.FieldType.int)).before args0 about1 = true := code_word (m := ⟨7, 2⟩) (meth := k7m2) (c := k7c2) (by decide +kernel) rfl rfl rfl (by decide +kernel)
set_option maxRecDepth 65536 in
theorem w_c14 : (Jvm.Cond.code ({ cls := "java/lang/String", name := "coder", desc := "()B" } : Jvm.MethodName) jdk_42_method_152_code (1 : Nat) (Option.some Jvm.ClassFile.FieldType.byte)).before args0 about1 = true := code_word (m := ⟨7, 7⟩) (meth := k7m7) (c := k7c7) (by decide +kernel) rfl rfl rfl (by decide +kernel)
set_option maxRecDepth 65536 in
theorem w_c15 : (Jvm.Cond.code ({ cls := "jdk/internal/util/ArraysSupport", name := "mismatch", desc := "([BI[BII)I" } : Jvm.MethodName) jdk_48_method_14_code (8 : Nat) (Option.some Jvm.ClassFile.FieldType.int)).before args0 about1 = true := code_word (m := ⟨10, 1⟩) (meth := k10m1) (c := k10c1) (by decide +kernel) rfl rfl rfl (by decide +kernel)
set_option maxRecDepth 65536 in
theorem w_c16 : (Jvm.Cond.code ({ cls := "java/lang/String", name := "charAt", desc := "(I)C" } : Jvm.MethodName) jdk_42_method_56_code (2 : Nat) (Option.some Jvm.ClassFile.FieldType.char)).before args0 about1 = true := code_word (m := ⟨7, 3⟩) (meth := k7m3) (c := k7c3) (by decide +kernel) rfl rfl rfl (by decide +kernel)
set_option maxRecDepth 65536 in
theorem w_c17 : (Jvm.Cond.code ({ cls := "java/lang/String", name := "isLatin1", desc := "()Z" } : Jvm.MethodName) jdk_42_method_154_code (1 : Nat) (Option.some Jvm.ClassFile.FieldType.boolean)).before args0 about1 = true := code_word (m := ⟨7, 8⟩) (meth := k7m8) (c := k7c8) (by decide +kernel) rfl rfl rfl (by decide +kernel)
set_option maxRecDepth 65536 in
theorem w_c18 : (Jvm.Cond.code ({ cls := "java/lang/StringLatin1", name := "charAt", desc := "([BI)C" } : Jvm.MethodName) jdk_43_method_2_code (2 : Nat) (Option.some Jvm.ClassFile.FieldType.char)).before args0 about1 = true := code_word (m := ⟨11, 1⟩) (meth := k11m1) (c := k11c1) (by decide +kernel) rfl rfl rfl (by decide +kernel)
set_option maxRecDepth 65536 in
theorem w_c19 : (Jvm.Cond.code ({ cls := "java/lang/String", name := "checkIndex", desc := "(II)V" } : Jvm.MethodName) jdk_42_method_155_code (2 : Nat) (Option.none : Option Jvm.ClassFile.FieldType)).before args0 about1 = true := code_word (m := ⟨7, 9⟩) (meth := k7m9) (c := k7c9) (by decide +kernel) rfl rfl rfl (by decide +kernel)
set_option maxRecDepth 65536 in
theorem w_c20 : (Jvm.Cond.code ({ cls := "jdk/internal/util/Preconditions", name := "checkIndex", desc := "(IILjava/util/function/BiFunction;)I" } : Jvm.MethodName) jdk_41_method_11_code (3 : Nat) (Option.some Jvm.ClassFile.FieldType.int)).before args0 about1 = true := code_word (m := ⟨12, 1⟩) (meth := k12m1) (c := k12c1) (by decide +kernel) rfl rfl rfl (by decide +kernel)
set_option maxRecDepth 65536 in
theorem w_c21 : (Jvm.Cond.code ({ cls := "java/util/OptionalInt", name := "empty", desc := "()Ljava/util/OptionalInt;" } : Jvm.MethodName) jdk_2649_method_2_code (0 : Nat) (Option.some (Jvm.ClassFile.FieldType.object "java/util/OptionalInt"))).before args0 about1 = true := code_word (m := ⟨13, 1⟩) (meth := k13m1) (c := k13c1) (by decide +kernel) rfl rfl rfl (by decide +kernel)
set_option maxRecDepth 65536 in
theorem w_c22 : (Jvm.Cond.code ({ cls := "java/util/OptionalInt", name := "of", desc := "(I)Ljava/util/OptionalInt;" } : Jvm.MethodName) jdk_2649_method_4_code (1 : Nat) (Option.some (Jvm.ClassFile.FieldType.object "java/util/OptionalInt"))).before args0 about1 = true := code_word (m := ⟨13, 3⟩) (meth := k13m3) (c := k13c3) (by decide +kernel) rfl rfl rfl (by decide +kernel)
set_option maxRecDepth 65536 in
theorem w_c23 : (Jvm.Cond.code ({ cls := "java/util/OptionalInt", name := "<init>", desc := "(I)V" } : Jvm.MethodName) jdk_2649_method_3_code (2 : Nat) (Option.none : Option Jvm.ClassFile.FieldType)).before args0 about1 = true := code_word (m := ⟨13, 2⟩) (meth := k13m2) (c := k13c2) (by decide +kernel) rfl rfl rfl (by decide +kernel)
set_option maxRecDepth 65536 in
theorem w_c24 : (Jvm.Cond.code ({ cls := "java/util/OptionalInt", name := "isPresent", desc := "()Z" } : Jvm.MethodName) jdk_2649_method_6_code (1 : Nat) (Option.some Jvm.ClassFile.FieldType.boolean)).before args0 about1 = true := code_word (m := ⟨13, 5⟩) (meth := k13m5) (c := k13c5) (by decide +kernel) rfl rfl rfl (by decide +kernel)
set_option maxRecDepth 65536 in
theorem w_c25 : (Jvm.Cond.code ({ cls := "java/util/OptionalInt", name := "getAsInt", desc := "()I" } : Jvm.MethodName) jdk_2649_method_5_code (1 : Nat) (Option.some Jvm.ClassFile.FieldType.int)).before args0 about1 = true := code_word (m := ⟨13, 4⟩) (meth := k13m4) (c := k13c4) (by decide +kernel) rfl rfl rfl (by decide +kernel)
set_option maxRecDepth 65536 in
theorem w_c26 : (Jvm.Cond.code ({ cls := "java/lang/StringUTF16", name := "toBytes", desc := "([CII)[B" } : Jvm.MethodName) jdk_52_method_14_code (5 : Nat) (Option.some (Jvm.ClassFile.FieldType.array Jvm.ClassFile.FieldType.byte))).before args0 about1 = true := code_word (m := ⟨8, 6⟩) (meth := k8m6) (c := k8c6) (by decide +kernel) rfl rfl rfl (by decide +kernel)
set_option maxRecDepth 65536 in
theorem w_c27 : (Jvm.Cond.code ({ cls := "java/lang/StringUTF16", name := "newBytesFor", desc := "(I)[B" } : Jvm.MethodName) jdk_52_method_2_code (1 : Nat) (Option.some (Jvm.ClassFile.FieldType.array Jvm.ClassFile.FieldType.byte))).before args0 about1 = true := code_word (m := ⟨8, 1⟩) (meth := k8m1) (c := k8c1) (by decide +kernel) rfl rfl rfl (by decide +kernel)
set_option maxRecDepth 65536 in
theorem w_c28 : (Jvm.Cond.code ({ cls := "java/lang/StringUTF16", name := "newBytesLength", desc := "(I)I" } : Jvm.MethodName) jdk_52_method_3_code (1 : Nat) (Option.some Jvm.ClassFile.FieldType.int)).before args0 about1 = true := code_word (m := ⟨8, 2⟩) (meth := k8m2) (c := k8c2) (by decide +kernel) rfl rfl rfl (by decide +kernel)
set_option maxRecDepth 65536 in
theorem w_c29 : (Jvm.Cond.code ({ cls := "java/lang/StringUTF16", name := "putChar", desc := "([BII)V" } : Jvm.MethodName) jdk_52_method_4_code (3 : Nat) (Option.none : Option Jvm.ClassFile.FieldType)).before args0 about1 = true := code_word (m := ⟨8, 3⟩) (meth := k8m3) (c := k8c3) (by decide +kernel) rfl rfl rfl (by decide +kernel)
set_option maxRecDepth 65536 in
theorem w_c30 : (Jvm.Cond.code ({ cls := "java/lang/StringUTF16", name := "getChar", desc := "([BI)C" } : Jvm.MethodName) jdk_52_method_5_code (2 : Nat) (Option.some Jvm.ClassFile.FieldType.char)).before args0 about1 = true := code_word (m := ⟨8, 4⟩) (meth := k8m4) (c := k8c4) (by decide +kernel) rfl rfl rfl (by decide +kernel)
set_option maxRecDepth 65536 in
theorem w_c31 : (Jvm.Cond.code ({ cls := "java/lang/StringUTF16", name := "charAt", desc := "([BI)C" } : Jvm.MethodName) jdk_52_method_83_code (2 : Nat) (Option.some Jvm.ClassFile.FieldType.char)).before args0 about1 = true := code_word (m := ⟨8, 10⟩) (meth := k8m10) (c := k8c10) (by decide +kernel) rfl rfl rfl (by decide +kernel)
set_option maxRecDepth 65536 in
theorem w_c32 : (Jvm.Cond.code ({ cls := "java/lang/StringUTF16", name := "checkIndex", desc := "(I[B)V" } : Jvm.MethodName) jdk_52_method_91_code (2 : Nat) (Option.none : Option Jvm.ClassFile.FieldType)).before args0 about1 = true := code_word (m := ⟨8, 11⟩) (meth := k8m11) (c := k8c11) (by decide +kernel) rfl rfl rfl (by decide +kernel)
set_option maxRecDepth 65536 in
theorem w_c33 : (Jvm.Cond.code ({ cls := "java/lang/StringUTF16", name := "length", desc := "([B)I" } : Jvm.MethodName) jdk_52_method_6_code (1 : Nat) (Option.some Jvm.ClassFile.FieldType.int)).before args0 about1 = true := code_word (m := ⟨8, 5⟩) (meth := k8m5) (c := k8c5) (by decide +kernel) rfl rfl rfl (by decide +kernel)
def codes1 : List Jvm.Cond := [Jvm.Cond.code x code maxLocals ret, Jvm.Cond.code ({ cls := "com/example/marshalyard/marshalyard/engine/DecimalIntegerParsePinLaw", name := "put", desc := "([CIIJI)V" } : Jvm.MethodName) method_4_code (6 : Nat) (Option.none : Option Jvm.ClassFile.FieldType), Jvm.Cond.code ({ cls := "com/example/marshalyard/marshalyard/engine/DecimalIntegerParsePinLaw", name := "digit", desc := "(JI)I" } : Jvm.MethodName) method_3_code (3 : Nat) (Option.some Jvm.ClassFile.FieldType.int), Jvm.Cond.code ({ cls := "com/example/marshalyard/marshalyard/engine/DecimalIntegerParsePinLaw", name := "pow10", desc := "(I)J" } : Jvm.MethodName) method_2_code (2 : Nat) (Option.some Jvm.ClassFile.FieldType.long), Jvm.Cond.code ({ cls := "java/lang/String", name := "<init>", desc := "([C)V" } : Jvm.MethodName) jdk_42_method_3_code (2 : Nat) (Option.none : Option Jvm.ClassFile.FieldType), Jvm.Cond.code ({ cls := "java/lang/String", name := "<init>", desc := "([CIILjava/lang/Void;)V" } : Jvm.MethodName) jdk_42_method_149_code (6 : Nat) (Option.none : Option Jvm.ClassFile.FieldType), Jvm.Cond.code ({ cls := "java/lang/Object", name := "<init>", desc := "()V" } : Jvm.MethodName) object_method_1_code (1 : Nat) (Option.none : Option Jvm.ClassFile.FieldType), Jvm.Cond.code ({ cls := "java/lang/StringUTF16", name := "compress", desc := "([CII)[B" } : Jvm.MethodName) jdk_52_method_16_code (6 : Nat) (Option.some (Jvm.ClassFile.FieldType.array Jvm.ClassFile.FieldType.byte)), Jvm.Cond.code ({ cls := "java/lang/StringUTF16", name := "compress", desc := "([CI[BII)I" } : Jvm.MethodName) jdk_52_method_21_code (7 : Nat) (Option.some Jvm.ClassFile.FieldType.int), Jvm.Cond.code ({ cls := "java/lang/StringUTF16", name := "coderFromArrayLen", desc := "([BI)B" } : Jvm.MethodName) jdk_52_method_15_code (2 : Nat) (Option.some Jvm.ClassFile.FieldType.byte), Jvm.Cond.code ({ cls := "com/example/marshalyard/marshalyard/engine/DecimalInteger", name := "parse", desc := "(Ljava/lang/String;II)Ljava/util/OptionalInt;" } : Jvm.MethodName) prog_18_method_2_code (10 : Nat) (Option.some (Jvm.ClassFile.FieldType.object "java/util/OptionalInt")), Jvm.Cond.code ({ cls := "java/lang/String", name := "startsWith", desc := "(Ljava/lang/String;)Z" } : Jvm.MethodName) jdk_42_method_76_code (2 : Nat) (Option.some Jvm.ClassFile.FieldType.boolean), Jvm.Cond.code ({ cls := "java/lang/String", name := "startsWith", desc := "(Ljava/lang/String;I)Z" } : Jvm.MethodName) jdk_42_method_75_code (8 : Nat) (Option.some Jvm.ClassFile.FieldType.boolean), Jvm.Cond.code ({ cls := "java/lang/String", name := "length", desc := "()I" } : Jvm.MethodName) jdk_42_method_54_code (1 : Nat) (Option.some Jvm.ClassFile.FieldType.int), Jvm.Cond.code ({ cls := "java/lang/String", name := "coder", desc := "()B" } : Jvm.MethodName) jdk_42_method_152_code (1 : Nat) (Option.some Jvm.ClassFile.FieldType.byte), Jvm.Cond.code ({ cls := "jdk/internal/util/ArraysSupport", name := "mismatch", desc := "([BI[BII)I" } : Jvm.MethodName) jdk_48_method_14_code (8 : Nat) (Option.some Jvm.ClassFile.FieldType.int), Jvm.Cond.code ({ cls := "java/lang/String", name := "charAt", desc := "(I)C" } : Jvm.MethodName) jdk_42_method_56_code (2 : Nat) (Option.some Jvm.ClassFile.FieldType.char), Jvm.Cond.code ({ cls := "java/lang/String", name := "isLatin1", desc := "()Z" } : Jvm.MethodName) jdk_42_method_154_code (1 : Nat) (Option.some Jvm.ClassFile.FieldType.boolean), Jvm.Cond.code ({ cls := "java/lang/StringLatin1", name := "charAt", desc := "([BI)C" } : Jvm.MethodName) jdk_43_method_2_code (2 : Nat) (Option.some Jvm.ClassFile.FieldType.char), Jvm.Cond.code ({ cls := "java/lang/String", name := "checkIndex", desc := "(II)V" } : Jvm.MethodName) jdk_42_method_155_code (2 : Nat) (Option.none : Option Jvm.ClassFile.FieldType), Jvm.Cond.code ({ cls := "jdk/internal/util/Preconditions", name := "checkIndex", desc := "(IILjava/util/function/BiFunction;)I" } : Jvm.MethodName) jdk_41_method_11_code (3 : Nat) (Option.some Jvm.ClassFile.FieldType.int), Jvm.Cond.code ({ cls := "java/util/OptionalInt", name := "empty", desc := "()Ljava/util/OptionalInt;" } : Jvm.MethodName) jdk_2649_method_2_code (0 : Nat) (Option.some (Jvm.ClassFile.FieldType.object "java/util/OptionalInt")), Jvm.Cond.code ({ cls := "java/util/OptionalInt", name := "of", desc := "(I)Ljava/util/OptionalInt;" } : Jvm.MethodName) jdk_2649_method_4_code (1 : Nat) (Option.some (Jvm.ClassFile.FieldType.object "java/util/OptionalInt")), Jvm.Cond.code ({ cls := "java/util/OptionalInt", name := "<init>", desc := "(I)V" } : Jvm.MethodName) jdk_2649_method_3_code (2 : Nat) (Option.none : Option Jvm.ClassFile.FieldType), Jvm.Cond.code ({ cls := "java/util/OptionalInt", name := "isPresent", desc := "()Z" } : Jvm.MethodName) jdk_2649_method_6_code (1 : Nat) (Option.some Jvm.ClassFile.FieldType.boolean), Jvm.Cond.code ({ cls := "java/util/OptionalInt", name := "getAsInt", desc := "()I" } : Jvm.MethodName) jdk_2649_method_5_code (1 : Nat) (Option.some Jvm.ClassFile.FieldType.int), Jvm.Cond.code ({ cls := "java/lang/StringUTF16", name := "toBytes", desc := "([CII)[B" } : Jvm.MethodName) jdk_52_method_14_code (5 : Nat) (Option.some (Jvm.ClassFile.FieldType.array Jvm.ClassFile.FieldType.byte)), Jvm.Cond.code ({ cls := "java/lang/StringUTF16", name := "newBytesFor", desc := "(I)[B" } : Jvm.MethodName) jdk_52_method_2_code (1 : Nat) (Option.some (Jvm.ClassFile.FieldType.array Jvm.ClassFile.FieldType.byte)), Jvm.Cond.code ({ cls := "java/lang/StringUTF16", name := "newBytesLength", desc := "(I)I" } : Jvm.MethodName) jdk_52_method_3_code (1 : Nat) (Option.some Jvm.ClassFile.FieldType.int), Jvm.Cond.code ({ cls := "java/lang/StringUTF16", name := "putChar", desc := "([BII)V" } : Jvm.MethodName) jdk_52_method_4_code (3 : Nat) (Option.none : Option Jvm.ClassFile.FieldType), Jvm.Cond.code ({ cls := "java/lang/StringUTF16", name := "getChar", desc := "([BI)C" } : Jvm.MethodName) jdk_52_method_5_code (2 : Nat) (Option.some Jvm.ClassFile.FieldType.char), Jvm.Cond.code ({ cls := "java/lang/StringUTF16", name := "charAt", desc := "([BI)C" } : Jvm.MethodName) jdk_52_method_83_code (2 : Nat) (Option.some Jvm.ClassFile.FieldType.char), Jvm.Cond.code ({ cls := "java/lang/StringUTF16", name := "checkIndex", desc := "(I[B)V" } : Jvm.MethodName) jdk_52_method_91_code (2 : Nat) (Option.none : Option Jvm.ClassFile.FieldType), Jvm.Cond.code ({ cls := "java/lang/StringUTF16", name := "length", desc := "([B)I" } : Jvm.MethodName) jdk_52_method_6_code (1 : Nat) (Option.some Jvm.ClassFile.FieldType.int)]
set_option maxRecDepth 65536 in
theorem codes_eq : words1.filter isCode = codes1 := rfl
theorem w_codes : ∀ c ∈ words1.filter isCode, c.before args0 about1 = true := by
  rw [codes_eq]
  intro c hc
  simp only [codes1, List.mem_cons, List.not_mem_nil, or_false] at hc
  rcases hc with rfl | rfl | rfl | rfl | rfl | rfl | rfl | rfl | rfl | rfl | rfl | rfl | rfl | rfl | rfl | rfl | rfl | rfl | rfl | rfl | rfl | rfl | rfl | rfl | rfl | rfl | rfl | rfl | rfl | rfl | rfl | rfl | rfl | rfl
  · exact w_c0
  · exact w_c1
  · exact w_c2
  · exact w_c3
  · exact w_c4
  · exact w_c5
  · exact w_c6
  · exact w_c7
  · exact w_c8
  · exact w_c9
  · exact w_c10
  · exact w_c11
  · exact w_c12
  · exact w_c13
  · exact w_c14
  · exact w_c15
  · exact w_c16
  · exact w_c17
  · exact w_c18
  · exact w_c19
  · exact w_c20
  · exact w_c21
  · exact w_c22
  · exact w_c23
  · exact w_c24
  · exact w_c25
  · exact w_c26
  · exact w_c27
  · exact w_c28
  · exact w_c29
  · exact w_c30
  · exact w_c31
  · exact w_c32
  · exact w_c33
set_option maxRecDepth 65536 in
theorem w_t1 : (words1.take 24).all (fun c => isCode c || c.before args0 about1) = true := by decide +kernel
set_option maxRecDepth 65536 in
theorem w_t2 : ((words1.drop 24).take 24).all (fun c => isCode c || c.before args0 about1) = true := by decide +kernel
set_option maxRecDepth 65536 in
theorem w_t3 : (((words1.drop 24).drop 24).take 24).all (fun c => isCode c || c.before args0 about1) = true := by decide +kernel
set_option maxRecDepth 65536 in
theorem w_t4 : ((((words1.drop 24).drop 24).drop 24).take 24).all (fun c => isCode c || c.before args0 about1) = true := by decide +kernel
set_option maxRecDepth 65536 in
theorem w_t5 : (((((words1.drop 24).drop 24).drop 24).drop 24).take 24).all (fun c => isCode c || c.before args0 about1) = true := by decide +kernel
set_option maxRecDepth 65536 in
theorem w_t6 : ((((((words1.drop 24).drop 24).drop 24).drop 24).drop 24).take 24).all (fun c => isCode c || c.before args0 about1) = true := by decide +kernel
set_option maxRecDepth 65536 in
theorem w_t7 : (((((((words1.drop 24).drop 24).drop 24).drop 24).drop 24).drop 24).take 24).all (fun c => isCode c || c.before args0 about1) = true := by decide +kernel
set_option maxRecDepth 65536 in
theorem w_t8 : (((((((words1.drop 24).drop 24).drop 24).drop 24).drop 24).drop 24).drop 24).all (fun c => isCode c || c.before args0 about1) = true := by decide +kernel
theorem w_tables : (allAtoms (Jvm.Cond.code x code maxLocals ret :: tables_1)).before args0 about1 = true := by
  rw [allAtoms_all]
  show words1.all (fun c => c.before args0 about1) = true
  refine all_split ?_ w_codes
  rw [← List.take_append_drop 24 words1, List.all_append, w_t1, ← List.take_append_drop 24 (words1.drop 24), List.all_append, w_t2, ← List.take_append_drop 24 ((words1.drop 24).drop 24), List.all_append, w_t3, ← List.take_append_drop 24 (((words1.drop 24).drop 24).drop 24), List.all_append, w_t4, ← List.take_append_drop 24 ((((words1.drop 24).drop 24).drop 24).drop 24), List.all_append, w_t5, ← List.take_append_drop 24 (((((words1.drop 24).drop 24).drop 24).drop 24).drop 24), List.all_append, w_t6, ← List.take_append_drop 24 ((((((words1.drop 24).drop 24).drop 24).drop 24).drop 24).drop 24), List.all_append, w_t7, w_t8]
  rfl
set_option maxRecDepth 65536 in
theorem w_rest : rest_1_c.before args0 about1 = true := by decide +kernel
set_option maxRecDepth 65536 in
theorem w_case : (Jvm.Cond.and given_1 narrow_1).before args0 about1 = true := by decide +kernel
set_option maxRecDepth 65536 in
theorem w_consts : constsHeld consts_1 about1 := Jvm.Lit.constsHeldB_iff.mp (by decide +kernel)
theorem w_applies : (headSpec (Jvm.Cond.code x code maxLocals ret :: tables_1) room_1).applies x e0.platform about1 = true :=
  (Spec.applies_iff w_frames).mpr ⟨w_running, w_runnable, w_alone, w_named, w_hears, w_ripe, w_room, w_tables⟩
theorem atStart : AtStart classFile x code maxLocals ret World_1 tables_1 room_1 Calls_1 rest_1 Pre_1 launch0 p0 e0 about1 theMethod args0 below0 :=
  ⟨lists_1, trivial, launch0.admits_env _ _ _, launch0.least_env, fairChoices_fair.cas, fairChoices_fair.clock, w_frames, w_args, w_heap, w_applies, ⟨w_consts, trivial⟩, w_rest, w_case⟩
end start1
theorem witness_1 : WitnessClaimed_1 := ⟨start1.p0, start1.e0, start1.about1, start1.theMethod, start1.args0, start1.below0, start1.atStart⟩
end Jvm.Pilot.@@N@@
