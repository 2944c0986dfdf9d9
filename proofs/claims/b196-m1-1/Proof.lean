import JvmDerived
import JvmDerived.Pilot.@@N@@Statement
import JvmDerived.Pilot.@@N@@Code
set_option linter.unusedVariables false
set_option linter.unusedSimpArgs false
namespace Jvm.Pilot.@@N@@
open Jvm Jvm.ClassFile Sem Op Lib Jvm.Free Jvm.Stand Jvm.LawKit Jvm.RoadKit Bundle Jvm.Pilot.@@N@@.Jvm.D

section Own
variable {p : Program} {l : Launch} {e : Env} {R : Room} {s : State} {m : MethodId} {args : Array Value} {below : List Frame} {meth : Method} {c : Code} {T : State} {locs : List Loc} {cells slots : Nat} {Z : State} {h h' : Heap}
def own_Go (tb : Tables) (e : Env) (below : List Frame) (P : State → Outcome → Prop) (A : State) : Prop := ∃ t o, Steps tb e below A t ∧ P t o
def own_P (below : List Frame) (s : State) (Q : Option Value → Heap → List Loc → Prop) (kc ks : Nat) (t : State) (o : Outcome) : Prop := t.status = .running ∧ Ended t below o ∧ ∃ v L, o = .returned v ∧ Q v t.heap L ∧ FrameEnd s o t L kc ks
theorem own_st {tb : Tables} {P : State → Outcome → Prop} {A B : State} (k : ∀ t, Steps tb e below B t → Steps tb e below A t) (h : own_Go tb e below P B) : own_Go tb e below P A := by
  obtain ⟨t, o, h1, h2⟩ := h
  exact ⟨t, o, k t h1, h2⟩
theorem own_tr {tb : Tables} {P : State → Outcome → Prop} {A B : State} (k : Steps tb e below A B) (h : own_Go tb e below P B) : own_Go tb e below P A := by
  obtain ⟨t, o, h1, h2⟩ := h
  exact ⟨t, o, k.trans h1, h2⟩
theorem own_ret (X : Stand p l e R s m args below meth c T locs cells slots) (hx : p.tables.exec = Jvm.exec) (hnl : meth.locks = false) {pc : Nat} {Ls : Array Slot} {w : Value} {t : FieldType} {i : Instr} {rest : List Value} (hret : meth.sig.returnType = some t) (hn : narrow t w = w)
    (hi : (i = .ireturn ∧ (t = .int ∨ t = .boolean ∨ t = .byte ∨ t = .char ∨ t = .short) ∧ ∃ z, w = .int z) ∨ (i = .lreturn ∧ t = .long ∧ ∃ z, w = .long z) ∨ (i = .dreturn ∧ t = .double ∧ ∃ z, w = .double z) ∨ (i = .freturn ∧ t = .float ∧ ∃ z, w = .float z) ∨ (i = .areturn ∧ t.isReference = true ∧ w.isRef = true))
    (hd : decode c.code pc = .ok (i, 1)) {Q : Option Value → Heap → List Loc → Prop} {kc ks : Nat} (hq : Q (some w) T.heap locs) (hc : cells ≤ kc) (hs : slots ≤ ks) : own_Go p.tables e below (own_P below s Q kc ks) (T.setTop (mkF m pc Ls (w :: rest))) := by
  obtain ⟨fs, hr, hrun, hended, hW, hsame⟩ := X.leave (v := some w) (fun h => by rw [hret] at h; cases h) hnl
  exact ⟨_, _, retOut X hx hret hn hi hd hr, hrun, hended, _, _, rfl, hq, ⟨_, rfl⟩, hW, hsame.mono hc hs⟩
theorem own_ret0 (X : Stand p l e R s m args below meth c T locs cells slots) (hx : p.tables.exec = Jvm.exec) (hnl : meth.locks = false) {pc : Nat} {Ls : Array Slot} (hret : meth.sig.returnType = none)
    (hd : decode c.code pc = .ok (.return_, 1)) {Q : Option Value → Heap → List Loc → Prop} {kc ks : Nat} (hq : Q none T.heap locs) (hc : cells ≤ kc) (hs : slots ≤ ks) : own_Go p.tables e below (own_P below s Q kc ks) (T.setTop (mkF m pc Ls [])) := by
  obtain ⟨fs, hr, hrun, hended, hW, hsame⟩ := X.leave (v := none) (fun _ => rfl) hnl
  exact ⟨_, _, X.returnOut hx hret hd hr, hrun, hended, _, _, rfl, hq, ⟨_, rfl⟩, hW, hsame.mono hc hs⟩
theorem own_lrem {g : JFrame} {target : State} (X : Stand p l e R s m args below meth c T locs cells slots) (hx : p.tables.exec = Jvm.exec) (hg : g.method = m) {x y : Int64} {rest : List Value} (hd : decode c.code g.pc = .ok (.lrem, 1)) (hs : g.stack = .long y :: .long x :: rest) (hy : y ≠ 0)
    (hr : Steps p.tables e below (T.setTop { g with pc := g.pc + 1, stack := .long (x % y) :: rest }) target) : Steps p.tables e below (T.setTop g) target := by
  exact XS.lrem X.here hx hg hd hs hy (by rw [lrem_mod]; exact hr)
end Own

section OwnA
variable {p : Program} {l : Launch} {e : Env} {R : Room} {s : State} {m : MethodId} {args : Array Value} {below : List Frame} {meth : Method} {c : Code} {T : State} {locs : List Loc} {cells slots : Nat} {Z : State} {h h' : Heap} {a b : Addr} {k : ClassId} {ty : FieldType} {n : Nat} {f : Nat → Value} {sl : Nat} {v : Value} {ws : List Addr}
def own_A (Z : State) (h : Heap) (a : Addr) (k : ClassId) (ty : FieldType) (n : Nat) (f : Nat → Value) : Prop := ∃ c : Cell, Arr Z h a c ty ∧ c.cls = k ∧ c.slots.size = n ∧ n < 2 ^ 31 ∧ (∀ i, i < n → c.slots[i]? = some (f i)) ∧ ∀ i, i < n → fits ty (f i) = true
def own_upd {α : Type} (f : Nat → α) (i : Nat) (x : α) : Nat → α := fun j => if j = i then x else f j
theorem own_A.lt (F : own_A Z h a k ty n f) : a < h.size := by obtain ⟨c, A, -⟩ := F; exact A.lt
theorem own_A.ext (F : own_A Z h a k ty n f) (E : Ext h h') : own_A Z h' a k ty n f := by obtain ⟨c, A, r⟩ := F; exact ⟨c, A.ext E, r⟩
theorem own_A.other (F : own_A Z h b k ty n f) (W : Wr h h' a sl v) (q : b ≠ a) : own_A Z h' b k ty n f := by obtain ⟨c, A, r⟩ := F; exact ⟨c, A.other W q, r⟩
theorem own_A.keep (F : own_A Z h a k ty n f) (K : Keep h h' ws) (q : a ∉ ws) : own_A Z h' a k ty n f := by obtain ⟨c, A, r⟩ := F; exact ⟨c, ⟨K.2.1 a c A.1 q, A.2⟩, r⟩
theorem own_A.congr (F : own_A Z h a k ty n f) {g : Nat → Value} (q : ∀ i, i < n → g i = f i) : own_A Z h a k ty n g := by
  obtain ⟨c, A, r1, r2, r3, H, G⟩ := F
  exact ⟨c, A, r1, r2, r3, fun i hi => by rw [q i hi]; exact H i hi, fun i hi => by rw [q i hi]; exact G i hi⟩
theorem own_A.small (F : own_A Z h a k ty n f) : n < 2 ^ 31 := by obtain ⟨c, A, r1, r2, r3, -⟩ := F; exact r3
theorem own_A.fit (F : own_A Z h a k ty n f) {i : Nat} (hi : i < n) : fits ty (f i) = true := by obtain ⟨c, A, r1, r2, r3, H, G⟩ := F; exact G i hi
theorem own_A.new {z : Int32} (A : Arr Z h a (newA k ty z) ty) (hz : z = Int32.ofNat n) (q : ¬ z < 0) {g : Nat → Value} (hg : ∀ i, g i = defaultValue ty := by intro i; rfl) (hn : n < 2 ^ 31 := by decide) : own_A Z h a k ty n g := by
  have e : z.toNatClampNeg = n := by rw [hz]; simp [Int32.toNatClampNeg, Int32.toInt_ofNat_of_lt hn]
  refine ⟨_, A, rfl, by rw [sz_new]; exact e, hn, fun i hi => ?_, fun i hi => ?_⟩
  · rw [hg]; simp [newA, e, hi]
  · rw [hg]; cases ty <;> rfl
theorem own_idx {j : Int32} {i n : Nat} (h1 : j.toInt = (i : Int)) (h2 : i < n) : ¬ (j < 0 ∨ n ≤ j.toNatClampNeg) ∧ j.toNatClampNeg = i := by
  have e : j.toNatClampNeg = i := by simp [Int32.toNatClampNeg, h1]
  refine ⟨fun q => ?_, e⟩
  rcases q with q | q
  · rw [Int32.lt_iff_toInt_lt, h1] at q; simp at q; omega
  · rw [e] at q; omega
theorem own_len (X : Stand p l e R s m args below meth c T locs cells slots) (hx : p.tables.exec = Jvm.exec) (hZ : Z.Warmed39 s.vm) (eT : T.heap = h) (F : own_A Z h a k ty n f) {g : JFrame} (hg : g.method = m) {rest : List Value} (hs : g.stack = .ref a :: rest) (hd : decode c.code g.pc = .ok (.arraylength, 1)) (t : State)
    (k : Steps p.tables e below (T.setTop { g with pc := g.pc + 1, stack := .int (Int32.ofNat n) :: rest }) t) : Steps p.tables e below (T.setTop g) t := by
  obtain ⟨cl, A, r1, r2, r3, H, G⟩ := F
  refine X.arraylength hx (cell := cl) (by rw [eT]; exact A.1) (State.isArrayOf_alike hZ.alike A.2.1) hg hs hd t ?_
  rw [r2]; exact k
theorem own_setA (F : own_A Z h a k ty n f) {i : Nat} (hi : i < n) (W : Wr h h' a i v) (hv : fits ty v = true) : own_A Z h' a k ty n (own_upd f i v) := by
  obtain ⟨cl, A, r1, r2, r3, H, G⟩ := F
  refine ⟨_, A.same W, r1, by rw [sz_set]; exact r2, r3, fun j hj => ?_, fun j hj => ?_⟩
  · by_cases q : j = i
    · subst q; simp [own_upd, Cell.setSlot, r2, hj]
    · simp only [own_upd, if_neg q, Cell.setSlot]
      rw [Array.getElem?_setIfInBounds_ne (Ne.symm q)]; exact H j hj
  · by_cases q : j = i
    · simp only [own_upd, if_pos q]; exact hv
    · simp only [own_upd, if_neg q]; exact G j hj
theorem own_updI (f : Nat → Int32) (i : Nat) (x : Int32) : own_upd (fun j => Value.int (f j)) i (.int x) = fun j => .int (own_upd f i x j) := by funext j; simp only [own_upd]; split <;> rfl
theorem own_updJ (f : Nat → Int64) (i : Nat) (x : Int64) : own_upd (fun j => Value.long (f j)) i (.long x) = fun j => .long (own_upd f i x j) := by funext j; simp only [own_upd]; split <;> rfl
theorem own_updD (f : Nat → UInt64) (i : Nat) (x : UInt64) : own_upd (fun j => Value.double (f j)) i (.double x) = fun j => .double (own_upd f i x j) := by funext j; simp only [own_upd]; split <;> rfl
theorem own_iaload (X : Stand p l e R s m args below meth c T locs cells slots) (hx : p.tables.exec = Jvm.exec) (hZ : Z.Warmed39 s.vm) (eT : T.heap = h) {f : Nat → Int32} (F : own_A Z h a k .int n (fun i => .int (f i))) {j : Int32} {i : Nat} (h1 : j.toInt = (i : Int)) (h2 : i < n) {g : JFrame} (hg : g.method = m) {rest : List Value} (hs : g.stack = .int j :: .ref a :: rest) (hd : decode c.code g.pc = .ok (.iaload, 1)) (t : State)
    (k : Steps p.tables e below (T.setTop { g with pc := g.pc + 1, stack := .int (f i) :: rest }) t) : Steps p.tables e below (T.setTop g) t := by
  obtain ⟨cl, A, r1, r2, r3, H, G⟩ := F
  obtain ⟨q1, q2⟩ := own_idx h1 (r2 ▸ h2)
  exact X.iaload hx (j := j) (v := .int (f i)) (by rw [eT]; exact A.1) (State.isArrayOf_alike hZ.alike A.2.1) A.2.2 q1 (by rw [q2]; exact H i h2) hg hs hd t k
theorem own_laload (X : Stand p l e R s m args below meth c T locs cells slots) (hx : p.tables.exec = Jvm.exec) (hZ : Z.Warmed39 s.vm) (eT : T.heap = h) {f : Nat → Int64} (F : own_A Z h a k .long n (fun i => .long (f i))) {j : Int32} {i : Nat} (h1 : j.toInt = (i : Int)) (h2 : i < n) {g : JFrame} (hg : g.method = m) {rest : List Value} (hs : g.stack = .int j :: .ref a :: rest) (hd : decode c.code g.pc = .ok (.laload, 1)) (t : State)
    (k : Steps p.tables e below (T.setTop { g with pc := g.pc + 1, stack := .long (f i) :: rest }) t) : Steps p.tables e below (T.setTop g) t := by
  obtain ⟨cl, A, r1, r2, r3, H, G⟩ := F
  obtain ⟨q1, q2⟩ := own_idx h1 (r2 ▸ h2)
  exact X.laload hx (j := j) (v := .long (f i)) (by rw [eT]; exact A.1) (State.isArrayOf_alike hZ.alike A.2.1) A.2.2 q1 (by rw [q2]; exact H i h2) hg hs hd t k
theorem own_daload (X : Stand p l e R s m args below meth c T locs cells slots) (hx : p.tables.exec = Jvm.exec) (hZ : Z.Warmed39 s.vm) (eT : T.heap = h) {f : Nat → UInt64} (F : own_A Z h a k .double n (fun i => .double (f i))) {j : Int32} {i : Nat} (h1 : j.toInt = (i : Int)) (h2 : i < n) {g : JFrame} (hg : g.method = m) {rest : List Value} (hs : g.stack = .int j :: .ref a :: rest) (hd : decode c.code g.pc = .ok (.daload, 1)) (t : State)
    (k : Steps p.tables e below (T.setTop { g with pc := g.pc + 1, stack := .double (f i) :: rest }) t) : Steps p.tables e below (T.setTop g) t := by
  obtain ⟨cl, A, r1, r2, r3, H, G⟩ := F
  obtain ⟨q1, q2⟩ := own_idx h1 (r2 ▸ h2)
  exact X.daload hx (j := j) (v := .double (f i)) (by rw [eT]; exact A.1) (State.isArrayOf_alike hZ.alike A.2.1) A.2.2 q1 (by rw [q2]; exact H i h2) hg hs hd t k
theorem own_caload (X : Stand p l e R s m args below meth c T locs cells slots) (hx : p.tables.exec = Jvm.exec) (hZ : Z.Warmed39 s.vm) (eT : T.heap = h) {f : Nat → Int32} (F : own_A Z h a k .char n (fun i => .int (f i))) {j : Int32} {i : Nat} (h1 : j.toInt = (i : Int)) (h2 : i < n) {g : JFrame} (hg : g.method = m) {rest : List Value} (hs : g.stack = .int j :: .ref a :: rest) (hd : decode c.code g.pc = .ok (.caload, 1)) (t : State)
    (k : Steps p.tables e below (T.setTop { g with pc := g.pc + 1, stack := .int (f i) :: rest }) t) : Steps p.tables e below (T.setTop g) t := by
  obtain ⟨cl, A, r1, r2, r3, H, G⟩ := F
  obtain ⟨q1, q2⟩ := own_idx h1 (r2 ▸ h2)
  exact X.caload hx (j := j) (v := .int (f i)) (by rw [eT]; exact A.1) (State.isArrayOf_alike hZ.alike A.2.1) A.2.2 q1 (by rw [q2]; exact H i h2) hg hs hd t k
theorem own_saload (X : Stand p l e R s m args below meth c T locs cells slots) (hx : p.tables.exec = Jvm.exec) (hZ : Z.Warmed39 s.vm) (eT : T.heap = h) {f : Nat → Int32} (F : own_A Z h a k .short n (fun i => .int (f i))) {j : Int32} {i : Nat} (h1 : j.toInt = (i : Int)) (h2 : i < n) {g : JFrame} (hg : g.method = m) {rest : List Value} (hs : g.stack = .int j :: .ref a :: rest) (hd : decode c.code g.pc = .ok (.saload, 1)) (t : State)
    (k : Steps p.tables e below (T.setTop { g with pc := g.pc + 1, stack := .int (f i) :: rest }) t) : Steps p.tables e below (T.setTop g) t := by
  obtain ⟨cl, A, r1, r2, r3, H, G⟩ := F
  obtain ⟨q1, q2⟩ := own_idx h1 (r2 ▸ h2)
  exact X.saload hx (j := j) (v := .int (f i)) (by rw [eT]; exact A.1) (State.isArrayOf_alike hZ.alike A.2.1) A.2.2 q1 (by rw [q2]; exact H i h2) hg hs hd t k
theorem own_baload (X : Stand p l e R s m args below meth c T locs cells slots) (hx : p.tables.exec = Jvm.exec) (hZ : Z.Warmed39 s.vm) (eT : T.heap = h) {f : Nat → Int32} (F : own_A Z h a k .byte n (fun i => .int (f i))) {j : Int32} {i : Nat} (h1 : j.toInt = (i : Int)) (h2 : i < n) {g : JFrame} (hg : g.method = m) {rest : List Value} (hs : g.stack = .int j :: .ref a :: rest) (hd : decode c.code g.pc = .ok (.baload, 1)) (t : State)
    (k : Steps p.tables e below (T.setTop { g with pc := g.pc + 1, stack := .int (f i) :: rest }) t) : Steps p.tables e below (T.setTop g) t := by
  obtain ⟨cl, A, r1, r2, r3, H, G⟩ := F
  obtain ⟨q1, q2⟩ := own_idx h1 (r2 ▸ h2)
  exact X.baloadBytes hx (j := j) (v := .int (f i)) (by rw [eT]; exact A.1) (State.isArrayOf_alike hZ.alike A.2.1) A.2.2 q1 (by rw [q2]; exact H i h2) hg hs hd t k
theorem own_zaload (X : Stand p l e R s m args below meth c T locs cells slots) (hx : p.tables.exec = Jvm.exec) (hZ : Z.Warmed39 s.vm) (eT : T.heap = h) {f : Nat → Int32} (F : own_A Z h a k .boolean n (fun i => .int (f i))) {j : Int32} {i : Nat} (h1 : j.toInt = (i : Int)) (h2 : i < n) {g : JFrame} (hg : g.method = m) {rest : List Value} (hs : g.stack = .int j :: .ref a :: rest) (hd : decode c.code g.pc = .ok (.baload, 1)) (t : State)
    (k : Steps p.tables e below (T.setTop { g with pc := g.pc + 1, stack := .int (f i) :: rest }) t) : Steps p.tables e below (T.setTop g) t := by
  obtain ⟨cl, A, r1, r2, r3, H, G⟩ := F
  obtain ⟨q1, q2⟩ := own_idx h1 (r2 ▸ h2)
  exact X.baloadBooleans hx (j := j) (v := .int (f i)) (by rw [eT]; exact A.1) (State.isArrayOf_alike hZ.alike A.2.1) A.2.2 q1 (by rw [q2]; exact H i h2) hg hs hd t k
theorem own_aaload (X : Stand p l e R s m args below meth c T locs cells slots) (hx : p.tables.exec = Jvm.exec) (hZ : Z.Warmed39 s.vm) (eT : T.heap = h) (F : own_A Z h a k ty n f) {j : Int32} {i : Nat} (h1 : j.toInt = (i : Int)) (h2 : i < n) (hty : ty.isReference = true) {g : JFrame} (hg : g.method = m) {rest : List Value} (hs : g.stack = .int j :: .ref a :: rest) (hd : decode c.code g.pc = .ok (.aaload, 1)) (t : State)
    (k : Steps p.tables e below (T.setTop { g with pc := g.pc + 1, stack := f i :: rest }) t) : Steps p.tables e below (T.setTop g) t := by
  obtain ⟨cl, A, r1, r2, r3, H, G⟩ := F
  obtain ⟨q1, q2⟩ := own_idx h1 (r2 ▸ h2)
  exact X.aaload hx (j := j) (v := f i) (by rw [eT]; exact A.1) (State.isArrayOf_alike hZ.alike A.2.1) hty A.2.2 q1 (by rw [q2]; exact H i h2) hg hs hd t k
theorem own_iastore (X : Stand p l e R s m args below meth c T locs cells slots) (hx : p.tables.exec = Jvm.exec) (hZ : Z.Warmed39 s.vm) (eT : T.heap = h) {f : Nat → Int32} (F : own_A Z h a k .int n (fun i => .int (f i))) {j : Int32} {x : Int32} {i : Nat} (h1 : j.toInt = (i : Int)) (h2 : i < n) {g : JFrame} (hg : g.method = m) {rest : List Value} (hs : g.stack = .int x :: .int j :: .ref a :: rest) (hd : decode c.code g.pc = .ok (.iastore, 1)) :
    ∃ T' h', Stand p l e R s m args below meth c T' (locs ++ [⟨a, i⟩]) cells slots ∧ T'.heap = h' ∧ Wr h h' a i (.int x) ∧ own_A Z h' a k .int n (fun q => .int (own_upd f i x q)) ∧ ∀ target, Steps p.tables e below (T'.setTop { g with pc := g.pc + 1, stack := rest }) target → Steps p.tables e below (T.setTop g) target := by
  have F0 := F
  obtain ⟨cl, A, r1, r2, r3, H, G⟩ := F
  obtain ⟨q1, q2⟩ := own_idx h1 (r2 ▸ h2)
  obtain ⟨T', h', X', e', W', st⟩ := stI X hx hZ eT A q1 hg hs hd
  rw [q2] at X' W'
  exact ⟨T', h', X', e', W', by rw [← own_updI]; exact own_setA F0 h2 W' rfl, st⟩
theorem own_lastore (X : Stand p l e R s m args below meth c T locs cells slots) (hx : p.tables.exec = Jvm.exec) (hZ : Z.Warmed39 s.vm) (eT : T.heap = h) {f : Nat → Int64} (F : own_A Z h a k .long n (fun i => .long (f i))) {j : Int32} {x : Int64} {i : Nat} (h1 : j.toInt = (i : Int)) (h2 : i < n) {g : JFrame} (hg : g.method = m) {rest : List Value} (hs : g.stack = .long x :: .int j :: .ref a :: rest) (hd : decode c.code g.pc = .ok (.lastore, 1)) :
    ∃ T' h', Stand p l e R s m args below meth c T' (locs ++ [⟨a, i⟩]) cells slots ∧ T'.heap = h' ∧ Wr h h' a i (.long x) ∧ own_A Z h' a k .long n (fun q => .long (own_upd f i x q)) ∧ ∀ target, Steps p.tables e below (T'.setTop { g with pc := g.pc + 1, stack := rest }) target → Steps p.tables e below (T.setTop g) target := by
  have F0 := F
  obtain ⟨cl, A, r1, r2, r3, H, G⟩ := F
  obtain ⟨q1, q2⟩ := own_idx h1 (r2 ▸ h2)
  obtain ⟨T', h', X', e', W', st⟩ := stJ X hx hZ eT A q1 hg hs hd
  rw [q2] at X' W'
  exact ⟨T', h', X', e', W', by rw [← own_updJ]; exact own_setA F0 h2 W' rfl, st⟩
theorem own_dastore (X : Stand p l e R s m args below meth c T locs cells slots) (hx : p.tables.exec = Jvm.exec) (hZ : Z.Warmed39 s.vm) (eT : T.heap = h) {f : Nat → UInt64} (F : own_A Z h a k .double n (fun i => .double (f i))) {j : Int32} {x : UInt64} {i : Nat} (h1 : j.toInt = (i : Int)) (h2 : i < n) {g : JFrame} (hg : g.method = m) {rest : List Value} (hs : g.stack = .double x :: .int j :: .ref a :: rest) (hd : decode c.code g.pc = .ok (.dastore, 1)) :
    ∃ T' h', Stand p l e R s m args below meth c T' (locs ++ [⟨a, i⟩]) cells slots ∧ T'.heap = h' ∧ Wr h h' a i (.double x) ∧ own_A Z h' a k .double n (fun q => .double (own_upd f i x q)) ∧ ∀ target, Steps p.tables e below (T'.setTop { g with pc := g.pc + 1, stack := rest }) target → Steps p.tables e below (T.setTop g) target := by
  have F0 := F
  obtain ⟨cl, A, r1, r2, r3, H, G⟩ := F
  obtain ⟨q1, q2⟩ := own_idx h1 (r2 ▸ h2)
  obtain ⟨T', h', X', e', W', st⟩ := stD X hx hZ eT A q1 hg hs hd
  rw [q2] at X' W'
  exact ⟨T', h', X', e', W', by rw [← own_updD]; exact own_setA F0 h2 W' rfl, st⟩
theorem own_castore (X : Stand p l e R s m args below meth c T locs cells slots) (hx : p.tables.exec = Jvm.exec) (hZ : Z.Warmed39 s.vm) (eT : T.heap = h) {f : Nat → Int32} (F : own_A Z h a k .char n (fun i => .int (f i))) {j x v' : Int32} {i : Nat} (h1 : j.toInt = (i : Int)) (h2 : i < n) (hv : nar .char x = v') {g : JFrame} (hg : g.method = m) {rest : List Value} (hs : g.stack = .int x :: .int j :: .ref a :: rest) (hd : decode c.code g.pc = .ok (.castore, 1)) :
    ∃ T' h', Stand p l e R s m args below meth c T' (locs ++ [⟨a, i⟩]) cells slots ∧ T'.heap = h' ∧ Wr h h' a i (.int v') ∧ own_A Z h' a k .char n (fun q => .int (own_upd f i v' q)) ∧ ∀ target, Steps p.tables e below (T'.setTop { g with pc := g.pc + 1, stack := rest }) target → Steps p.tables e below (T.setTop g) target := by
  have F0 := F
  obtain ⟨cl, A, r1, r2, r3, H, G⟩ := F
  obtain ⟨q1, q2⟩ := own_idx h1 (r2 ▸ h2)
  obtain ⟨T', h', X', e', W', st⟩ := stC X hx hZ eT A q1 hg hs hd
  rw [q2] at X' W'
  subst hv
  exact ⟨T', h', X', e', W', by rw [← own_updI]; exact own_setA F0 h2 W' (fits_nar_char _), st⟩
theorem own_bastore (X : Stand p l e R s m args below meth c T locs cells slots) (hx : p.tables.exec = Jvm.exec) (hZ : Z.Warmed39 s.vm) (eT : T.heap = h) {f : Nat → Int32} (F : own_A Z h a k .byte n (fun i => .int (f i))) {j x v' : Int32} {i : Nat} (h1 : j.toInt = (i : Int)) (h2 : i < n) (hv : nar .byte x = v') {g : JFrame} (hg : g.method = m) {rest : List Value} (hs : g.stack = .int x :: .int j :: .ref a :: rest) (hd : decode c.code g.pc = .ok (.bastore, 1)) :
    ∃ T' h', Stand p l e R s m args below meth c T' (locs ++ [⟨a, i⟩]) cells slots ∧ T'.heap = h' ∧ Wr h h' a i (.int v') ∧ own_A Z h' a k .byte n (fun q => .int (own_upd f i v' q)) ∧ ∀ target, Steps p.tables e below (T'.setTop { g with pc := g.pc + 1, stack := rest }) target → Steps p.tables e below (T.setTop g) target := by
  have F0 := F
  obtain ⟨cl, A, r1, r2, r3, H, G⟩ := F
  obtain ⟨q1, q2⟩ := own_idx h1 (r2 ▸ h2)
  obtain ⟨T', h', X', e', W', st⟩ := stB X hx hZ eT A q1 hg hs hd
  rw [q2] at X' W'
  subst hv
  exact ⟨T', h', X', e', W', by rw [← own_updI]; exact own_setA F0 h2 W' (fits_nar_byte _), st⟩
theorem own_zastore (X : Stand p l e R s m args below meth c T locs cells slots) (hx : p.tables.exec = Jvm.exec) (hZ : Z.Warmed39 s.vm) (eT : T.heap = h) {f : Nat → Int32} (F : own_A Z h a k .boolean n (fun i => .int (f i))) {j x v' : Int32} {i : Nat} (h1 : j.toInt = (i : Int)) (h2 : i < n) (hv : nar .boolean x = v') {g : JFrame} (hg : g.method = m) {rest : List Value} (hs : g.stack = .int x :: .int j :: .ref a :: rest) (hd : decode c.code g.pc = .ok (.bastore, 1)) :
    ∃ T' h', Stand p l e R s m args below meth c T' (locs ++ [⟨a, i⟩]) cells slots ∧ T'.heap = h' ∧ Wr h h' a i (.int v') ∧ own_A Z h' a k .boolean n (fun q => .int (own_upd f i v' q)) ∧ ∀ target, Steps p.tables e below (T'.setTop { g with pc := g.pc + 1, stack := rest }) target → Steps p.tables e below (T.setTop g) target := by
  have F0 := F
  obtain ⟨cl, A, r1, r2, r3, H, G⟩ := F
  obtain ⟨q1, q2⟩ := own_idx h1 (r2 ▸ h2)
  obtain ⟨T', h', X', e', W', st⟩ := stZ X hx hZ eT A q1 hg hs hd
  rw [q2] at X' W'
  subst hv
  exact ⟨T', h', X', e', W', by rw [← own_updI]; exact own_setA F0 h2 W' (fits_nar_bool _), st⟩
theorem own_sastore (X : Stand p l e R s m args below meth c T locs cells slots) (hx : p.tables.exec = Jvm.exec) (hZ : Z.Warmed39 s.vm) (eT : T.heap = h) {f : Nat → Int32} (F : own_A Z h a k .short n (fun i => .int (f i))) {j x v' : Int32} {i : Nat} (h1 : j.toInt = (i : Int)) (h2 : i < n) (hv : nar .short x = v') {g : JFrame} (hg : g.method = m) {rest : List Value} (hs : g.stack = .int x :: .int j :: .ref a :: rest) (hd : decode c.code g.pc = .ok (.sastore, 1)) :
    ∃ T' h', Stand p l e R s m args below meth c T' (locs ++ [⟨a, i⟩]) cells slots ∧ T'.heap = h' ∧ Wr h h' a i (.int v') ∧ own_A Z h' a k .short n (fun q => .int (own_upd f i v' q)) ∧ ∀ target, Steps p.tables e below (T'.setTop { g with pc := g.pc + 1, stack := rest }) target → Steps p.tables e below (T.setTop g) target := by
  have F0 := F
  obtain ⟨cl, A, r1, r2, r3, H, G⟩ := F
  obtain ⟨q1, q2⟩ := own_idx h1 (r2 ▸ h2)
  obtain ⟨T', h', X', e', W', st⟩ := stS X hx hZ eT A q1 hg hs hd
  rw [q2] at X' W'
  subst hv
  exact ⟨T', h', X', e', W', by rw [← own_updI]; exact own_setA F0 h2 W' (fits_nar_short _), st⟩
theorem own_aastore (X : Stand p l e R s m args below meth c T locs cells slots) (hx : p.tables.exec = Jvm.exec) (hZ : Z.Warmed39 s.vm) (eT : T.heap = h) (F : own_A Z h a k ty n f) {j : Int32} {i : Nat} (h1 : j.toInt = (i : Int)) (h2 : i < n) (hq : ty.isReference = true ∧ Sto Z h a v ∧ fits ty v = true) {g : JFrame} (hg : g.method = m) {rest : List Value} (hs : g.stack = v :: .int j :: .ref a :: rest) (hd : decode c.code g.pc = .ok (.aastore, 1)) :
    ∃ T' h', Stand p l e R s m args below meth c T' (locs ++ [⟨a, i⟩]) cells slots ∧ T'.heap = h' ∧ Wr h h' a i v ∧ own_A Z h' a k ty n (own_upd f i v) ∧ ∀ target, Steps p.tables e below (T'.setTop { g with pc := g.pc + 1, stack := rest }) target → Steps p.tables e below (T.setTop g) target := by
  have F0 := F
  obtain ⟨cl, A, r1, r2, r3, H, G⟩ := F
  obtain ⟨q1, q2⟩ := own_idx h1 (r2 ▸ h2)
  obtain ⟨T', h', X', e', W', st⟩ := stR X hx hZ eT A q1 hq.1 hq.2.1 hg hs hd
  rw [q2] at X' W'
  exact ⟨T', h', X', e', W', own_setA F0 h2 W' hq.2.2, st⟩
end OwnA

section OwnN
theorem own_inc {i : Int32} {k : Nat} (h : i.toInt = (k : Int)) (hk : k < 2147483647) : (i + 1).toInt = ((k + 1 : Nat) : Int) := by
  have e1 : (1 : Int32).toInt = 1 := by decide
  rw [Int32.toInt_add, h, e1, bmod32 (by omega) (by omega)]
  omega
theorem own_lt {i : Int32} {k n : Nat} (h : i.toInt = (k : Int)) (hn : n < 2147483648) : i < Int32.ofNat n ↔ k < n := by
  rw [Int32.lt_iff_toInt_lt, h, Int32.toInt_ofNat_of_lt (by omega)]
  omega
end OwnN

section OwnF
open Jvm.FP.Core in
theorem own_fin {i : Int} {a : UInt64} (ha : DInt i a) (sa : sgn (val64 a) = false) : ∃ c q, val64 a = .fin false c q := by
  unfold DInt at ha
  cases hva : val64 a with
  | nan => rw [hva] at ha; exact ha.elim
  | inf s => rw [hva] at ha; exact ha.elim
  | fin s c q => rw [hva] at sa; have es : s = false := sa; subst es; exact ⟨c, q, rfl⟩
open Jvm.FP.Core in
theorem own_quot {j : Int} {a b : UInt64} (ha : ∃ c q, val64 a = .fin false c q) (hb : DInt j b) (sb : sgn (val64 b) = false) (hj : j ≠ 0) :
    ∃ ca qa cb qb, val64 a = .fin false ca qa ∧ val64 b = .fin false cb qb ∧ 0 < cb ∧ -1074 ≤ qa ∧ zmag b64 (val64 a) = ca * 2 ^ (qa + 1074).toNat ∧ cb * 2 ^ qb.toNat = j.natAbs * 2 ^ (-qb).toNat ∧ val64 (FP.Core.ddiv a b) = roundRatio b64 false ca cb (qa - qb) ∧ val64 (FP.Core.dmul a b) = roundRatio b64 false (ca * cb) 1 (qa + qb) := by
  obtain ⟨ca, qa, hva⟩ := ha
  obtain ⟨cb, qb, hvb⟩ := own_fin hb sb
  unfold DInt at hb
  rw [hvb] at hb
  have hcb : cb ≠ 0 := fun q => hj ((whole_zero hb).mp q)
  have ff := val64_fits a
  rw [hva] at ff
  have hq := ff.2.1
  rw [qmin_b64] at hq
  refine ⟨ca, qa, cb, qb, hva, hvb, by omega, hq, ?_, whole_natAbs hb, ?_, ?_⟩
  · rw [hva]; show inUnits ca qa b64.qmin = _; rw [qmin_b64]; rfl
  · rw [val64_ddiv, hva, hvb]; simp [quotient, hcb]
  · rw [val64_dmul, hva, hvb]; simp [exactProduct, round]
theorem own_pow {v ca cb nj : Nat} {qa qb e0 : Int} (h0 : e0 ≤ -1074) (h0e : e0 ≤ qa - qb) (hq : -1074 ≤ qa) (e2 : cb * 2 ^ qb.toNat = nj * 2 ^ (-qb).toNat) :
    ∃ k, 0 < k ∧ ∃ m, 0 < m ∧ v * 2 ^ (-1074 - e0).toNat * cb * k = v * nj * m ∧ ca * 2 ^ (qa - qb - e0).toNat * k = ca * 2 ^ (qa + 1074).toNat * m := by
  refine ⟨2 ^ qb.toNat, Nat.two_pow_pos _, 2 ^ ((-1074 - e0).toNat + (-qb).toNat), Nat.two_pow_pos _, ?_, ?_⟩
  · calc v * 2 ^ (-1074 - e0).toNat * cb * 2 ^ qb.toNat = v * 2 ^ (-1074 - e0).toNat * (cb * 2 ^ qb.toNat) := by ac_rfl
      _ = v * nj * 2 ^ ((-1074 - e0).toNat + (-qb).toNat) := by rw [e2, Nat.pow_add]; ac_rfl
  · have e3 : (qa - qb - e0).toNat + qb.toNat = (qa + 1074).toNat + ((-1074 - e0).toNat + (-qb).toNat) := by omega
    rw [Nat.mul_assoc, ← Nat.pow_add, e3, Nat.pow_add, Nat.mul_assoc]
open Jvm.FP.Core in
theorem own_div_ge {j : Int} {a b V : UInt64} (ha : ∃ c q, val64 a = .fin false c q) (hb : DInt j b) (sb : sgn (val64 b) = false) (hj : j ≠ 0) (h : zmag b64 (val64 V) * j.natAbs ≤ zmag b64 (val64 a)) : zmag b64 (val64 V) ≤ zmag b64 (val64 (FP.Core.ddiv a b)) := by
  obtain ⟨ca, qa, cb, qb, -, -, hcb, hq, e1, e2, e3, -⟩ := own_quot ha hb sb hj
  rw [e3]
  obtain ⟨e0, g1, g2⟩ : ∃ e0 : Int, e0 ≤ -1074 ∧ e0 ≤ qa - qb := ⟨min (-1074) (qa - qb), by omega, by omega⟩
  refine zmag_roundRatio_ge good_b64 (e0 := e0) hcb (val64_fits V) (by rw [qmin_b64]; exact g1) g2 ?_
  rw [qmin_b64]
  obtain ⟨k, hk, m, hm, f1, f2⟩ := own_pow (v := zmag b64 (val64 V)) (ca := ca) g1 g2 hq e2
  unfold inUnits
  refine Nat.le_of_mul_le_mul_right ?_ hk
  rw [f1, f2, ← e1]
  exact Nat.mul_le_mul_right m h
open Jvm.FP.Core in
theorem own_div_le {j : Int} {a b V : UInt64} (ha : ∃ c q, val64 a = .fin false c q) (hb : DInt j b) (sb : sgn (val64 b) = false) (hj : j ≠ 0) (hV : val64 V ≠ .nan) (h : zmag b64 (val64 a) ≤ zmag b64 (val64 V) * j.natAbs) : zmag b64 (val64 (FP.Core.ddiv a b)) ≤ zmag b64 (val64 V) := by
  obtain ⟨ca, qa, cb, qb, -, -, hcb, hq, e1, e2, e3, -⟩ := own_quot ha hb sb hj
  rw [e3]
  obtain ⟨e0, g1, g2⟩ : ∃ e0 : Int, e0 ≤ -1074 ∧ e0 ≤ qa - qb := ⟨min (-1074) (qa - qb), by omega, by omega⟩
  refine zmag_roundRatio_le good_b64 (e0 := e0) hcb (val64_fits V) hV (by rw [qmin_b64]; exact g1) g2 ?_
  rw [qmin_b64]
  obtain ⟨k, hk, m, hm, f1, f2⟩ := own_pow (v := zmag b64 (val64 V)) (ca := ca) g1 g2 hq e2
  unfold inUnits
  refine Nat.le_of_mul_le_mul_right ?_ hk
  rw [f1, f2, ← e1]
  exact Nat.mul_le_mul_right m h
open Jvm.FP.Core in
theorem own_div_nn {j : Int} {a b : UInt64} (ha : ∃ c q, val64 a = .fin false c q) (hb : DInt j b) (sb : sgn (val64 b) = false) (hj : j ≠ 0) : val64 (FP.Core.ddiv a b) ≠ .nan ∧ sgn (val64 (FP.Core.ddiv a b)) = false := by
  obtain ⟨ca, qa, cb, qb, -, -, hcb, -, e1, e2, e3, -⟩ := own_quot ha hb sb hj
  rw [e3]
  exact ⟨roundRatio_ne_nan _ _ _ _ _, sgn_roundRatio _ _ _ _ _⟩
open Jvm.FP.Core in
/-- a product that is a number of the format -/
theorem own_mul_eq {j : Int} {a b V : UInt64} (ha : ∃ c q, val64 a = .fin false c q) (hb : DInt j b) (sb : sgn (val64 b) = false) (hj : j ≠ 0) (hV : val64 V ≠ .nan) (h : zmag b64 (val64 a) * j.natAbs = zmag b64 (val64 V)) :
    val64 (FP.Core.dmul a b) ≠ .nan ∧ sgn (val64 (FP.Core.dmul a b)) = false ∧ zmag b64 (val64 (FP.Core.dmul a b)) = zmag b64 (val64 V) := by
  obtain ⟨ca, qa, cb, qb, -, -, hcb, hq, e1, e2, -, e3⟩ := own_quot ha hb sb hj
  rw [e3]
  refine ⟨roundRatio_ne_nan _ _ _ _ _, sgn_roundRatio _ _ _ _ _, ?_⟩
  obtain ⟨e0, g1, g2⟩ : ∃ e0 : Int, e0 ≤ -1074 ∧ e0 ≤ qa + qb := ⟨min (-1074) (qa + qb), by omega, by omega⟩
  have key : inUnits (ca * cb) (qa + qb) e0 = zmag b64 (val64 V) * 2 ^ (b64.qmin - e0).toNat * 1 := by
    rw [← h, e1, qmin_b64, Nat.mul_one]
    unfold inUnits
    refine Nat.eq_of_mul_eq_mul_right (Nat.two_pow_pos qb.toNat) ?_
    have e4 : (qa + qb - e0).toNat + (-qb).toNat = (qa + 1074).toNat + (-1074 - e0).toNat + qb.toNat := by omega
    calc ca * cb * 2 ^ (qa + qb - e0).toNat * 2 ^ qb.toNat = ca * (cb * 2 ^ qb.toNat) * 2 ^ (qa + qb - e0).toNat := by ac_rfl
      _ = ca * j.natAbs * 2 ^ ((qa + qb - e0).toNat + (-qb).toNat) := by rw [e2, Nat.pow_add]; ac_rfl
      _ = ca * 2 ^ (qa + 1074).toNat * j.natAbs * 2 ^ (-1074 - e0).toNat * 2 ^ qb.toNat := by rw [e4, Nat.pow_add, Nat.pow_add]; ac_rfl
  exact Nat.le_antisymm (zmag_roundRatio_le good_b64 (by decide) (val64_fits V) hV (by rw [qmin_b64]; exact g1) g2 (Nat.le_of_eq key)) (zmag_roundRatio_ge good_b64 (by decide) (val64_fits V) (by rw [qmin_b64]; exact g1) g2 (Nat.le_of_eq key.symm))
open Jvm.FP.Core in
theorem own_l2d_s {n : Int64} (h : 0 ≤ n.toInt) : sgn (val64 (FP.Core.l2d n)) = false := by
  obtain ⟨c, q, e⟩ := l2d_shape n
  rw [e]
  simp [FP.Core.sgn, h]
open Jvm.FP.Core in
theorem own_l2d_f {n : Int64} (h : 0 ≤ n.toInt) : ∃ c q, val64 (FP.Core.l2d n) = .fin false c q := by
  obtain ⟨c, q, e⟩ := l2d_shape n
  exact ⟨c, q, e.trans (by rw [decide_eq_false (by omega)])⟩
open Jvm.FP.Core in
theorem own_zval {a : UInt64} (h : sgn (val64 a) = false) : zval b64 (val64 a) = (zmag b64 (val64 a) : Int) := by
  unfold zval; rw [h]; rfl
open Jvm.FP.Core in
theorem own_zmagI {i : Int} {a : UInt64} (h : DInt i a) (s : sgn (val64 a) = false) : (zmag b64 (val64 a) : Int) = i * ((FP.Core.one64 : Nat) : Int) := by
  rw [← own_zval s, DInt_zval h]
open Jvm.FP.Core in
/-- a double of the worth c / 2 ^ k -/
theorem own_frac {c k : Nat} (hc : c < 2 ^ 53) (hk : k ≤ 900) : ∃ V : UInt64, (∃ c q, val64 V = .fin false c q) ∧ val64 V ≠ .nan ∧ sgn (val64 V) = false ∧ zmag b64 (val64 V) * 2 ^ k = c * FP.Core.one64 := by
  obtain ⟨c', q', e1, e2⟩ := round_exact good_b64 false (c := c) (q := -(k : Int)) hc (by rw [qmin_b64]; omega) (by show -(k : Int) ≤ 971; omega)
  have e : val64 (of64 (.fin false c' q')) = .fin false c' q' := val64_of64 (by rw [← e1]; exact round_fits good_b64 _)
  refine ⟨of64 (.fin false c' q'), ⟨c', q', e⟩, ?_, ?_, ?_⟩
  all_goals rw [e]
  · simp
  · rfl
  · show inUnits c' q' b64.qmin * 2 ^ k = _
    rw [e2, qmin_b64]
    rw [← pow_qmin64, qmin_b64]
    unfold inUnits
    rw [Nat.mul_assoc, ← Nat.pow_add]
    have ek : (-(k : Int) - -1074).toNat + k = (- -1074 : Int).toNat := by omega
    rw [ek]
open Jvm.FP.Core in
theorem own_cmp {a b : UInt64} (na : val64 a ≠ .nan) (nb : val64 b ≠ .nan) (sa : sgn (val64 a) = false) (sb : sgn (val64 b) = false) : FP.dcmp a b = some (compare (zmag b64 (val64 a) : Int) (zmag b64 (val64 b) : Int)) := by
  have h := dcmp_zval na nb
  rw [own_zval sa, own_zval sb] at h
  exact h
open Jvm.FP.Core in
theorem own_cmpLt {a b : UInt64} (na : val64 a ≠ .nan) (nb : val64 b ≠ .nan) (sa : sgn (val64 a) = false) (sb : sgn (val64 b) = false) (h : zmag b64 (val64 a) < zmag b64 (val64 b)) (o : CmpOp) : cmpValue (FP.dcmp a b) o = -1 := by
  rw [own_cmp na nb sa sb, (compare_lt_iff _ _).mpr (by omega)]; rfl
open Jvm.FP.Core in
theorem own_cmpEq {a b : UInt64} (na : val64 a ≠ .nan) (nb : val64 b ≠ .nan) (sa : sgn (val64 a) = false) (sb : sgn (val64 b) = false) (h : zmag b64 (val64 a) = zmag b64 (val64 b)) (o : CmpOp) : cmpValue (FP.dcmp a b) o = 0 := by
  rw [own_cmp na nb sa sb, (compare_eq_iff _ _).mpr (by omega)]; rfl
open Jvm.FP.Core in
theorem own_cmpLe {a b : UInt64} (na : val64 a ≠ .nan) (nb : val64 b ≠ .nan) (sa : sgn (val64 a) = false) (sb : sgn (val64 b) = false) (h : zmag b64 (val64 a) ≤ zmag b64 (val64 b)) (o : CmpOp) : ¬ (0 : Int32) < cmpValue (FP.dcmp a b) o := by
  rcases Nat.lt_or_eq_of_le h with q | q
  · rw [own_cmpLt na nb sa sb q]; decide
  · rw [own_cmpEq na nb sa sb q]; decide
open Jvm.FP.Core in
theorem own_l2d_nn (n : Int64) : val64 (FP.Core.l2d n) ≠ .nan := by
  obtain ⟨c, q, e⟩ := l2d_shape n
  rw [e]; simp
open Jvm.FP.Core in
theorem own_l2d_z {n : Int64} (h : 0 ≤ n.toInt) (h' : n.toInt ≤ 9007199254740992) : zmag b64 (val64 (FP.Core.l2d n)) = n.toInt.natAbs * FP.Core.one64 := by
  have q := own_zmagI (l2d_int (a := n) (by have : (2 : Nat) ^ 53 = 9007199254740992 := by decide
                                            omega)) (own_l2d_s h)
  have e : ((n.toInt.natAbs : Nat) : Int) = n.toInt := by omega
  rw [← e] at q
  generalize FP.Core.one64 = P at q ⊢
  exact_mod_cast q
theorem own_unit : ∃ P : Nat, 0 < P ∧ P = FP.Core.one64 := ⟨_, FP.Core.one64_pos, rfl⟩
theorem own_l2d_i {n : Int64} (h : 0 ≤ n.toInt) (h' : n.toInt ≤ 9007199254740992) : FP.Core.DInt n.toInt (FP.Core.l2d n) := FP.Core.l2d_int (by
  have : (2 : Nat) ^ 53 = 9007199254740992 := by decide
  omega)
theorem own_dv_eq {n d k : Int64} (hn : 0 ≤ n.toInt) (hn' : n.toInt ≤ 9007199254740992) (hd : 0 < d.toInt) (hd' : d.toInt ≤ 9007199254740992) (hk : 0 ≤ k.toInt) (e : n.toInt = k.toInt * d.toInt) (o : CmpOp) : cmpValue (FP.dcmp (FP.ddiv (FP.l2d n) (FP.l2d d)) (FP.l2d k)) o = 0 := by
  have hk' : k.toInt ≤ 9007199254740992 := by
    have : k.toInt * 1 ≤ k.toInt * d.toInt := Int.mul_le_mul_of_nonneg_left (by omega) hk
    omega
  have Ad := own_l2d_i (Int.le_of_lt hd) hd'
  obtain ⟨q1, q2⟩ := own_div_nn (own_l2d_f hn) Ad (own_l2d_s (Int.le_of_lt hd)) (by omega)
  refine own_cmpEq q1 (own_l2d_nn k) q2 (own_l2d_s hk) ?_ o
  have zk := own_l2d_z hk hk'
  have zn := own_l2d_z hn hn'
  have e' : n.toInt.natAbs = k.toInt.natAbs * d.toInt.natAbs := by rw [e, Int.natAbs_mul]
  have e2 : FP.Core.zmag FP.Core.b64 (FP.Core.val64 (FP.Core.l2d k)) * d.toInt.natAbs = FP.Core.zmag FP.Core.b64 (FP.Core.val64 (FP.Core.l2d n)) := by
    rw [zk, zn, e']
    generalize FP.Core.one64 = P
    ac_rfl
  exact Nat.le_antisymm (own_div_le (own_l2d_f hn) Ad (own_l2d_s (Int.le_of_lt hd)) (by omega) (own_l2d_nn k) (Nat.le_of_eq e2.symm)) (own_div_ge (own_l2d_f hn) Ad (own_l2d_s (Int.le_of_lt hd)) (by omega) (Nat.le_of_eq e2))
end OwnF


def own_dot (f g : Nat → UInt64) : Nat → UInt64
  | 0 => FP.dconst0
  | k + 1 => FP.dadd (own_dot f g k) (FP.dmul (f k) (g k))
def own_sum (x y : Nat → Int) : Nat → Int
  | 0 => 0
  | k + 1 => own_sum x y k + x k * y k
/-- whole and small -/
def own_small (f : Nat → UInt64) (x : Nat → Int) : Prop := ∀ i, FP.Core.DInt (x i) (f i) ∧ -32768 ≤ x i ∧ x i ≤ 32768
theorem own_prod {a b : Int} (a0 : -32768 ≤ a) (a1 : a ≤ 32768) (b0 : -32768 ≤ b) (b1 : b ≤ 32768) : -1073741824 ≤ a * b ∧ a * b ≤ 1073741824 := by
  have := mc a0 a1 b0 b1
  constructor <;> omega
theorem own_dint0 : FP.Core.DInt 0 FP.dconst0 := by
  have h := FP.Core.l2d_int (a := 0) (by decide)
  exact h
theorem own_pd {f g : Nat → UInt64} {x y : Nat → Int} (hf : own_small f x) (hg : own_small g y) (i : Nat) : FP.Core.DInt (x i * y i) (FP.dmul (f i) (g i)) := by
  obtain ⟨a1, a2, a3⟩ := hf i
  obtain ⟨b1, b2, b3⟩ := hg i
  have := own_prod a2 a3 b2 b3
  refine FP.Core.dmul_int a1 b1 ?_
  have : (2 : Nat) ^ 53 = 9007199254740992 := by decide
  omega
theorem own_sb {x y : Nat → Int} {f g : Nat → UInt64} (hf : own_small f x) (hg : own_small g y) : ∀ k : Nat, -1073741824 * (k : Int) ≤ own_sum x y k ∧ own_sum x y k ≤ 1073741824 * (k : Int)
  | 0 => by simp [own_sum]
  | k + 1 => by
    have h := own_sb hf hg k
    have q := own_prod (hf k).2.1 (hf k).2.2 (hg k).2.1 (hg k).2.2
    simp only [own_sum]; push_cast; omega
theorem own_dd {f g : Nat → UInt64} {x y : Nat → Int} (hf : own_small f x) (hg : own_small g y) : ∀ k : Nat, k ≤ 1000 → FP.Core.DInt (own_sum x y k) (own_dot f g k)
  | 0, _ => own_dint0
  | k + 1, hk => by
    have h := own_dd hf hg k (by omega)
    have b := own_sb hf hg (k + 1)
    refine FP.Core.dadd_int h (own_pd hf hg k) ?_
    have e : own_sum x y (k + 1) = own_sum x y k + x k * y k := rfl
    rw [← e]
    have : (2 : Nat) ^ 53 = 9007199254740992 := by decide
    push_cast at b
    omega
theorem own_nnm {f g : Nat → UInt64} {x y : Nat → Int} (hf : own_small f x) (hg : own_small g y) (i : Nat) : Fl.NoNaN64 (FP.dmul (f i) (g i)) := Fl.val64_no.mpr (FP.Core.DInt_ne_nan (own_pd hf hg i))
theorem own_nna {f g : Nat → UInt64} {x y : Nat → Int} (hf : own_small f x) (hg : own_small g y) {i : Nat} (hi : i < 1000) : Fl.NoNaN64 (FP.dadd (own_dot f g i) (FP.dmul (f i) (g i))) := Fl.val64_no.mpr (FP.Core.DInt_ne_nan (own_dd hf hg (i + 1) (by omega)))
theorem own_cmpI {i : Int} {a : UInt64} {n : Int64} (h : FP.Core.DInt i a) (e : n.toInt = i) (hb : i.natAbs ≤ 9007199254740992) (o : CmpOp) : cmpValue (FP.dcmp a (FP.l2d n)) o = 0 := by
  have q : FP.dcmp a (FP.l2d n) = some (compare i n.toInt) := FP.Core.dcmp_int h (FP.Core.l2d_int (by have p53 : (2 : Nat) ^ 53 = 9007199254740992 := (by decide); omega))
  rw [q, e, FP.Core.compare_self_int]; rfl
theorem own_sh (p : Int32) : -32768 ≤ ((p >>> ((16 : Int32) &&& 31)).toInt64).toInt ∧ ((p >>> ((16 : Int32) &&& 31)).toInt64).toInt ≤ 32768 := by
  rw [c_i2l, c_ishr p 16 16 (by decide)]
  have := rng32 p
  have e : ((2 ^ 16 : Nat) : Int) = 65536 := by decide
  rw [e]; omega
def own_xl (a b c : Int64) (n : Nat) : Nat → Int64 := fun i => if n ≤ i then 0 else if i = 0 then a else if i = 1 then b else if i = 2 then c else 0
theorem own_f0 (a b c : Int64) (i : Nat) : (fun _ => (0 : UInt64)) i = FP.l2d (own_xl a b c 0 i) := by
  simp only [own_xl, Nat.zero_le, if_true]; exact l2d_zero.symm
theorem own_f1 (a b c : Int64) (i : Nat) : own_upd (fun _ => (0 : UInt64)) 0 (FP.l2d a) i = FP.l2d (own_xl a b c 1 i) := by
  match i with
  | 0 => rfl
  | k + 1 =>
    have e : own_xl a b c 1 (k + 1) = 0 := by simp only [own_xl]; rw [if_pos (by omega)]
    rw [e]; exact l2d_zero.symm
theorem own_f2 (a b c : Int64) (i : Nat) : own_upd (own_upd (fun _ => (0 : UInt64)) 0 (FP.l2d a)) 1 (FP.l2d b) i = FP.l2d (own_xl a b c 2 i) := by
  match i with
  | 0 => rfl
  | 1 => rfl
  | k + 2 =>
    have e : own_xl a b c 2 (k + 2) = 0 := by simp only [own_xl]; rw [if_pos (by omega)]
    rw [e]
    simp only [own_upd]
    rw [if_neg (by omega), if_neg (by omega)]; exact l2d_zero.symm
theorem own_f3 (a b c : Int64) (i : Nat) : own_upd (own_upd (own_upd (fun _ => (0 : UInt64)) 0 (FP.l2d a)) 1 (FP.l2d b)) 2 (FP.l2d c) i = FP.l2d (own_xl a b c 3 i) := by
  match i with
  | 0 => rfl
  | 1 => rfl
  | 2 => rfl
  | k + 3 =>
    have e : own_xl a b c 3 (k + 3) = 0 := by simp only [own_xl]; rw [if_pos (by omega)]
    rw [e]
    simp only [own_upd]
    rw [if_neg (by omega), if_neg (by omega), if_neg (by omega)]; exact l2d_zero.symm
def own_xs (a b c : Int) (n : Nat) : Nat → Int := fun i => if n ≤ i then 0 else if i = 0 then a else if i = 1 then b else if i = 2 then c else 0
theorem own_smallL {f : Nat → UInt64} {a b c : Int64} {n : Nat} (ha : -32768 ≤ a.toInt ∧ a.toInt ≤ 32768) (hb : -32768 ≤ b.toInt ∧ b.toInt ≤ 32768) (hc : -32768 ≤ c.toInt ∧ c.toInt ≤ 32768) (h : ∀ i, f i = FP.l2d (own_xl a b c n i)) : own_small f (own_xs a.toInt b.toInt c.toInt n) := by
  intro i
  rw [h i]
  have e53 : (2 : Nat) ^ 53 = 9007199254740992 := by decide
  have z : (0 : Int64).toInt = 0 := by decide
  unfold own_xs own_xl
  split
  · exact ⟨z ▸ FP.Core.l2d_int (by rw [z]; decide), by omega, by omega⟩
  · split
    · exact ⟨FP.Core.l2d_int (by omega), ha.1, ha.2⟩
    · split
      · exact ⟨FP.Core.l2d_int (by omega), hb.1, hb.2⟩
      · split
        · exact ⟨FP.Core.l2d_int (by omega), hc.1, hc.2⟩
        · exact ⟨z ▸ FP.Core.l2d_int (by rw [z]; decide), by omega, by omega⟩

theorem own_d1_0 : decode prog_51_method_2_code 0 = .ok (.dconst 0, 1) := by decide +kernel
theorem own_d1_1 : decode prog_51_method_2_code 1 = .ok (.dstore_n 2, 1) := by decide +kernel
theorem own_d1_2 : decode prog_51_method_2_code 2 = .ok (.iconst 0, 1) := by decide +kernel
theorem own_d1_3 : decode prog_51_method_2_code 3 = .ok (.istore 4, 2) := by decide +kernel
theorem own_d1_5 : decode prog_51_method_2_code 5 = .ok (.iload 4, 2) := by decide +kernel
theorem own_d1_7 : decode prog_51_method_2_code 7 = .ok (.aload_n 0, 1) := by decide +kernel
theorem own_d1_8 : decode prog_51_method_2_code 8 = .ok (.arraylength, 1) := by decide +kernel
theorem own_d1_9 : decode prog_51_method_2_code 9 = .ok (.if_icmp .ge 21, 3) := by decide +kernel
theorem own_d1_12 : decode prog_51_method_2_code 12 = .ok (.dload_n 2, 1) := by decide +kernel
theorem own_d1_13 : decode prog_51_method_2_code 13 = .ok (.aload_n 0, 1) := by decide +kernel
theorem own_d1_14 : decode prog_51_method_2_code 14 = .ok (.iload 4, 2) := by decide +kernel
theorem own_d1_16 : decode prog_51_method_2_code 16 = .ok (.daload, 1) := by decide +kernel
theorem own_d1_17 : decode prog_51_method_2_code 17 = .ok (.aload_n 1, 1) := by decide +kernel
theorem own_d1_18 : decode prog_51_method_2_code 18 = .ok (.iload 4, 2) := by decide +kernel
theorem own_d1_20 : decode prog_51_method_2_code 20 = .ok (.daload, 1) := by decide +kernel
theorem own_d1_21 : decode prog_51_method_2_code 21 = .ok (.dmul, 1) := by decide +kernel
theorem own_d1_22 : decode prog_51_method_2_code 22 = .ok (.dadd, 1) := by decide +kernel
theorem own_d1_23 : decode prog_51_method_2_code 23 = .ok (.dstore_n 2, 1) := by decide +kernel
theorem own_d1_24 : decode prog_51_method_2_code 24 = .ok (.iinc 4 1, 3) := by decide +kernel
theorem own_d1_27 : decode prog_51_method_2_code 27 = .ok (.goto (-22), 3) := by decide +kernel
theorem own_d1_30 : decode prog_51_method_2_code 30 = .ok (.dload_n 2, 1) := by decide +kernel
theorem own_d1_31 : decode prog_51_method_2_code 31 = .ok (.dreturn, 1) := by decide +kernel
theorem own_pn0 : plainName "com/example/provender/provender/solver/Row" = true := by first | (simp [plainName, overriddenIn]; done) | decide +kernel
theorem own_ef1 (m : MethodId) (x0 : Addr) (x1 : Addr) : entryFrame m #[(.ref x0), (.ref x1)] 5 = mkF m 0 #[.val (.ref x0), .val (.ref x1), .unset, .unset, .unset] [] := by first | (simp [entryFrame, mkF, argsToLocals, Value.category]; done) | rfl
def own_Q1 (Z : State) (a1 : Addr) (a2 : Addr) (k1 : ClassId) (k2 : ClassId) (n1 : Nat) (n2 : Nat) (f : Nat → UInt64) (g : Nat → UInt64) (x : Nat → Int) (y : Nat → Int) (h0 : Heap) (n0 : Nat) (v : Option Value) (h : Heap) (L : List Loc) : Prop := v = some (.double (own_dot f g n1)) ∧ Fr n0 L ∧ h = h0
set_option maxRecDepth 65536 in
set_option maxHeartbeats 40000000 in
theorem own_rm1 (l : Launch) (Z : State) (a0 : Array Value) (hw : ∀ d ∈ tables_1, d.before a0 Z = true) (ws : List Jvm.Cond) (a1 : Addr) (a2 : Addr) (k1 : ClassId) (k2 : ClassId) (n1 : Nat) (n2 : Nat) (f : Nat → UInt64) (g : Nat → UInt64) (x : Nat → Int) (y : Nat → Int) (h0 : Heap) (n0 : Nat) (Z0 : n0 ≤ h0.size) (q0 : own_A Z h0 a1 k1 .double n1 (fun i => .double (f i))) (q1 : own_A Z h0 a2 k2 .double n2 (fun i => .double (g i))) (hf : own_small f x) (hg : own_small g y) (hn : n1 ≤ n2 ∧ n1 ≤ 3) :
    MetFree l (⟨"com/example/provender/provender/solver/Row", "dot", "([D[D)D"⟩ : MethodName) (head1 (Jvm.Cond.code (⟨"com/example/provender/provender/solver/Row", "dot", "([D[D)D"⟩ : MethodName) prog_51_method_2_code 5 (some .double) :: ws) ({ frames := 0, cells := 0, slots := 0, locals := 0 } : Room)) (fun a U => a = #[(.ref a1), (.ref a2)] ∧ Z.Warmed39 U.vm ∧ U.heap = h0) (fun _ _ _ _ _ => True) (fun _ U o U' => ∃ v L, o = .returned v ∧ own_Q1 Z a1 a2 k1 k2 n1 n2 f g x y h0 n0 v U'.heap L ∧ FrameEnd U o U' L ({ frames := 0, cells := 0, slots := 0, locals := 0 } : Room).cells ({ frames := 0, cells := 0, slots := 0, locals := 0 } : Room).slots) := by
  refine MetFree.of_bodySF (plainFor_of_name own_pn0) hisR ?_
  intro p e s m args below meth c s₁ Bd hml0 hP hK
  obtain ⟨rfl, hZ, hh⟩ := hP
  have hx := Bd.exec
  have hby := Bd.bytes
  have hml : c.maxLocals = 5 := hml0
  have hown : s.vm.findClass "com/example/provender/provender/solver/Row" = some m.cls := findClass_of_methodNamed Bd.named
  have hnm := (name_of_methodNamed Bd.named Bd.method).1
  have hnl : meth.locks = false := Bd.notSynchronized
  have X0 : Stand p l e ({ frames := 0, cells := 0, slots := 0, locals := 0 } : Room) s m #[(.ref a1), (.ref a2)] below meth c s₁ [] 0 0 := Stand.of_body Bd
  have e0 : s₁.heap = h0 := by rw [← hh, Bd.state]; rfl
  have N0 := Fr.nil n0
  show own_Go p.tables e below (own_P below s (own_Q1 Z a1 a2 k1 k2 n1 n2 f g x y h0 n0) ({ frames := 0, cells := 0, slots := 0, locals := 0 } : Room).cells ({ frames := 0, cells := 0, slots := 0, locals := 0 } : Room).slots) _
  refine own_st (fun t_ k_ => castTop (own_ef1 m a1 a2) k_) ?_
  show own_Go p.tables e below _ (s₁.setTop (mkF m 0 #[.val (.ref a1), .val (.ref a2), .unset, .unset, .unset] []))
  refine own_st (fun t_ k_ => XS.dconst0 X0.here hx rfl (hb hby own_d1_0) rfl k_) ?_
  show own_Go p.tables e below _ (s₁.setTop (mkF m 1 #[.val (.ref a1), .val (.ref a2), .unset, .unset, .unset] [(.double FP.dconst0)]))
  refine own_st (fun t_ k_ => XS.dstoreN X0.here hx rfl (hb hby own_d1_1) rfl (l' := #[.val (.ref a1), .val (.ref a2), .val (.double FP.dconst0), .second, .unset]) rfl k_) ?_
  show own_Go p.tables e below _ (s₁.setTop (mkF m 2 #[.val (.ref a1), .val (.ref a2), .val (.double FP.dconst0), .second, .unset] []))
  refine own_st (fun t_ k_ => XS.iconst X0.here hx rfl (hb hby own_d1_2) k_) ?_
  show own_Go p.tables e below _ (s₁.setTop (mkF m 3 #[.val (.ref a1), .val (.ref a2), .val (.double FP.dconst0), .second, .unset] [(.int (0 : Int32))]))
  refine own_st (fun t_ k_ => XS.istore X0.here hx rfl (hb hby own_d1_3) rfl (l' := #[.val (.ref a1), .val (.ref a2), .val (.double FP.dconst0), .second, .val (.int (0 : Int32))]) rfl k_) ?_
  show own_Go p.tables e below _ (s₁.setTop (mkF m 5 #[.val (.ref a1), .val (.ref a2), .val (.double FP.dconst0), .second, .val (.int (0 : Int32))] []))
  have loop101 : ∀ (mm : Nat) (k : Nat) (i : Int32) (T101 : State) (Lo101 : List Loc), n1 - k = mm → Stand p l e ({ frames := 0, cells := 0, slots := 0, locals := 0 } : Room) s m #[(.ref a1), (.ref a2)] below meth c T101 Lo101 0 0 → T101.heap = h0 → Fr n0 Lo101 → i.toInt = (k : Int) → k ≤ n1 → own_Go p.tables e below (own_P below s (own_Q1 Z a1 a2 k1 k2 n1 n2 f g x y h0 n0) ({ frames := 0, cells := 0, slots := 0, locals := 0 } : Room).cells ({ frames := 0, cells := 0, slots := 0, locals := 0 } : Room).slots) (T101.setTop (mkF m 5 #[.val (.ref a1), .val (.ref a2), .val (.double (own_dot f g k)), .second, .val (.int i)] [])) := by
    intro mm
    induction mm using Nat.strongRecOn with
    | _ mm ih101 =>
      intro k i T101 Lo101 hm101 X101 e101 N101 hi hk
      show own_Go p.tables e below _ (T101.setTop (mkF m 5 #[.val (.ref a1), .val (.ref a2), .val (.double (own_dot f g k)), .second, .val (.int i)] []))
      refine own_st (fun t_ k_ => XS.iload X101.here hx rfl (hb hby own_d1_5) rfl k_) ?_
      show own_Go p.tables e below _ (T101.setTop (mkF m 7 #[.val (.ref a1), .val (.ref a2), .val (.double (own_dot f g k)), .second, .val (.int i)] [(.int i)]))
      refine own_st (fun t_ k_ => XS.aloadN X101.here hx rfl (hb hby own_d1_7) rfl rfl k_) ?_
      show own_Go p.tables e below _ (T101.setTop (mkF m 8 #[.val (.ref a1), .val (.ref a2), .val (.double (own_dot f g k)), .second, .val (.int i)] [(.ref a1), (.int i)]))
      refine own_st (own_len X101 hx hZ e101 q0 (g := (mkF m 8 #[.val (.ref a1), .val (.ref a2), .val (.double (own_dot f g k)), .second, .val (.int i)] [(.ref a1), (.int i)])) rfl rfl (hb hby own_d1_8)) ?_
      show own_Go p.tables e below _ (T101.setTop (mkF m 9 #[.val (.ref a1), .val (.ref a2), .val (.double (own_dot f g k)), .second, .val (.int i)] [(.int (Int32.ofNat n1)), (.int i)]))
      by_cases c9_102 : i < (Int32.ofNat n1)
      · skip
        have hkn : k < n1 := (own_lt hi (by omega)).mp c9_102
        refine own_st (fun t_ k_ => XS.icmpNo X101.here hx rfl (hb hby own_d1_9) rfl (tlt c9_102).2.1 k_) ?_
        show own_Go p.tables e below _ (T101.setTop (mkF m 12 #[.val (.ref a1), .val (.ref a2), .val (.double (own_dot f g k)), .second, .val (.int i)] []))
        refine own_st (fun t_ k_ => XS.dloadN X101.here hx rfl (hb hby own_d1_12) rfl k_) ?_
        show own_Go p.tables e below _ (T101.setTop (mkF m 13 #[.val (.ref a1), .val (.ref a2), .val (.double (own_dot f g k)), .second, .val (.int i)] [(.double (own_dot f g k))]))
        refine own_st (fun t_ k_ => XS.aloadN X101.here hx rfl (hb hby own_d1_13) rfl rfl k_) ?_
        show own_Go p.tables e below _ (T101.setTop (mkF m 14 #[.val (.ref a1), .val (.ref a2), .val (.double (own_dot f g k)), .second, .val (.int i)] [(.ref a1), (.double (own_dot f g k))]))
        refine own_st (fun t_ k_ => XS.iload X101.here hx rfl (hb hby own_d1_14) rfl k_) ?_
        show own_Go p.tables e below _ (T101.setTop (mkF m 16 #[.val (.ref a1), .val (.ref a2), .val (.double (own_dot f g k)), .second, .val (.int i)] [(.int i), (.ref a1), (.double (own_dot f g k))]))
        refine own_st (own_daload X101 hx hZ e101 q0 (i := k) hi hkn (g := (mkF m 16 #[.val (.ref a1), .val (.ref a2), .val (.double (own_dot f g k)), .second, .val (.int i)] [(.int i), (.ref a1), (.double (own_dot f g k))])) rfl rfl (hb hby own_d1_16)) ?_
        show own_Go p.tables e below _ (T101.setTop (mkF m 17 #[.val (.ref a1), .val (.ref a2), .val (.double (own_dot f g k)), .second, .val (.int i)] [(.double (f k)), (.double (own_dot f g k))]))
        refine own_st (fun t_ k_ => XS.aloadN X101.here hx rfl (hb hby own_d1_17) rfl rfl k_) ?_
        show own_Go p.tables e below _ (T101.setTop (mkF m 18 #[.val (.ref a1), .val (.ref a2), .val (.double (own_dot f g k)), .second, .val (.int i)] [(.ref a2), (.double (f k)), (.double (own_dot f g k))]))
        refine own_st (fun t_ k_ => XS.iload X101.here hx rfl (hb hby own_d1_18) rfl k_) ?_
        show own_Go p.tables e below _ (T101.setTop (mkF m 20 #[.val (.ref a1), .val (.ref a2), .val (.double (own_dot f g k)), .second, .val (.int i)] [(.int i), (.ref a2), (.double (f k)), (.double (own_dot f g k))]))
        refine own_st (own_daload X101 hx hZ e101 q1 (i := k) hi (by omega) (g := (mkF m 20 #[.val (.ref a1), .val (.ref a2), .val (.double (own_dot f g k)), .second, .val (.int i)] [(.int i), (.ref a2), (.double (f k)), (.double (own_dot f g k))])) rfl rfl (hb hby own_d1_20)) ?_
        show own_Go p.tables e below _ (T101.setTop (mkF m 21 #[.val (.ref a1), .val (.ref a2), .val (.double (own_dot f g k)), .second, .val (.int i)] [(.double (g k)), (.double (f k)), (.double (own_dot f g k))]))
        refine own_st (fun t_ k_ => XS.dmulS X101.here hx rfl (hb hby own_d1_21) rfl (own_nnm hf hg k) rfl k_) ?_
        show own_Go p.tables e below _ (T101.setTop (mkF m 22 #[.val (.ref a1), .val (.ref a2), .val (.double (own_dot f g k)), .second, .val (.int i)] [(.double (FP.dmul (f k) (g k))), (.double (own_dot f g k))]))
        refine own_st (fun t_ k_ => XS.daddS X101.here hx rfl (hb hby own_d1_22) rfl (own_nna hf hg (by omega)) rfl k_) ?_
        show own_Go p.tables e below _ (T101.setTop (mkF m 23 #[.val (.ref a1), .val (.ref a2), .val (.double (own_dot f g k)), .second, .val (.int i)] [(.double (FP.dadd (own_dot f g k) (FP.dmul (f k) (g k))))]))
        refine own_st (fun t_ k_ => XS.dstoreN X101.here hx rfl (hb hby own_d1_23) rfl (l' := #[.val (.ref a1), .val (.ref a2), .val (.double (FP.dadd (own_dot f g k) (FP.dmul (f k) (g k)))), .second, .val (.int i)]) rfl k_) ?_
        show own_Go p.tables e below _ (T101.setTop (mkF m 24 #[.val (.ref a1), .val (.ref a2), .val (.double (FP.dadd (own_dot f g k) (FP.dmul (f k) (g k)))), .second, .val (.int i)] []))
        refine own_st (fun t_ k_ => XS.iinc X101.here hx rfl (hb hby own_d1_24) rfl (l' := #[.val (.ref a1), .val (.ref a2), .val (.double (FP.dadd (own_dot f g k) (FP.dmul (f k) (g k)))), .second, .val (.int (i + (1 : Int32)))]) rfl k_) ?_
        show own_Go p.tables e below _ (T101.setTop (mkF m 27 #[.val (.ref a1), .val (.ref a2), .val (.double (FP.dadd (own_dot f g k) (FP.dmul (f k) (g k)))), .second, .val (.int (i + (1 : Int32)))] []))
        refine own_st (fun t_ k_ => XS.goto X101.here hx rfl (pc0 := 27) (pc' := 5) rfl (hb hby own_d1_27) (by decide) (by decide) k_) ?_
        show own_Go p.tables e below _ (T101.setTop (mkF m 5 #[.val (.ref a1), .val (.ref a2), .val (.double (FP.dadd (own_dot f g k) (FP.dmul (f k) (g k)))), .second, .val (.int (i + (1 : Int32)))] []))
        exact ih101 _ (by omega) (k + 1) (i + (1 : Int32)) T101 _ rfl X101 e101 N101 (own_inc hi (by omega)) (by omega)
      · skip
        have hkn : k = n1 := by have q := mt (own_lt hi (n := n1) (by omega)).mpr c9_102; omega
        subst hkn
        refine own_st (fun t_ k_ => XS.icmpYes X101.here hx rfl (pc0 := 9) (pc' := 30) rfl (hb hby own_d1_9) rfl (flt c9_102).2.1 (by decide) (by decide) k_) ?_
        show own_Go p.tables e below _ (T101.setTop (mkF m 30 #[.val (.ref a1), .val (.ref a2), .val (.double (own_dot f g k)), .second, .val (.int i)] []))
        refine own_st (fun t_ k_ => XS.dloadN X101.here hx rfl (hb hby own_d1_30) rfl k_) ?_
        show own_Go p.tables e below _ (T101.setTop (mkF m 31 #[.val (.ref a1), .val (.ref a2), .val (.double (own_dot f g k)), .second, .val (.int i)] [(.double (own_dot f g k))]))
        exact own_ret (w := (.double (own_dot f g k))) X101 hx hnl Bd.returns rfl (Or.inr (Or.inr (Or.inl ⟨rfl, rfl, _, rfl⟩))) (hb hby own_d1_31) ⟨rfl, N101, e101⟩ (by decide) (by decide)
  exact loop101 _ 0 (0 : Int32) s₁ _ rfl X0 e0 N0 (by decide) (Nat.zero_le _)


theorem own_e0 {x0 x1 x2 y0 y1 y2 : Int64} {f g : Nat → UInt64} (bx0 : -32768 ≤ x0.toInt ∧ x0.toInt ≤ 32768) (bx1 : -32768 ≤ x1.toInt ∧ x1.toInt ≤ 32768) (bx2 : -32768 ≤ x2.toInt ∧ x2.toInt ≤ 32768) (by0 : -32768 ≤ y0.toInt ∧ y0.toInt ≤ 32768) (by1 : -32768 ≤ y1.toInt ∧ y1.toInt ≤ 32768) (by2 : -32768 ≤ y2.toInt ∧ y2.toInt ≤ 32768) (hf : own_small f (own_xs x0.toInt x1.toInt x2.toInt 0)) (hg : own_small g (own_xs y0.toInt y1.toInt y2.toInt 3)) (o : CmpOp) : cmpValue (FP.dcmp (own_dot f g 0) (FP.l2d (0 : Int64))) o = 0 := by
  have h := own_dd hf hg 0 (by decide)
  have m0 := own_prod bx0.1 bx0.2 by0.1 by0.2
  have m1 := own_prod bx1.1 bx1.2 by1.1 by1.2
  have m2 := own_prod bx2.1 bx2.2 by2.1 by2.2
  have z : (0 : Int64).toInt = 0 := by decide
  have t0 : (x0 * y0).toInt = x0.toInt * y0.toInt := FP.Core.int64_mul (by omega) (by omega)
  have t1 : (x1 * y1).toInt = x1.toInt * y1.toInt := FP.Core.int64_mul (by omega) (by omega)
  have t2 : (x2 * y2).toInt = x2.toInt * y2.toInt := FP.Core.int64_mul (by omega) (by omega)
  have s1 : ((0 : Int64) + x0 * y0).toInt = x0.toInt * y0.toInt := by rw [FP.Core.int64_add (by omega) (by omega), z, t0]; omega
  have s2 : ((0 : Int64) + x0 * y0 + x1 * y1).toInt = x0.toInt * y0.toInt + x1.toInt * y1.toInt := by rw [FP.Core.int64_add (by omega) (by omega), s1, t1]
  have s3 : ((0 : Int64) + x0 * y0 + x1 * y1 + x2 * y2).toInt = x0.toInt * y0.toInt + x1.toInt * y1.toInt + x2.toInt * y2.toInt := by rw [FP.Core.int64_add (by omega) (by omega), s2, t2]
  simp only [own_sum, own_xs] at h
  try simp at h
  refine own_cmpI h ?_ (by omega) o
  first | (rw [s3]; done) | (rw [s2]; done) | (rw [s1]; done) | exact z


theorem own_e1 {x0 x1 x2 y0 y1 y2 : Int64} {f g : Nat → UInt64} (bx0 : -32768 ≤ x0.toInt ∧ x0.toInt ≤ 32768) (bx1 : -32768 ≤ x1.toInt ∧ x1.toInt ≤ 32768) (bx2 : -32768 ≤ x2.toInt ∧ x2.toInt ≤ 32768) (by0 : -32768 ≤ y0.toInt ∧ y0.toInt ≤ 32768) (by1 : -32768 ≤ y1.toInt ∧ y1.toInt ≤ 32768) (by2 : -32768 ≤ y2.toInt ∧ y2.toInt ≤ 32768) (hf : own_small f (own_xs x0.toInt x1.toInt x2.toInt 1)) (hg : own_small g (own_xs y0.toInt y1.toInt y2.toInt 3)) (o : CmpOp) : cmpValue (FP.dcmp (own_dot f g 1) (FP.l2d ((0 : Int64) + (x0 * y0)))) o = 0 := by
  have h := own_dd hf hg 1 (by decide)
  have m0 := own_prod bx0.1 bx0.2 by0.1 by0.2
  have m1 := own_prod bx1.1 bx1.2 by1.1 by1.2
  have m2 := own_prod bx2.1 bx2.2 by2.1 by2.2
  have z : (0 : Int64).toInt = 0 := by decide
  have t0 : (x0 * y0).toInt = x0.toInt * y0.toInt := FP.Core.int64_mul (by omega) (by omega)
  have t1 : (x1 * y1).toInt = x1.toInt * y1.toInt := FP.Core.int64_mul (by omega) (by omega)
  have t2 : (x2 * y2).toInt = x2.toInt * y2.toInt := FP.Core.int64_mul (by omega) (by omega)
  have s1 : ((0 : Int64) + x0 * y0).toInt = x0.toInt * y0.toInt := by rw [FP.Core.int64_add (by omega) (by omega), z, t0]; omega
  have s2 : ((0 : Int64) + x0 * y0 + x1 * y1).toInt = x0.toInt * y0.toInt + x1.toInt * y1.toInt := by rw [FP.Core.int64_add (by omega) (by omega), s1, t1]
  have s3 : ((0 : Int64) + x0 * y0 + x1 * y1 + x2 * y2).toInt = x0.toInt * y0.toInt + x1.toInt * y1.toInt + x2.toInt * y2.toInt := by rw [FP.Core.int64_add (by omega) (by omega), s2, t2]
  simp only [own_sum, own_xs] at h
  try simp at h
  refine own_cmpI h ?_ (by omega) o
  first | (rw [s3]; done) | (rw [s2]; done) | (rw [s1]; done) | exact z


theorem own_e2 {x0 x1 x2 y0 y1 y2 : Int64} {f g : Nat → UInt64} (bx0 : -32768 ≤ x0.toInt ∧ x0.toInt ≤ 32768) (bx1 : -32768 ≤ x1.toInt ∧ x1.toInt ≤ 32768) (bx2 : -32768 ≤ x2.toInt ∧ x2.toInt ≤ 32768) (by0 : -32768 ≤ y0.toInt ∧ y0.toInt ≤ 32768) (by1 : -32768 ≤ y1.toInt ∧ y1.toInt ≤ 32768) (by2 : -32768 ≤ y2.toInt ∧ y2.toInt ≤ 32768) (hf : own_small f (own_xs x0.toInt x1.toInt x2.toInt 2)) (hg : own_small g (own_xs y0.toInt y1.toInt y2.toInt 3)) (o : CmpOp) : cmpValue (FP.dcmp (own_dot f g 2) (FP.l2d (((0 : Int64) + (x0 * y0)) + (x1 * y1)))) o = 0 := by
  have h := own_dd hf hg 2 (by decide)
  have m0 := own_prod bx0.1 bx0.2 by0.1 by0.2
  have m1 := own_prod bx1.1 bx1.2 by1.1 by1.2
  have m2 := own_prod bx2.1 bx2.2 by2.1 by2.2
  have z : (0 : Int64).toInt = 0 := by decide
  have t0 : (x0 * y0).toInt = x0.toInt * y0.toInt := FP.Core.int64_mul (by omega) (by omega)
  have t1 : (x1 * y1).toInt = x1.toInt * y1.toInt := FP.Core.int64_mul (by omega) (by omega)
  have t2 : (x2 * y2).toInt = x2.toInt * y2.toInt := FP.Core.int64_mul (by omega) (by omega)
  have s1 : ((0 : Int64) + x0 * y0).toInt = x0.toInt * y0.toInt := by rw [FP.Core.int64_add (by omega) (by omega), z, t0]; omega
  have s2 : ((0 : Int64) + x0 * y0 + x1 * y1).toInt = x0.toInt * y0.toInt + x1.toInt * y1.toInt := by rw [FP.Core.int64_add (by omega) (by omega), s1, t1]
  have s3 : ((0 : Int64) + x0 * y0 + x1 * y1 + x2 * y2).toInt = x0.toInt * y0.toInt + x1.toInt * y1.toInt + x2.toInt * y2.toInt := by rw [FP.Core.int64_add (by omega) (by omega), s2, t2]
  simp only [own_sum, own_xs] at h
  try simp at h
  refine own_cmpI h ?_ (by omega) o
  first | (rw [s3]; done) | (rw [s2]; done) | (rw [s1]; done) | exact z


theorem own_e3 {x0 x1 x2 y0 y1 y2 : Int64} {f g : Nat → UInt64} (bx0 : -32768 ≤ x0.toInt ∧ x0.toInt ≤ 32768) (bx1 : -32768 ≤ x1.toInt ∧ x1.toInt ≤ 32768) (bx2 : -32768 ≤ x2.toInt ∧ x2.toInt ≤ 32768) (by0 : -32768 ≤ y0.toInt ∧ y0.toInt ≤ 32768) (by1 : -32768 ≤ y1.toInt ∧ y1.toInt ≤ 32768) (by2 : -32768 ≤ y2.toInt ∧ y2.toInt ≤ 32768) (hf : own_small f (own_xs x0.toInt x1.toInt x2.toInt 3)) (hg : own_small g (own_xs y0.toInt y1.toInt y2.toInt 3)) (o : CmpOp) : cmpValue (FP.dcmp (own_dot f g 3) (FP.l2d ((((0 : Int64) + (x0 * y0)) + (x1 * y1)) + (x2 * y2)))) o = 0 := by
  have h := own_dd hf hg 3 (by decide)
  have m0 := own_prod bx0.1 bx0.2 by0.1 by0.2
  have m1 := own_prod bx1.1 bx1.2 by1.1 by1.2
  have m2 := own_prod bx2.1 bx2.2 by2.1 by2.2
  have z : (0 : Int64).toInt = 0 := by decide
  have t0 : (x0 * y0).toInt = x0.toInt * y0.toInt := FP.Core.int64_mul (by omega) (by omega)
  have t1 : (x1 * y1).toInt = x1.toInt * y1.toInt := FP.Core.int64_mul (by omega) (by omega)
  have t2 : (x2 * y2).toInt = x2.toInt * y2.toInt := FP.Core.int64_mul (by omega) (by omega)
  have s1 : ((0 : Int64) + x0 * y0).toInt = x0.toInt * y0.toInt := by rw [FP.Core.int64_add (by omega) (by omega), z, t0]; omega
  have s2 : ((0 : Int64) + x0 * y0 + x1 * y1).toInt = x0.toInt * y0.toInt + x1.toInt * y1.toInt := by rw [FP.Core.int64_add (by omega) (by omega), s1, t1]
  have s3 : ((0 : Int64) + x0 * y0 + x1 * y1 + x2 * y2).toInt = x0.toInt * y0.toInt + x1.toInt * y1.toInt + x2.toInt * y2.toInt := by rw [FP.Core.int64_add (by omega) (by omega), s2, t2]
  simp only [own_sum, own_xs] at h
  try simp at h
  refine own_cmpI h ?_ (by omega) o
  first | (rw [s3]; done) | (rw [s2]; done) | (rw [s1]; done) | exact z

theorem own_pn1 : plainName "com/example/provender/provender/solver/RowDotPinLaw" = true := by first | (simp [plainName, overriddenIn]; done) | decide +kernel
theorem own_pd0 : parseMethodDescriptor "([D[D)D" = some ⟨[(.array .double), (.array .double)], some .double⟩ := by decide +kernel
theorem own_ef0 (m : MethodId) (x0 : Int32) (x1 : Int32) (x2 : Int32) (x3 : Int32) (x4 : Int32) (x5 : Int32) : entryFrame m #[(.int x0), (.int x1), (.int x2), (.int x3), (.int x4), (.int x5)] maxLocals = mkF m 0 #[.val (.int x0), .val (.int x1), .val (.int x2), .val (.int x3), .val (.int x4), .val (.int x5), .unset, .unset, .unset, .unset, .unset, .unset, .unset, .unset, .unset, .unset, .unset, .unset, .unset, .unset, .unset, .unset, .unset, .unset, .unset] [] := by first | (simp [entryFrame, mkF, argsToLocals, Value.category, maxLocals]; done) | rfl
def own_Q0 (Z : State) (p0 : Int32) (p1 : Int32) (p2 : Int32) (p3 : Int32) (p4 : Int32) (p5 : Int32) (h0 : Heap) (n0 : Nat) (v : Option Value) (h : Heap) (L : List Loc) : Prop := v = some (.int (1 : Int32)) ∧ Fr n0 L ∧ Keep h0 h []
set_option maxRecDepth 65536 in
set_option maxHeartbeats 40000000 in
theorem own_rm0 (l : Launch) (Z : State) (a0 : Array Value) (hw : ∀ d ∈ tables_1, d.before a0 Z = true) (ws : List Jvm.Cond) (p0 : Int32) (p1 : Int32) (p2 : Int32) (p3 : Int32) (p4 : Int32) (p5 : Int32) (h0 : Heap) (n0 : Nat) (Z0 : n0 ≤ h0.size)  :
    MetFree l x (head1 (Jvm.Cond.code x code maxLocals ret :: ws) room_1) (fun a U => a = #[(.int p0), (.int p1), (.int p2), (.int p3), (.int p4), (.int p5)] ∧ Z.Warmed39 U.vm ∧ U.heap = h0) (fun _ _ _ _ _ => True) (fun _ U o U' => ∃ v L, o = .returned v ∧ own_Q0 Z p0 p1 p2 p3 p4 p5 h0 n0 v U'.heap L ∧ FrameEnd U o U' L room_1.cells room_1.slots) := by
  refine MetFree.of_bodySF (plainFor_of_name own_pn1) hisR ?_
  intro p e s m args below meth c s₁ Bd hml0 hP hK
  obtain ⟨rfl, hZ, hh⟩ := hP
  have hx := Bd.exec
  have hby := Bd.bytes
  have hml : c.maxLocals = 25 := hml0
  have hown : s.vm.findClass "com/example/provender/provender/solver/RowDotPinLaw" = some m.cls := findClass_of_methodNamed Bd.named
  have hnm := (name_of_methodNamed Bd.named Bd.method).1
  have hnl : meth.locks = false := Bd.notSynchronized
  have X0 : Stand p l e room_1 s m #[(.int p0), (.int p1), (.int p2), (.int p3), (.int p4), (.int p5)] below meth c s₁ [] 0 0 := Stand.of_body Bd
  have e0 : s₁.heap = h0 := by rw [← hh, Bd.state]; rfl
  have N0 := Fr.nil n0
  show own_Go p.tables e below (own_P below s (own_Q0 Z p0 p1 p2 p3 p4 p5 h0 n0) room_1.cells room_1.slots) _
  refine own_st (fun t_ k_ => castTop (own_ef0 m p0 p1 p2 p3 p4 p5) k_) ?_
  show own_Go p.tables e below _ (s₁.setTop (mkF m 0 #[.val (.int p0), .val (.int p1), .val (.int p2), .val (.int p3), .val (.int p4), .val (.int p5), .unset, .unset, .unset, .unset, .unset, .unset, .unset, .unset, .unset, .unset, .unset, .unset, .unset, .unset, .unset, .unset, .unset, .unset, .unset] []))
  obtain ⟨x0, hx0⟩ : ∃ z, z = (p0 >>> ((16 : Int32) &&& 31)).toInt64 := ⟨_, rfl⟩
  have bx0 := own_sh p0
  rw [← hx0] at bx0
  obtain ⟨x1, hx1⟩ : ∃ z, z = (p1 >>> ((16 : Int32) &&& 31)).toInt64 := ⟨_, rfl⟩
  have bx1 := own_sh p1
  rw [← hx1] at bx1
  obtain ⟨x2, hx2⟩ : ∃ z, z = (p2 >>> ((16 : Int32) &&& 31)).toInt64 := ⟨_, rfl⟩
  have bx2 := own_sh p2
  rw [← hx2] at bx2
  obtain ⟨y0, hy0⟩ : ∃ z, z = (p3 >>> ((16 : Int32) &&& 31)).toInt64 := ⟨_, rfl⟩
  have by0 := own_sh p3
  rw [← hy0] at by0
  obtain ⟨y1, hy1⟩ : ∃ z, z = (p4 >>> ((16 : Int32) &&& 31)).toInt64 := ⟨_, rfl⟩
  have by1 := own_sh p4
  rw [← hy1] at by1
  obtain ⟨y2, hy2⟩ : ∃ z, z = (p5 >>> ((16 : Int32) &&& 31)).toInt64 := ⟨_, rfl⟩
  have by2 := own_sh p5
  rw [← hy2] at by2
  obtain ⟨nn, hnn⟩ : ∃ z, z = p0 &&& 3 := ⟨_, rfl⟩
  have bn : nn.toInt = p0.toInt % 4 := by rw [hnn, c_mask p0 3 2 (by decide) (by decide)]; rfl
  refine own_st (fun t_ k_ => XS.iloadN X0.here hx rfl (hb hby at_0) rfl k_) ?_
  show own_Go p.tables e below _ (s₁.setTop (mkF m 1 #[.val (.int p0), .val (.int p1), .val (.int p2), .val (.int p3), .val (.int p4), .val (.int p5), .unset, .unset, .unset, .unset, .unset, .unset, .unset, .unset, .unset, .unset, .unset, .unset, .unset, .unset, .unset, .unset, .unset, .unset, .unset] [(.int p0)]))
  refine own_st (fun t_ k_ => XS.iconst X0.here hx rfl (hb hby at_1) k_) ?_
  show own_Go p.tables e below _ (s₁.setTop (mkF m 2 #[.val (.int p0), .val (.int p1), .val (.int p2), .val (.int p3), .val (.int p4), .val (.int p5), .unset, .unset, .unset, .unset, .unset, .unset, .unset, .unset, .unset, .unset, .unset, .unset, .unset, .unset, .unset, .unset, .unset, .unset, .unset] [(.int (3 : Int32)), (.int p0)]))
  refine own_st (fun t_ k_ => XS.iand X0.here hx rfl (hb hby at_2) rfl k_) ?_
  show own_Go p.tables e below _ (s₁.setTop (mkF m 3 #[.val (.int p0), .val (.int p1), .val (.int p2), .val (.int p3), .val (.int p4), .val (.int p5), .unset, .unset, .unset, .unset, .unset, .unset, .unset, .unset, .unset, .unset, .unset, .unset, .unset, .unset, .unset, .unset, .unset, .unset, .unset] [(.int (p0 &&& (3 : Int32)))]))
  rw [show (p0 &&& (3 : Int32)) = nn from hnn.symm]
  show own_Go p.tables e below _ (s₁.setTop (mkF m 3 #[.val (.int p0), .val (.int p1), .val (.int p2), .val (.int p3), .val (.int p4), .val (.int p5), .unset, .unset, .unset, .unset, .unset, .unset, .unset, .unset, .unset, .unset, .unset, .unset, .unset, .unset, .unset, .unset, .unset, .unset, .unset] [(.int nn)]))
  refine own_st (fun t_ k_ => XS.istore X0.here hx rfl (hb hby at_3) rfl (l' := #[.val (.int p0), .val (.int p1), .val (.int p2), .val (.int p3), .val (.int p4), .val (.int p5), .val (.int nn), .unset, .unset, .unset, .unset, .unset, .unset, .unset, .unset, .unset, .unset, .unset, .unset, .unset, .unset, .unset, .unset, .unset, .unset]) rfl k_) ?_
  show own_Go p.tables e below _ (s₁.setTop (mkF m 5 #[.val (.int p0), .val (.int p1), .val (.int p2), .val (.int p3), .val (.int p4), .val (.int p5), .val (.int nn), .unset, .unset, .unset, .unset, .unset, .unset, .unset, .unset, .unset, .unset, .unset, .unset, .unset, .unset, .unset, .unset, .unset, .unset] []))
  refine own_st (fun t_ k_ => XS.iloadN X0.here hx rfl (hb hby at_5) rfl k_) ?_
  show own_Go p.tables e below _ (s₁.setTop (mkF m 6 #[.val (.int p0), .val (.int p1), .val (.int p2), .val (.int p3), .val (.int p4), .val (.int p5), .val (.int nn), .unset, .unset, .unset, .unset, .unset, .unset, .unset, .unset, .unset, .unset, .unset, .unset, .unset, .unset, .unset, .unset, .unset, .unset] [(.int p0)]))
  refine own_st (fun t_ k_ => XS.bipush X0.here hx rfl (hb hby at_6) k_) ?_
  show own_Go p.tables e below _ (s₁.setTop (mkF m 8 #[.val (.int p0), .val (.int p1), .val (.int p2), .val (.int p3), .val (.int p4), .val (.int p5), .val (.int nn), .unset, .unset, .unset, .unset, .unset, .unset, .unset, .unset, .unset, .unset, .unset, .unset, .unset, .unset, .unset, .unset, .unset, .unset] [(.int (16 : Int32)), (.int p0)]))
  refine own_st (fun t_ k_ => XS.ishr X0.here hx rfl (hb hby at_8) rfl k_) ?_
  show own_Go p.tables e below _ (s₁.setTop (mkF m 9 #[.val (.int p0), .val (.int p1), .val (.int p2), .val (.int p3), .val (.int p4), .val (.int p5), .val (.int nn), .unset, .unset, .unset, .unset, .unset, .unset, .unset, .unset, .unset, .unset, .unset, .unset, .unset, .unset, .unset, .unset, .unset, .unset] [(.int (p0 >>> ((16 : Int32) &&& 31)))]))
  refine own_st (fun t_ k_ => XS.i2l X0.here hx rfl (hb hby at_9) rfl k_) ?_
  show own_Go p.tables e below _ (s₁.setTop (mkF m 10 #[.val (.int p0), .val (.int p1), .val (.int p2), .val (.int p3), .val (.int p4), .val (.int p5), .val (.int nn), .unset, .unset, .unset, .unset, .unset, .unset, .unset, .unset, .unset, .unset, .unset, .unset, .unset, .unset, .unset, .unset, .unset, .unset] [(.long ((p0 >>> ((16 : Int32) &&& 31)).toInt64))]))
  rw [show ((p0 >>> ((16 : Int32) &&& 31)).toInt64) = x0 from hx0.symm]
  show own_Go p.tables e below _ (s₁.setTop (mkF m 10 #[.val (.int p0), .val (.int p1), .val (.int p2), .val (.int p3), .val (.int p4), .val (.int p5), .val (.int nn), .unset, .unset, .unset, .unset, .unset, .unset, .unset, .unset, .unset, .unset, .unset, .unset, .unset, .unset, .unset, .unset, .unset, .unset] [(.long x0)]))
  refine own_st (fun t_ k_ => XS.lstore X0.here hx rfl (hb hby at_10) rfl (l' := #[.val (.int p0), .val (.int p1), .val (.int p2), .val (.int p3), .val (.int p4), .val (.int p5), .val (.int nn), .val (.long x0), .second, .unset, .unset, .unset, .unset, .unset, .unset, .unset, .unset, .unset, .unset, .unset, .unset, .unset, .unset, .unset, .unset]) rfl k_) ?_
  show own_Go p.tables e below _ (s₁.setTop (mkF m 12 #[.val (.int p0), .val (.int p1), .val (.int p2), .val (.int p3), .val (.int p4), .val (.int p5), .val (.int nn), .val (.long x0), .second, .unset, .unset, .unset, .unset, .unset, .unset, .unset, .unset, .unset, .unset, .unset, .unset, .unset, .unset, .unset, .unset] []))
  refine own_st (fun t_ k_ => XS.iloadN X0.here hx rfl (hb hby at_12) rfl k_) ?_
  show own_Go p.tables e below _ (s₁.setTop (mkF m 13 #[.val (.int p0), .val (.int p1), .val (.int p2), .val (.int p3), .val (.int p4), .val (.int p5), .val (.int nn), .val (.long x0), .second, .unset, .unset, .unset, .unset, .unset, .unset, .unset, .unset, .unset, .unset, .unset, .unset, .unset, .unset, .unset, .unset] [(.int p1)]))
  refine own_st (fun t_ k_ => XS.bipush X0.here hx rfl (hb hby at_13) k_) ?_
  show own_Go p.tables e below _ (s₁.setTop (mkF m 15 #[.val (.int p0), .val (.int p1), .val (.int p2), .val (.int p3), .val (.int p4), .val (.int p5), .val (.int nn), .val (.long x0), .second, .unset, .unset, .unset, .unset, .unset, .unset, .unset, .unset, .unset, .unset, .unset, .unset, .unset, .unset, .unset, .unset] [(.int (16 : Int32)), (.int p1)]))
  refine own_st (fun t_ k_ => XS.ishr X0.here hx rfl (hb hby at_15) rfl k_) ?_
  show own_Go p.tables e below _ (s₁.setTop (mkF m 16 #[.val (.int p0), .val (.int p1), .val (.int p2), .val (.int p3), .val (.int p4), .val (.int p5), .val (.int nn), .val (.long x0), .second, .unset, .unset, .unset, .unset, .unset, .unset, .unset, .unset, .unset, .unset, .unset, .unset, .unset, .unset, .unset, .unset] [(.int (p1 >>> ((16 : Int32) &&& 31)))]))
  refine own_st (fun t_ k_ => XS.i2l X0.here hx rfl (hb hby at_16) rfl k_) ?_
  show own_Go p.tables e below _ (s₁.setTop (mkF m 17 #[.val (.int p0), .val (.int p1), .val (.int p2), .val (.int p3), .val (.int p4), .val (.int p5), .val (.int nn), .val (.long x0), .second, .unset, .unset, .unset, .unset, .unset, .unset, .unset, .unset, .unset, .unset, .unset, .unset, .unset, .unset, .unset, .unset] [(.long ((p1 >>> ((16 : Int32) &&& 31)).toInt64))]))
  rw [show ((p1 >>> ((16 : Int32) &&& 31)).toInt64) = x1 from hx1.symm]
  show own_Go p.tables e below _ (s₁.setTop (mkF m 17 #[.val (.int p0), .val (.int p1), .val (.int p2), .val (.int p3), .val (.int p4), .val (.int p5), .val (.int nn), .val (.long x0), .second, .unset, .unset, .unset, .unset, .unset, .unset, .unset, .unset, .unset, .unset, .unset, .unset, .unset, .unset, .unset, .unset] [(.long x1)]))
  refine own_st (fun t_ k_ => XS.lstore X0.here hx rfl (hb hby at_17) rfl (l' := #[.val (.int p0), .val (.int p1), .val (.int p2), .val (.int p3), .val (.int p4), .val (.int p5), .val (.int nn), .val (.long x0), .second, .val (.long x1), .second, .unset, .unset, .unset, .unset, .unset, .unset, .unset, .unset, .unset, .unset, .unset, .unset, .unset, .unset]) rfl k_) ?_
  show own_Go p.tables e below _ (s₁.setTop (mkF m 19 #[.val (.int p0), .val (.int p1), .val (.int p2), .val (.int p3), .val (.int p4), .val (.int p5), .val (.int nn), .val (.long x0), .second, .val (.long x1), .second, .unset, .unset, .unset, .unset, .unset, .unset, .unset, .unset, .unset, .unset, .unset, .unset, .unset, .unset] []))
  refine own_st (fun t_ k_ => XS.iloadN X0.here hx rfl (hb hby at_19) rfl k_) ?_
  show own_Go p.tables e below _ (s₁.setTop (mkF m 20 #[.val (.int p0), .val (.int p1), .val (.int p2), .val (.int p3), .val (.int p4), .val (.int p5), .val (.int nn), .val (.long x0), .second, .val (.long x1), .second, .unset, .unset, .unset, .unset, .unset, .unset, .unset, .unset, .unset, .unset, .unset, .unset, .unset, .unset] [(.int p2)]))
  refine own_st (fun t_ k_ => XS.bipush X0.here hx rfl (hb hby at_20) k_) ?_
  show own_Go p.tables e below _ (s₁.setTop (mkF m 22 #[.val (.int p0), .val (.int p1), .val (.int p2), .val (.int p3), .val (.int p4), .val (.int p5), .val (.int nn), .val (.long x0), .second, .val (.long x1), .second, .unset, .unset, .unset, .unset, .unset, .unset, .unset, .unset, .unset, .unset, .unset, .unset, .unset, .unset] [(.int (16 : Int32)), (.int p2)]))
  refine own_st (fun t_ k_ => XS.ishr X0.here hx rfl (hb hby at_22) rfl k_) ?_
  show own_Go p.tables e below _ (s₁.setTop (mkF m 23 #[.val (.int p0), .val (.int p1), .val (.int p2), .val (.int p3), .val (.int p4), .val (.int p5), .val (.int nn), .val (.long x0), .second, .val (.long x1), .second, .unset, .unset, .unset, .unset, .unset, .unset, .unset, .unset, .unset, .unset, .unset, .unset, .unset, .unset] [(.int (p2 >>> ((16 : Int32) &&& 31)))]))
  refine own_st (fun t_ k_ => XS.i2l X0.here hx rfl (hb hby at_23) rfl k_) ?_
  show own_Go p.tables e below _ (s₁.setTop (mkF m 24 #[.val (.int p0), .val (.int p1), .val (.int p2), .val (.int p3), .val (.int p4), .val (.int p5), .val (.int nn), .val (.long x0), .second, .val (.long x1), .second, .unset, .unset, .unset, .unset, .unset, .unset, .unset, .unset, .unset, .unset, .unset, .unset, .unset, .unset] [(.long ((p2 >>> ((16 : Int32) &&& 31)).toInt64))]))
  rw [show ((p2 >>> ((16 : Int32) &&& 31)).toInt64) = x2 from hx2.symm]
  show own_Go p.tables e below _ (s₁.setTop (mkF m 24 #[.val (.int p0), .val (.int p1), .val (.int p2), .val (.int p3), .val (.int p4), .val (.int p5), .val (.int nn), .val (.long x0), .second, .val (.long x1), .second, .unset, .unset, .unset, .unset, .unset, .unset, .unset, .unset, .unset, .unset, .unset, .unset, .unset, .unset] [(.long x2)]))
  refine own_st (fun t_ k_ => XS.lstore X0.here hx rfl (hb hby at_24) rfl (l' := #[.val (.int p0), .val (.int p1), .val (.int p2), .val (.int p3), .val (.int p4), .val (.int p5), .val (.int nn), .val (.long x0), .second, .val (.long x1), .second, .val (.long x2), .second, .unset, .unset, .unset, .unset, .unset, .unset, .unset, .unset, .unset, .unset, .unset, .unset]) rfl k_) ?_
  show own_Go p.tables e below _ (s₁.setTop (mkF m 26 #[.val (.int p0), .val (.int p1), .val (.int p2), .val (.int p3), .val (.int p4), .val (.int p5), .val (.int nn), .val (.long x0), .second, .val (.long x1), .second, .val (.long x2), .second, .unset, .unset, .unset, .unset, .unset, .unset, .unset, .unset, .unset, .unset, .unset, .unset] []))
  refine own_st (fun t_ k_ => XS.iloadN X0.here hx rfl (hb hby at_26) rfl k_) ?_
  show own_Go p.tables e below _ (s₁.setTop (mkF m 27 #[.val (.int p0), .val (.int p1), .val (.int p2), .val (.int p3), .val (.int p4), .val (.int p5), .val (.int nn), .val (.long x0), .second, .val (.long x1), .second, .val (.long x2), .second, .unset, .unset, .unset, .unset, .unset, .unset, .unset, .unset, .unset, .unset, .unset, .unset] [(.int p3)]))
  refine own_st (fun t_ k_ => XS.bipush X0.here hx rfl (hb hby at_27) k_) ?_
  show own_Go p.tables e below _ (s₁.setTop (mkF m 29 #[.val (.int p0), .val (.int p1), .val (.int p2), .val (.int p3), .val (.int p4), .val (.int p5), .val (.int nn), .val (.long x0), .second, .val (.long x1), .second, .val (.long x2), .second, .unset, .unset, .unset, .unset, .unset, .unset, .unset, .unset, .unset, .unset, .unset, .unset] [(.int (16 : Int32)), (.int p3)]))
  refine own_st (fun t_ k_ => XS.ishr X0.here hx rfl (hb hby at_29) rfl k_) ?_
  show own_Go p.tables e below _ (s₁.setTop (mkF m 30 #[.val (.int p0), .val (.int p1), .val (.int p2), .val (.int p3), .val (.int p4), .val (.int p5), .val (.int nn), .val (.long x0), .second, .val (.long x1), .second, .val (.long x2), .second, .unset, .unset, .unset, .unset, .unset, .unset, .unset, .unset, .unset, .unset, .unset, .unset] [(.int (p3 >>> ((16 : Int32) &&& 31)))]))
  refine own_st (fun t_ k_ => XS.i2l X0.here hx rfl (hb hby at_30) rfl k_) ?_
  show own_Go p.tables e below _ (s₁.setTop (mkF m 31 #[.val (.int p0), .val (.int p1), .val (.int p2), .val (.int p3), .val (.int p4), .val (.int p5), .val (.int nn), .val (.long x0), .second, .val (.long x1), .second, .val (.long x2), .second, .unset, .unset, .unset, .unset, .unset, .unset, .unset, .unset, .unset, .unset, .unset, .unset] [(.long ((p3 >>> ((16 : Int32) &&& 31)).toInt64))]))
  rw [show ((p3 >>> ((16 : Int32) &&& 31)).toInt64) = y0 from hy0.symm]
  show own_Go p.tables e below _ (s₁.setTop (mkF m 31 #[.val (.int p0), .val (.int p1), .val (.int p2), .val (.int p3), .val (.int p4), .val (.int p5), .val (.int nn), .val (.long x0), .second, .val (.long x1), .second, .val (.long x2), .second, .unset, .unset, .unset, .unset, .unset, .unset, .unset, .unset, .unset, .unset, .unset, .unset] [(.long y0)]))
  refine own_st (fun t_ k_ => XS.lstore X0.here hx rfl (hb hby at_31) rfl (l' := #[.val (.int p0), .val (.int p1), .val (.int p2), .val (.int p3), .val (.int p4), .val (.int p5), .val (.int nn), .val (.long x0), .second, .val (.long x1), .second, .val (.long x2), .second, .val (.long y0), .second, .unset, .unset, .unset, .unset, .unset, .unset, .unset, .unset, .unset, .unset]) rfl k_) ?_
  show own_Go p.tables e below _ (s₁.setTop (mkF m 33 #[.val (.int p0), .val (.int p1), .val (.int p2), .val (.int p3), .val (.int p4), .val (.int p5), .val (.int nn), .val (.long x0), .second, .val (.long x1), .second, .val (.long x2), .second, .val (.long y0), .second, .unset, .unset, .unset, .unset, .unset, .unset, .unset, .unset, .unset, .unset] []))
  refine own_st (fun t_ k_ => XS.iload X0.here hx rfl (hb hby at_33) rfl k_) ?_
  show own_Go p.tables e below _ (s₁.setTop (mkF m 35 #[.val (.int p0), .val (.int p1), .val (.int p2), .val (.int p3), .val (.int p4), .val (.int p5), .val (.int nn), .val (.long x0), .second, .val (.long x1), .second, .val (.long x2), .second, .val (.long y0), .second, .unset, .unset, .unset, .unset, .unset, .unset, .unset, .unset, .unset, .unset] [(.int p4)]))
  refine own_st (fun t_ k_ => XS.bipush X0.here hx rfl (hb hby at_35) k_) ?_
  show own_Go p.tables e below _ (s₁.setTop (mkF m 37 #[.val (.int p0), .val (.int p1), .val (.int p2), .val (.int p3), .val (.int p4), .val (.int p5), .val (.int nn), .val (.long x0), .second, .val (.long x1), .second, .val (.long x2), .second, .val (.long y0), .second, .unset, .unset, .unset, .unset, .unset, .unset, .unset, .unset, .unset, .unset] [(.int (16 : Int32)), (.int p4)]))
  refine own_st (fun t_ k_ => XS.ishr X0.here hx rfl (hb hby at_37) rfl k_) ?_
  show own_Go p.tables e below _ (s₁.setTop (mkF m 38 #[.val (.int p0), .val (.int p1), .val (.int p2), .val (.int p3), .val (.int p4), .val (.int p5), .val (.int nn), .val (.long x0), .second, .val (.long x1), .second, .val (.long x2), .second, .val (.long y0), .second, .unset, .unset, .unset, .unset, .unset, .unset, .unset, .unset, .unset, .unset] [(.int (p4 >>> ((16 : Int32) &&& 31)))]))
  refine own_st (fun t_ k_ => XS.i2l X0.here hx rfl (hb hby at_38) rfl k_) ?_
  show own_Go p.tables e below _ (s₁.setTop (mkF m 39 #[.val (.int p0), .val (.int p1), .val (.int p2), .val (.int p3), .val (.int p4), .val (.int p5), .val (.int nn), .val (.long x0), .second, .val (.long x1), .second, .val (.long x2), .second, .val (.long y0), .second, .unset, .unset, .unset, .unset, .unset, .unset, .unset, .unset, .unset, .unset] [(.long ((p4 >>> ((16 : Int32) &&& 31)).toInt64))]))
  rw [show ((p4 >>> ((16 : Int32) &&& 31)).toInt64) = y1 from hy1.symm]
  show own_Go p.tables e below _ (s₁.setTop (mkF m 39 #[.val (.int p0), .val (.int p1), .val (.int p2), .val (.int p3), .val (.int p4), .val (.int p5), .val (.int nn), .val (.long x0), .second, .val (.long x1), .second, .val (.long x2), .second, .val (.long y0), .second, .unset, .unset, .unset, .unset, .unset, .unset, .unset, .unset, .unset, .unset] [(.long y1)]))
  refine own_st (fun t_ k_ => XS.lstore X0.here hx rfl (hb hby at_39) rfl (l' := #[.val (.int p0), .val (.int p1), .val (.int p2), .val (.int p3), .val (.int p4), .val (.int p5), .val (.int nn), .val (.long x0), .second, .val (.long x1), .second, .val (.long x2), .second, .val (.long y0), .second, .val (.long y1), .second, .unset, .unset, .unset, .unset, .unset, .unset, .unset, .unset]) rfl k_) ?_
  show own_Go p.tables e below _ (s₁.setTop (mkF m 41 #[.val (.int p0), .val (.int p1), .val (.int p2), .val (.int p3), .val (.int p4), .val (.int p5), .val (.int nn), .val (.long x0), .second, .val (.long x1), .second, .val (.long x2), .second, .val (.long y0), .second, .val (.long y1), .second, .unset, .unset, .unset, .unset, .unset, .unset, .unset, .unset] []))
  refine own_st (fun t_ k_ => XS.iload X0.here hx rfl (hb hby at_41) rfl k_) ?_
  show own_Go p.tables e below _ (s₁.setTop (mkF m 43 #[.val (.int p0), .val (.int p1), .val (.int p2), .val (.int p3), .val (.int p4), .val (.int p5), .val (.int nn), .val (.long x0), .second, .val (.long x1), .second, .val (.long x2), .second, .val (.long y0), .second, .val (.long y1), .second, .unset, .unset, .unset, .unset, .unset, .unset, .unset, .unset] [(.int p5)]))
  refine own_st (fun t_ k_ => XS.bipush X0.here hx rfl (hb hby at_43) k_) ?_
  show own_Go p.tables e below _ (s₁.setTop (mkF m 45 #[.val (.int p0), .val (.int p1), .val (.int p2), .val (.int p3), .val (.int p4), .val (.int p5), .val (.int nn), .val (.long x0), .second, .val (.long x1), .second, .val (.long x2), .second, .val (.long y0), .second, .val (.long y1), .second, .unset, .unset, .unset, .unset, .unset, .unset, .unset, .unset] [(.int (16 : Int32)), (.int p5)]))
  refine own_st (fun t_ k_ => XS.ishr X0.here hx rfl (hb hby at_45) rfl k_) ?_
  show own_Go p.tables e below _ (s₁.setTop (mkF m 46 #[.val (.int p0), .val (.int p1), .val (.int p2), .val (.int p3), .val (.int p4), .val (.int p5), .val (.int nn), .val (.long x0), .second, .val (.long x1), .second, .val (.long x2), .second, .val (.long y0), .second, .val (.long y1), .second, .unset, .unset, .unset, .unset, .unset, .unset, .unset, .unset] [(.int (p5 >>> ((16 : Int32) &&& 31)))]))
  refine own_st (fun t_ k_ => XS.i2l X0.here hx rfl (hb hby at_46) rfl k_) ?_
  show own_Go p.tables e below _ (s₁.setTop (mkF m 47 #[.val (.int p0), .val (.int p1), .val (.int p2), .val (.int p3), .val (.int p4), .val (.int p5), .val (.int nn), .val (.long x0), .second, .val (.long x1), .second, .val (.long x2), .second, .val (.long y0), .second, .val (.long y1), .second, .unset, .unset, .unset, .unset, .unset, .unset, .unset, .unset] [(.long ((p5 >>> ((16 : Int32) &&& 31)).toInt64))]))
  rw [show ((p5 >>> ((16 : Int32) &&& 31)).toInt64) = y2 from hy2.symm]
  show own_Go p.tables e below _ (s₁.setTop (mkF m 47 #[.val (.int p0), .val (.int p1), .val (.int p2), .val (.int p3), .val (.int p4), .val (.int p5), .val (.int nn), .val (.long x0), .second, .val (.long x1), .second, .val (.long x2), .second, .val (.long y0), .second, .val (.long y1), .second, .unset, .unset, .unset, .unset, .unset, .unset, .unset, .unset] [(.long y2)]))
  refine own_st (fun t_ k_ => XS.lstore X0.here hx rfl (hb hby at_47) rfl (l' := #[.val (.int p0), .val (.int p1), .val (.int p2), .val (.int p3), .val (.int p4), .val (.int p5), .val (.int nn), .val (.long x0), .second, .val (.long x1), .second, .val (.long x2), .second, .val (.long y0), .second, .val (.long y1), .second, .val (.long y2), .second, .unset, .unset, .unset, .unset, .unset, .unset]) rfl k_) ?_
  show own_Go p.tables e below _ (s₁.setTop (mkF m 49 #[.val (.int p0), .val (.int p1), .val (.int p2), .val (.int p3), .val (.int p4), .val (.int p5), .val (.int nn), .val (.long x0), .second, .val (.long x1), .second, .val (.long x2), .second, .val (.long y0), .second, .val (.long y1), .second, .val (.long y2), .second, .unset, .unset, .unset, .unset, .unset, .unset] []))
  refine own_st (fun t_ k_ => XS.iload X0.here hx rfl (hb hby at_49) rfl k_) ?_
  show own_Go p.tables e below _ (s₁.setTop (mkF m 51 #[.val (.int p0), .val (.int p1), .val (.int p2), .val (.int p3), .val (.int p4), .val (.int p5), .val (.int nn), .val (.long x0), .second, .val (.long x1), .second, .val (.long x2), .second, .val (.long y0), .second, .val (.long y1), .second, .val (.long y2), .second, .unset, .unset, .unset, .unset, .unset, .unset] [(.int nn)]))
  by_cases c51_103 : nn = (0 : Int32)
  · skip
    refine own_st (fun t_ k_ => XS.ifNo X0.here hx rfl (hb hby at_51) rfl ((if0 _ _).trans (teq c51_103).2) k_) ?_
    show own_Go p.tables e below _ (s₁.setTop (mkF m 54 #[.val (.int p0), .val (.int p1), .val (.int p2), .val (.int p3), .val (.int p4), .val (.int p5), .val (.int nn), .val (.long x0), .second, .val (.long x1), .second, .val (.long x2), .second, .val (.long y0), .second, .val (.long y1), .second, .val (.long y2), .second, .unset, .unset, .unset, .unset, .unset, .unset] []))
    refine own_st (fun t_ k_ => XS.iconst X0.here hx rfl (hb hby at_54) k_) ?_
    show own_Go p.tables e below _ (s₁.setTop (mkF m 55 #[.val (.int p0), .val (.int p1), .val (.int p2), .val (.int p3), .val (.int p4), .val (.int p5), .val (.int nn), .val (.long x0), .second, .val (.long x1), .second, .val (.long x2), .second, .val (.long y0), .second, .val (.long y1), .second, .val (.long y2), .second, .unset, .unset, .unset, .unset, .unset, .unset] [(.int (0 : Int32))]))
    obtain ⟨T104, h104, k104, X104, e104, E104, A104, st104⟩ := newP X0 hx hZ (hw _ (List.mem_of_getElem? (i := 0) rfl)) e0 (g := (mkF m 55 #[.val (.int p0), .val (.int p1), .val (.int p2), .val (.int p3), .val (.int p4), .val (.int p5), .val (.int nn), .val (.long x0), .second, .val (.long x1), .second, .val (.long x2), .second, .val (.long y0), .second, .val (.long y1), .second, .val (.long y2), .second, .unset, .unset, .unset, .unset, .unset, .unset] [(.int (0 : Int32))])) rfl (hb hby at_55) rfl (by decide) (cap := 0) (by decide) (by decide) (by decide) (by decide)
    obtain ⟨b104, g104⟩ : ∃ z, z = h0.size := ⟨_, rfl⟩
    rw [← g104] at A104 st104
    have fr104 : h0.size ≤ b104 := Nat.le_trans (Keep.refl h0 []).1 (Nat.le_of_eq g104.symm)
    have ge104 : n0 ≤ b104 := Nat.le_trans Z0 fr104
    have K104 : Keep h0 h104 [] := (Keep.refl h0 []).ext E104
    have Ar104 : own_A Z h104 b104 k104 .double 0 (fun i => .double ((fun _ => (0 : UInt64)) i)) := own_A.new A104 rfl (by decide)
    refine own_st (st104) ?_
    show own_Go p.tables e below _ (T104.setTop (mkF m 57 #[.val (.int p0), .val (.int p1), .val (.int p2), .val (.int p3), .val (.int p4), .val (.int p5), .val (.int nn), .val (.long x0), .second, .val (.long x1), .second, .val (.long x2), .second, .val (.long y0), .second, .val (.long y1), .second, .val (.long y2), .second, .unset, .unset, .unset, .unset, .unset, .unset] [(.ref b104)]))
    refine own_st (fun t_ k_ => XS.astore X104.here hx rfl (hb hby at_57) rfl rfl (l' := #[.val (.int p0), .val (.int p1), .val (.int p2), .val (.int p3), .val (.int p4), .val (.int p5), .val (.int nn), .val (.long x0), .second, .val (.long x1), .second, .val (.long x2), .second, .val (.long y0), .second, .val (.long y1), .second, .val (.long y2), .second, .val (.ref b104), .unset, .unset, .unset, .unset, .unset]) rfl k_) ?_
    show own_Go p.tables e below _ (T104.setTop (mkF m 59 #[.val (.int p0), .val (.int p1), .val (.int p2), .val (.int p3), .val (.int p4), .val (.int p5), .val (.int nn), .val (.long x0), .second, .val (.long x1), .second, .val (.long x2), .second, .val (.long y0), .second, .val (.long y1), .second, .val (.long y2), .second, .val (.ref b104), .unset, .unset, .unset, .unset, .unset] []))
    refine own_st (fun t_ k_ => XS.goto X104.here hx rfl (pc0 := 59) (pc' := 131) rfl (hb hby at_59) (by decide) (by decide) k_) ?_
    show own_Go p.tables e below _ (T104.setTop (mkF m 131 #[.val (.int p0), .val (.int p1), .val (.int p2), .val (.int p3), .val (.int p4), .val (.int p5), .val (.int nn), .val (.long x0), .second, .val (.long x1), .second, .val (.long x2), .second, .val (.long y0), .second, .val (.long y1), .second, .val (.long y2), .second, .val (.ref b104), .unset, .unset, .unset, .unset, .unset] []))
    refine own_st (fun t_ k_ => XS.iconst X104.here hx rfl (hb hby at_131) k_) ?_
    show own_Go p.tables e below _ (T104.setTop (mkF m 132 #[.val (.int p0), .val (.int p1), .val (.int p2), .val (.int p3), .val (.int p4), .val (.int p5), .val (.int nn), .val (.long x0), .second, .val (.long x1), .second, .val (.long x2), .second, .val (.long y0), .second, .val (.long y1), .second, .val (.long y2), .second, .val (.ref b104), .unset, .unset, .unset, .unset, .unset] [(.int (3 : Int32))]))
    obtain ⟨T105, h105, k105, X105, e105, E105, A105, st105⟩ := newP X104 hx hZ (hw _ (List.mem_of_getElem? (i := 0) rfl)) e104 (g := (mkF m 132 #[.val (.int p0), .val (.int p1), .val (.int p2), .val (.int p3), .val (.int p4), .val (.int p5), .val (.int nn), .val (.long x0), .second, .val (.long x1), .second, .val (.long x2), .second, .val (.long y0), .second, .val (.long y1), .second, .val (.long y2), .second, .val (.ref b104), .unset, .unset, .unset, .unset, .unset] [(.int (3 : Int32))])) rfl (hb hby at_132) rfl (by decide) (cap := 3) (by decide) (by decide) (by decide) (by decide)
    obtain ⟨b105, g105⟩ : ∃ z, z = h104.size := ⟨_, rfl⟩
    rw [← g105] at A105 st105
    have fr105 : h0.size ≤ b105 := Nat.le_trans K104.1 (Nat.le_of_eq g105.symm)
    have ge105 : n0 ≤ b105 := Nat.le_trans Z0 fr105
    have K105 : Keep h0 h105 [] := K104.ext E105
    have Ar105 : own_A Z h105 b105 k105 .double 3 (fun i => .double ((fun _ => (0 : UInt64)) i)) := own_A.new A105 rfl (by decide)
    refine own_st (st105) ?_
    show own_Go p.tables e below _ (T105.setTop (mkF m 134 #[.val (.int p0), .val (.int p1), .val (.int p2), .val (.int p3), .val (.int p4), .val (.int p5), .val (.int nn), .val (.long x0), .second, .val (.long x1), .second, .val (.long x2), .second, .val (.long y0), .second, .val (.long y1), .second, .val (.long y2), .second, .val (.ref b104), .unset, .unset, .unset, .unset, .unset] [(.ref b105)]))
    refine own_st (fun t_ k_ => XS.dup X105.here hx rfl (hb hby at_134) rfl rfl k_) ?_
    show own_Go p.tables e below _ (T105.setTop (mkF m 135 #[.val (.int p0), .val (.int p1), .val (.int p2), .val (.int p3), .val (.int p4), .val (.int p5), .val (.int nn), .val (.long x0), .second, .val (.long x1), .second, .val (.long x2), .second, .val (.long y0), .second, .val (.long y1), .second, .val (.long y2), .second, .val (.ref b104), .unset, .unset, .unset, .unset, .unset] [(.ref b105), (.ref b105)]))
    refine own_st (fun t_ k_ => XS.iconst X105.here hx rfl (hb hby at_135) k_) ?_
    show own_Go p.tables e below _ (T105.setTop (mkF m 136 #[.val (.int p0), .val (.int p1), .val (.int p2), .val (.int p3), .val (.int p4), .val (.int p5), .val (.int nn), .val (.long x0), .second, .val (.long x1), .second, .val (.long x2), .second, .val (.long y0), .second, .val (.long y1), .second, .val (.long y2), .second, .val (.ref b104), .unset, .unset, .unset, .unset, .unset] [(.int (0 : Int32)), (.ref b105), (.ref b105)]))
    refine own_st (fun t_ k_ => XS.lload X105.here hx rfl (hb hby at_136) rfl k_) ?_
    show own_Go p.tables e below _ (T105.setTop (mkF m 138 #[.val (.int p0), .val (.int p1), .val (.int p2), .val (.int p3), .val (.int p4), .val (.int p5), .val (.int nn), .val (.long x0), .second, .val (.long x1), .second, .val (.long x2), .second, .val (.long y0), .second, .val (.long y1), .second, .val (.long y2), .second, .val (.ref b104), .unset, .unset, .unset, .unset, .unset] [(.long y0), (.int (0 : Int32)), (.ref b105), (.ref b105)]))
    refine own_st (fun t_ k_ => XS.l2dS X105.here hx rfl (hb hby at_138) rfl rfl k_) ?_
    show own_Go p.tables e below _ (T105.setTop (mkF m 139 #[.val (.int p0), .val (.int p1), .val (.int p2), .val (.int p3), .val (.int p4), .val (.int p5), .val (.int nn), .val (.long x0), .second, .val (.long x1), .second, .val (.long x2), .second, .val (.long y0), .second, .val (.long y1), .second, .val (.long y2), .second, .val (.ref b104), .unset, .unset, .unset, .unset, .unset] [(.double (FP.l2d y0)), (.int (0 : Int32)), (.ref b105), (.ref b105)]))
    obtain ⟨T106, h106, X106, e106, W106, Aw106, st106⟩ := own_dastore X105 hx hZ e105 Ar105 (i := 0) (by decide) (by decide) (g := (mkF m 139 #[.val (.int p0), .val (.int p1), .val (.int p2), .val (.int p3), .val (.int p4), .val (.int p5), .val (.int nn), .val (.long x0), .second, .val (.long x1), .second, .val (.long x2), .second, .val (.long y0), .second, .val (.long y1), .second, .val (.long y2), .second, .val (.ref b104), .unset, .unset, .unset, .unset, .unset] [(.double (FP.l2d y0)), (.int (0 : Int32)), (.ref b105), (.ref b105)])) rfl rfl (hb hby at_139)
    have N106 := Fr.snoc X106 N0 ge105
    have K106 : Keep h0 h106 [] := K105.wr W106 (Or.inr fr105)
    refine own_st (st106) ?_
    show own_Go p.tables e below _ (T106.setTop (mkF m 140 #[.val (.int p0), .val (.int p1), .val (.int p2), .val (.int p3), .val (.int p4), .val (.int p5), .val (.int nn), .val (.long x0), .second, .val (.long x1), .second, .val (.long x2), .second, .val (.long y0), .second, .val (.long y1), .second, .val (.long y2), .second, .val (.ref b104), .unset, .unset, .unset, .unset, .unset] [(.ref b105)]))
    refine own_st (fun t_ k_ => XS.dup X106.here hx rfl (hb hby at_140) rfl rfl k_) ?_
    show own_Go p.tables e below _ (T106.setTop (mkF m 141 #[.val (.int p0), .val (.int p1), .val (.int p2), .val (.int p3), .val (.int p4), .val (.int p5), .val (.int nn), .val (.long x0), .second, .val (.long x1), .second, .val (.long x2), .second, .val (.long y0), .second, .val (.long y1), .second, .val (.long y2), .second, .val (.ref b104), .unset, .unset, .unset, .unset, .unset] [(.ref b105), (.ref b105)]))
    refine own_st (fun t_ k_ => XS.iconst X106.here hx rfl (hb hby at_141) k_) ?_
    show own_Go p.tables e below _ (T106.setTop (mkF m 142 #[.val (.int p0), .val (.int p1), .val (.int p2), .val (.int p3), .val (.int p4), .val (.int p5), .val (.int nn), .val (.long x0), .second, .val (.long x1), .second, .val (.long x2), .second, .val (.long y0), .second, .val (.long y1), .second, .val (.long y2), .second, .val (.ref b104), .unset, .unset, .unset, .unset, .unset] [(.int (1 : Int32)), (.ref b105), (.ref b105)]))
    refine own_st (fun t_ k_ => XS.lload X106.here hx rfl (hb hby at_142) rfl k_) ?_
    show own_Go p.tables e below _ (T106.setTop (mkF m 144 #[.val (.int p0), .val (.int p1), .val (.int p2), .val (.int p3), .val (.int p4), .val (.int p5), .val (.int nn), .val (.long x0), .second, .val (.long x1), .second, .val (.long x2), .second, .val (.long y0), .second, .val (.long y1), .second, .val (.long y2), .second, .val (.ref b104), .unset, .unset, .unset, .unset, .unset] [(.long y1), (.int (1 : Int32)), (.ref b105), (.ref b105)]))
    refine own_st (fun t_ k_ => XS.l2dS X106.here hx rfl (hb hby at_144) rfl rfl k_) ?_
    show own_Go p.tables e below _ (T106.setTop (mkF m 145 #[.val (.int p0), .val (.int p1), .val (.int p2), .val (.int p3), .val (.int p4), .val (.int p5), .val (.int nn), .val (.long x0), .second, .val (.long x1), .second, .val (.long x2), .second, .val (.long y0), .second, .val (.long y1), .second, .val (.long y2), .second, .val (.ref b104), .unset, .unset, .unset, .unset, .unset] [(.double (FP.l2d y1)), (.int (1 : Int32)), (.ref b105), (.ref b105)]))
    obtain ⟨T107, h107, X107, e107, W107, Aw107, st107⟩ := own_dastore X106 hx hZ e106 Aw106 (i := 1) (by decide) (by decide) (g := (mkF m 145 #[.val (.int p0), .val (.int p1), .val (.int p2), .val (.int p3), .val (.int p4), .val (.int p5), .val (.int nn), .val (.long x0), .second, .val (.long x1), .second, .val (.long x2), .second, .val (.long y0), .second, .val (.long y1), .second, .val (.long y2), .second, .val (.ref b104), .unset, .unset, .unset, .unset, .unset] [(.double (FP.l2d y1)), (.int (1 : Int32)), (.ref b105), (.ref b105)])) rfl rfl (hb hby at_145)
    have N107 := Fr.snoc X107 N106 ge105
    have K107 : Keep h0 h107 [] := K106.wr W107 (Or.inr fr105)
    refine own_st (st107) ?_
    show own_Go p.tables e below _ (T107.setTop (mkF m 146 #[.val (.int p0), .val (.int p1), .val (.int p2), .val (.int p3), .val (.int p4), .val (.int p5), .val (.int nn), .val (.long x0), .second, .val (.long x1), .second, .val (.long x2), .second, .val (.long y0), .second, .val (.long y1), .second, .val (.long y2), .second, .val (.ref b104), .unset, .unset, .unset, .unset, .unset] [(.ref b105)]))
    refine own_st (fun t_ k_ => XS.dup X107.here hx rfl (hb hby at_146) rfl rfl k_) ?_
    show own_Go p.tables e below _ (T107.setTop (mkF m 147 #[.val (.int p0), .val (.int p1), .val (.int p2), .val (.int p3), .val (.int p4), .val (.int p5), .val (.int nn), .val (.long x0), .second, .val (.long x1), .second, .val (.long x2), .second, .val (.long y0), .second, .val (.long y1), .second, .val (.long y2), .second, .val (.ref b104), .unset, .unset, .unset, .unset, .unset] [(.ref b105), (.ref b105)]))
    refine own_st (fun t_ k_ => XS.iconst X107.here hx rfl (hb hby at_147) k_) ?_
    show own_Go p.tables e below _ (T107.setTop (mkF m 148 #[.val (.int p0), .val (.int p1), .val (.int p2), .val (.int p3), .val (.int p4), .val (.int p5), .val (.int nn), .val (.long x0), .second, .val (.long x1), .second, .val (.long x2), .second, .val (.long y0), .second, .val (.long y1), .second, .val (.long y2), .second, .val (.ref b104), .unset, .unset, .unset, .unset, .unset] [(.int (2 : Int32)), (.ref b105), (.ref b105)]))
    refine own_st (fun t_ k_ => XS.lload X107.here hx rfl (hb hby at_148) rfl k_) ?_
    show own_Go p.tables e below _ (T107.setTop (mkF m 150 #[.val (.int p0), .val (.int p1), .val (.int p2), .val (.int p3), .val (.int p4), .val (.int p5), .val (.int nn), .val (.long x0), .second, .val (.long x1), .second, .val (.long x2), .second, .val (.long y0), .second, .val (.long y1), .second, .val (.long y2), .second, .val (.ref b104), .unset, .unset, .unset, .unset, .unset] [(.long y2), (.int (2 : Int32)), (.ref b105), (.ref b105)]))
    refine own_st (fun t_ k_ => XS.l2dS X107.here hx rfl (hb hby at_150) rfl rfl k_) ?_
    show own_Go p.tables e below _ (T107.setTop (mkF m 151 #[.val (.int p0), .val (.int p1), .val (.int p2), .val (.int p3), .val (.int p4), .val (.int p5), .val (.int nn), .val (.long x0), .second, .val (.long x1), .second, .val (.long x2), .second, .val (.long y0), .second, .val (.long y1), .second, .val (.long y2), .second, .val (.ref b104), .unset, .unset, .unset, .unset, .unset] [(.double (FP.l2d y2)), (.int (2 : Int32)), (.ref b105), (.ref b105)]))
    obtain ⟨T108, h108, X108, e108, W108, Aw108, st108⟩ := own_dastore X107 hx hZ e107 Aw107 (i := 2) (by decide) (by decide) (g := (mkF m 151 #[.val (.int p0), .val (.int p1), .val (.int p2), .val (.int p3), .val (.int p4), .val (.int p5), .val (.int nn), .val (.long x0), .second, .val (.long x1), .second, .val (.long x2), .second, .val (.long y0), .second, .val (.long y1), .second, .val (.long y2), .second, .val (.ref b104), .unset, .unset, .unset, .unset, .unset] [(.double (FP.l2d y2)), (.int (2 : Int32)), (.ref b105), (.ref b105)])) rfl rfl (hb hby at_151)
    have N108 := Fr.snoc X108 N107 ge105
    have K108 : Keep h0 h108 [] := K107.wr W108 (Or.inr fr105)
    refine own_st (st108) ?_
    show own_Go p.tables e below _ (T108.setTop (mkF m 152 #[.val (.int p0), .val (.int p1), .val (.int p2), .val (.int p3), .val (.int p4), .val (.int p5), .val (.int nn), .val (.long x0), .second, .val (.long x1), .second, .val (.long x2), .second, .val (.long y0), .second, .val (.long y1), .second, .val (.long y2), .second, .val (.ref b104), .unset, .unset, .unset, .unset, .unset] [(.ref b105)]))
    refine own_st (fun t_ k_ => XS.astore X108.here hx rfl (hb hby at_152) rfl rfl (l' := #[.val (.int p0), .val (.int p1), .val (.int p2), .val (.int p3), .val (.int p4), .val (.int p5), .val (.int nn), .val (.long x0), .second, .val (.long x1), .second, .val (.long x2), .second, .val (.long y0), .second, .val (.long y1), .second, .val (.long y2), .second, .val (.ref b104), .val (.ref b105), .unset, .unset, .unset, .unset]) rfl k_) ?_
    show own_Go p.tables e below _ (T108.setTop (mkF m 154 #[.val (.int p0), .val (.int p1), .val (.int p2), .val (.int p3), .val (.int p4), .val (.int p5), .val (.int nn), .val (.long x0), .second, .val (.long x1), .second, .val (.long x2), .second, .val (.long y0), .second, .val (.long y1), .second, .val (.long y2), .second, .val (.ref b104), .val (.ref b105), .unset, .unset, .unset, .unset] []))
    refine own_st (fun t_ k_ => XS.lconst X108.here hx rfl (hb hby at_154) k_) ?_
    show own_Go p.tables e below _ (T108.setTop (mkF m 155 #[.val (.int p0), .val (.int p1), .val (.int p2), .val (.int p3), .val (.int p4), .val (.int p5), .val (.int nn), .val (.long x0), .second, .val (.long x1), .second, .val (.long x2), .second, .val (.long y0), .second, .val (.long y1), .second, .val (.long y2), .second, .val (.ref b104), .val (.ref b105), .unset, .unset, .unset, .unset] [(.long (0 : Int64))]))
    refine own_st (fun t_ k_ => XS.lstore X108.here hx rfl (hb hby at_155) rfl (l' := #[.val (.int p0), .val (.int p1), .val (.int p2), .val (.int p3), .val (.int p4), .val (.int p5), .val (.int nn), .val (.long x0), .second, .val (.long x1), .second, .val (.long x2), .second, .val (.long y0), .second, .val (.long y1), .second, .val (.long y2), .second, .val (.ref b104), .val (.ref b105), .val (.long (0 : Int64)), .second, .unset, .unset]) rfl k_) ?_
    show own_Go p.tables e below _ (T108.setTop (mkF m 157 #[.val (.int p0), .val (.int p1), .val (.int p2), .val (.int p3), .val (.int p4), .val (.int p5), .val (.int nn), .val (.long x0), .second, .val (.long x1), .second, .val (.long x2), .second, .val (.long y0), .second, .val (.long y1), .second, .val (.long y2), .second, .val (.ref b104), .val (.ref b105), .val (.long (0 : Int64)), .second, .unset, .unset] []))
    refine own_st (fun t_ k_ => XS.iload X108.here hx rfl (hb hby at_157) rfl k_) ?_
    show own_Go p.tables e below _ (T108.setTop (mkF m 159 #[.val (.int p0), .val (.int p1), .val (.int p2), .val (.int p3), .val (.int p4), .val (.int p5), .val (.int nn), .val (.long x0), .second, .val (.long x1), .second, .val (.long x2), .second, .val (.long y0), .second, .val (.long y1), .second, .val (.long y2), .second, .val (.ref b104), .val (.ref b105), .val (.long (0 : Int64)), .second, .unset, .unset] [(.int nn)]))
    refine own_st (fun t_ k_ => XS.iconst X108.here hx rfl (hb hby at_159) k_) ?_
    show own_Go p.tables e below _ (T108.setTop (mkF m 160 #[.val (.int p0), .val (.int p1), .val (.int p2), .val (.int p3), .val (.int p4), .val (.int p5), .val (.int nn), .val (.long x0), .second, .val (.long x1), .second, .val (.long x2), .second, .val (.long y0), .second, .val (.long y1), .second, .val (.long y2), .second, .val (.ref b104), .val (.ref b105), .val (.long (0 : Int64)), .second, .unset, .unset] [(.int (1 : Int32)), (.int nn)]))
    refine own_st (fun t_ k_ => XS.icmpYes X108.here hx rfl (pc0 := 160) (pc' := 173) rfl (hb hby at_160) rfl (tlt (by rw [c51_103]; decide : nn < (1 : Int32))).1 (by decide) (by decide) k_) ?_
    show own_Go p.tables e below _ (T108.setTop (mkF m 173 #[.val (.int p0), .val (.int p1), .val (.int p2), .val (.int p3), .val (.int p4), .val (.int p5), .val (.int nn), .val (.long x0), .second, .val (.long x1), .second, .val (.long x2), .second, .val (.long y0), .second, .val (.long y1), .second, .val (.long y2), .second, .val (.ref b104), .val (.ref b105), .val (.long (0 : Int64)), .second, .unset, .unset] []))
    refine own_st (fun t_ k_ => XS.iload X108.here hx rfl (hb hby at_173) rfl k_) ?_
    show own_Go p.tables e below _ (T108.setTop (mkF m 175 #[.val (.int p0), .val (.int p1), .val (.int p2), .val (.int p3), .val (.int p4), .val (.int p5), .val (.int nn), .val (.long x0), .second, .val (.long x1), .second, .val (.long x2), .second, .val (.long y0), .second, .val (.long y1), .second, .val (.long y2), .second, .val (.ref b104), .val (.ref b105), .val (.long (0 : Int64)), .second, .unset, .unset] [(.int nn)]))
    refine own_st (fun t_ k_ => XS.iconst X108.here hx rfl (hb hby at_175) k_) ?_
    show own_Go p.tables e below _ (T108.setTop (mkF m 176 #[.val (.int p0), .val (.int p1), .val (.int p2), .val (.int p3), .val (.int p4), .val (.int p5), .val (.int nn), .val (.long x0), .second, .val (.long x1), .second, .val (.long x2), .second, .val (.long y0), .second, .val (.long y1), .second, .val (.long y2), .second, .val (.ref b104), .val (.ref b105), .val (.long (0 : Int64)), .second, .unset, .unset] [(.int (2 : Int32)), (.int nn)]))
    refine own_st (fun t_ k_ => XS.icmpYes X108.here hx rfl (pc0 := 176) (pc' := 189) rfl (hb hby at_176) rfl (tlt (by rw [c51_103]; decide : nn < (2 : Int32))).1 (by decide) (by decide) k_) ?_
    show own_Go p.tables e below _ (T108.setTop (mkF m 189 #[.val (.int p0), .val (.int p1), .val (.int p2), .val (.int p3), .val (.int p4), .val (.int p5), .val (.int nn), .val (.long x0), .second, .val (.long x1), .second, .val (.long x2), .second, .val (.long y0), .second, .val (.long y1), .second, .val (.long y2), .second, .val (.ref b104), .val (.ref b105), .val (.long (0 : Int64)), .second, .unset, .unset] []))
    refine own_st (fun t_ k_ => XS.iload X108.here hx rfl (hb hby at_189) rfl k_) ?_
    show own_Go p.tables e below _ (T108.setTop (mkF m 191 #[.val (.int p0), .val (.int p1), .val (.int p2), .val (.int p3), .val (.int p4), .val (.int p5), .val (.int nn), .val (.long x0), .second, .val (.long x1), .second, .val (.long x2), .second, .val (.long y0), .second, .val (.long y1), .second, .val (.long y2), .second, .val (.ref b104), .val (.ref b105), .val (.long (0 : Int64)), .second, .unset, .unset] [(.int nn)]))
    refine own_st (fun t_ k_ => XS.iconst X108.here hx rfl (hb hby at_191) k_) ?_
    show own_Go p.tables e below _ (T108.setTop (mkF m 192 #[.val (.int p0), .val (.int p1), .val (.int p2), .val (.int p3), .val (.int p4), .val (.int p5), .val (.int nn), .val (.long x0), .second, .val (.long x1), .second, .val (.long x2), .second, .val (.long y0), .second, .val (.long y1), .second, .val (.long y2), .second, .val (.ref b104), .val (.ref b105), .val (.long (0 : Int64)), .second, .unset, .unset] [(.int (3 : Int32)), (.int nn)]))
    refine own_st (fun t_ k_ => XS.icmpYes X108.here hx rfl (pc0 := 192) (pc' := 205) rfl (hb hby at_192) rfl (tlt (by rw [c51_103]; decide : nn < (3 : Int32))).1 (by decide) (by decide) k_) ?_
    show own_Go p.tables e below _ (T108.setTop (mkF m 205 #[.val (.int p0), .val (.int p1), .val (.int p2), .val (.int p3), .val (.int p4), .val (.int p5), .val (.int nn), .val (.long x0), .second, .val (.long x1), .second, .val (.long x2), .second, .val (.long y0), .second, .val (.long y1), .second, .val (.long y2), .second, .val (.ref b104), .val (.ref b105), .val (.long (0 : Int64)), .second, .unset, .unset] []))
    refine own_st (fun t_ k_ => XS.aload X108.here hx rfl (hb hby at_205) rfl rfl k_) ?_
    show own_Go p.tables e below _ (T108.setTop (mkF m 207 #[.val (.int p0), .val (.int p1), .val (.int p2), .val (.int p3), .val (.int p4), .val (.int p5), .val (.int nn), .val (.long x0), .second, .val (.long x1), .second, .val (.long x2), .second, .val (.long y0), .second, .val (.long y1), .second, .val (.long y2), .second, .val (.ref b104), .val (.ref b105), .val (.long (0 : Int64)), .second, .unset, .unset] [(.ref b104)]))
    refine own_st (fun t_ k_ => XS.aload X108.here hx rfl (hb hby at_207) rfl rfl k_) ?_
    show own_Go p.tables e below _ (T108.setTop (mkF m 209 #[.val (.int p0), .val (.int p1), .val (.int p2), .val (.int p3), .val (.int p4), .val (.int p5), .val (.int nn), .val (.long x0), .second, .val (.long x1), .second, .val (.long x2), .second, .val (.long y0), .second, .val (.long y1), .second, .val (.long y2), .second, .val (.ref b104), .val (.ref b105), .val (.long (0 : Int64)), .second, .unset, .unset] [(.ref b105), (.ref b104)]))
    obtain ⟨_, _, ⟨T109, L109, k109, n109⟩, -, X109, ⟨Lc109, hQ109, l109, y109, z109⟩, st109⟩ := Jvm.LawKit.callS X108 hx (y := (⟨"com/example/provender/provender/solver/Row", "dot", "([D[D)D"⟩ : MethodName)) hown (mvT hZ (hw _ (List.mem_of_getElem? (i := 1) rfl))) (mvT hZ (hw _ (List.mem_of_getElem? (i := 2) rfl))) (mvT hZ (hw _ (List.mem_of_getElem? (i := 3) rfl))) (mvT hZ (hw _ (List.mem_of_getElem? (i := 4) rfl))) (by decide) (backOf (W := 0) (own_rm1 l Z a0 hw [] b104 b105 k104 k105 0 3 (fun _ => (0 : UInt64)) (own_upd (own_upd (own_upd (fun _ => (0 : UInt64)) 0 (FP.l2d y0)) 1 (FP.l2d y1)) 2 (FP.l2d y2)) (own_xs x0.toInt x1.toInt x2.toInt 0) (own_xs y0.toInt y1.toInt y2.toInt 3) h108 n0 (Nat.le_trans Z0 K108.1) ((((Ar104.ext E105).other W106 (Nat.ne_of_lt (Nat.lt_of_lt_of_le Ar104.lt (Nat.le_of_eq g105.symm)))).other W107 (Nat.ne_of_lt (Nat.lt_of_lt_of_le Ar104.lt (Nat.le_of_eq g105.symm)))).other W108 (Nat.ne_of_lt (Nat.lt_of_lt_of_le Ar104.lt (Nat.le_of_eq g105.symm)))) Aw108 (own_smallL bx0 bx1 bx2 (own_f0 _ _ _)) (own_smallL by0 by1 by2 (own_f3 _ _ _)) (by decide)) hZ (hw _ (List.mem_of_getElem? (i := 4) rfl)) (hw _ (List.mem_of_getElem? (i := 3) rfl)) (by decide) (by decide)) (g := (mkF m 209 #[.val (.int p0), .val (.int p1), .val (.int p2), .val (.int p3), .val (.int p4), .val (.int p5), .val (.int nn), .val (.long x0), .second, .val (.long x1), .second, .val (.long x2), .second, .val (.long y0), .second, .val (.long y1), .second, .val (.long y2), .second, .val (.ref b104), .val (.ref b105), .val (.long (0 : Int64)), .second, .unset, .unset] [(.ref b105), (.ref b104)])) rfl (by rw [hml]; rfl) (argsL := [(.ref b104), (.ref b105)]) (rest := []) (lenOf own_pd0 rfl) rfl (by show 2 * 0 + _ ≤ _; exact Nat.le_of_eq rfl) (hb hby at_209) (fun _ _ => ⟨rfl, e108, (by decide : 2 + 0 ≤ _), (by decide : 3 + 0 ≤ _)⟩)
    dsimp only [Pt.U, Pt.locs, Pt.cells, Pt.slots] at X109 l109 y109 z109 st109 hQ109
    subst l109 y109 z109
    obtain ⟨rfl, N109q, eq109⟩ := hQ109
    have N109 := Fr.app N108 N109q
    refine own_st (st109) ?_
    show own_Go p.tables e below _ (T109.setTop (mkF m 212 #[.val (.int p0), .val (.int p1), .val (.int p2), .val (.int p3), .val (.int p4), .val (.int p5), .val (.int nn), .val (.long x0), .second, .val (.long x1), .second, .val (.long x2), .second, .val (.long y0), .second, .val (.long y1), .second, .val (.long y2), .second, .val (.ref b104), .val (.ref b105), .val (.long (0 : Int64)), .second, .unset, .unset] [(.double (own_dot (fun _ => (0 : UInt64)) (own_upd (own_upd (own_upd (fun _ => (0 : UInt64)) 0 (FP.l2d y0)) 1 (FP.l2d y1)) 2 (FP.l2d y2)) 0))]))
    refine own_st (fun t_ k_ => XS.dstore X109.here hx rfl (hb hby at_212) rfl (l' := #[.val (.int p0), .val (.int p1), .val (.int p2), .val (.int p3), .val (.int p4), .val (.int p5), .val (.int nn), .val (.long x0), .second, .val (.long x1), .second, .val (.long x2), .second, .val (.long y0), .second, .val (.long y1), .second, .val (.long y2), .second, .val (.ref b104), .val (.ref b105), .val (.long (0 : Int64)), .second, .val (.double (own_dot (fun _ => (0 : UInt64)) (own_upd (own_upd (own_upd (fun _ => (0 : UInt64)) 0 (FP.l2d y0)) 1 (FP.l2d y1)) 2 (FP.l2d y2)) 0)), .second]) rfl k_) ?_
    show own_Go p.tables e below _ (T109.setTop (mkF m 214 #[.val (.int p0), .val (.int p1), .val (.int p2), .val (.int p3), .val (.int p4), .val (.int p5), .val (.int nn), .val (.long x0), .second, .val (.long x1), .second, .val (.long x2), .second, .val (.long y0), .second, .val (.long y1), .second, .val (.long y2), .second, .val (.ref b104), .val (.ref b105), .val (.long (0 : Int64)), .second, .val (.double (own_dot (fun _ => (0 : UInt64)) (own_upd (own_upd (own_upd (fun _ => (0 : UInt64)) 0 (FP.l2d y0)) 1 (FP.l2d y1)) 2 (FP.l2d y2)) 0)), .second] []))
    refine own_st (fun t_ k_ => XS.dload X109.here hx rfl (hb hby at_214) rfl k_) ?_
    show own_Go p.tables e below _ (T109.setTop (mkF m 216 #[.val (.int p0), .val (.int p1), .val (.int p2), .val (.int p3), .val (.int p4), .val (.int p5), .val (.int nn), .val (.long x0), .second, .val (.long x1), .second, .val (.long x2), .second, .val (.long y0), .second, .val (.long y1), .second, .val (.long y2), .second, .val (.ref b104), .val (.ref b105), .val (.long (0 : Int64)), .second, .val (.double (own_dot (fun _ => (0 : UInt64)) (own_upd (own_upd (own_upd (fun _ => (0 : UInt64)) 0 (FP.l2d y0)) 1 (FP.l2d y1)) 2 (FP.l2d y2)) 0)), .second] [(.double (own_dot (fun _ => (0 : UInt64)) (own_upd (own_upd (own_upd (fun _ => (0 : UInt64)) 0 (FP.l2d y0)) 1 (FP.l2d y1)) 2 (FP.l2d y2)) 0))]))
    refine own_st (fun t_ k_ => XS.lload X109.here hx rfl (hb hby at_216) rfl k_) ?_
    show own_Go p.tables e below _ (T109.setTop (mkF m 218 #[.val (.int p0), .val (.int p1), .val (.int p2), .val (.int p3), .val (.int p4), .val (.int p5), .val (.int nn), .val (.long x0), .second, .val (.long x1), .second, .val (.long x2), .second, .val (.long y0), .second, .val (.long y1), .second, .val (.long y2), .second, .val (.ref b104), .val (.ref b105), .val (.long (0 : Int64)), .second, .val (.double (own_dot (fun _ => (0 : UInt64)) (own_upd (own_upd (own_upd (fun _ => (0 : UInt64)) 0 (FP.l2d y0)) 1 (FP.l2d y1)) 2 (FP.l2d y2)) 0)), .second] [(.long (0 : Int64)), (.double (own_dot (fun _ => (0 : UInt64)) (own_upd (own_upd (own_upd (fun _ => (0 : UInt64)) 0 (FP.l2d y0)) 1 (FP.l2d y1)) 2 (FP.l2d y2)) 0))]))
    refine own_st (fun t_ k_ => XS.l2dS X109.here hx rfl (hb hby at_218) rfl rfl k_) ?_
    show own_Go p.tables e below _ (T109.setTop (mkF m 219 #[.val (.int p0), .val (.int p1), .val (.int p2), .val (.int p3), .val (.int p4), .val (.int p5), .val (.int nn), .val (.long x0), .second, .val (.long x1), .second, .val (.long x2), .second, .val (.long y0), .second, .val (.long y1), .second, .val (.long y2), .second, .val (.ref b104), .val (.ref b105), .val (.long (0 : Int64)), .second, .val (.double (own_dot (fun _ => (0 : UInt64)) (own_upd (own_upd (own_upd (fun _ => (0 : UInt64)) 0 (FP.l2d y0)) 1 (FP.l2d y1)) 2 (FP.l2d y2)) 0)), .second] [(.double (FP.l2d (0 : Int64))), (.double (own_dot (fun _ => (0 : UInt64)) (own_upd (own_upd (own_upd (fun _ => (0 : UInt64)) 0 (FP.l2d y0)) 1 (FP.l2d y1)) 2 (FP.l2d y2)) 0))]))
    refine own_st (fun t_ k_ => XS.dcmpS X109.here hx rfl (hb hby at_219) rfl rfl k_) ?_
    show own_Go p.tables e below _ (T109.setTop (mkF m 220 #[.val (.int p0), .val (.int p1), .val (.int p2), .val (.int p3), .val (.int p4), .val (.int p5), .val (.int nn), .val (.long x0), .second, .val (.long x1), .second, .val (.long x2), .second, .val (.long y0), .second, .val (.long y1), .second, .val (.long y2), .second, .val (.ref b104), .val (.ref b105), .val (.long (0 : Int64)), .second, .val (.double (own_dot (fun _ => (0 : UInt64)) (own_upd (own_upd (own_upd (fun _ => (0 : UInt64)) 0 (FP.l2d y0)) 1 (FP.l2d y1)) 2 (FP.l2d y2)) 0)), .second] [(.int (cmpValue (FP.dcmp (own_dot (fun _ => (0 : UInt64)) (own_upd (own_upd (own_upd (fun _ => (0 : UInt64)) 0 (FP.l2d y0)) 1 (FP.l2d y1)) 2 (FP.l2d y2)) 0) (FP.l2d (0 : Int64))) .l))]))
    refine own_st (fun t_ k_ => XS.ifNo X109.here hx rfl (hb hby at_220) rfl ((if0 _ _).trans (teq (own_e0 bx0 bx1 bx2 by0 by1 by2 (own_smallL bx0 bx1 bx2 (own_f0 _ _ _)) (own_smallL by0 by1 by2 (own_f3 _ _ _)) .l : (cmpValue (FP.dcmp (own_dot (fun _ => (0 : UInt64)) (own_upd (own_upd (own_upd (fun _ => (0 : UInt64)) 0 (FP.l2d y0)) 1 (FP.l2d y1)) 2 (FP.l2d y2)) 0) (FP.l2d (0 : Int64))) .l) = (0 : Int32))).2) k_) ?_
    show own_Go p.tables e below _ (T109.setTop (mkF m 223 #[.val (.int p0), .val (.int p1), .val (.int p2), .val (.int p3), .val (.int p4), .val (.int p5), .val (.int nn), .val (.long x0), .second, .val (.long x1), .second, .val (.long x2), .second, .val (.long y0), .second, .val (.long y1), .second, .val (.long y2), .second, .val (.ref b104), .val (.ref b105), .val (.long (0 : Int64)), .second, .val (.double (own_dot (fun _ => (0 : UInt64)) (own_upd (own_upd (own_upd (fun _ => (0 : UInt64)) 0 (FP.l2d y0)) 1 (FP.l2d y1)) 2 (FP.l2d y2)) 0)), .second] []))
    refine own_st (fun t_ k_ => XS.iconst X109.here hx rfl (hb hby at_223) k_) ?_
    show own_Go p.tables e below _ (T109.setTop (mkF m 224 #[.val (.int p0), .val (.int p1), .val (.int p2), .val (.int p3), .val (.int p4), .val (.int p5), .val (.int nn), .val (.long x0), .second, .val (.long x1), .second, .val (.long x2), .second, .val (.long y0), .second, .val (.long y1), .second, .val (.long y2), .second, .val (.ref b104), .val (.ref b105), .val (.long (0 : Int64)), .second, .val (.double (own_dot (fun _ => (0 : UInt64)) (own_upd (own_upd (own_upd (fun _ => (0 : UInt64)) 0 (FP.l2d y0)) 1 (FP.l2d y1)) 2 (FP.l2d y2)) 0)), .second] [(.int (1 : Int32))]))
    refine own_st (fun t_ k_ => XS.goto X109.here hx rfl (pc0 := 224) (pc' := 228) rfl (hb hby at_224) (by decide) (by decide) k_) ?_
    show own_Go p.tables e below _ (T109.setTop (mkF m 228 #[.val (.int p0), .val (.int p1), .val (.int p2), .val (.int p3), .val (.int p4), .val (.int p5), .val (.int nn), .val (.long x0), .second, .val (.long x1), .second, .val (.long x2), .second, .val (.long y0), .second, .val (.long y1), .second, .val (.long y2), .second, .val (.ref b104), .val (.ref b105), .val (.long (0 : Int64)), .second, .val (.double (own_dot (fun _ => (0 : UInt64)) (own_upd (own_upd (own_upd (fun _ => (0 : UInt64)) 0 (FP.l2d y0)) 1 (FP.l2d y1)) 2 (FP.l2d y2)) 0)), .second] [(.int (1 : Int32))]))
    exact own_ret (w := (.int (1 : Int32))) X109 hx hnl Bd.returns rfl (Or.inl ⟨rfl, by decide, _, rfl⟩) (hb hby at_228) ⟨rfl, N109, (by rw [eq109]; exact K108)⟩ (by decide) (by decide)
  · skip
    refine own_st (fun t_ k_ => XS.ifYes X0.here hx rfl (pc0 := 51) (pc' := 62) rfl (hb hby at_51) rfl ((if0 _ _).trans (feq c51_103).2) (by decide) (by decide) k_) ?_
    show own_Go p.tables e below _ (s₁.setTop (mkF m 62 #[.val (.int p0), .val (.int p1), .val (.int p2), .val (.int p3), .val (.int p4), .val (.int p5), .val (.int nn), .val (.long x0), .second, .val (.long x1), .second, .val (.long x2), .second, .val (.long y0), .second, .val (.long y1), .second, .val (.long y2), .second, .unset, .unset, .unset, .unset, .unset, .unset] []))
    refine own_st (fun t_ k_ => XS.iload X0.here hx rfl (hb hby at_62) rfl k_) ?_
    show own_Go p.tables e below _ (s₁.setTop (mkF m 64 #[.val (.int p0), .val (.int p1), .val (.int p2), .val (.int p3), .val (.int p4), .val (.int p5), .val (.int nn), .val (.long x0), .second, .val (.long x1), .second, .val (.long x2), .second, .val (.long y0), .second, .val (.long y1), .second, .val (.long y2), .second, .unset, .unset, .unset, .unset, .unset, .unset] [(.int nn)]))
    refine own_st (fun t_ k_ => XS.iconst X0.here hx rfl (hb hby at_64) k_) ?_
    show own_Go p.tables e below _ (s₁.setTop (mkF m 65 #[.val (.int p0), .val (.int p1), .val (.int p2), .val (.int p3), .val (.int p4), .val (.int p5), .val (.int nn), .val (.long x0), .second, .val (.long x1), .second, .val (.long x2), .second, .val (.long y0), .second, .val (.long y1), .second, .val (.long y2), .second, .unset, .unset, .unset, .unset, .unset, .unset] [(.int (1 : Int32)), (.int nn)]))
    by_cases c65_110 : nn = (1 : Int32)
    · skip
      refine own_st (fun t_ k_ => XS.icmpNo X0.here hx rfl (hb hby at_65) rfl (teq c65_110).2 k_) ?_
      show own_Go p.tables e below _ (s₁.setTop (mkF m 68 #[.val (.int p0), .val (.int p1), .val (.int p2), .val (.int p3), .val (.int p4), .val (.int p5), .val (.int nn), .val (.long x0), .second, .val (.long x1), .second, .val (.long x2), .second, .val (.long y0), .second, .val (.long y1), .second, .val (.long y2), .second, .unset, .unset, .unset, .unset, .unset, .unset] []))
      refine own_st (fun t_ k_ => XS.iconst X0.here hx rfl (hb hby at_68) k_) ?_
      show own_Go p.tables e below _ (s₁.setTop (mkF m 69 #[.val (.int p0), .val (.int p1), .val (.int p2), .val (.int p3), .val (.int p4), .val (.int p5), .val (.int nn), .val (.long x0), .second, .val (.long x1), .second, .val (.long x2), .second, .val (.long y0), .second, .val (.long y1), .second, .val (.long y2), .second, .unset, .unset, .unset, .unset, .unset, .unset] [(.int (1 : Int32))]))
      obtain ⟨T111, h111, k111, X111, e111, E111, A111, st111⟩ := newP X0 hx hZ (hw _ (List.mem_of_getElem? (i := 0) rfl)) e0 (g := (mkF m 69 #[.val (.int p0), .val (.int p1), .val (.int p2), .val (.int p3), .val (.int p4), .val (.int p5), .val (.int nn), .val (.long x0), .second, .val (.long x1), .second, .val (.long x2), .second, .val (.long y0), .second, .val (.long y1), .second, .val (.long y2), .second, .unset, .unset, .unset, .unset, .unset, .unset] [(.int (1 : Int32))])) rfl (hb hby at_69) rfl (by decide) (cap := 1) (by decide) (by decide) (by decide) (by decide)
      obtain ⟨b111, g111⟩ : ∃ z, z = h0.size := ⟨_, rfl⟩
      rw [← g111] at A111 st111
      have fr111 : h0.size ≤ b111 := Nat.le_trans (Keep.refl h0 []).1 (Nat.le_of_eq g111.symm)
      have ge111 : n0 ≤ b111 := Nat.le_trans Z0 fr111
      have K111 : Keep h0 h111 [] := (Keep.refl h0 []).ext E111
      have Ar111 : own_A Z h111 b111 k111 .double 1 (fun i => .double ((fun _ => (0 : UInt64)) i)) := own_A.new A111 rfl (by decide)
      refine own_st (st111) ?_
      show own_Go p.tables e below _ (T111.setTop (mkF m 71 #[.val (.int p0), .val (.int p1), .val (.int p2), .val (.int p3), .val (.int p4), .val (.int p5), .val (.int nn), .val (.long x0), .second, .val (.long x1), .second, .val (.long x2), .second, .val (.long y0), .second, .val (.long y1), .second, .val (.long y2), .second, .unset, .unset, .unset, .unset, .unset, .unset] [(.ref b111)]))
      refine own_st (fun t_ k_ => XS.dup X111.here hx rfl (hb hby at_71) rfl rfl k_) ?_
      show own_Go p.tables e below _ (T111.setTop (mkF m 72 #[.val (.int p0), .val (.int p1), .val (.int p2), .val (.int p3), .val (.int p4), .val (.int p5), .val (.int nn), .val (.long x0), .second, .val (.long x1), .second, .val (.long x2), .second, .val (.long y0), .second, .val (.long y1), .second, .val (.long y2), .second, .unset, .unset, .unset, .unset, .unset, .unset] [(.ref b111), (.ref b111)]))
      refine own_st (fun t_ k_ => XS.iconst X111.here hx rfl (hb hby at_72) k_) ?_
      show own_Go p.tables e below _ (T111.setTop (mkF m 73 #[.val (.int p0), .val (.int p1), .val (.int p2), .val (.int p3), .val (.int p4), .val (.int p5), .val (.int nn), .val (.long x0), .second, .val (.long x1), .second, .val (.long x2), .second, .val (.long y0), .second, .val (.long y1), .second, .val (.long y2), .second, .unset, .unset, .unset, .unset, .unset, .unset] [(.int (0 : Int32)), (.ref b111), (.ref b111)]))
      refine own_st (fun t_ k_ => XS.lload X111.here hx rfl (hb hby at_73) rfl k_) ?_
      show own_Go p.tables e below _ (T111.setTop (mkF m 75 #[.val (.int p0), .val (.int p1), .val (.int p2), .val (.int p3), .val (.int p4), .val (.int p5), .val (.int nn), .val (.long x0), .second, .val (.long x1), .second, .val (.long x2), .second, .val (.long y0), .second, .val (.long y1), .second, .val (.long y2), .second, .unset, .unset, .unset, .unset, .unset, .unset] [(.long x0), (.int (0 : Int32)), (.ref b111), (.ref b111)]))
      refine own_st (fun t_ k_ => XS.l2dS X111.here hx rfl (hb hby at_75) rfl rfl k_) ?_
      show own_Go p.tables e below _ (T111.setTop (mkF m 76 #[.val (.int p0), .val (.int p1), .val (.int p2), .val (.int p3), .val (.int p4), .val (.int p5), .val (.int nn), .val (.long x0), .second, .val (.long x1), .second, .val (.long x2), .second, .val (.long y0), .second, .val (.long y1), .second, .val (.long y2), .second, .unset, .unset, .unset, .unset, .unset, .unset] [(.double (FP.l2d x0)), (.int (0 : Int32)), (.ref b111), (.ref b111)]))
      obtain ⟨T112, h112, X112, e112, W112, Aw112, st112⟩ := own_dastore X111 hx hZ e111 Ar111 (i := 0) (by decide) (by decide) (g := (mkF m 76 #[.val (.int p0), .val (.int p1), .val (.int p2), .val (.int p3), .val (.int p4), .val (.int p5), .val (.int nn), .val (.long x0), .second, .val (.long x1), .second, .val (.long x2), .second, .val (.long y0), .second, .val (.long y1), .second, .val (.long y2), .second, .unset, .unset, .unset, .unset, .unset, .unset] [(.double (FP.l2d x0)), (.int (0 : Int32)), (.ref b111), (.ref b111)])) rfl rfl (hb hby at_76)
      have N112 := Fr.snoc X112 N0 ge111
      have K112 : Keep h0 h112 [] := K111.wr W112 (Or.inr fr111)
      refine own_st (st112) ?_
      show own_Go p.tables e below _ (T112.setTop (mkF m 77 #[.val (.int p0), .val (.int p1), .val (.int p2), .val (.int p3), .val (.int p4), .val (.int p5), .val (.int nn), .val (.long x0), .second, .val (.long x1), .second, .val (.long x2), .second, .val (.long y0), .second, .val (.long y1), .second, .val (.long y2), .second, .unset, .unset, .unset, .unset, .unset, .unset] [(.ref b111)]))
      refine own_st (fun t_ k_ => XS.astore X112.here hx rfl (hb hby at_77) rfl rfl (l' := #[.val (.int p0), .val (.int p1), .val (.int p2), .val (.int p3), .val (.int p4), .val (.int p5), .val (.int nn), .val (.long x0), .second, .val (.long x1), .second, .val (.long x2), .second, .val (.long y0), .second, .val (.long y1), .second, .val (.long y2), .second, .val (.ref b111), .unset, .unset, .unset, .unset, .unset]) rfl k_) ?_
      show own_Go p.tables e below _ (T112.setTop (mkF m 79 #[.val (.int p0), .val (.int p1), .val (.int p2), .val (.int p3), .val (.int p4), .val (.int p5), .val (.int nn), .val (.long x0), .second, .val (.long x1), .second, .val (.long x2), .second, .val (.long y0), .second, .val (.long y1), .second, .val (.long y2), .second, .val (.ref b111), .unset, .unset, .unset, .unset, .unset] []))
      refine own_st (fun t_ k_ => XS.goto X112.here hx rfl (pc0 := 79) (pc' := 131) rfl (hb hby at_79) (by decide) (by decide) k_) ?_
      show own_Go p.tables e below _ (T112.setTop (mkF m 131 #[.val (.int p0), .val (.int p1), .val (.int p2), .val (.int p3), .val (.int p4), .val (.int p5), .val (.int nn), .val (.long x0), .second, .val (.long x1), .second, .val (.long x2), .second, .val (.long y0), .second, .val (.long y1), .second, .val (.long y2), .second, .val (.ref b111), .unset, .unset, .unset, .unset, .unset] []))
      refine own_st (fun t_ k_ => XS.iconst X112.here hx rfl (hb hby at_131) k_) ?_
      show own_Go p.tables e below _ (T112.setTop (mkF m 132 #[.val (.int p0), .val (.int p1), .val (.int p2), .val (.int p3), .val (.int p4), .val (.int p5), .val (.int nn), .val (.long x0), .second, .val (.long x1), .second, .val (.long x2), .second, .val (.long y0), .second, .val (.long y1), .second, .val (.long y2), .second, .val (.ref b111), .unset, .unset, .unset, .unset, .unset] [(.int (3 : Int32))]))
      obtain ⟨T113, h113, k113, X113, e113, E113, A113, st113⟩ := newP X112 hx hZ (hw _ (List.mem_of_getElem? (i := 0) rfl)) e112 (g := (mkF m 132 #[.val (.int p0), .val (.int p1), .val (.int p2), .val (.int p3), .val (.int p4), .val (.int p5), .val (.int nn), .val (.long x0), .second, .val (.long x1), .second, .val (.long x2), .second, .val (.long y0), .second, .val (.long y1), .second, .val (.long y2), .second, .val (.ref b111), .unset, .unset, .unset, .unset, .unset] [(.int (3 : Int32))])) rfl (hb hby at_132) rfl (by decide) (cap := 3) (by decide) (by decide) (by decide) (by decide)
      obtain ⟨b113, g113⟩ : ∃ z, z = h112.size := ⟨_, rfl⟩
      rw [← g113] at A113 st113
      have fr113 : h0.size ≤ b113 := Nat.le_trans K112.1 (Nat.le_of_eq g113.symm)
      have ge113 : n0 ≤ b113 := Nat.le_trans Z0 fr113
      have K113 : Keep h0 h113 [] := K112.ext E113
      have Ar113 : own_A Z h113 b113 k113 .double 3 (fun i => .double ((fun _ => (0 : UInt64)) i)) := own_A.new A113 rfl (by decide)
      refine own_st (st113) ?_
      show own_Go p.tables e below _ (T113.setTop (mkF m 134 #[.val (.int p0), .val (.int p1), .val (.int p2), .val (.int p3), .val (.int p4), .val (.int p5), .val (.int nn), .val (.long x0), .second, .val (.long x1), .second, .val (.long x2), .second, .val (.long y0), .second, .val (.long y1), .second, .val (.long y2), .second, .val (.ref b111), .unset, .unset, .unset, .unset, .unset] [(.ref b113)]))
      refine own_st (fun t_ k_ => XS.dup X113.here hx rfl (hb hby at_134) rfl rfl k_) ?_
      show own_Go p.tables e below _ (T113.setTop (mkF m 135 #[.val (.int p0), .val (.int p1), .val (.int p2), .val (.int p3), .val (.int p4), .val (.int p5), .val (.int nn), .val (.long x0), .second, .val (.long x1), .second, .val (.long x2), .second, .val (.long y0), .second, .val (.long y1), .second, .val (.long y2), .second, .val (.ref b111), .unset, .unset, .unset, .unset, .unset] [(.ref b113), (.ref b113)]))
      refine own_st (fun t_ k_ => XS.iconst X113.here hx rfl (hb hby at_135) k_) ?_
      show own_Go p.tables e below _ (T113.setTop (mkF m 136 #[.val (.int p0), .val (.int p1), .val (.int p2), .val (.int p3), .val (.int p4), .val (.int p5), .val (.int nn), .val (.long x0), .second, .val (.long x1), .second, .val (.long x2), .second, .val (.long y0), .second, .val (.long y1), .second, .val (.long y2), .second, .val (.ref b111), .unset, .unset, .unset, .unset, .unset] [(.int (0 : Int32)), (.ref b113), (.ref b113)]))
      refine own_st (fun t_ k_ => XS.lload X113.here hx rfl (hb hby at_136) rfl k_) ?_
      show own_Go p.tables e below _ (T113.setTop (mkF m 138 #[.val (.int p0), .val (.int p1), .val (.int p2), .val (.int p3), .val (.int p4), .val (.int p5), .val (.int nn), .val (.long x0), .second, .val (.long x1), .second, .val (.long x2), .second, .val (.long y0), .second, .val (.long y1), .second, .val (.long y2), .second, .val (.ref b111), .unset, .unset, .unset, .unset, .unset] [(.long y0), (.int (0 : Int32)), (.ref b113), (.ref b113)]))
      refine own_st (fun t_ k_ => XS.l2dS X113.here hx rfl (hb hby at_138) rfl rfl k_) ?_
      show own_Go p.tables e below _ (T113.setTop (mkF m 139 #[.val (.int p0), .val (.int p1), .val (.int p2), .val (.int p3), .val (.int p4), .val (.int p5), .val (.int nn), .val (.long x0), .second, .val (.long x1), .second, .val (.long x2), .second, .val (.long y0), .second, .val (.long y1), .second, .val (.long y2), .second, .val (.ref b111), .unset, .unset, .unset, .unset, .unset] [(.double (FP.l2d y0)), (.int (0 : Int32)), (.ref b113), (.ref b113)]))
      obtain ⟨T114, h114, X114, e114, W114, Aw114, st114⟩ := own_dastore X113 hx hZ e113 Ar113 (i := 0) (by decide) (by decide) (g := (mkF m 139 #[.val (.int p0), .val (.int p1), .val (.int p2), .val (.int p3), .val (.int p4), .val (.int p5), .val (.int nn), .val (.long x0), .second, .val (.long x1), .second, .val (.long x2), .second, .val (.long y0), .second, .val (.long y1), .second, .val (.long y2), .second, .val (.ref b111), .unset, .unset, .unset, .unset, .unset] [(.double (FP.l2d y0)), (.int (0 : Int32)), (.ref b113), (.ref b113)])) rfl rfl (hb hby at_139)
      have N114 := Fr.snoc X114 N112 ge113
      have K114 : Keep h0 h114 [] := K113.wr W114 (Or.inr fr113)
      refine own_st (st114) ?_
      show own_Go p.tables e below _ (T114.setTop (mkF m 140 #[.val (.int p0), .val (.int p1), .val (.int p2), .val (.int p3), .val (.int p4), .val (.int p5), .val (.int nn), .val (.long x0), .second, .val (.long x1), .second, .val (.long x2), .second, .val (.long y0), .second, .val (.long y1), .second, .val (.long y2), .second, .val (.ref b111), .unset, .unset, .unset, .unset, .unset] [(.ref b113)]))
      refine own_st (fun t_ k_ => XS.dup X114.here hx rfl (hb hby at_140) rfl rfl k_) ?_
      show own_Go p.tables e below _ (T114.setTop (mkF m 141 #[.val (.int p0), .val (.int p1), .val (.int p2), .val (.int p3), .val (.int p4), .val (.int p5), .val (.int nn), .val (.long x0), .second, .val (.long x1), .second, .val (.long x2), .second, .val (.long y0), .second, .val (.long y1), .second, .val (.long y2), .second, .val (.ref b111), .unset, .unset, .unset, .unset, .unset] [(.ref b113), (.ref b113)]))
      refine own_st (fun t_ k_ => XS.iconst X114.here hx rfl (hb hby at_141) k_) ?_
      show own_Go p.tables e below _ (T114.setTop (mkF m 142 #[.val (.int p0), .val (.int p1), .val (.int p2), .val (.int p3), .val (.int p4), .val (.int p5), .val (.int nn), .val (.long x0), .second, .val (.long x1), .second, .val (.long x2), .second, .val (.long y0), .second, .val (.long y1), .second, .val (.long y2), .second, .val (.ref b111), .unset, .unset, .unset, .unset, .unset] [(.int (1 : Int32)), (.ref b113), (.ref b113)]))
      refine own_st (fun t_ k_ => XS.lload X114.here hx rfl (hb hby at_142) rfl k_) ?_
      show own_Go p.tables e below _ (T114.setTop (mkF m 144 #[.val (.int p0), .val (.int p1), .val (.int p2), .val (.int p3), .val (.int p4), .val (.int p5), .val (.int nn), .val (.long x0), .second, .val (.long x1), .second, .val (.long x2), .second, .val (.long y0), .second, .val (.long y1), .second, .val (.long y2), .second, .val (.ref b111), .unset, .unset, .unset, .unset, .unset] [(.long y1), (.int (1 : Int32)), (.ref b113), (.ref b113)]))
      refine own_st (fun t_ k_ => XS.l2dS X114.here hx rfl (hb hby at_144) rfl rfl k_) ?_
      show own_Go p.tables e below _ (T114.setTop (mkF m 145 #[.val (.int p0), .val (.int p1), .val (.int p2), .val (.int p3), .val (.int p4), .val (.int p5), .val (.int nn), .val (.long x0), .second, .val (.long x1), .second, .val (.long x2), .second, .val (.long y0), .second, .val (.long y1), .second, .val (.long y2), .second, .val (.ref b111), .unset, .unset, .unset, .unset, .unset] [(.double (FP.l2d y1)), (.int (1 : Int32)), (.ref b113), (.ref b113)]))
      obtain ⟨T115, h115, X115, e115, W115, Aw115, st115⟩ := own_dastore X114 hx hZ e114 Aw114 (i := 1) (by decide) (by decide) (g := (mkF m 145 #[.val (.int p0), .val (.int p1), .val (.int p2), .val (.int p3), .val (.int p4), .val (.int p5), .val (.int nn), .val (.long x0), .second, .val (.long x1), .second, .val (.long x2), .second, .val (.long y0), .second, .val (.long y1), .second, .val (.long y2), .second, .val (.ref b111), .unset, .unset, .unset, .unset, .unset] [(.double (FP.l2d y1)), (.int (1 : Int32)), (.ref b113), (.ref b113)])) rfl rfl (hb hby at_145)
      have N115 := Fr.snoc X115 N114 ge113
      have K115 : Keep h0 h115 [] := K114.wr W115 (Or.inr fr113)
      refine own_st (st115) ?_
      show own_Go p.tables e below _ (T115.setTop (mkF m 146 #[.val (.int p0), .val (.int p1), .val (.int p2), .val (.int p3), .val (.int p4), .val (.int p5), .val (.int nn), .val (.long x0), .second, .val (.long x1), .second, .val (.long x2), .second, .val (.long y0), .second, .val (.long y1), .second, .val (.long y2), .second, .val (.ref b111), .unset, .unset, .unset, .unset, .unset] [(.ref b113)]))
      refine own_st (fun t_ k_ => XS.dup X115.here hx rfl (hb hby at_146) rfl rfl k_) ?_
      show own_Go p.tables e below _ (T115.setTop (mkF m 147 #[.val (.int p0), .val (.int p1), .val (.int p2), .val (.int p3), .val (.int p4), .val (.int p5), .val (.int nn), .val (.long x0), .second, .val (.long x1), .second, .val (.long x2), .second, .val (.long y0), .second, .val (.long y1), .second, .val (.long y2), .second, .val (.ref b111), .unset, .unset, .unset, .unset, .unset] [(.ref b113), (.ref b113)]))
      refine own_st (fun t_ k_ => XS.iconst X115.here hx rfl (hb hby at_147) k_) ?_
      show own_Go p.tables e below _ (T115.setTop (mkF m 148 #[.val (.int p0), .val (.int p1), .val (.int p2), .val (.int p3), .val (.int p4), .val (.int p5), .val (.int nn), .val (.long x0), .second, .val (.long x1), .second, .val (.long x2), .second, .val (.long y0), .second, .val (.long y1), .second, .val (.long y2), .second, .val (.ref b111), .unset, .unset, .unset, .unset, .unset] [(.int (2 : Int32)), (.ref b113), (.ref b113)]))
      refine own_st (fun t_ k_ => XS.lload X115.here hx rfl (hb hby at_148) rfl k_) ?_
      show own_Go p.tables e below _ (T115.setTop (mkF m 150 #[.val (.int p0), .val (.int p1), .val (.int p2), .val (.int p3), .val (.int p4), .val (.int p5), .val (.int nn), .val (.long x0), .second, .val (.long x1), .second, .val (.long x2), .second, .val (.long y0), .second, .val (.long y1), .second, .val (.long y2), .second, .val (.ref b111), .unset, .unset, .unset, .unset, .unset] [(.long y2), (.int (2 : Int32)), (.ref b113), (.ref b113)]))
      refine own_st (fun t_ k_ => XS.l2dS X115.here hx rfl (hb hby at_150) rfl rfl k_) ?_
      show own_Go p.tables e below _ (T115.setTop (mkF m 151 #[.val (.int p0), .val (.int p1), .val (.int p2), .val (.int p3), .val (.int p4), .val (.int p5), .val (.int nn), .val (.long x0), .second, .val (.long x1), .second, .val (.long x2), .second, .val (.long y0), .second, .val (.long y1), .second, .val (.long y2), .second, .val (.ref b111), .unset, .unset, .unset, .unset, .unset] [(.double (FP.l2d y2)), (.int (2 : Int32)), (.ref b113), (.ref b113)]))
      obtain ⟨T116, h116, X116, e116, W116, Aw116, st116⟩ := own_dastore X115 hx hZ e115 Aw115 (i := 2) (by decide) (by decide) (g := (mkF m 151 #[.val (.int p0), .val (.int p1), .val (.int p2), .val (.int p3), .val (.int p4), .val (.int p5), .val (.int nn), .val (.long x0), .second, .val (.long x1), .second, .val (.long x2), .second, .val (.long y0), .second, .val (.long y1), .second, .val (.long y2), .second, .val (.ref b111), .unset, .unset, .unset, .unset, .unset] [(.double (FP.l2d y2)), (.int (2 : Int32)), (.ref b113), (.ref b113)])) rfl rfl (hb hby at_151)
      have N116 := Fr.snoc X116 N115 ge113
      have K116 : Keep h0 h116 [] := K115.wr W116 (Or.inr fr113)
      refine own_st (st116) ?_
      show own_Go p.tables e below _ (T116.setTop (mkF m 152 #[.val (.int p0), .val (.int p1), .val (.int p2), .val (.int p3), .val (.int p4), .val (.int p5), .val (.int nn), .val (.long x0), .second, .val (.long x1), .second, .val (.long x2), .second, .val (.long y0), .second, .val (.long y1), .second, .val (.long y2), .second, .val (.ref b111), .unset, .unset, .unset, .unset, .unset] [(.ref b113)]))
      refine own_st (fun t_ k_ => XS.astore X116.here hx rfl (hb hby at_152) rfl rfl (l' := #[.val (.int p0), .val (.int p1), .val (.int p2), .val (.int p3), .val (.int p4), .val (.int p5), .val (.int nn), .val (.long x0), .second, .val (.long x1), .second, .val (.long x2), .second, .val (.long y0), .second, .val (.long y1), .second, .val (.long y2), .second, .val (.ref b111), .val (.ref b113), .unset, .unset, .unset, .unset]) rfl k_) ?_
      show own_Go p.tables e below _ (T116.setTop (mkF m 154 #[.val (.int p0), .val (.int p1), .val (.int p2), .val (.int p3), .val (.int p4), .val (.int p5), .val (.int nn), .val (.long x0), .second, .val (.long x1), .second, .val (.long x2), .second, .val (.long y0), .second, .val (.long y1), .second, .val (.long y2), .second, .val (.ref b111), .val (.ref b113), .unset, .unset, .unset, .unset] []))
      refine own_st (fun t_ k_ => XS.lconst X116.here hx rfl (hb hby at_154) k_) ?_
      show own_Go p.tables e below _ (T116.setTop (mkF m 155 #[.val (.int p0), .val (.int p1), .val (.int p2), .val (.int p3), .val (.int p4), .val (.int p5), .val (.int nn), .val (.long x0), .second, .val (.long x1), .second, .val (.long x2), .second, .val (.long y0), .second, .val (.long y1), .second, .val (.long y2), .second, .val (.ref b111), .val (.ref b113), .unset, .unset, .unset, .unset] [(.long (0 : Int64))]))
      refine own_st (fun t_ k_ => XS.lstore X116.here hx rfl (hb hby at_155) rfl (l' := #[.val (.int p0), .val (.int p1), .val (.int p2), .val (.int p3), .val (.int p4), .val (.int p5), .val (.int nn), .val (.long x0), .second, .val (.long x1), .second, .val (.long x2), .second, .val (.long y0), .second, .val (.long y1), .second, .val (.long y2), .second, .val (.ref b111), .val (.ref b113), .val (.long (0 : Int64)), .second, .unset, .unset]) rfl k_) ?_
      show own_Go p.tables e below _ (T116.setTop (mkF m 157 #[.val (.int p0), .val (.int p1), .val (.int p2), .val (.int p3), .val (.int p4), .val (.int p5), .val (.int nn), .val (.long x0), .second, .val (.long x1), .second, .val (.long x2), .second, .val (.long y0), .second, .val (.long y1), .second, .val (.long y2), .second, .val (.ref b111), .val (.ref b113), .val (.long (0 : Int64)), .second, .unset, .unset] []))
      refine own_st (fun t_ k_ => XS.iload X116.here hx rfl (hb hby at_157) rfl k_) ?_
      show own_Go p.tables e below _ (T116.setTop (mkF m 159 #[.val (.int p0), .val (.int p1), .val (.int p2), .val (.int p3), .val (.int p4), .val (.int p5), .val (.int nn), .val (.long x0), .second, .val (.long x1), .second, .val (.long x2), .second, .val (.long y0), .second, .val (.long y1), .second, .val (.long y2), .second, .val (.ref b111), .val (.ref b113), .val (.long (0 : Int64)), .second, .unset, .unset] [(.int nn)]))
      refine own_st (fun t_ k_ => XS.iconst X116.here hx rfl (hb hby at_159) k_) ?_
      show own_Go p.tables e below _ (T116.setTop (mkF m 160 #[.val (.int p0), .val (.int p1), .val (.int p2), .val (.int p3), .val (.int p4), .val (.int p5), .val (.int nn), .val (.long x0), .second, .val (.long x1), .second, .val (.long x2), .second, .val (.long y0), .second, .val (.long y1), .second, .val (.long y2), .second, .val (.ref b111), .val (.ref b113), .val (.long (0 : Int64)), .second, .unset, .unset] [(.int (1 : Int32)), (.int nn)]))
      refine own_st (fun t_ k_ => XS.icmpNo X116.here hx rfl (hb hby at_160) rfl (flt (by rw [c65_110]; decide : ¬ (nn < (1 : Int32)))).1 k_) ?_
      show own_Go p.tables e below _ (T116.setTop (mkF m 163 #[.val (.int p0), .val (.int p1), .val (.int p2), .val (.int p3), .val (.int p4), .val (.int p5), .val (.int nn), .val (.long x0), .second, .val (.long x1), .second, .val (.long x2), .second, .val (.long y0), .second, .val (.long y1), .second, .val (.long y2), .second, .val (.ref b111), .val (.ref b113), .val (.long (0 : Int64)), .second, .unset, .unset] []))
      refine own_st (fun t_ k_ => XS.lload X116.here hx rfl (hb hby at_163) rfl k_) ?_
      show own_Go p.tables e below _ (T116.setTop (mkF m 165 #[.val (.int p0), .val (.int p1), .val (.int p2), .val (.int p3), .val (.int p4), .val (.int p5), .val (.int nn), .val (.long x0), .second, .val (.long x1), .second, .val (.long x2), .second, .val (.long y0), .second, .val (.long y1), .second, .val (.long y2), .second, .val (.ref b111), .val (.ref b113), .val (.long (0 : Int64)), .second, .unset, .unset] [(.long (0 : Int64))]))
      refine own_st (fun t_ k_ => XS.lload X116.here hx rfl (hb hby at_165) rfl k_) ?_
      show own_Go p.tables e below _ (T116.setTop (mkF m 167 #[.val (.int p0), .val (.int p1), .val (.int p2), .val (.int p3), .val (.int p4), .val (.int p5), .val (.int nn), .val (.long x0), .second, .val (.long x1), .second, .val (.long x2), .second, .val (.long y0), .second, .val (.long y1), .second, .val (.long y2), .second, .val (.ref b111), .val (.ref b113), .val (.long (0 : Int64)), .second, .unset, .unset] [(.long x0), (.long (0 : Int64))]))
      refine own_st (fun t_ k_ => XS.lload X116.here hx rfl (hb hby at_167) rfl k_) ?_
      show own_Go p.tables e below _ (T116.setTop (mkF m 169 #[.val (.int p0), .val (.int p1), .val (.int p2), .val (.int p3), .val (.int p4), .val (.int p5), .val (.int nn), .val (.long x0), .second, .val (.long x1), .second, .val (.long x2), .second, .val (.long y0), .second, .val (.long y1), .second, .val (.long y2), .second, .val (.ref b111), .val (.ref b113), .val (.long (0 : Int64)), .second, .unset, .unset] [(.long y0), (.long x0), (.long (0 : Int64))]))
      refine own_st (fun t_ k_ => XS.lmul X116.here hx rfl (hb hby at_169) rfl k_) ?_
      show own_Go p.tables e below _ (T116.setTop (mkF m 170 #[.val (.int p0), .val (.int p1), .val (.int p2), .val (.int p3), .val (.int p4), .val (.int p5), .val (.int nn), .val (.long x0), .second, .val (.long x1), .second, .val (.long x2), .second, .val (.long y0), .second, .val (.long y1), .second, .val (.long y2), .second, .val (.ref b111), .val (.ref b113), .val (.long (0 : Int64)), .second, .unset, .unset] [(.long (x0 * y0)), (.long (0 : Int64))]))
      refine own_st (fun t_ k_ => XS.ladd X116.here hx rfl (hb hby at_170) rfl k_) ?_
      show own_Go p.tables e below _ (T116.setTop (mkF m 171 #[.val (.int p0), .val (.int p1), .val (.int p2), .val (.int p3), .val (.int p4), .val (.int p5), .val (.int nn), .val (.long x0), .second, .val (.long x1), .second, .val (.long x2), .second, .val (.long y0), .second, .val (.long y1), .second, .val (.long y2), .second, .val (.ref b111), .val (.ref b113), .val (.long (0 : Int64)), .second, .unset, .unset] [(.long ((0 : Int64) + (x0 * y0)))]))
      refine own_st (fun t_ k_ => XS.lstore X116.here hx rfl (hb hby at_171) rfl (l' := #[.val (.int p0), .val (.int p1), .val (.int p2), .val (.int p3), .val (.int p4), .val (.int p5), .val (.int nn), .val (.long x0), .second, .val (.long x1), .second, .val (.long x2), .second, .val (.long y0), .second, .val (.long y1), .second, .val (.long y2), .second, .val (.ref b111), .val (.ref b113), .val (.long ((0 : Int64) + (x0 * y0))), .second, .unset, .unset]) rfl k_) ?_
      show own_Go p.tables e below _ (T116.setTop (mkF m 173 #[.val (.int p0), .val (.int p1), .val (.int p2), .val (.int p3), .val (.int p4), .val (.int p5), .val (.int nn), .val (.long x0), .second, .val (.long x1), .second, .val (.long x2), .second, .val (.long y0), .second, .val (.long y1), .second, .val (.long y2), .second, .val (.ref b111), .val (.ref b113), .val (.long ((0 : Int64) + (x0 * y0))), .second, .unset, .unset] []))
      refine own_st (fun t_ k_ => XS.iload X116.here hx rfl (hb hby at_173) rfl k_) ?_
      show own_Go p.tables e below _ (T116.setTop (mkF m 175 #[.val (.int p0), .val (.int p1), .val (.int p2), .val (.int p3), .val (.int p4), .val (.int p5), .val (.int nn), .val (.long x0), .second, .val (.long x1), .second, .val (.long x2), .second, .val (.long y0), .second, .val (.long y1), .second, .val (.long y2), .second, .val (.ref b111), .val (.ref b113), .val (.long ((0 : Int64) + (x0 * y0))), .second, .unset, .unset] [(.int nn)]))
      refine own_st (fun t_ k_ => XS.iconst X116.here hx rfl (hb hby at_175) k_) ?_
      show own_Go p.tables e below _ (T116.setTop (mkF m 176 #[.val (.int p0), .val (.int p1), .val (.int p2), .val (.int p3), .val (.int p4), .val (.int p5), .val (.int nn), .val (.long x0), .second, .val (.long x1), .second, .val (.long x2), .second, .val (.long y0), .second, .val (.long y1), .second, .val (.long y2), .second, .val (.ref b111), .val (.ref b113), .val (.long ((0 : Int64) + (x0 * y0))), .second, .unset, .unset] [(.int (2 : Int32)), (.int nn)]))
      refine own_st (fun t_ k_ => XS.icmpYes X116.here hx rfl (pc0 := 176) (pc' := 189) rfl (hb hby at_176) rfl (tlt (by rw [c65_110]; decide : nn < (2 : Int32))).1 (by decide) (by decide) k_) ?_
      show own_Go p.tables e below _ (T116.setTop (mkF m 189 #[.val (.int p0), .val (.int p1), .val (.int p2), .val (.int p3), .val (.int p4), .val (.int p5), .val (.int nn), .val (.long x0), .second, .val (.long x1), .second, .val (.long x2), .second, .val (.long y0), .second, .val (.long y1), .second, .val (.long y2), .second, .val (.ref b111), .val (.ref b113), .val (.long ((0 : Int64) + (x0 * y0))), .second, .unset, .unset] []))
      refine own_st (fun t_ k_ => XS.iload X116.here hx rfl (hb hby at_189) rfl k_) ?_
      show own_Go p.tables e below _ (T116.setTop (mkF m 191 #[.val (.int p0), .val (.int p1), .val (.int p2), .val (.int p3), .val (.int p4), .val (.int p5), .val (.int nn), .val (.long x0), .second, .val (.long x1), .second, .val (.long x2), .second, .val (.long y0), .second, .val (.long y1), .second, .val (.long y2), .second, .val (.ref b111), .val (.ref b113), .val (.long ((0 : Int64) + (x0 * y0))), .second, .unset, .unset] [(.int nn)]))
      refine own_st (fun t_ k_ => XS.iconst X116.here hx rfl (hb hby at_191) k_) ?_
      show own_Go p.tables e below _ (T116.setTop (mkF m 192 #[.val (.int p0), .val (.int p1), .val (.int p2), .val (.int p3), .val (.int p4), .val (.int p5), .val (.int nn), .val (.long x0), .second, .val (.long x1), .second, .val (.long x2), .second, .val (.long y0), .second, .val (.long y1), .second, .val (.long y2), .second, .val (.ref b111), .val (.ref b113), .val (.long ((0 : Int64) + (x0 * y0))), .second, .unset, .unset] [(.int (3 : Int32)), (.int nn)]))
      refine own_st (fun t_ k_ => XS.icmpYes X116.here hx rfl (pc0 := 192) (pc' := 205) rfl (hb hby at_192) rfl (tlt (by rw [c65_110]; decide : nn < (3 : Int32))).1 (by decide) (by decide) k_) ?_
      show own_Go p.tables e below _ (T116.setTop (mkF m 205 #[.val (.int p0), .val (.int p1), .val (.int p2), .val (.int p3), .val (.int p4), .val (.int p5), .val (.int nn), .val (.long x0), .second, .val (.long x1), .second, .val (.long x2), .second, .val (.long y0), .second, .val (.long y1), .second, .val (.long y2), .second, .val (.ref b111), .val (.ref b113), .val (.long ((0 : Int64) + (x0 * y0))), .second, .unset, .unset] []))
      refine own_st (fun t_ k_ => XS.aload X116.here hx rfl (hb hby at_205) rfl rfl k_) ?_
      show own_Go p.tables e below _ (T116.setTop (mkF m 207 #[.val (.int p0), .val (.int p1), .val (.int p2), .val (.int p3), .val (.int p4), .val (.int p5), .val (.int nn), .val (.long x0), .second, .val (.long x1), .second, .val (.long x2), .second, .val (.long y0), .second, .val (.long y1), .second, .val (.long y2), .second, .val (.ref b111), .val (.ref b113), .val (.long ((0 : Int64) + (x0 * y0))), .second, .unset, .unset] [(.ref b111)]))
      refine own_st (fun t_ k_ => XS.aload X116.here hx rfl (hb hby at_207) rfl rfl k_) ?_
      show own_Go p.tables e below _ (T116.setTop (mkF m 209 #[.val (.int p0), .val (.int p1), .val (.int p2), .val (.int p3), .val (.int p4), .val (.int p5), .val (.int nn), .val (.long x0), .second, .val (.long x1), .second, .val (.long x2), .second, .val (.long y0), .second, .val (.long y1), .second, .val (.long y2), .second, .val (.ref b111), .val (.ref b113), .val (.long ((0 : Int64) + (x0 * y0))), .second, .unset, .unset] [(.ref b113), (.ref b111)]))
      obtain ⟨_, _, ⟨T117, L117, k117, n117⟩, -, X117, ⟨Lc117, hQ117, l117, y117, z117⟩, st117⟩ := Jvm.LawKit.callS X116 hx (y := (⟨"com/example/provender/provender/solver/Row", "dot", "([D[D)D"⟩ : MethodName)) hown (mvT hZ (hw _ (List.mem_of_getElem? (i := 1) rfl))) (mvT hZ (hw _ (List.mem_of_getElem? (i := 2) rfl))) (mvT hZ (hw _ (List.mem_of_getElem? (i := 3) rfl))) (mvT hZ (hw _ (List.mem_of_getElem? (i := 4) rfl))) (by decide) (backOf (W := 0) (own_rm1 l Z a0 hw [] b111 b113 k111 k113 1 3 (own_upd (fun _ => (0 : UInt64)) 0 (FP.l2d x0)) (own_upd (own_upd (own_upd (fun _ => (0 : UInt64)) 0 (FP.l2d y0)) 1 (FP.l2d y1)) 2 (FP.l2d y2)) (own_xs x0.toInt x1.toInt x2.toInt 1) (own_xs y0.toInt y1.toInt y2.toInt 3) h116 n0 (Nat.le_trans Z0 K116.1) ((((Aw112.ext E113).other W114 (Nat.ne_of_lt (Nat.lt_of_lt_of_le Aw112.lt (Nat.le_of_eq g113.symm)))).other W115 (Nat.ne_of_lt (Nat.lt_of_lt_of_le Aw112.lt (Nat.le_of_eq g113.symm)))).other W116 (Nat.ne_of_lt (Nat.lt_of_lt_of_le Aw112.lt (Nat.le_of_eq g113.symm)))) Aw116 (own_smallL bx0 bx1 bx2 (own_f1 _ _ _)) (own_smallL by0 by1 by2 (own_f3 _ _ _)) (by decide)) hZ (hw _ (List.mem_of_getElem? (i := 4) rfl)) (hw _ (List.mem_of_getElem? (i := 3) rfl)) (by decide) (by decide)) (g := (mkF m 209 #[.val (.int p0), .val (.int p1), .val (.int p2), .val (.int p3), .val (.int p4), .val (.int p5), .val (.int nn), .val (.long x0), .second, .val (.long x1), .second, .val (.long x2), .second, .val (.long y0), .second, .val (.long y1), .second, .val (.long y2), .second, .val (.ref b111), .val (.ref b113), .val (.long ((0 : Int64) + (x0 * y0))), .second, .unset, .unset] [(.ref b113), (.ref b111)])) rfl (by rw [hml]; rfl) (argsL := [(.ref b111), (.ref b113)]) (rest := []) (lenOf own_pd0 rfl) rfl (by show 2 * 0 + _ ≤ _; exact Nat.le_of_eq rfl) (hb hby at_209) (fun _ _ => ⟨rfl, e116, (by decide : 2 + 0 ≤ _), (by decide : 4 + 0 ≤ _)⟩)
      dsimp only [Pt.U, Pt.locs, Pt.cells, Pt.slots] at X117 l117 y117 z117 st117 hQ117
      subst l117 y117 z117
      obtain ⟨rfl, N117q, eq117⟩ := hQ117
      have N117 := Fr.app N116 N117q
      refine own_st (st117) ?_
      show own_Go p.tables e below _ (T117.setTop (mkF m 212 #[.val (.int p0), .val (.int p1), .val (.int p2), .val (.int p3), .val (.int p4), .val (.int p5), .val (.int nn), .val (.long x0), .second, .val (.long x1), .second, .val (.long x2), .second, .val (.long y0), .second, .val (.long y1), .second, .val (.long y2), .second, .val (.ref b111), .val (.ref b113), .val (.long ((0 : Int64) + (x0 * y0))), .second, .unset, .unset] [(.double (own_dot (own_upd (fun _ => (0 : UInt64)) 0 (FP.l2d x0)) (own_upd (own_upd (own_upd (fun _ => (0 : UInt64)) 0 (FP.l2d y0)) 1 (FP.l2d y1)) 2 (FP.l2d y2)) 1))]))
      refine own_st (fun t_ k_ => XS.dstore X117.here hx rfl (hb hby at_212) rfl (l' := #[.val (.int p0), .val (.int p1), .val (.int p2), .val (.int p3), .val (.int p4), .val (.int p5), .val (.int nn), .val (.long x0), .second, .val (.long x1), .second, .val (.long x2), .second, .val (.long y0), .second, .val (.long y1), .second, .val (.long y2), .second, .val (.ref b111), .val (.ref b113), .val (.long ((0 : Int64) + (x0 * y0))), .second, .val (.double (own_dot (own_upd (fun _ => (0 : UInt64)) 0 (FP.l2d x0)) (own_upd (own_upd (own_upd (fun _ => (0 : UInt64)) 0 (FP.l2d y0)) 1 (FP.l2d y1)) 2 (FP.l2d y2)) 1)), .second]) rfl k_) ?_
      show own_Go p.tables e below _ (T117.setTop (mkF m 214 #[.val (.int p0), .val (.int p1), .val (.int p2), .val (.int p3), .val (.int p4), .val (.int p5), .val (.int nn), .val (.long x0), .second, .val (.long x1), .second, .val (.long x2), .second, .val (.long y0), .second, .val (.long y1), .second, .val (.long y2), .second, .val (.ref b111), .val (.ref b113), .val (.long ((0 : Int64) + (x0 * y0))), .second, .val (.double (own_dot (own_upd (fun _ => (0 : UInt64)) 0 (FP.l2d x0)) (own_upd (own_upd (own_upd (fun _ => (0 : UInt64)) 0 (FP.l2d y0)) 1 (FP.l2d y1)) 2 (FP.l2d y2)) 1)), .second] []))
      refine own_st (fun t_ k_ => XS.dload X117.here hx rfl (hb hby at_214) rfl k_) ?_
      show own_Go p.tables e below _ (T117.setTop (mkF m 216 #[.val (.int p0), .val (.int p1), .val (.int p2), .val (.int p3), .val (.int p4), .val (.int p5), .val (.int nn), .val (.long x0), .second, .val (.long x1), .second, .val (.long x2), .second, .val (.long y0), .second, .val (.long y1), .second, .val (.long y2), .second, .val (.ref b111), .val (.ref b113), .val (.long ((0 : Int64) + (x0 * y0))), .second, .val (.double (own_dot (own_upd (fun _ => (0 : UInt64)) 0 (FP.l2d x0)) (own_upd (own_upd (own_upd (fun _ => (0 : UInt64)) 0 (FP.l2d y0)) 1 (FP.l2d y1)) 2 (FP.l2d y2)) 1)), .second] [(.double (own_dot (own_upd (fun _ => (0 : UInt64)) 0 (FP.l2d x0)) (own_upd (own_upd (own_upd (fun _ => (0 : UInt64)) 0 (FP.l2d y0)) 1 (FP.l2d y1)) 2 (FP.l2d y2)) 1))]))
      refine own_st (fun t_ k_ => XS.lload X117.here hx rfl (hb hby at_216) rfl k_) ?_
      show own_Go p.tables e below _ (T117.setTop (mkF m 218 #[.val (.int p0), .val (.int p1), .val (.int p2), .val (.int p3), .val (.int p4), .val (.int p5), .val (.int nn), .val (.long x0), .second, .val (.long x1), .second, .val (.long x2), .second, .val (.long y0), .second, .val (.long y1), .second, .val (.long y2), .second, .val (.ref b111), .val (.ref b113), .val (.long ((0 : Int64) + (x0 * y0))), .second, .val (.double (own_dot (own_upd (fun _ => (0 : UInt64)) 0 (FP.l2d x0)) (own_upd (own_upd (own_upd (fun _ => (0 : UInt64)) 0 (FP.l2d y0)) 1 (FP.l2d y1)) 2 (FP.l2d y2)) 1)), .second] [(.long ((0 : Int64) + (x0 * y0))), (.double (own_dot (own_upd (fun _ => (0 : UInt64)) 0 (FP.l2d x0)) (own_upd (own_upd (own_upd (fun _ => (0 : UInt64)) 0 (FP.l2d y0)) 1 (FP.l2d y1)) 2 (FP.l2d y2)) 1))]))
      refine own_st (fun t_ k_ => XS.l2dS X117.here hx rfl (hb hby at_218) rfl rfl k_) ?_
      show own_Go p.tables e below _ (T117.setTop (mkF m 219 #[.val (.int p0), .val (.int p1), .val (.int p2), .val (.int p3), .val (.int p4), .val (.int p5), .val (.int nn), .val (.long x0), .second, .val (.long x1), .second, .val (.long x2), .second, .val (.long y0), .second, .val (.long y1), .second, .val (.long y2), .second, .val (.ref b111), .val (.ref b113), .val (.long ((0 : Int64) + (x0 * y0))), .second, .val (.double (own_dot (own_upd (fun _ => (0 : UInt64)) 0 (FP.l2d x0)) (own_upd (own_upd (own_upd (fun _ => (0 : UInt64)) 0 (FP.l2d y0)) 1 (FP.l2d y1)) 2 (FP.l2d y2)) 1)), .second] [(.double (FP.l2d ((0 : Int64) + (x0 * y0)))), (.double (own_dot (own_upd (fun _ => (0 : UInt64)) 0 (FP.l2d x0)) (own_upd (own_upd (own_upd (fun _ => (0 : UInt64)) 0 (FP.l2d y0)) 1 (FP.l2d y1)) 2 (FP.l2d y2)) 1))]))
      refine own_st (fun t_ k_ => XS.dcmpS X117.here hx rfl (hb hby at_219) rfl rfl k_) ?_
      show own_Go p.tables e below _ (T117.setTop (mkF m 220 #[.val (.int p0), .val (.int p1), .val (.int p2), .val (.int p3), .val (.int p4), .val (.int p5), .val (.int nn), .val (.long x0), .second, .val (.long x1), .second, .val (.long x2), .second, .val (.long y0), .second, .val (.long y1), .second, .val (.long y2), .second, .val (.ref b111), .val (.ref b113), .val (.long ((0 : Int64) + (x0 * y0))), .second, .val (.double (own_dot (own_upd (fun _ => (0 : UInt64)) 0 (FP.l2d x0)) (own_upd (own_upd (own_upd (fun _ => (0 : UInt64)) 0 (FP.l2d y0)) 1 (FP.l2d y1)) 2 (FP.l2d y2)) 1)), .second] [(.int (cmpValue (FP.dcmp (own_dot (own_upd (fun _ => (0 : UInt64)) 0 (FP.l2d x0)) (own_upd (own_upd (own_upd (fun _ => (0 : UInt64)) 0 (FP.l2d y0)) 1 (FP.l2d y1)) 2 (FP.l2d y2)) 1) (FP.l2d ((0 : Int64) + (x0 * y0)))) .l))]))
      refine own_st (fun t_ k_ => XS.ifNo X117.here hx rfl (hb hby at_220) rfl ((if0 _ _).trans (teq (own_e1 bx0 bx1 bx2 by0 by1 by2 (own_smallL bx0 bx1 bx2 (own_f1 _ _ _)) (own_smallL by0 by1 by2 (own_f3 _ _ _)) .l : (cmpValue (FP.dcmp (own_dot (own_upd (fun _ => (0 : UInt64)) 0 (FP.l2d x0)) (own_upd (own_upd (own_upd (fun _ => (0 : UInt64)) 0 (FP.l2d y0)) 1 (FP.l2d y1)) 2 (FP.l2d y2)) 1) (FP.l2d ((0 : Int64) + (x0 * y0)))) .l) = (0 : Int32))).2) k_) ?_
      show own_Go p.tables e below _ (T117.setTop (mkF m 223 #[.val (.int p0), .val (.int p1), .val (.int p2), .val (.int p3), .val (.int p4), .val (.int p5), .val (.int nn), .val (.long x0), .second, .val (.long x1), .second, .val (.long x2), .second, .val (.long y0), .second, .val (.long y1), .second, .val (.long y2), .second, .val (.ref b111), .val (.ref b113), .val (.long ((0 : Int64) + (x0 * y0))), .second, .val (.double (own_dot (own_upd (fun _ => (0 : UInt64)) 0 (FP.l2d x0)) (own_upd (own_upd (own_upd (fun _ => (0 : UInt64)) 0 (FP.l2d y0)) 1 (FP.l2d y1)) 2 (FP.l2d y2)) 1)), .second] []))
      refine own_st (fun t_ k_ => XS.iconst X117.here hx rfl (hb hby at_223) k_) ?_
      show own_Go p.tables e below _ (T117.setTop (mkF m 224 #[.val (.int p0), .val (.int p1), .val (.int p2), .val (.int p3), .val (.int p4), .val (.int p5), .val (.int nn), .val (.long x0), .second, .val (.long x1), .second, .val (.long x2), .second, .val (.long y0), .second, .val (.long y1), .second, .val (.long y2), .second, .val (.ref b111), .val (.ref b113), .val (.long ((0 : Int64) + (x0 * y0))), .second, .val (.double (own_dot (own_upd (fun _ => (0 : UInt64)) 0 (FP.l2d x0)) (own_upd (own_upd (own_upd (fun _ => (0 : UInt64)) 0 (FP.l2d y0)) 1 (FP.l2d y1)) 2 (FP.l2d y2)) 1)), .second] [(.int (1 : Int32))]))
      refine own_st (fun t_ k_ => XS.goto X117.here hx rfl (pc0 := 224) (pc' := 228) rfl (hb hby at_224) (by decide) (by decide) k_) ?_
      show own_Go p.tables e below _ (T117.setTop (mkF m 228 #[.val (.int p0), .val (.int p1), .val (.int p2), .val (.int p3), .val (.int p4), .val (.int p5), .val (.int nn), .val (.long x0), .second, .val (.long x1), .second, .val (.long x2), .second, .val (.long y0), .second, .val (.long y1), .second, .val (.long y2), .second, .val (.ref b111), .val (.ref b113), .val (.long ((0 : Int64) + (x0 * y0))), .second, .val (.double (own_dot (own_upd (fun _ => (0 : UInt64)) 0 (FP.l2d x0)) (own_upd (own_upd (own_upd (fun _ => (0 : UInt64)) 0 (FP.l2d y0)) 1 (FP.l2d y1)) 2 (FP.l2d y2)) 1)), .second] [(.int (1 : Int32))]))
      exact own_ret (w := (.int (1 : Int32))) X117 hx hnl Bd.returns rfl (Or.inl ⟨rfl, by decide, _, rfl⟩) (hb hby at_228) ⟨rfl, N117, (by rw [eq117]; exact K116)⟩ (by decide) (by decide)
    · skip
      refine own_st (fun t_ k_ => XS.icmpYes X0.here hx rfl (pc0 := 65) (pc' := 82) rfl (hb hby at_65) rfl (feq c65_110).2 (by decide) (by decide) k_) ?_
      show own_Go p.tables e below _ (s₁.setTop (mkF m 82 #[.val (.int p0), .val (.int p1), .val (.int p2), .val (.int p3), .val (.int p4), .val (.int p5), .val (.int nn), .val (.long x0), .second, .val (.long x1), .second, .val (.long x2), .second, .val (.long y0), .second, .val (.long y1), .second, .val (.long y2), .second, .unset, .unset, .unset, .unset, .unset, .unset] []))
      refine own_st (fun t_ k_ => XS.iload X0.here hx rfl (hb hby at_82) rfl k_) ?_
      show own_Go p.tables e below _ (s₁.setTop (mkF m 84 #[.val (.int p0), .val (.int p1), .val (.int p2), .val (.int p3), .val (.int p4), .val (.int p5), .val (.int nn), .val (.long x0), .second, .val (.long x1), .second, .val (.long x2), .second, .val (.long y0), .second, .val (.long y1), .second, .val (.long y2), .second, .unset, .unset, .unset, .unset, .unset, .unset] [(.int nn)]))
      refine own_st (fun t_ k_ => XS.iconst X0.here hx rfl (hb hby at_84) k_) ?_
      show own_Go p.tables e below _ (s₁.setTop (mkF m 85 #[.val (.int p0), .val (.int p1), .val (.int p2), .val (.int p3), .val (.int p4), .val (.int p5), .val (.int nn), .val (.long x0), .second, .val (.long x1), .second, .val (.long x2), .second, .val (.long y0), .second, .val (.long y1), .second, .val (.long y2), .second, .unset, .unset, .unset, .unset, .unset, .unset] [(.int (2 : Int32)), (.int nn)]))
      by_cases c85_118 : nn = (2 : Int32)
      · skip
        refine own_st (fun t_ k_ => XS.icmpNo X0.here hx rfl (hb hby at_85) rfl (teq c85_118).2 k_) ?_
        show own_Go p.tables e below _ (s₁.setTop (mkF m 88 #[.val (.int p0), .val (.int p1), .val (.int p2), .val (.int p3), .val (.int p4), .val (.int p5), .val (.int nn), .val (.long x0), .second, .val (.long x1), .second, .val (.long x2), .second, .val (.long y0), .second, .val (.long y1), .second, .val (.long y2), .second, .unset, .unset, .unset, .unset, .unset, .unset] []))
        refine own_st (fun t_ k_ => XS.iconst X0.here hx rfl (hb hby at_88) k_) ?_
        show own_Go p.tables e below _ (s₁.setTop (mkF m 89 #[.val (.int p0), .val (.int p1), .val (.int p2), .val (.int p3), .val (.int p4), .val (.int p5), .val (.int nn), .val (.long x0), .second, .val (.long x1), .second, .val (.long x2), .second, .val (.long y0), .second, .val (.long y1), .second, .val (.long y2), .second, .unset, .unset, .unset, .unset, .unset, .unset] [(.int (2 : Int32))]))
        obtain ⟨T119, h119, k119, X119, e119, E119, A119, st119⟩ := newP X0 hx hZ (hw _ (List.mem_of_getElem? (i := 0) rfl)) e0 (g := (mkF m 89 #[.val (.int p0), .val (.int p1), .val (.int p2), .val (.int p3), .val (.int p4), .val (.int p5), .val (.int nn), .val (.long x0), .second, .val (.long x1), .second, .val (.long x2), .second, .val (.long y0), .second, .val (.long y1), .second, .val (.long y2), .second, .unset, .unset, .unset, .unset, .unset, .unset] [(.int (2 : Int32))])) rfl (hb hby at_89) rfl (by decide) (cap := 2) (by decide) (by decide) (by decide) (by decide)
        obtain ⟨b119, g119⟩ : ∃ z, z = h0.size := ⟨_, rfl⟩
        rw [← g119] at A119 st119
        have fr119 : h0.size ≤ b119 := Nat.le_trans (Keep.refl h0 []).1 (Nat.le_of_eq g119.symm)
        have ge119 : n0 ≤ b119 := Nat.le_trans Z0 fr119
        have K119 : Keep h0 h119 [] := (Keep.refl h0 []).ext E119
        have Ar119 : own_A Z h119 b119 k119 .double 2 (fun i => .double ((fun _ => (0 : UInt64)) i)) := own_A.new A119 rfl (by decide)
        refine own_st (st119) ?_
        show own_Go p.tables e below _ (T119.setTop (mkF m 91 #[.val (.int p0), .val (.int p1), .val (.int p2), .val (.int p3), .val (.int p4), .val (.int p5), .val (.int nn), .val (.long x0), .second, .val (.long x1), .second, .val (.long x2), .second, .val (.long y0), .second, .val (.long y1), .second, .val (.long y2), .second, .unset, .unset, .unset, .unset, .unset, .unset] [(.ref b119)]))
        refine own_st (fun t_ k_ => XS.dup X119.here hx rfl (hb hby at_91) rfl rfl k_) ?_
        show own_Go p.tables e below _ (T119.setTop (mkF m 92 #[.val (.int p0), .val (.int p1), .val (.int p2), .val (.int p3), .val (.int p4), .val (.int p5), .val (.int nn), .val (.long x0), .second, .val (.long x1), .second, .val (.long x2), .second, .val (.long y0), .second, .val (.long y1), .second, .val (.long y2), .second, .unset, .unset, .unset, .unset, .unset, .unset] [(.ref b119), (.ref b119)]))
        refine own_st (fun t_ k_ => XS.iconst X119.here hx rfl (hb hby at_92) k_) ?_
        show own_Go p.tables e below _ (T119.setTop (mkF m 93 #[.val (.int p0), .val (.int p1), .val (.int p2), .val (.int p3), .val (.int p4), .val (.int p5), .val (.int nn), .val (.long x0), .second, .val (.long x1), .second, .val (.long x2), .second, .val (.long y0), .second, .val (.long y1), .second, .val (.long y2), .second, .unset, .unset, .unset, .unset, .unset, .unset] [(.int (0 : Int32)), (.ref b119), (.ref b119)]))
        refine own_st (fun t_ k_ => XS.lload X119.here hx rfl (hb hby at_93) rfl k_) ?_
        show own_Go p.tables e below _ (T119.setTop (mkF m 95 #[.val (.int p0), .val (.int p1), .val (.int p2), .val (.int p3), .val (.int p4), .val (.int p5), .val (.int nn), .val (.long x0), .second, .val (.long x1), .second, .val (.long x2), .second, .val (.long y0), .second, .val (.long y1), .second, .val (.long y2), .second, .unset, .unset, .unset, .unset, .unset, .unset] [(.long x0), (.int (0 : Int32)), (.ref b119), (.ref b119)]))
        refine own_st (fun t_ k_ => XS.l2dS X119.here hx rfl (hb hby at_95) rfl rfl k_) ?_
        show own_Go p.tables e below _ (T119.setTop (mkF m 96 #[.val (.int p0), .val (.int p1), .val (.int p2), .val (.int p3), .val (.int p4), .val (.int p5), .val (.int nn), .val (.long x0), .second, .val (.long x1), .second, .val (.long x2), .second, .val (.long y0), .second, .val (.long y1), .second, .val (.long y2), .second, .unset, .unset, .unset, .unset, .unset, .unset] [(.double (FP.l2d x0)), (.int (0 : Int32)), (.ref b119), (.ref b119)]))
        obtain ⟨T120, h120, X120, e120, W120, Aw120, st120⟩ := own_dastore X119 hx hZ e119 Ar119 (i := 0) (by decide) (by decide) (g := (mkF m 96 #[.val (.int p0), .val (.int p1), .val (.int p2), .val (.int p3), .val (.int p4), .val (.int p5), .val (.int nn), .val (.long x0), .second, .val (.long x1), .second, .val (.long x2), .second, .val (.long y0), .second, .val (.long y1), .second, .val (.long y2), .second, .unset, .unset, .unset, .unset, .unset, .unset] [(.double (FP.l2d x0)), (.int (0 : Int32)), (.ref b119), (.ref b119)])) rfl rfl (hb hby at_96)
        have N120 := Fr.snoc X120 N0 ge119
        have K120 : Keep h0 h120 [] := K119.wr W120 (Or.inr fr119)
        refine own_st (st120) ?_
        show own_Go p.tables e below _ (T120.setTop (mkF m 97 #[.val (.int p0), .val (.int p1), .val (.int p2), .val (.int p3), .val (.int p4), .val (.int p5), .val (.int nn), .val (.long x0), .second, .val (.long x1), .second, .val (.long x2), .second, .val (.long y0), .second, .val (.long y1), .second, .val (.long y2), .second, .unset, .unset, .unset, .unset, .unset, .unset] [(.ref b119)]))
        refine own_st (fun t_ k_ => XS.dup X120.here hx rfl (hb hby at_97) rfl rfl k_) ?_
        show own_Go p.tables e below _ (T120.setTop (mkF m 98 #[.val (.int p0), .val (.int p1), .val (.int p2), .val (.int p3), .val (.int p4), .val (.int p5), .val (.int nn), .val (.long x0), .second, .val (.long x1), .second, .val (.long x2), .second, .val (.long y0), .second, .val (.long y1), .second, .val (.long y2), .second, .unset, .unset, .unset, .unset, .unset, .unset] [(.ref b119), (.ref b119)]))
        refine own_st (fun t_ k_ => XS.iconst X120.here hx rfl (hb hby at_98) k_) ?_
        show own_Go p.tables e below _ (T120.setTop (mkF m 99 #[.val (.int p0), .val (.int p1), .val (.int p2), .val (.int p3), .val (.int p4), .val (.int p5), .val (.int nn), .val (.long x0), .second, .val (.long x1), .second, .val (.long x2), .second, .val (.long y0), .second, .val (.long y1), .second, .val (.long y2), .second, .unset, .unset, .unset, .unset, .unset, .unset] [(.int (1 : Int32)), (.ref b119), (.ref b119)]))
        refine own_st (fun t_ k_ => XS.lload X120.here hx rfl (hb hby at_99) rfl k_) ?_
        show own_Go p.tables e below _ (T120.setTop (mkF m 101 #[.val (.int p0), .val (.int p1), .val (.int p2), .val (.int p3), .val (.int p4), .val (.int p5), .val (.int nn), .val (.long x0), .second, .val (.long x1), .second, .val (.long x2), .second, .val (.long y0), .second, .val (.long y1), .second, .val (.long y2), .second, .unset, .unset, .unset, .unset, .unset, .unset] [(.long x1), (.int (1 : Int32)), (.ref b119), (.ref b119)]))
        refine own_st (fun t_ k_ => XS.l2dS X120.here hx rfl (hb hby at_101) rfl rfl k_) ?_
        show own_Go p.tables e below _ (T120.setTop (mkF m 102 #[.val (.int p0), .val (.int p1), .val (.int p2), .val (.int p3), .val (.int p4), .val (.int p5), .val (.int nn), .val (.long x0), .second, .val (.long x1), .second, .val (.long x2), .second, .val (.long y0), .second, .val (.long y1), .second, .val (.long y2), .second, .unset, .unset, .unset, .unset, .unset, .unset] [(.double (FP.l2d x1)), (.int (1 : Int32)), (.ref b119), (.ref b119)]))
        obtain ⟨T121, h121, X121, e121, W121, Aw121, st121⟩ := own_dastore X120 hx hZ e120 Aw120 (i := 1) (by decide) (by decide) (g := (mkF m 102 #[.val (.int p0), .val (.int p1), .val (.int p2), .val (.int p3), .val (.int p4), .val (.int p5), .val (.int nn), .val (.long x0), .second, .val (.long x1), .second, .val (.long x2), .second, .val (.long y0), .second, .val (.long y1), .second, .val (.long y2), .second, .unset, .unset, .unset, .unset, .unset, .unset] [(.double (FP.l2d x1)), (.int (1 : Int32)), (.ref b119), (.ref b119)])) rfl rfl (hb hby at_102)
        have N121 := Fr.snoc X121 N120 ge119
        have K121 : Keep h0 h121 [] := K120.wr W121 (Or.inr fr119)
        refine own_st (st121) ?_
        show own_Go p.tables e below _ (T121.setTop (mkF m 103 #[.val (.int p0), .val (.int p1), .val (.int p2), .val (.int p3), .val (.int p4), .val (.int p5), .val (.int nn), .val (.long x0), .second, .val (.long x1), .second, .val (.long x2), .second, .val (.long y0), .second, .val (.long y1), .second, .val (.long y2), .second, .unset, .unset, .unset, .unset, .unset, .unset] [(.ref b119)]))
        refine own_st (fun t_ k_ => XS.astore X121.here hx rfl (hb hby at_103) rfl rfl (l' := #[.val (.int p0), .val (.int p1), .val (.int p2), .val (.int p3), .val (.int p4), .val (.int p5), .val (.int nn), .val (.long x0), .second, .val (.long x1), .second, .val (.long x2), .second, .val (.long y0), .second, .val (.long y1), .second, .val (.long y2), .second, .val (.ref b119), .unset, .unset, .unset, .unset, .unset]) rfl k_) ?_
        show own_Go p.tables e below _ (T121.setTop (mkF m 105 #[.val (.int p0), .val (.int p1), .val (.int p2), .val (.int p3), .val (.int p4), .val (.int p5), .val (.int nn), .val (.long x0), .second, .val (.long x1), .second, .val (.long x2), .second, .val (.long y0), .second, .val (.long y1), .second, .val (.long y2), .second, .val (.ref b119), .unset, .unset, .unset, .unset, .unset] []))
        refine own_st (fun t_ k_ => XS.goto X121.here hx rfl (pc0 := 105) (pc' := 131) rfl (hb hby at_105) (by decide) (by decide) k_) ?_
        show own_Go p.tables e below _ (T121.setTop (mkF m 131 #[.val (.int p0), .val (.int p1), .val (.int p2), .val (.int p3), .val (.int p4), .val (.int p5), .val (.int nn), .val (.long x0), .second, .val (.long x1), .second, .val (.long x2), .second, .val (.long y0), .second, .val (.long y1), .second, .val (.long y2), .second, .val (.ref b119), .unset, .unset, .unset, .unset, .unset] []))
        refine own_st (fun t_ k_ => XS.iconst X121.here hx rfl (hb hby at_131) k_) ?_
        show own_Go p.tables e below _ (T121.setTop (mkF m 132 #[.val (.int p0), .val (.int p1), .val (.int p2), .val (.int p3), .val (.int p4), .val (.int p5), .val (.int nn), .val (.long x0), .second, .val (.long x1), .second, .val (.long x2), .second, .val (.long y0), .second, .val (.long y1), .second, .val (.long y2), .second, .val (.ref b119), .unset, .unset, .unset, .unset, .unset] [(.int (3 : Int32))]))
        obtain ⟨T122, h122, k122, X122, e122, E122, A122, st122⟩ := newP X121 hx hZ (hw _ (List.mem_of_getElem? (i := 0) rfl)) e121 (g := (mkF m 132 #[.val (.int p0), .val (.int p1), .val (.int p2), .val (.int p3), .val (.int p4), .val (.int p5), .val (.int nn), .val (.long x0), .second, .val (.long x1), .second, .val (.long x2), .second, .val (.long y0), .second, .val (.long y1), .second, .val (.long y2), .second, .val (.ref b119), .unset, .unset, .unset, .unset, .unset] [(.int (3 : Int32))])) rfl (hb hby at_132) rfl (by decide) (cap := 3) (by decide) (by decide) (by decide) (by decide)
        obtain ⟨b122, g122⟩ : ∃ z, z = h121.size := ⟨_, rfl⟩
        rw [← g122] at A122 st122
        have fr122 : h0.size ≤ b122 := Nat.le_trans K121.1 (Nat.le_of_eq g122.symm)
        have ge122 : n0 ≤ b122 := Nat.le_trans Z0 fr122
        have K122 : Keep h0 h122 [] := K121.ext E122
        have Ar122 : own_A Z h122 b122 k122 .double 3 (fun i => .double ((fun _ => (0 : UInt64)) i)) := own_A.new A122 rfl (by decide)
        refine own_st (st122) ?_
        show own_Go p.tables e below _ (T122.setTop (mkF m 134 #[.val (.int p0), .val (.int p1), .val (.int p2), .val (.int p3), .val (.int p4), .val (.int p5), .val (.int nn), .val (.long x0), .second, .val (.long x1), .second, .val (.long x2), .second, .val (.long y0), .second, .val (.long y1), .second, .val (.long y2), .second, .val (.ref b119), .unset, .unset, .unset, .unset, .unset] [(.ref b122)]))
        refine own_st (fun t_ k_ => XS.dup X122.here hx rfl (hb hby at_134) rfl rfl k_) ?_
        show own_Go p.tables e below _ (T122.setTop (mkF m 135 #[.val (.int p0), .val (.int p1), .val (.int p2), .val (.int p3), .val (.int p4), .val (.int p5), .val (.int nn), .val (.long x0), .second, .val (.long x1), .second, .val (.long x2), .second, .val (.long y0), .second, .val (.long y1), .second, .val (.long y2), .second, .val (.ref b119), .unset, .unset, .unset, .unset, .unset] [(.ref b122), (.ref b122)]))
        refine own_st (fun t_ k_ => XS.iconst X122.here hx rfl (hb hby at_135) k_) ?_
        show own_Go p.tables e below _ (T122.setTop (mkF m 136 #[.val (.int p0), .val (.int p1), .val (.int p2), .val (.int p3), .val (.int p4), .val (.int p5), .val (.int nn), .val (.long x0), .second, .val (.long x1), .second, .val (.long x2), .second, .val (.long y0), .second, .val (.long y1), .second, .val (.long y2), .second, .val (.ref b119), .unset, .unset, .unset, .unset, .unset] [(.int (0 : Int32)), (.ref b122), (.ref b122)]))
        refine own_st (fun t_ k_ => XS.lload X122.here hx rfl (hb hby at_136) rfl k_) ?_
        show own_Go p.tables e below _ (T122.setTop (mkF m 138 #[.val (.int p0), .val (.int p1), .val (.int p2), .val (.int p3), .val (.int p4), .val (.int p5), .val (.int nn), .val (.long x0), .second, .val (.long x1), .second, .val (.long x2), .second, .val (.long y0), .second, .val (.long y1), .second, .val (.long y2), .second, .val (.ref b119), .unset, .unset, .unset, .unset, .unset] [(.long y0), (.int (0 : Int32)), (.ref b122), (.ref b122)]))
        refine own_st (fun t_ k_ => XS.l2dS X122.here hx rfl (hb hby at_138) rfl rfl k_) ?_
        show own_Go p.tables e below _ (T122.setTop (mkF m 139 #[.val (.int p0), .val (.int p1), .val (.int p2), .val (.int p3), .val (.int p4), .val (.int p5), .val (.int nn), .val (.long x0), .second, .val (.long x1), .second, .val (.long x2), .second, .val (.long y0), .second, .val (.long y1), .second, .val (.long y2), .second, .val (.ref b119), .unset, .unset, .unset, .unset, .unset] [(.double (FP.l2d y0)), (.int (0 : Int32)), (.ref b122), (.ref b122)]))
        obtain ⟨T123, h123, X123, e123, W123, Aw123, st123⟩ := own_dastore X122 hx hZ e122 Ar122 (i := 0) (by decide) (by decide) (g := (mkF m 139 #[.val (.int p0), .val (.int p1), .val (.int p2), .val (.int p3), .val (.int p4), .val (.int p5), .val (.int nn), .val (.long x0), .second, .val (.long x1), .second, .val (.long x2), .second, .val (.long y0), .second, .val (.long y1), .second, .val (.long y2), .second, .val (.ref b119), .unset, .unset, .unset, .unset, .unset] [(.double (FP.l2d y0)), (.int (0 : Int32)), (.ref b122), (.ref b122)])) rfl rfl (hb hby at_139)
        have N123 := Fr.snoc X123 N121 ge122
        have K123 : Keep h0 h123 [] := K122.wr W123 (Or.inr fr122)
        refine own_st (st123) ?_
        show own_Go p.tables e below _ (T123.setTop (mkF m 140 #[.val (.int p0), .val (.int p1), .val (.int p2), .val (.int p3), .val (.int p4), .val (.int p5), .val (.int nn), .val (.long x0), .second, .val (.long x1), .second, .val (.long x2), .second, .val (.long y0), .second, .val (.long y1), .second, .val (.long y2), .second, .val (.ref b119), .unset, .unset, .unset, .unset, .unset] [(.ref b122)]))
        refine own_st (fun t_ k_ => XS.dup X123.here hx rfl (hb hby at_140) rfl rfl k_) ?_
        show own_Go p.tables e below _ (T123.setTop (mkF m 141 #[.val (.int p0), .val (.int p1), .val (.int p2), .val (.int p3), .val (.int p4), .val (.int p5), .val (.int nn), .val (.long x0), .second, .val (.long x1), .second, .val (.long x2), .second, .val (.long y0), .second, .val (.long y1), .second, .val (.long y2), .second, .val (.ref b119), .unset, .unset, .unset, .unset, .unset] [(.ref b122), (.ref b122)]))
        refine own_st (fun t_ k_ => XS.iconst X123.here hx rfl (hb hby at_141) k_) ?_
        show own_Go p.tables e below _ (T123.setTop (mkF m 142 #[.val (.int p0), .val (.int p1), .val (.int p2), .val (.int p3), .val (.int p4), .val (.int p5), .val (.int nn), .val (.long x0), .second, .val (.long x1), .second, .val (.long x2), .second, .val (.long y0), .second, .val (.long y1), .second, .val (.long y2), .second, .val (.ref b119), .unset, .unset, .unset, .unset, .unset] [(.int (1 : Int32)), (.ref b122), (.ref b122)]))
        refine own_st (fun t_ k_ => XS.lload X123.here hx rfl (hb hby at_142) rfl k_) ?_
        show own_Go p.tables e below _ (T123.setTop (mkF m 144 #[.val (.int p0), .val (.int p1), .val (.int p2), .val (.int p3), .val (.int p4), .val (.int p5), .val (.int nn), .val (.long x0), .second, .val (.long x1), .second, .val (.long x2), .second, .val (.long y0), .second, .val (.long y1), .second, .val (.long y2), .second, .val (.ref b119), .unset, .unset, .unset, .unset, .unset] [(.long y1), (.int (1 : Int32)), (.ref b122), (.ref b122)]))
        refine own_st (fun t_ k_ => XS.l2dS X123.here hx rfl (hb hby at_144) rfl rfl k_) ?_
        show own_Go p.tables e below _ (T123.setTop (mkF m 145 #[.val (.int p0), .val (.int p1), .val (.int p2), .val (.int p3), .val (.int p4), .val (.int p5), .val (.int nn), .val (.long x0), .second, .val (.long x1), .second, .val (.long x2), .second, .val (.long y0), .second, .val (.long y1), .second, .val (.long y2), .second, .val (.ref b119), .unset, .unset, .unset, .unset, .unset] [(.double (FP.l2d y1)), (.int (1 : Int32)), (.ref b122), (.ref b122)]))
        obtain ⟨T124, h124, X124, e124, W124, Aw124, st124⟩ := own_dastore X123 hx hZ e123 Aw123 (i := 1) (by decide) (by decide) (g := (mkF m 145 #[.val (.int p0), .val (.int p1), .val (.int p2), .val (.int p3), .val (.int p4), .val (.int p5), .val (.int nn), .val (.long x0), .second, .val (.long x1), .second, .val (.long x2), .second, .val (.long y0), .second, .val (.long y1), .second, .val (.long y2), .second, .val (.ref b119), .unset, .unset, .unset, .unset, .unset] [(.double (FP.l2d y1)), (.int (1 : Int32)), (.ref b122), (.ref b122)])) rfl rfl (hb hby at_145)
        have N124 := Fr.snoc X124 N123 ge122
        have K124 : Keep h0 h124 [] := K123.wr W124 (Or.inr fr122)
        refine own_st (st124) ?_
        show own_Go p.tables e below _ (T124.setTop (mkF m 146 #[.val (.int p0), .val (.int p1), .val (.int p2), .val (.int p3), .val (.int p4), .val (.int p5), .val (.int nn), .val (.long x0), .second, .val (.long x1), .second, .val (.long x2), .second, .val (.long y0), .second, .val (.long y1), .second, .val (.long y2), .second, .val (.ref b119), .unset, .unset, .unset, .unset, .unset] [(.ref b122)]))
        refine own_st (fun t_ k_ => XS.dup X124.here hx rfl (hb hby at_146) rfl rfl k_) ?_
        show own_Go p.tables e below _ (T124.setTop (mkF m 147 #[.val (.int p0), .val (.int p1), .val (.int p2), .val (.int p3), .val (.int p4), .val (.int p5), .val (.int nn), .val (.long x0), .second, .val (.long x1), .second, .val (.long x2), .second, .val (.long y0), .second, .val (.long y1), .second, .val (.long y2), .second, .val (.ref b119), .unset, .unset, .unset, .unset, .unset] [(.ref b122), (.ref b122)]))
        refine own_st (fun t_ k_ => XS.iconst X124.here hx rfl (hb hby at_147) k_) ?_
        show own_Go p.tables e below _ (T124.setTop (mkF m 148 #[.val (.int p0), .val (.int p1), .val (.int p2), .val (.int p3), .val (.int p4), .val (.int p5), .val (.int nn), .val (.long x0), .second, .val (.long x1), .second, .val (.long x2), .second, .val (.long y0), .second, .val (.long y1), .second, .val (.long y2), .second, .val (.ref b119), .unset, .unset, .unset, .unset, .unset] [(.int (2 : Int32)), (.ref b122), (.ref b122)]))
        refine own_st (fun t_ k_ => XS.lload X124.here hx rfl (hb hby at_148) rfl k_) ?_
        show own_Go p.tables e below _ (T124.setTop (mkF m 150 #[.val (.int p0), .val (.int p1), .val (.int p2), .val (.int p3), .val (.int p4), .val (.int p5), .val (.int nn), .val (.long x0), .second, .val (.long x1), .second, .val (.long x2), .second, .val (.long y0), .second, .val (.long y1), .second, .val (.long y2), .second, .val (.ref b119), .unset, .unset, .unset, .unset, .unset] [(.long y2), (.int (2 : Int32)), (.ref b122), (.ref b122)]))
        refine own_st (fun t_ k_ => XS.l2dS X124.here hx rfl (hb hby at_150) rfl rfl k_) ?_
        show own_Go p.tables e below _ (T124.setTop (mkF m 151 #[.val (.int p0), .val (.int p1), .val (.int p2), .val (.int p3), .val (.int p4), .val (.int p5), .val (.int nn), .val (.long x0), .second, .val (.long x1), .second, .val (.long x2), .second, .val (.long y0), .second, .val (.long y1), .second, .val (.long y2), .second, .val (.ref b119), .unset, .unset, .unset, .unset, .unset] [(.double (FP.l2d y2)), (.int (2 : Int32)), (.ref b122), (.ref b122)]))
        obtain ⟨T125, h125, X125, e125, W125, Aw125, st125⟩ := own_dastore X124 hx hZ e124 Aw124 (i := 2) (by decide) (by decide) (g := (mkF m 151 #[.val (.int p0), .val (.int p1), .val (.int p2), .val (.int p3), .val (.int p4), .val (.int p5), .val (.int nn), .val (.long x0), .second, .val (.long x1), .second, .val (.long x2), .second, .val (.long y0), .second, .val (.long y1), .second, .val (.long y2), .second, .val (.ref b119), .unset, .unset, .unset, .unset, .unset] [(.double (FP.l2d y2)), (.int (2 : Int32)), (.ref b122), (.ref b122)])) rfl rfl (hb hby at_151)
        have N125 := Fr.snoc X125 N124 ge122
        have K125 : Keep h0 h125 [] := K124.wr W125 (Or.inr fr122)
        refine own_st (st125) ?_
        show own_Go p.tables e below _ (T125.setTop (mkF m 152 #[.val (.int p0), .val (.int p1), .val (.int p2), .val (.int p3), .val (.int p4), .val (.int p5), .val (.int nn), .val (.long x0), .second, .val (.long x1), .second, .val (.long x2), .second, .val (.long y0), .second, .val (.long y1), .second, .val (.long y2), .second, .val (.ref b119), .unset, .unset, .unset, .unset, .unset] [(.ref b122)]))
        refine own_st (fun t_ k_ => XS.astore X125.here hx rfl (hb hby at_152) rfl rfl (l' := #[.val (.int p0), .val (.int p1), .val (.int p2), .val (.int p3), .val (.int p4), .val (.int p5), .val (.int nn), .val (.long x0), .second, .val (.long x1), .second, .val (.long x2), .second, .val (.long y0), .second, .val (.long y1), .second, .val (.long y2), .second, .val (.ref b119), .val (.ref b122), .unset, .unset, .unset, .unset]) rfl k_) ?_
        show own_Go p.tables e below _ (T125.setTop (mkF m 154 #[.val (.int p0), .val (.int p1), .val (.int p2), .val (.int p3), .val (.int p4), .val (.int p5), .val (.int nn), .val (.long x0), .second, .val (.long x1), .second, .val (.long x2), .second, .val (.long y0), .second, .val (.long y1), .second, .val (.long y2), .second, .val (.ref b119), .val (.ref b122), .unset, .unset, .unset, .unset] []))
        refine own_st (fun t_ k_ => XS.lconst X125.here hx rfl (hb hby at_154) k_) ?_
        show own_Go p.tables e below _ (T125.setTop (mkF m 155 #[.val (.int p0), .val (.int p1), .val (.int p2), .val (.int p3), .val (.int p4), .val (.int p5), .val (.int nn), .val (.long x0), .second, .val (.long x1), .second, .val (.long x2), .second, .val (.long y0), .second, .val (.long y1), .second, .val (.long y2), .second, .val (.ref b119), .val (.ref b122), .unset, .unset, .unset, .unset] [(.long (0 : Int64))]))
        refine own_st (fun t_ k_ => XS.lstore X125.here hx rfl (hb hby at_155) rfl (l' := #[.val (.int p0), .val (.int p1), .val (.int p2), .val (.int p3), .val (.int p4), .val (.int p5), .val (.int nn), .val (.long x0), .second, .val (.long x1), .second, .val (.long x2), .second, .val (.long y0), .second, .val (.long y1), .second, .val (.long y2), .second, .val (.ref b119), .val (.ref b122), .val (.long (0 : Int64)), .second, .unset, .unset]) rfl k_) ?_
        show own_Go p.tables e below _ (T125.setTop (mkF m 157 #[.val (.int p0), .val (.int p1), .val (.int p2), .val (.int p3), .val (.int p4), .val (.int p5), .val (.int nn), .val (.long x0), .second, .val (.long x1), .second, .val (.long x2), .second, .val (.long y0), .second, .val (.long y1), .second, .val (.long y2), .second, .val (.ref b119), .val (.ref b122), .val (.long (0 : Int64)), .second, .unset, .unset] []))
        refine own_st (fun t_ k_ => XS.iload X125.here hx rfl (hb hby at_157) rfl k_) ?_
        show own_Go p.tables e below _ (T125.setTop (mkF m 159 #[.val (.int p0), .val (.int p1), .val (.int p2), .val (.int p3), .val (.int p4), .val (.int p5), .val (.int nn), .val (.long x0), .second, .val (.long x1), .second, .val (.long x2), .second, .val (.long y0), .second, .val (.long y1), .second, .val (.long y2), .second, .val (.ref b119), .val (.ref b122), .val (.long (0 : Int64)), .second, .unset, .unset] [(.int nn)]))
        refine own_st (fun t_ k_ => XS.iconst X125.here hx rfl (hb hby at_159) k_) ?_
        show own_Go p.tables e below _ (T125.setTop (mkF m 160 #[.val (.int p0), .val (.int p1), .val (.int p2), .val (.int p3), .val (.int p4), .val (.int p5), .val (.int nn), .val (.long x0), .second, .val (.long x1), .second, .val (.long x2), .second, .val (.long y0), .second, .val (.long y1), .second, .val (.long y2), .second, .val (.ref b119), .val (.ref b122), .val (.long (0 : Int64)), .second, .unset, .unset] [(.int (1 : Int32)), (.int nn)]))
        refine own_st (fun t_ k_ => XS.icmpNo X125.here hx rfl (hb hby at_160) rfl (flt (by rw [c85_118]; decide : ¬ (nn < (1 : Int32)))).1 k_) ?_
        show own_Go p.tables e below _ (T125.setTop (mkF m 163 #[.val (.int p0), .val (.int p1), .val (.int p2), .val (.int p3), .val (.int p4), .val (.int p5), .val (.int nn), .val (.long x0), .second, .val (.long x1), .second, .val (.long x2), .second, .val (.long y0), .second, .val (.long y1), .second, .val (.long y2), .second, .val (.ref b119), .val (.ref b122), .val (.long (0 : Int64)), .second, .unset, .unset] []))
        refine own_st (fun t_ k_ => XS.lload X125.here hx rfl (hb hby at_163) rfl k_) ?_
        show own_Go p.tables e below _ (T125.setTop (mkF m 165 #[.val (.int p0), .val (.int p1), .val (.int p2), .val (.int p3), .val (.int p4), .val (.int p5), .val (.int nn), .val (.long x0), .second, .val (.long x1), .second, .val (.long x2), .second, .val (.long y0), .second, .val (.long y1), .second, .val (.long y2), .second, .val (.ref b119), .val (.ref b122), .val (.long (0 : Int64)), .second, .unset, .unset] [(.long (0 : Int64))]))
        refine own_st (fun t_ k_ => XS.lload X125.here hx rfl (hb hby at_165) rfl k_) ?_
        show own_Go p.tables e below _ (T125.setTop (mkF m 167 #[.val (.int p0), .val (.int p1), .val (.int p2), .val (.int p3), .val (.int p4), .val (.int p5), .val (.int nn), .val (.long x0), .second, .val (.long x1), .second, .val (.long x2), .second, .val (.long y0), .second, .val (.long y1), .second, .val (.long y2), .second, .val (.ref b119), .val (.ref b122), .val (.long (0 : Int64)), .second, .unset, .unset] [(.long x0), (.long (0 : Int64))]))
        refine own_st (fun t_ k_ => XS.lload X125.here hx rfl (hb hby at_167) rfl k_) ?_
        show own_Go p.tables e below _ (T125.setTop (mkF m 169 #[.val (.int p0), .val (.int p1), .val (.int p2), .val (.int p3), .val (.int p4), .val (.int p5), .val (.int nn), .val (.long x0), .second, .val (.long x1), .second, .val (.long x2), .second, .val (.long y0), .second, .val (.long y1), .second, .val (.long y2), .second, .val (.ref b119), .val (.ref b122), .val (.long (0 : Int64)), .second, .unset, .unset] [(.long y0), (.long x0), (.long (0 : Int64))]))
        refine own_st (fun t_ k_ => XS.lmul X125.here hx rfl (hb hby at_169) rfl k_) ?_
        show own_Go p.tables e below _ (T125.setTop (mkF m 170 #[.val (.int p0), .val (.int p1), .val (.int p2), .val (.int p3), .val (.int p4), .val (.int p5), .val (.int nn), .val (.long x0), .second, .val (.long x1), .second, .val (.long x2), .second, .val (.long y0), .second, .val (.long y1), .second, .val (.long y2), .second, .val (.ref b119), .val (.ref b122), .val (.long (0 : Int64)), .second, .unset, .unset] [(.long (x0 * y0)), (.long (0 : Int64))]))
        refine own_st (fun t_ k_ => XS.ladd X125.here hx rfl (hb hby at_170) rfl k_) ?_
        show own_Go p.tables e below _ (T125.setTop (mkF m 171 #[.val (.int p0), .val (.int p1), .val (.int p2), .val (.int p3), .val (.int p4), .val (.int p5), .val (.int nn), .val (.long x0), .second, .val (.long x1), .second, .val (.long x2), .second, .val (.long y0), .second, .val (.long y1), .second, .val (.long y2), .second, .val (.ref b119), .val (.ref b122), .val (.long (0 : Int64)), .second, .unset, .unset] [(.long ((0 : Int64) + (x0 * y0)))]))
        refine own_st (fun t_ k_ => XS.lstore X125.here hx rfl (hb hby at_171) rfl (l' := #[.val (.int p0), .val (.int p1), .val (.int p2), .val (.int p3), .val (.int p4), .val (.int p5), .val (.int nn), .val (.long x0), .second, .val (.long x1), .second, .val (.long x2), .second, .val (.long y0), .second, .val (.long y1), .second, .val (.long y2), .second, .val (.ref b119), .val (.ref b122), .val (.long ((0 : Int64) + (x0 * y0))), .second, .unset, .unset]) rfl k_) ?_
        show own_Go p.tables e below _ (T125.setTop (mkF m 173 #[.val (.int p0), .val (.int p1), .val (.int p2), .val (.int p3), .val (.int p4), .val (.int p5), .val (.int nn), .val (.long x0), .second, .val (.long x1), .second, .val (.long x2), .second, .val (.long y0), .second, .val (.long y1), .second, .val (.long y2), .second, .val (.ref b119), .val (.ref b122), .val (.long ((0 : Int64) + (x0 * y0))), .second, .unset, .unset] []))
        refine own_st (fun t_ k_ => XS.iload X125.here hx rfl (hb hby at_173) rfl k_) ?_
        show own_Go p.tables e below _ (T125.setTop (mkF m 175 #[.val (.int p0), .val (.int p1), .val (.int p2), .val (.int p3), .val (.int p4), .val (.int p5), .val (.int nn), .val (.long x0), .second, .val (.long x1), .second, .val (.long x2), .second, .val (.long y0), .second, .val (.long y1), .second, .val (.long y2), .second, .val (.ref b119), .val (.ref b122), .val (.long ((0 : Int64) + (x0 * y0))), .second, .unset, .unset] [(.int nn)]))
        refine own_st (fun t_ k_ => XS.iconst X125.here hx rfl (hb hby at_175) k_) ?_
        show own_Go p.tables e below _ (T125.setTop (mkF m 176 #[.val (.int p0), .val (.int p1), .val (.int p2), .val (.int p3), .val (.int p4), .val (.int p5), .val (.int nn), .val (.long x0), .second, .val (.long x1), .second, .val (.long x2), .second, .val (.long y0), .second, .val (.long y1), .second, .val (.long y2), .second, .val (.ref b119), .val (.ref b122), .val (.long ((0 : Int64) + (x0 * y0))), .second, .unset, .unset] [(.int (2 : Int32)), (.int nn)]))
        refine own_st (fun t_ k_ => XS.icmpNo X125.here hx rfl (hb hby at_176) rfl (flt (by rw [c85_118]; decide : ¬ (nn < (2 : Int32)))).1 k_) ?_
        show own_Go p.tables e below _ (T125.setTop (mkF m 179 #[.val (.int p0), .val (.int p1), .val (.int p2), .val (.int p3), .val (.int p4), .val (.int p5), .val (.int nn), .val (.long x0), .second, .val (.long x1), .second, .val (.long x2), .second, .val (.long y0), .second, .val (.long y1), .second, .val (.long y2), .second, .val (.ref b119), .val (.ref b122), .val (.long ((0 : Int64) + (x0 * y0))), .second, .unset, .unset] []))
        refine own_st (fun t_ k_ => XS.lload X125.here hx rfl (hb hby at_179) rfl k_) ?_
        show own_Go p.tables e below _ (T125.setTop (mkF m 181 #[.val (.int p0), .val (.int p1), .val (.int p2), .val (.int p3), .val (.int p4), .val (.int p5), .val (.int nn), .val (.long x0), .second, .val (.long x1), .second, .val (.long x2), .second, .val (.long y0), .second, .val (.long y1), .second, .val (.long y2), .second, .val (.ref b119), .val (.ref b122), .val (.long ((0 : Int64) + (x0 * y0))), .second, .unset, .unset] [(.long ((0 : Int64) + (x0 * y0)))]))
        refine own_st (fun t_ k_ => XS.lload X125.here hx rfl (hb hby at_181) rfl k_) ?_
        show own_Go p.tables e below _ (T125.setTop (mkF m 183 #[.val (.int p0), .val (.int p1), .val (.int p2), .val (.int p3), .val (.int p4), .val (.int p5), .val (.int nn), .val (.long x0), .second, .val (.long x1), .second, .val (.long x2), .second, .val (.long y0), .second, .val (.long y1), .second, .val (.long y2), .second, .val (.ref b119), .val (.ref b122), .val (.long ((0 : Int64) + (x0 * y0))), .second, .unset, .unset] [(.long x1), (.long ((0 : Int64) + (x0 * y0)))]))
        refine own_st (fun t_ k_ => XS.lload X125.here hx rfl (hb hby at_183) rfl k_) ?_
        show own_Go p.tables e below _ (T125.setTop (mkF m 185 #[.val (.int p0), .val (.int p1), .val (.int p2), .val (.int p3), .val (.int p4), .val (.int p5), .val (.int nn), .val (.long x0), .second, .val (.long x1), .second, .val (.long x2), .second, .val (.long y0), .second, .val (.long y1), .second, .val (.long y2), .second, .val (.ref b119), .val (.ref b122), .val (.long ((0 : Int64) + (x0 * y0))), .second, .unset, .unset] [(.long y1), (.long x1), (.long ((0 : Int64) + (x0 * y0)))]))
        refine own_st (fun t_ k_ => XS.lmul X125.here hx rfl (hb hby at_185) rfl k_) ?_
        show own_Go p.tables e below _ (T125.setTop (mkF m 186 #[.val (.int p0), .val (.int p1), .val (.int p2), .val (.int p3), .val (.int p4), .val (.int p5), .val (.int nn), .val (.long x0), .second, .val (.long x1), .second, .val (.long x2), .second, .val (.long y0), .second, .val (.long y1), .second, .val (.long y2), .second, .val (.ref b119), .val (.ref b122), .val (.long ((0 : Int64) + (x0 * y0))), .second, .unset, .unset] [(.long (x1 * y1)), (.long ((0 : Int64) + (x0 * y0)))]))
        refine own_st (fun t_ k_ => XS.ladd X125.here hx rfl (hb hby at_186) rfl k_) ?_
        show own_Go p.tables e below _ (T125.setTop (mkF m 187 #[.val (.int p0), .val (.int p1), .val (.int p2), .val (.int p3), .val (.int p4), .val (.int p5), .val (.int nn), .val (.long x0), .second, .val (.long x1), .second, .val (.long x2), .second, .val (.long y0), .second, .val (.long y1), .second, .val (.long y2), .second, .val (.ref b119), .val (.ref b122), .val (.long ((0 : Int64) + (x0 * y0))), .second, .unset, .unset] [(.long (((0 : Int64) + (x0 * y0)) + (x1 * y1)))]))
        refine own_st (fun t_ k_ => XS.lstore X125.here hx rfl (hb hby at_187) rfl (l' := #[.val (.int p0), .val (.int p1), .val (.int p2), .val (.int p3), .val (.int p4), .val (.int p5), .val (.int nn), .val (.long x0), .second, .val (.long x1), .second, .val (.long x2), .second, .val (.long y0), .second, .val (.long y1), .second, .val (.long y2), .second, .val (.ref b119), .val (.ref b122), .val (.long (((0 : Int64) + (x0 * y0)) + (x1 * y1))), .second, .unset, .unset]) rfl k_) ?_
        show own_Go p.tables e below _ (T125.setTop (mkF m 189 #[.val (.int p0), .val (.int p1), .val (.int p2), .val (.int p3), .val (.int p4), .val (.int p5), .val (.int nn), .val (.long x0), .second, .val (.long x1), .second, .val (.long x2), .second, .val (.long y0), .second, .val (.long y1), .second, .val (.long y2), .second, .val (.ref b119), .val (.ref b122), .val (.long (((0 : Int64) + (x0 * y0)) + (x1 * y1))), .second, .unset, .unset] []))
        refine own_st (fun t_ k_ => XS.iload X125.here hx rfl (hb hby at_189) rfl k_) ?_
        show own_Go p.tables e below _ (T125.setTop (mkF m 191 #[.val (.int p0), .val (.int p1), .val (.int p2), .val (.int p3), .val (.int p4), .val (.int p5), .val (.int nn), .val (.long x0), .second, .val (.long x1), .second, .val (.long x2), .second, .val (.long y0), .second, .val (.long y1), .second, .val (.long y2), .second, .val (.ref b119), .val (.ref b122), .val (.long (((0 : Int64) + (x0 * y0)) + (x1 * y1))), .second, .unset, .unset] [(.int nn)]))
        refine own_st (fun t_ k_ => XS.iconst X125.here hx rfl (hb hby at_191) k_) ?_
        show own_Go p.tables e below _ (T125.setTop (mkF m 192 #[.val (.int p0), .val (.int p1), .val (.int p2), .val (.int p3), .val (.int p4), .val (.int p5), .val (.int nn), .val (.long x0), .second, .val (.long x1), .second, .val (.long x2), .second, .val (.long y0), .second, .val (.long y1), .second, .val (.long y2), .second, .val (.ref b119), .val (.ref b122), .val (.long (((0 : Int64) + (x0 * y0)) + (x1 * y1))), .second, .unset, .unset] [(.int (3 : Int32)), (.int nn)]))
        refine own_st (fun t_ k_ => XS.icmpYes X125.here hx rfl (pc0 := 192) (pc' := 205) rfl (hb hby at_192) rfl (tlt (by rw [c85_118]; decide : nn < (3 : Int32))).1 (by decide) (by decide) k_) ?_
        show own_Go p.tables e below _ (T125.setTop (mkF m 205 #[.val (.int p0), .val (.int p1), .val (.int p2), .val (.int p3), .val (.int p4), .val (.int p5), .val (.int nn), .val (.long x0), .second, .val (.long x1), .second, .val (.long x2), .second, .val (.long y0), .second, .val (.long y1), .second, .val (.long y2), .second, .val (.ref b119), .val (.ref b122), .val (.long (((0 : Int64) + (x0 * y0)) + (x1 * y1))), .second, .unset, .unset] []))
        refine own_st (fun t_ k_ => XS.aload X125.here hx rfl (hb hby at_205) rfl rfl k_) ?_
        show own_Go p.tables e below _ (T125.setTop (mkF m 207 #[.val (.int p0), .val (.int p1), .val (.int p2), .val (.int p3), .val (.int p4), .val (.int p5), .val (.int nn), .val (.long x0), .second, .val (.long x1), .second, .val (.long x2), .second, .val (.long y0), .second, .val (.long y1), .second, .val (.long y2), .second, .val (.ref b119), .val (.ref b122), .val (.long (((0 : Int64) + (x0 * y0)) + (x1 * y1))), .second, .unset, .unset] [(.ref b119)]))
        refine own_st (fun t_ k_ => XS.aload X125.here hx rfl (hb hby at_207) rfl rfl k_) ?_
        show own_Go p.tables e below _ (T125.setTop (mkF m 209 #[.val (.int p0), .val (.int p1), .val (.int p2), .val (.int p3), .val (.int p4), .val (.int p5), .val (.int nn), .val (.long x0), .second, .val (.long x1), .second, .val (.long x2), .second, .val (.long y0), .second, .val (.long y1), .second, .val (.long y2), .second, .val (.ref b119), .val (.ref b122), .val (.long (((0 : Int64) + (x0 * y0)) + (x1 * y1))), .second, .unset, .unset] [(.ref b122), (.ref b119)]))
        obtain ⟨_, _, ⟨T126, L126, k126, n126⟩, -, X126, ⟨Lc126, hQ126, l126, y126, z126⟩, st126⟩ := Jvm.LawKit.callS X125 hx (y := (⟨"com/example/provender/provender/solver/Row", "dot", "([D[D)D"⟩ : MethodName)) hown (mvT hZ (hw _ (List.mem_of_getElem? (i := 1) rfl))) (mvT hZ (hw _ (List.mem_of_getElem? (i := 2) rfl))) (mvT hZ (hw _ (List.mem_of_getElem? (i := 3) rfl))) (mvT hZ (hw _ (List.mem_of_getElem? (i := 4) rfl))) (by decide) (backOf (W := 0) (own_rm1 l Z a0 hw [] b119 b122 k119 k122 2 3 (own_upd (own_upd (fun _ => (0 : UInt64)) 0 (FP.l2d x0)) 1 (FP.l2d x1)) (own_upd (own_upd (own_upd (fun _ => (0 : UInt64)) 0 (FP.l2d y0)) 1 (FP.l2d y1)) 2 (FP.l2d y2)) (own_xs x0.toInt x1.toInt x2.toInt 2) (own_xs y0.toInt y1.toInt y2.toInt 3) h125 n0 (Nat.le_trans Z0 K125.1) ((((Aw121.ext E122).other W123 (Nat.ne_of_lt (Nat.lt_of_lt_of_le Aw121.lt (Nat.le_of_eq g122.symm)))).other W124 (Nat.ne_of_lt (Nat.lt_of_lt_of_le Aw121.lt (Nat.le_of_eq g122.symm)))).other W125 (Nat.ne_of_lt (Nat.lt_of_lt_of_le Aw121.lt (Nat.le_of_eq g122.symm)))) Aw125 (own_smallL bx0 bx1 bx2 (own_f2 _ _ _)) (own_smallL by0 by1 by2 (own_f3 _ _ _)) (by decide)) hZ (hw _ (List.mem_of_getElem? (i := 4) rfl)) (hw _ (List.mem_of_getElem? (i := 3) rfl)) (by decide) (by decide)) (g := (mkF m 209 #[.val (.int p0), .val (.int p1), .val (.int p2), .val (.int p3), .val (.int p4), .val (.int p5), .val (.int nn), .val (.long x0), .second, .val (.long x1), .second, .val (.long x2), .second, .val (.long y0), .second, .val (.long y1), .second, .val (.long y2), .second, .val (.ref b119), .val (.ref b122), .val (.long (((0 : Int64) + (x0 * y0)) + (x1 * y1))), .second, .unset, .unset] [(.ref b122), (.ref b119)])) rfl (by rw [hml]; rfl) (argsL := [(.ref b119), (.ref b122)]) (rest := []) (lenOf own_pd0 rfl) rfl (by show 2 * 0 + _ ≤ _; exact Nat.le_of_eq rfl) (hb hby at_209) (fun _ _ => ⟨rfl, e125, (by decide : 2 + 0 ≤ _), (by decide : 5 + 0 ≤ _)⟩)
        dsimp only [Pt.U, Pt.locs, Pt.cells, Pt.slots] at X126 l126 y126 z126 st126 hQ126
        subst l126 y126 z126
        obtain ⟨rfl, N126q, eq126⟩ := hQ126
        have N126 := Fr.app N125 N126q
        refine own_st (st126) ?_
        show own_Go p.tables e below _ (T126.setTop (mkF m 212 #[.val (.int p0), .val (.int p1), .val (.int p2), .val (.int p3), .val (.int p4), .val (.int p5), .val (.int nn), .val (.long x0), .second, .val (.long x1), .second, .val (.long x2), .second, .val (.long y0), .second, .val (.long y1), .second, .val (.long y2), .second, .val (.ref b119), .val (.ref b122), .val (.long (((0 : Int64) + (x0 * y0)) + (x1 * y1))), .second, .unset, .unset] [(.double (own_dot (own_upd (own_upd (fun _ => (0 : UInt64)) 0 (FP.l2d x0)) 1 (FP.l2d x1)) (own_upd (own_upd (own_upd (fun _ => (0 : UInt64)) 0 (FP.l2d y0)) 1 (FP.l2d y1)) 2 (FP.l2d y2)) 2))]))
        refine own_st (fun t_ k_ => XS.dstore X126.here hx rfl (hb hby at_212) rfl (l' := #[.val (.int p0), .val (.int p1), .val (.int p2), .val (.int p3), .val (.int p4), .val (.int p5), .val (.int nn), .val (.long x0), .second, .val (.long x1), .second, .val (.long x2), .second, .val (.long y0), .second, .val (.long y1), .second, .val (.long y2), .second, .val (.ref b119), .val (.ref b122), .val (.long (((0 : Int64) + (x0 * y0)) + (x1 * y1))), .second, .val (.double (own_dot (own_upd (own_upd (fun _ => (0 : UInt64)) 0 (FP.l2d x0)) 1 (FP.l2d x1)) (own_upd (own_upd (own_upd (fun _ => (0 : UInt64)) 0 (FP.l2d y0)) 1 (FP.l2d y1)) 2 (FP.l2d y2)) 2)), .second]) rfl k_) ?_
        show own_Go p.tables e below _ (T126.setTop (mkF m 214 #[.val (.int p0), .val (.int p1), .val (.int p2), .val (.int p3), .val (.int p4), .val (.int p5), .val (.int nn), .val (.long x0), .second, .val (.long x1), .second, .val (.long x2), .second, .val (.long y0), .second, .val (.long y1), .second, .val (.long y2), .second, .val (.ref b119), .val (.ref b122), .val (.long (((0 : Int64) + (x0 * y0)) + (x1 * y1))), .second, .val (.double (own_dot (own_upd (own_upd (fun _ => (0 : UInt64)) 0 (FP.l2d x0)) 1 (FP.l2d x1)) (own_upd (own_upd (own_upd (fun _ => (0 : UInt64)) 0 (FP.l2d y0)) 1 (FP.l2d y1)) 2 (FP.l2d y2)) 2)), .second] []))
        refine own_st (fun t_ k_ => XS.dload X126.here hx rfl (hb hby at_214) rfl k_) ?_
        show own_Go p.tables e below _ (T126.setTop (mkF m 216 #[.val (.int p0), .val (.int p1), .val (.int p2), .val (.int p3), .val (.int p4), .val (.int p5), .val (.int nn), .val (.long x0), .second, .val (.long x1), .second, .val (.long x2), .second, .val (.long y0), .second, .val (.long y1), .second, .val (.long y2), .second, .val (.ref b119), .val (.ref b122), .val (.long (((0 : Int64) + (x0 * y0)) + (x1 * y1))), .second, .val (.double (own_dot (own_upd (own_upd (fun _ => (0 : UInt64)) 0 (FP.l2d x0)) 1 (FP.l2d x1)) (own_upd (own_upd (own_upd (fun _ => (0 : UInt64)) 0 (FP.l2d y0)) 1 (FP.l2d y1)) 2 (FP.l2d y2)) 2)), .second] [(.double (own_dot (own_upd (own_upd (fun _ => (0 : UInt64)) 0 (FP.l2d x0)) 1 (FP.l2d x1)) (own_upd (own_upd (own_upd (fun _ => (0 : UInt64)) 0 (FP.l2d y0)) 1 (FP.l2d y1)) 2 (FP.l2d y2)) 2))]))
        refine own_st (fun t_ k_ => XS.lload X126.here hx rfl (hb hby at_216) rfl k_) ?_
        show own_Go p.tables e below _ (T126.setTop (mkF m 218 #[.val (.int p0), .val (.int p1), .val (.int p2), .val (.int p3), .val (.int p4), .val (.int p5), .val (.int nn), .val (.long x0), .second, .val (.long x1), .second, .val (.long x2), .second, .val (.long y0), .second, .val (.long y1), .second, .val (.long y2), .second, .val (.ref b119), .val (.ref b122), .val (.long (((0 : Int64) + (x0 * y0)) + (x1 * y1))), .second, .val (.double (own_dot (own_upd (own_upd (fun _ => (0 : UInt64)) 0 (FP.l2d x0)) 1 (FP.l2d x1)) (own_upd (own_upd (own_upd (fun _ => (0 : UInt64)) 0 (FP.l2d y0)) 1 (FP.l2d y1)) 2 (FP.l2d y2)) 2)), .second] [(.long (((0 : Int64) + (x0 * y0)) + (x1 * y1))), (.double (own_dot (own_upd (own_upd (fun _ => (0 : UInt64)) 0 (FP.l2d x0)) 1 (FP.l2d x1)) (own_upd (own_upd (own_upd (fun _ => (0 : UInt64)) 0 (FP.l2d y0)) 1 (FP.l2d y1)) 2 (FP.l2d y2)) 2))]))
        refine own_st (fun t_ k_ => XS.l2dS X126.here hx rfl (hb hby at_218) rfl rfl k_) ?_
        show own_Go p.tables e below _ (T126.setTop (mkF m 219 #[.val (.int p0), .val (.int p1), .val (.int p2), .val (.int p3), .val (.int p4), .val (.int p5), .val (.int nn), .val (.long x0), .second, .val (.long x1), .second, .val (.long x2), .second, .val (.long y0), .second, .val (.long y1), .second, .val (.long y2), .second, .val (.ref b119), .val (.ref b122), .val (.long (((0 : Int64) + (x0 * y0)) + (x1 * y1))), .second, .val (.double (own_dot (own_upd (own_upd (fun _ => (0 : UInt64)) 0 (FP.l2d x0)) 1 (FP.l2d x1)) (own_upd (own_upd (own_upd (fun _ => (0 : UInt64)) 0 (FP.l2d y0)) 1 (FP.l2d y1)) 2 (FP.l2d y2)) 2)), .second] [(.double (FP.l2d (((0 : Int64) + (x0 * y0)) + (x1 * y1)))), (.double (own_dot (own_upd (own_upd (fun _ => (0 : UInt64)) 0 (FP.l2d x0)) 1 (FP.l2d x1)) (own_upd (own_upd (own_upd (fun _ => (0 : UInt64)) 0 (FP.l2d y0)) 1 (FP.l2d y1)) 2 (FP.l2d y2)) 2))]))
        refine own_st (fun t_ k_ => XS.dcmpS X126.here hx rfl (hb hby at_219) rfl rfl k_) ?_
        show own_Go p.tables e below _ (T126.setTop (mkF m 220 #[.val (.int p0), .val (.int p1), .val (.int p2), .val (.int p3), .val (.int p4), .val (.int p5), .val (.int nn), .val (.long x0), .second, .val (.long x1), .second, .val (.long x2), .second, .val (.long y0), .second, .val (.long y1), .second, .val (.long y2), .second, .val (.ref b119), .val (.ref b122), .val (.long (((0 : Int64) + (x0 * y0)) + (x1 * y1))), .second, .val (.double (own_dot (own_upd (own_upd (fun _ => (0 : UInt64)) 0 (FP.l2d x0)) 1 (FP.l2d x1)) (own_upd (own_upd (own_upd (fun _ => (0 : UInt64)) 0 (FP.l2d y0)) 1 (FP.l2d y1)) 2 (FP.l2d y2)) 2)), .second] [(.int (cmpValue (FP.dcmp (own_dot (own_upd (own_upd (fun _ => (0 : UInt64)) 0 (FP.l2d x0)) 1 (FP.l2d x1)) (own_upd (own_upd (own_upd (fun _ => (0 : UInt64)) 0 (FP.l2d y0)) 1 (FP.l2d y1)) 2 (FP.l2d y2)) 2) (FP.l2d (((0 : Int64) + (x0 * y0)) + (x1 * y1)))) .l))]))
        refine own_st (fun t_ k_ => XS.ifNo X126.here hx rfl (hb hby at_220) rfl ((if0 _ _).trans (teq (own_e2 bx0 bx1 bx2 by0 by1 by2 (own_smallL bx0 bx1 bx2 (own_f2 _ _ _)) (own_smallL by0 by1 by2 (own_f3 _ _ _)) .l : (cmpValue (FP.dcmp (own_dot (own_upd (own_upd (fun _ => (0 : UInt64)) 0 (FP.l2d x0)) 1 (FP.l2d x1)) (own_upd (own_upd (own_upd (fun _ => (0 : UInt64)) 0 (FP.l2d y0)) 1 (FP.l2d y1)) 2 (FP.l2d y2)) 2) (FP.l2d (((0 : Int64) + (x0 * y0)) + (x1 * y1)))) .l) = (0 : Int32))).2) k_) ?_
        show own_Go p.tables e below _ (T126.setTop (mkF m 223 #[.val (.int p0), .val (.int p1), .val (.int p2), .val (.int p3), .val (.int p4), .val (.int p5), .val (.int nn), .val (.long x0), .second, .val (.long x1), .second, .val (.long x2), .second, .val (.long y0), .second, .val (.long y1), .second, .val (.long y2), .second, .val (.ref b119), .val (.ref b122), .val (.long (((0 : Int64) + (x0 * y0)) + (x1 * y1))), .second, .val (.double (own_dot (own_upd (own_upd (fun _ => (0 : UInt64)) 0 (FP.l2d x0)) 1 (FP.l2d x1)) (own_upd (own_upd (own_upd (fun _ => (0 : UInt64)) 0 (FP.l2d y0)) 1 (FP.l2d y1)) 2 (FP.l2d y2)) 2)), .second] []))
        refine own_st (fun t_ k_ => XS.iconst X126.here hx rfl (hb hby at_223) k_) ?_
        show own_Go p.tables e below _ (T126.setTop (mkF m 224 #[.val (.int p0), .val (.int p1), .val (.int p2), .val (.int p3), .val (.int p4), .val (.int p5), .val (.int nn), .val (.long x0), .second, .val (.long x1), .second, .val (.long x2), .second, .val (.long y0), .second, .val (.long y1), .second, .val (.long y2), .second, .val (.ref b119), .val (.ref b122), .val (.long (((0 : Int64) + (x0 * y0)) + (x1 * y1))), .second, .val (.double (own_dot (own_upd (own_upd (fun _ => (0 : UInt64)) 0 (FP.l2d x0)) 1 (FP.l2d x1)) (own_upd (own_upd (own_upd (fun _ => (0 : UInt64)) 0 (FP.l2d y0)) 1 (FP.l2d y1)) 2 (FP.l2d y2)) 2)), .second] [(.int (1 : Int32))]))
        refine own_st (fun t_ k_ => XS.goto X126.here hx rfl (pc0 := 224) (pc' := 228) rfl (hb hby at_224) (by decide) (by decide) k_) ?_
        show own_Go p.tables e below _ (T126.setTop (mkF m 228 #[.val (.int p0), .val (.int p1), .val (.int p2), .val (.int p3), .val (.int p4), .val (.int p5), .val (.int nn), .val (.long x0), .second, .val (.long x1), .second, .val (.long x2), .second, .val (.long y0), .second, .val (.long y1), .second, .val (.long y2), .second, .val (.ref b119), .val (.ref b122), .val (.long (((0 : Int64) + (x0 * y0)) + (x1 * y1))), .second, .val (.double (own_dot (own_upd (own_upd (fun _ => (0 : UInt64)) 0 (FP.l2d x0)) 1 (FP.l2d x1)) (own_upd (own_upd (own_upd (fun _ => (0 : UInt64)) 0 (FP.l2d y0)) 1 (FP.l2d y1)) 2 (FP.l2d y2)) 2)), .second] [(.int (1 : Int32))]))
        exact own_ret (w := (.int (1 : Int32))) X126 hx hnl Bd.returns rfl (Or.inl ⟨rfl, by decide, _, rfl⟩) (hb hby at_228) ⟨rfl, N126, (by rw [eq126]; exact K125)⟩ (by decide) (by decide)
      · skip
        refine own_st (fun t_ k_ => XS.icmpYes X0.here hx rfl (pc0 := 85) (pc' := 108) rfl (hb hby at_85) rfl (feq c85_118).2 (by decide) (by decide) k_) ?_
        show own_Go p.tables e below _ (s₁.setTop (mkF m 108 #[.val (.int p0), .val (.int p1), .val (.int p2), .val (.int p3), .val (.int p4), .val (.int p5), .val (.int nn), .val (.long x0), .second, .val (.long x1), .second, .val (.long x2), .second, .val (.long y0), .second, .val (.long y1), .second, .val (.long y2), .second, .unset, .unset, .unset, .unset, .unset, .unset] []))
        refine own_st (fun t_ k_ => XS.iconst X0.here hx rfl (hb hby at_108) k_) ?_
        show own_Go p.tables e below _ (s₁.setTop (mkF m 109 #[.val (.int p0), .val (.int p1), .val (.int p2), .val (.int p3), .val (.int p4), .val (.int p5), .val (.int nn), .val (.long x0), .second, .val (.long x1), .second, .val (.long x2), .second, .val (.long y0), .second, .val (.long y1), .second, .val (.long y2), .second, .unset, .unset, .unset, .unset, .unset, .unset] [(.int (3 : Int32))]))
        obtain ⟨T127, h127, k127, X127, e127, E127, A127, st127⟩ := newP X0 hx hZ (hw _ (List.mem_of_getElem? (i := 0) rfl)) e0 (g := (mkF m 109 #[.val (.int p0), .val (.int p1), .val (.int p2), .val (.int p3), .val (.int p4), .val (.int p5), .val (.int nn), .val (.long x0), .second, .val (.long x1), .second, .val (.long x2), .second, .val (.long y0), .second, .val (.long y1), .second, .val (.long y2), .second, .unset, .unset, .unset, .unset, .unset, .unset] [(.int (3 : Int32))])) rfl (hb hby at_109) rfl (by decide) (cap := 3) (by decide) (by decide) (by decide) (by decide)
        obtain ⟨b127, g127⟩ : ∃ z, z = h0.size := ⟨_, rfl⟩
        rw [← g127] at A127 st127
        have fr127 : h0.size ≤ b127 := Nat.le_trans (Keep.refl h0 []).1 (Nat.le_of_eq g127.symm)
        have ge127 : n0 ≤ b127 := Nat.le_trans Z0 fr127
        have K127 : Keep h0 h127 [] := (Keep.refl h0 []).ext E127
        have Ar127 : own_A Z h127 b127 k127 .double 3 (fun i => .double ((fun _ => (0 : UInt64)) i)) := own_A.new A127 rfl (by decide)
        refine own_st (st127) ?_
        show own_Go p.tables e below _ (T127.setTop (mkF m 111 #[.val (.int p0), .val (.int p1), .val (.int p2), .val (.int p3), .val (.int p4), .val (.int p5), .val (.int nn), .val (.long x0), .second, .val (.long x1), .second, .val (.long x2), .second, .val (.long y0), .second, .val (.long y1), .second, .val (.long y2), .second, .unset, .unset, .unset, .unset, .unset, .unset] [(.ref b127)]))
        refine own_st (fun t_ k_ => XS.dup X127.here hx rfl (hb hby at_111) rfl rfl k_) ?_
        show own_Go p.tables e below _ (T127.setTop (mkF m 112 #[.val (.int p0), .val (.int p1), .val (.int p2), .val (.int p3), .val (.int p4), .val (.int p5), .val (.int nn), .val (.long x0), .second, .val (.long x1), .second, .val (.long x2), .second, .val (.long y0), .second, .val (.long y1), .second, .val (.long y2), .second, .unset, .unset, .unset, .unset, .unset, .unset] [(.ref b127), (.ref b127)]))
        refine own_st (fun t_ k_ => XS.iconst X127.here hx rfl (hb hby at_112) k_) ?_
        show own_Go p.tables e below _ (T127.setTop (mkF m 113 #[.val (.int p0), .val (.int p1), .val (.int p2), .val (.int p3), .val (.int p4), .val (.int p5), .val (.int nn), .val (.long x0), .second, .val (.long x1), .second, .val (.long x2), .second, .val (.long y0), .second, .val (.long y1), .second, .val (.long y2), .second, .unset, .unset, .unset, .unset, .unset, .unset] [(.int (0 : Int32)), (.ref b127), (.ref b127)]))
        refine own_st (fun t_ k_ => XS.lload X127.here hx rfl (hb hby at_113) rfl k_) ?_
        show own_Go p.tables e below _ (T127.setTop (mkF m 115 #[.val (.int p0), .val (.int p1), .val (.int p2), .val (.int p3), .val (.int p4), .val (.int p5), .val (.int nn), .val (.long x0), .second, .val (.long x1), .second, .val (.long x2), .second, .val (.long y0), .second, .val (.long y1), .second, .val (.long y2), .second, .unset, .unset, .unset, .unset, .unset, .unset] [(.long x0), (.int (0 : Int32)), (.ref b127), (.ref b127)]))
        refine own_st (fun t_ k_ => XS.l2dS X127.here hx rfl (hb hby at_115) rfl rfl k_) ?_
        show own_Go p.tables e below _ (T127.setTop (mkF m 116 #[.val (.int p0), .val (.int p1), .val (.int p2), .val (.int p3), .val (.int p4), .val (.int p5), .val (.int nn), .val (.long x0), .second, .val (.long x1), .second, .val (.long x2), .second, .val (.long y0), .second, .val (.long y1), .second, .val (.long y2), .second, .unset, .unset, .unset, .unset, .unset, .unset] [(.double (FP.l2d x0)), (.int (0 : Int32)), (.ref b127), (.ref b127)]))
        obtain ⟨T128, h128, X128, e128, W128, Aw128, st128⟩ := own_dastore X127 hx hZ e127 Ar127 (i := 0) (by decide) (by decide) (g := (mkF m 116 #[.val (.int p0), .val (.int p1), .val (.int p2), .val (.int p3), .val (.int p4), .val (.int p5), .val (.int nn), .val (.long x0), .second, .val (.long x1), .second, .val (.long x2), .second, .val (.long y0), .second, .val (.long y1), .second, .val (.long y2), .second, .unset, .unset, .unset, .unset, .unset, .unset] [(.double (FP.l2d x0)), (.int (0 : Int32)), (.ref b127), (.ref b127)])) rfl rfl (hb hby at_116)
        have N128 := Fr.snoc X128 N0 ge127
        have K128 : Keep h0 h128 [] := K127.wr W128 (Or.inr fr127)
        refine own_st (st128) ?_
        show own_Go p.tables e below _ (T128.setTop (mkF m 117 #[.val (.int p0), .val (.int p1), .val (.int p2), .val (.int p3), .val (.int p4), .val (.int p5), .val (.int nn), .val (.long x0), .second, .val (.long x1), .second, .val (.long x2), .second, .val (.long y0), .second, .val (.long y1), .second, .val (.long y2), .second, .unset, .unset, .unset, .unset, .unset, .unset] [(.ref b127)]))
        refine own_st (fun t_ k_ => XS.dup X128.here hx rfl (hb hby at_117) rfl rfl k_) ?_
        show own_Go p.tables e below _ (T128.setTop (mkF m 118 #[.val (.int p0), .val (.int p1), .val (.int p2), .val (.int p3), .val (.int p4), .val (.int p5), .val (.int nn), .val (.long x0), .second, .val (.long x1), .second, .val (.long x2), .second, .val (.long y0), .second, .val (.long y1), .second, .val (.long y2), .second, .unset, .unset, .unset, .unset, .unset, .unset] [(.ref b127), (.ref b127)]))
        refine own_st (fun t_ k_ => XS.iconst X128.here hx rfl (hb hby at_118) k_) ?_
        show own_Go p.tables e below _ (T128.setTop (mkF m 119 #[.val (.int p0), .val (.int p1), .val (.int p2), .val (.int p3), .val (.int p4), .val (.int p5), .val (.int nn), .val (.long x0), .second, .val (.long x1), .second, .val (.long x2), .second, .val (.long y0), .second, .val (.long y1), .second, .val (.long y2), .second, .unset, .unset, .unset, .unset, .unset, .unset] [(.int (1 : Int32)), (.ref b127), (.ref b127)]))
        refine own_st (fun t_ k_ => XS.lload X128.here hx rfl (hb hby at_119) rfl k_) ?_
        show own_Go p.tables e below _ (T128.setTop (mkF m 121 #[.val (.int p0), .val (.int p1), .val (.int p2), .val (.int p3), .val (.int p4), .val (.int p5), .val (.int nn), .val (.long x0), .second, .val (.long x1), .second, .val (.long x2), .second, .val (.long y0), .second, .val (.long y1), .second, .val (.long y2), .second, .unset, .unset, .unset, .unset, .unset, .unset] [(.long x1), (.int (1 : Int32)), (.ref b127), (.ref b127)]))
        refine own_st (fun t_ k_ => XS.l2dS X128.here hx rfl (hb hby at_121) rfl rfl k_) ?_
        show own_Go p.tables e below _ (T128.setTop (mkF m 122 #[.val (.int p0), .val (.int p1), .val (.int p2), .val (.int p3), .val (.int p4), .val (.int p5), .val (.int nn), .val (.long x0), .second, .val (.long x1), .second, .val (.long x2), .second, .val (.long y0), .second, .val (.long y1), .second, .val (.long y2), .second, .unset, .unset, .unset, .unset, .unset, .unset] [(.double (FP.l2d x1)), (.int (1 : Int32)), (.ref b127), (.ref b127)]))
        obtain ⟨T129, h129, X129, e129, W129, Aw129, st129⟩ := own_dastore X128 hx hZ e128 Aw128 (i := 1) (by decide) (by decide) (g := (mkF m 122 #[.val (.int p0), .val (.int p1), .val (.int p2), .val (.int p3), .val (.int p4), .val (.int p5), .val (.int nn), .val (.long x0), .second, .val (.long x1), .second, .val (.long x2), .second, .val (.long y0), .second, .val (.long y1), .second, .val (.long y2), .second, .unset, .unset, .unset, .unset, .unset, .unset] [(.double (FP.l2d x1)), (.int (1 : Int32)), (.ref b127), (.ref b127)])) rfl rfl (hb hby at_122)
        have N129 := Fr.snoc X129 N128 ge127
        have K129 : Keep h0 h129 [] := K128.wr W129 (Or.inr fr127)
        refine own_st (st129) ?_
        show own_Go p.tables e below _ (T129.setTop (mkF m 123 #[.val (.int p0), .val (.int p1), .val (.int p2), .val (.int p3), .val (.int p4), .val (.int p5), .val (.int nn), .val (.long x0), .second, .val (.long x1), .second, .val (.long x2), .second, .val (.long y0), .second, .val (.long y1), .second, .val (.long y2), .second, .unset, .unset, .unset, .unset, .unset, .unset] [(.ref b127)]))
        refine own_st (fun t_ k_ => XS.dup X129.here hx rfl (hb hby at_123) rfl rfl k_) ?_
        show own_Go p.tables e below _ (T129.setTop (mkF m 124 #[.val (.int p0), .val (.int p1), .val (.int p2), .val (.int p3), .val (.int p4), .val (.int p5), .val (.int nn), .val (.long x0), .second, .val (.long x1), .second, .val (.long x2), .second, .val (.long y0), .second, .val (.long y1), .second, .val (.long y2), .second, .unset, .unset, .unset, .unset, .unset, .unset] [(.ref b127), (.ref b127)]))
        refine own_st (fun t_ k_ => XS.iconst X129.here hx rfl (hb hby at_124) k_) ?_
        show own_Go p.tables e below _ (T129.setTop (mkF m 125 #[.val (.int p0), .val (.int p1), .val (.int p2), .val (.int p3), .val (.int p4), .val (.int p5), .val (.int nn), .val (.long x0), .second, .val (.long x1), .second, .val (.long x2), .second, .val (.long y0), .second, .val (.long y1), .second, .val (.long y2), .second, .unset, .unset, .unset, .unset, .unset, .unset] [(.int (2 : Int32)), (.ref b127), (.ref b127)]))
        refine own_st (fun t_ k_ => XS.lload X129.here hx rfl (hb hby at_125) rfl k_) ?_
        show own_Go p.tables e below _ (T129.setTop (mkF m 127 #[.val (.int p0), .val (.int p1), .val (.int p2), .val (.int p3), .val (.int p4), .val (.int p5), .val (.int nn), .val (.long x0), .second, .val (.long x1), .second, .val (.long x2), .second, .val (.long y0), .second, .val (.long y1), .second, .val (.long y2), .second, .unset, .unset, .unset, .unset, .unset, .unset] [(.long x2), (.int (2 : Int32)), (.ref b127), (.ref b127)]))
        refine own_st (fun t_ k_ => XS.l2dS X129.here hx rfl (hb hby at_127) rfl rfl k_) ?_
        show own_Go p.tables e below _ (T129.setTop (mkF m 128 #[.val (.int p0), .val (.int p1), .val (.int p2), .val (.int p3), .val (.int p4), .val (.int p5), .val (.int nn), .val (.long x0), .second, .val (.long x1), .second, .val (.long x2), .second, .val (.long y0), .second, .val (.long y1), .second, .val (.long y2), .second, .unset, .unset, .unset, .unset, .unset, .unset] [(.double (FP.l2d x2)), (.int (2 : Int32)), (.ref b127), (.ref b127)]))
        obtain ⟨T130, h130, X130, e130, W130, Aw130, st130⟩ := own_dastore X129 hx hZ e129 Aw129 (i := 2) (by decide) (by decide) (g := (mkF m 128 #[.val (.int p0), .val (.int p1), .val (.int p2), .val (.int p3), .val (.int p4), .val (.int p5), .val (.int nn), .val (.long x0), .second, .val (.long x1), .second, .val (.long x2), .second, .val (.long y0), .second, .val (.long y1), .second, .val (.long y2), .second, .unset, .unset, .unset, .unset, .unset, .unset] [(.double (FP.l2d x2)), (.int (2 : Int32)), (.ref b127), (.ref b127)])) rfl rfl (hb hby at_128)
        have N130 := Fr.snoc X130 N129 ge127
        have K130 : Keep h0 h130 [] := K129.wr W130 (Or.inr fr127)
        refine own_st (st130) ?_
        show own_Go p.tables e below _ (T130.setTop (mkF m 129 #[.val (.int p0), .val (.int p1), .val (.int p2), .val (.int p3), .val (.int p4), .val (.int p5), .val (.int nn), .val (.long x0), .second, .val (.long x1), .second, .val (.long x2), .second, .val (.long y0), .second, .val (.long y1), .second, .val (.long y2), .second, .unset, .unset, .unset, .unset, .unset, .unset] [(.ref b127)]))
        refine own_st (fun t_ k_ => XS.astore X130.here hx rfl (hb hby at_129) rfl rfl (l' := #[.val (.int p0), .val (.int p1), .val (.int p2), .val (.int p3), .val (.int p4), .val (.int p5), .val (.int nn), .val (.long x0), .second, .val (.long x1), .second, .val (.long x2), .second, .val (.long y0), .second, .val (.long y1), .second, .val (.long y2), .second, .val (.ref b127), .unset, .unset, .unset, .unset, .unset]) rfl k_) ?_
        show own_Go p.tables e below _ (T130.setTop (mkF m 131 #[.val (.int p0), .val (.int p1), .val (.int p2), .val (.int p3), .val (.int p4), .val (.int p5), .val (.int nn), .val (.long x0), .second, .val (.long x1), .second, .val (.long x2), .second, .val (.long y0), .second, .val (.long y1), .second, .val (.long y2), .second, .val (.ref b127), .unset, .unset, .unset, .unset, .unset] []))
        refine own_st (fun t_ k_ => XS.iconst X130.here hx rfl (hb hby at_131) k_) ?_
        show own_Go p.tables e below _ (T130.setTop (mkF m 132 #[.val (.int p0), .val (.int p1), .val (.int p2), .val (.int p3), .val (.int p4), .val (.int p5), .val (.int nn), .val (.long x0), .second, .val (.long x1), .second, .val (.long x2), .second, .val (.long y0), .second, .val (.long y1), .second, .val (.long y2), .second, .val (.ref b127), .unset, .unset, .unset, .unset, .unset] [(.int (3 : Int32))]))
        obtain ⟨T131, h131, k131, X131, e131, E131, A131, st131⟩ := newP X130 hx hZ (hw _ (List.mem_of_getElem? (i := 0) rfl)) e130 (g := (mkF m 132 #[.val (.int p0), .val (.int p1), .val (.int p2), .val (.int p3), .val (.int p4), .val (.int p5), .val (.int nn), .val (.long x0), .second, .val (.long x1), .second, .val (.long x2), .second, .val (.long y0), .second, .val (.long y1), .second, .val (.long y2), .second, .val (.ref b127), .unset, .unset, .unset, .unset, .unset] [(.int (3 : Int32))])) rfl (hb hby at_132) rfl (by decide) (cap := 3) (by decide) (by decide) (by decide) (by decide)
        obtain ⟨b131, g131⟩ : ∃ z, z = h130.size := ⟨_, rfl⟩
        rw [← g131] at A131 st131
        have fr131 : h0.size ≤ b131 := Nat.le_trans K130.1 (Nat.le_of_eq g131.symm)
        have ge131 : n0 ≤ b131 := Nat.le_trans Z0 fr131
        have K131 : Keep h0 h131 [] := K130.ext E131
        have Ar131 : own_A Z h131 b131 k131 .double 3 (fun i => .double ((fun _ => (0 : UInt64)) i)) := own_A.new A131 rfl (by decide)
        refine own_st (st131) ?_
        show own_Go p.tables e below _ (T131.setTop (mkF m 134 #[.val (.int p0), .val (.int p1), .val (.int p2), .val (.int p3), .val (.int p4), .val (.int p5), .val (.int nn), .val (.long x0), .second, .val (.long x1), .second, .val (.long x2), .second, .val (.long y0), .second, .val (.long y1), .second, .val (.long y2), .second, .val (.ref b127), .unset, .unset, .unset, .unset, .unset] [(.ref b131)]))
        refine own_st (fun t_ k_ => XS.dup X131.here hx rfl (hb hby at_134) rfl rfl k_) ?_
        show own_Go p.tables e below _ (T131.setTop (mkF m 135 #[.val (.int p0), .val (.int p1), .val (.int p2), .val (.int p3), .val (.int p4), .val (.int p5), .val (.int nn), .val (.long x0), .second, .val (.long x1), .second, .val (.long x2), .second, .val (.long y0), .second, .val (.long y1), .second, .val (.long y2), .second, .val (.ref b127), .unset, .unset, .unset, .unset, .unset] [(.ref b131), (.ref b131)]))
        refine own_st (fun t_ k_ => XS.iconst X131.here hx rfl (hb hby at_135) k_) ?_
        show own_Go p.tables e below _ (T131.setTop (mkF m 136 #[.val (.int p0), .val (.int p1), .val (.int p2), .val (.int p3), .val (.int p4), .val (.int p5), .val (.int nn), .val (.long x0), .second, .val (.long x1), .second, .val (.long x2), .second, .val (.long y0), .second, .val (.long y1), .second, .val (.long y2), .second, .val (.ref b127), .unset, .unset, .unset, .unset, .unset] [(.int (0 : Int32)), (.ref b131), (.ref b131)]))
        refine own_st (fun t_ k_ => XS.lload X131.here hx rfl (hb hby at_136) rfl k_) ?_
        show own_Go p.tables e below _ (T131.setTop (mkF m 138 #[.val (.int p0), .val (.int p1), .val (.int p2), .val (.int p3), .val (.int p4), .val (.int p5), .val (.int nn), .val (.long x0), .second, .val (.long x1), .second, .val (.long x2), .second, .val (.long y0), .second, .val (.long y1), .second, .val (.long y2), .second, .val (.ref b127), .unset, .unset, .unset, .unset, .unset] [(.long y0), (.int (0 : Int32)), (.ref b131), (.ref b131)]))
        refine own_st (fun t_ k_ => XS.l2dS X131.here hx rfl (hb hby at_138) rfl rfl k_) ?_
        show own_Go p.tables e below _ (T131.setTop (mkF m 139 #[.val (.int p0), .val (.int p1), .val (.int p2), .val (.int p3), .val (.int p4), .val (.int p5), .val (.int nn), .val (.long x0), .second, .val (.long x1), .second, .val (.long x2), .second, .val (.long y0), .second, .val (.long y1), .second, .val (.long y2), .second, .val (.ref b127), .unset, .unset, .unset, .unset, .unset] [(.double (FP.l2d y0)), (.int (0 : Int32)), (.ref b131), (.ref b131)]))
        obtain ⟨T132, h132, X132, e132, W132, Aw132, st132⟩ := own_dastore X131 hx hZ e131 Ar131 (i := 0) (by decide) (by decide) (g := (mkF m 139 #[.val (.int p0), .val (.int p1), .val (.int p2), .val (.int p3), .val (.int p4), .val (.int p5), .val (.int nn), .val (.long x0), .second, .val (.long x1), .second, .val (.long x2), .second, .val (.long y0), .second, .val (.long y1), .second, .val (.long y2), .second, .val (.ref b127), .unset, .unset, .unset, .unset, .unset] [(.double (FP.l2d y0)), (.int (0 : Int32)), (.ref b131), (.ref b131)])) rfl rfl (hb hby at_139)
        have N132 := Fr.snoc X132 N130 ge131
        have K132 : Keep h0 h132 [] := K131.wr W132 (Or.inr fr131)
        refine own_st (st132) ?_
        show own_Go p.tables e below _ (T132.setTop (mkF m 140 #[.val (.int p0), .val (.int p1), .val (.int p2), .val (.int p3), .val (.int p4), .val (.int p5), .val (.int nn), .val (.long x0), .second, .val (.long x1), .second, .val (.long x2), .second, .val (.long y0), .second, .val (.long y1), .second, .val (.long y2), .second, .val (.ref b127), .unset, .unset, .unset, .unset, .unset] [(.ref b131)]))
        refine own_st (fun t_ k_ => XS.dup X132.here hx rfl (hb hby at_140) rfl rfl k_) ?_
        show own_Go p.tables e below _ (T132.setTop (mkF m 141 #[.val (.int p0), .val (.int p1), .val (.int p2), .val (.int p3), .val (.int p4), .val (.int p5), .val (.int nn), .val (.long x0), .second, .val (.long x1), .second, .val (.long x2), .second, .val (.long y0), .second, .val (.long y1), .second, .val (.long y2), .second, .val (.ref b127), .unset, .unset, .unset, .unset, .unset] [(.ref b131), (.ref b131)]))
        refine own_st (fun t_ k_ => XS.iconst X132.here hx rfl (hb hby at_141) k_) ?_
        show own_Go p.tables e below _ (T132.setTop (mkF m 142 #[.val (.int p0), .val (.int p1), .val (.int p2), .val (.int p3), .val (.int p4), .val (.int p5), .val (.int nn), .val (.long x0), .second, .val (.long x1), .second, .val (.long x2), .second, .val (.long y0), .second, .val (.long y1), .second, .val (.long y2), .second, .val (.ref b127), .unset, .unset, .unset, .unset, .unset] [(.int (1 : Int32)), (.ref b131), (.ref b131)]))
        refine own_st (fun t_ k_ => XS.lload X132.here hx rfl (hb hby at_142) rfl k_) ?_
        show own_Go p.tables e below _ (T132.setTop (mkF m 144 #[.val (.int p0), .val (.int p1), .val (.int p2), .val (.int p3), .val (.int p4), .val (.int p5), .val (.int nn), .val (.long x0), .second, .val (.long x1), .second, .val (.long x2), .second, .val (.long y0), .second, .val (.long y1), .second, .val (.long y2), .second, .val (.ref b127), .unset, .unset, .unset, .unset, .unset] [(.long y1), (.int (1 : Int32)), (.ref b131), (.ref b131)]))
        refine own_st (fun t_ k_ => XS.l2dS X132.here hx rfl (hb hby at_144) rfl rfl k_) ?_
        show own_Go p.tables e below _ (T132.setTop (mkF m 145 #[.val (.int p0), .val (.int p1), .val (.int p2), .val (.int p3), .val (.int p4), .val (.int p5), .val (.int nn), .val (.long x0), .second, .val (.long x1), .second, .val (.long x2), .second, .val (.long y0), .second, .val (.long y1), .second, .val (.long y2), .second, .val (.ref b127), .unset, .unset, .unset, .unset, .unset] [(.double (FP.l2d y1)), (.int (1 : Int32)), (.ref b131), (.ref b131)]))
        obtain ⟨T133, h133, X133, e133, W133, Aw133, st133⟩ := own_dastore X132 hx hZ e132 Aw132 (i := 1) (by decide) (by decide) (g := (mkF m 145 #[.val (.int p0), .val (.int p1), .val (.int p2), .val (.int p3), .val (.int p4), .val (.int p5), .val (.int nn), .val (.long x0), .second, .val (.long x1), .second, .val (.long x2), .second, .val (.long y0), .second, .val (.long y1), .second, .val (.long y2), .second, .val (.ref b127), .unset, .unset, .unset, .unset, .unset] [(.double (FP.l2d y1)), (.int (1 : Int32)), (.ref b131), (.ref b131)])) rfl rfl (hb hby at_145)
        have N133 := Fr.snoc X133 N132 ge131
        have K133 : Keep h0 h133 [] := K132.wr W133 (Or.inr fr131)
        refine own_st (st133) ?_
        show own_Go p.tables e below _ (T133.setTop (mkF m 146 #[.val (.int p0), .val (.int p1), .val (.int p2), .val (.int p3), .val (.int p4), .val (.int p5), .val (.int nn), .val (.long x0), .second, .val (.long x1), .second, .val (.long x2), .second, .val (.long y0), .second, .val (.long y1), .second, .val (.long y2), .second, .val (.ref b127), .unset, .unset, .unset, .unset, .unset] [(.ref b131)]))
        refine own_st (fun t_ k_ => XS.dup X133.here hx rfl (hb hby at_146) rfl rfl k_) ?_
        show own_Go p.tables e below _ (T133.setTop (mkF m 147 #[.val (.int p0), .val (.int p1), .val (.int p2), .val (.int p3), .val (.int p4), .val (.int p5), .val (.int nn), .val (.long x0), .second, .val (.long x1), .second, .val (.long x2), .second, .val (.long y0), .second, .val (.long y1), .second, .val (.long y2), .second, .val (.ref b127), .unset, .unset, .unset, .unset, .unset] [(.ref b131), (.ref b131)]))
        refine own_st (fun t_ k_ => XS.iconst X133.here hx rfl (hb hby at_147) k_) ?_
        show own_Go p.tables e below _ (T133.setTop (mkF m 148 #[.val (.int p0), .val (.int p1), .val (.int p2), .val (.int p3), .val (.int p4), .val (.int p5), .val (.int nn), .val (.long x0), .second, .val (.long x1), .second, .val (.long x2), .second, .val (.long y0), .second, .val (.long y1), .second, .val (.long y2), .second, .val (.ref b127), .unset, .unset, .unset, .unset, .unset] [(.int (2 : Int32)), (.ref b131), (.ref b131)]))
        refine own_st (fun t_ k_ => XS.lload X133.here hx rfl (hb hby at_148) rfl k_) ?_
        show own_Go p.tables e below _ (T133.setTop (mkF m 150 #[.val (.int p0), .val (.int p1), .val (.int p2), .val (.int p3), .val (.int p4), .val (.int p5), .val (.int nn), .val (.long x0), .second, .val (.long x1), .second, .val (.long x2), .second, .val (.long y0), .second, .val (.long y1), .second, .val (.long y2), .second, .val (.ref b127), .unset, .unset, .unset, .unset, .unset] [(.long y2), (.int (2 : Int32)), (.ref b131), (.ref b131)]))
        refine own_st (fun t_ k_ => XS.l2dS X133.here hx rfl (hb hby at_150) rfl rfl k_) ?_
        show own_Go p.tables e below _ (T133.setTop (mkF m 151 #[.val (.int p0), .val (.int p1), .val (.int p2), .val (.int p3), .val (.int p4), .val (.int p5), .val (.int nn), .val (.long x0), .second, .val (.long x1), .second, .val (.long x2), .second, .val (.long y0), .second, .val (.long y1), .second, .val (.long y2), .second, .val (.ref b127), .unset, .unset, .unset, .unset, .unset] [(.double (FP.l2d y2)), (.int (2 : Int32)), (.ref b131), (.ref b131)]))
        obtain ⟨T134, h134, X134, e134, W134, Aw134, st134⟩ := own_dastore X133 hx hZ e133 Aw133 (i := 2) (by decide) (by decide) (g := (mkF m 151 #[.val (.int p0), .val (.int p1), .val (.int p2), .val (.int p3), .val (.int p4), .val (.int p5), .val (.int nn), .val (.long x0), .second, .val (.long x1), .second, .val (.long x2), .second, .val (.long y0), .second, .val (.long y1), .second, .val (.long y2), .second, .val (.ref b127), .unset, .unset, .unset, .unset, .unset] [(.double (FP.l2d y2)), (.int (2 : Int32)), (.ref b131), (.ref b131)])) rfl rfl (hb hby at_151)
        have N134 := Fr.snoc X134 N133 ge131
        have K134 : Keep h0 h134 [] := K133.wr W134 (Or.inr fr131)
        refine own_st (st134) ?_
        show own_Go p.tables e below _ (T134.setTop (mkF m 152 #[.val (.int p0), .val (.int p1), .val (.int p2), .val (.int p3), .val (.int p4), .val (.int p5), .val (.int nn), .val (.long x0), .second, .val (.long x1), .second, .val (.long x2), .second, .val (.long y0), .second, .val (.long y1), .second, .val (.long y2), .second, .val (.ref b127), .unset, .unset, .unset, .unset, .unset] [(.ref b131)]))
        refine own_st (fun t_ k_ => XS.astore X134.here hx rfl (hb hby at_152) rfl rfl (l' := #[.val (.int p0), .val (.int p1), .val (.int p2), .val (.int p3), .val (.int p4), .val (.int p5), .val (.int nn), .val (.long x0), .second, .val (.long x1), .second, .val (.long x2), .second, .val (.long y0), .second, .val (.long y1), .second, .val (.long y2), .second, .val (.ref b127), .val (.ref b131), .unset, .unset, .unset, .unset]) rfl k_) ?_
        show own_Go p.tables e below _ (T134.setTop (mkF m 154 #[.val (.int p0), .val (.int p1), .val (.int p2), .val (.int p3), .val (.int p4), .val (.int p5), .val (.int nn), .val (.long x0), .second, .val (.long x1), .second, .val (.long x2), .second, .val (.long y0), .second, .val (.long y1), .second, .val (.long y2), .second, .val (.ref b127), .val (.ref b131), .unset, .unset, .unset, .unset] []))
        refine own_st (fun t_ k_ => XS.lconst X134.here hx rfl (hb hby at_154) k_) ?_
        show own_Go p.tables e below _ (T134.setTop (mkF m 155 #[.val (.int p0), .val (.int p1), .val (.int p2), .val (.int p3), .val (.int p4), .val (.int p5), .val (.int nn), .val (.long x0), .second, .val (.long x1), .second, .val (.long x2), .second, .val (.long y0), .second, .val (.long y1), .second, .val (.long y2), .second, .val (.ref b127), .val (.ref b131), .unset, .unset, .unset, .unset] [(.long (0 : Int64))]))
        refine own_st (fun t_ k_ => XS.lstore X134.here hx rfl (hb hby at_155) rfl (l' := #[.val (.int p0), .val (.int p1), .val (.int p2), .val (.int p3), .val (.int p4), .val (.int p5), .val (.int nn), .val (.long x0), .second, .val (.long x1), .second, .val (.long x2), .second, .val (.long y0), .second, .val (.long y1), .second, .val (.long y2), .second, .val (.ref b127), .val (.ref b131), .val (.long (0 : Int64)), .second, .unset, .unset]) rfl k_) ?_
        show own_Go p.tables e below _ (T134.setTop (mkF m 157 #[.val (.int p0), .val (.int p1), .val (.int p2), .val (.int p3), .val (.int p4), .val (.int p5), .val (.int nn), .val (.long x0), .second, .val (.long x1), .second, .val (.long x2), .second, .val (.long y0), .second, .val (.long y1), .second, .val (.long y2), .second, .val (.ref b127), .val (.ref b131), .val (.long (0 : Int64)), .second, .unset, .unset] []))
        refine own_st (fun t_ k_ => XS.iload X134.here hx rfl (hb hby at_157) rfl k_) ?_
        show own_Go p.tables e below _ (T134.setTop (mkF m 159 #[.val (.int p0), .val (.int p1), .val (.int p2), .val (.int p3), .val (.int p4), .val (.int p5), .val (.int nn), .val (.long x0), .second, .val (.long x1), .second, .val (.long x2), .second, .val (.long y0), .second, .val (.long y1), .second, .val (.long y2), .second, .val (.ref b127), .val (.ref b131), .val (.long (0 : Int64)), .second, .unset, .unset] [(.int nn)]))
        refine own_st (fun t_ k_ => XS.iconst X134.here hx rfl (hb hby at_159) k_) ?_
        show own_Go p.tables e below _ (T134.setTop (mkF m 160 #[.val (.int p0), .val (.int p1), .val (.int p2), .val (.int p3), .val (.int p4), .val (.int p5), .val (.int nn), .val (.long x0), .second, .val (.long x1), .second, .val (.long x2), .second, .val (.long y0), .second, .val (.long y1), .second, .val (.long y2), .second, .val (.ref b127), .val (.ref b131), .val (.long (0 : Int64)), .second, .unset, .unset] [(.int (1 : Int32)), (.int nn)]))
        refine own_st (fun t_ k_ => XS.icmpNo X134.here hx rfl (hb hby at_160) rfl (flt (by have e0 : (0 : Int32).toInt = 0 := (by decide); have e1 : (1 : Int32).toInt = 1 := (by decide); have e2 : (2 : Int32).toInt = 2 := (by decide); have e3 : (3 : Int32).toInt = 3 := (by decide); rw [← Int32.toInt_inj] at c51_103 c65_110 c85_118; rw [Int32.lt_iff_toInt_lt]; omega : ¬ (nn < (1 : Int32)))).1 k_) ?_
        show own_Go p.tables e below _ (T134.setTop (mkF m 163 #[.val (.int p0), .val (.int p1), .val (.int p2), .val (.int p3), .val (.int p4), .val (.int p5), .val (.int nn), .val (.long x0), .second, .val (.long x1), .second, .val (.long x2), .second, .val (.long y0), .second, .val (.long y1), .second, .val (.long y2), .second, .val (.ref b127), .val (.ref b131), .val (.long (0 : Int64)), .second, .unset, .unset] []))
        refine own_st (fun t_ k_ => XS.lload X134.here hx rfl (hb hby at_163) rfl k_) ?_
        show own_Go p.tables e below _ (T134.setTop (mkF m 165 #[.val (.int p0), .val (.int p1), .val (.int p2), .val (.int p3), .val (.int p4), .val (.int p5), .val (.int nn), .val (.long x0), .second, .val (.long x1), .second, .val (.long x2), .second, .val (.long y0), .second, .val (.long y1), .second, .val (.long y2), .second, .val (.ref b127), .val (.ref b131), .val (.long (0 : Int64)), .second, .unset, .unset] [(.long (0 : Int64))]))
        refine own_st (fun t_ k_ => XS.lload X134.here hx rfl (hb hby at_165) rfl k_) ?_
        show own_Go p.tables e below _ (T134.setTop (mkF m 167 #[.val (.int p0), .val (.int p1), .val (.int p2), .val (.int p3), .val (.int p4), .val (.int p5), .val (.int nn), .val (.long x0), .second, .val (.long x1), .second, .val (.long x2), .second, .val (.long y0), .second, .val (.long y1), .second, .val (.long y2), .second, .val (.ref b127), .val (.ref b131), .val (.long (0 : Int64)), .second, .unset, .unset] [(.long x0), (.long (0 : Int64))]))
        refine own_st (fun t_ k_ => XS.lload X134.here hx rfl (hb hby at_167) rfl k_) ?_
        show own_Go p.tables e below _ (T134.setTop (mkF m 169 #[.val (.int p0), .val (.int p1), .val (.int p2), .val (.int p3), .val (.int p4), .val (.int p5), .val (.int nn), .val (.long x0), .second, .val (.long x1), .second, .val (.long x2), .second, .val (.long y0), .second, .val (.long y1), .second, .val (.long y2), .second, .val (.ref b127), .val (.ref b131), .val (.long (0 : Int64)), .second, .unset, .unset] [(.long y0), (.long x0), (.long (0 : Int64))]))
        refine own_st (fun t_ k_ => XS.lmul X134.here hx rfl (hb hby at_169) rfl k_) ?_
        show own_Go p.tables e below _ (T134.setTop (mkF m 170 #[.val (.int p0), .val (.int p1), .val (.int p2), .val (.int p3), .val (.int p4), .val (.int p5), .val (.int nn), .val (.long x0), .second, .val (.long x1), .second, .val (.long x2), .second, .val (.long y0), .second, .val (.long y1), .second, .val (.long y2), .second, .val (.ref b127), .val (.ref b131), .val (.long (0 : Int64)), .second, .unset, .unset] [(.long (x0 * y0)), (.long (0 : Int64))]))
        refine own_st (fun t_ k_ => XS.ladd X134.here hx rfl (hb hby at_170) rfl k_) ?_
        show own_Go p.tables e below _ (T134.setTop (mkF m 171 #[.val (.int p0), .val (.int p1), .val (.int p2), .val (.int p3), .val (.int p4), .val (.int p5), .val (.int nn), .val (.long x0), .second, .val (.long x1), .second, .val (.long x2), .second, .val (.long y0), .second, .val (.long y1), .second, .val (.long y2), .second, .val (.ref b127), .val (.ref b131), .val (.long (0 : Int64)), .second, .unset, .unset] [(.long ((0 : Int64) + (x0 * y0)))]))
        refine own_st (fun t_ k_ => XS.lstore X134.here hx rfl (hb hby at_171) rfl (l' := #[.val (.int p0), .val (.int p1), .val (.int p2), .val (.int p3), .val (.int p4), .val (.int p5), .val (.int nn), .val (.long x0), .second, .val (.long x1), .second, .val (.long x2), .second, .val (.long y0), .second, .val (.long y1), .second, .val (.long y2), .second, .val (.ref b127), .val (.ref b131), .val (.long ((0 : Int64) + (x0 * y0))), .second, .unset, .unset]) rfl k_) ?_
        show own_Go p.tables e below _ (T134.setTop (mkF m 173 #[.val (.int p0), .val (.int p1), .val (.int p2), .val (.int p3), .val (.int p4), .val (.int p5), .val (.int nn), .val (.long x0), .second, .val (.long x1), .second, .val (.long x2), .second, .val (.long y0), .second, .val (.long y1), .second, .val (.long y2), .second, .val (.ref b127), .val (.ref b131), .val (.long ((0 : Int64) + (x0 * y0))), .second, .unset, .unset] []))
        refine own_st (fun t_ k_ => XS.iload X134.here hx rfl (hb hby at_173) rfl k_) ?_
        show own_Go p.tables e below _ (T134.setTop (mkF m 175 #[.val (.int p0), .val (.int p1), .val (.int p2), .val (.int p3), .val (.int p4), .val (.int p5), .val (.int nn), .val (.long x0), .second, .val (.long x1), .second, .val (.long x2), .second, .val (.long y0), .second, .val (.long y1), .second, .val (.long y2), .second, .val (.ref b127), .val (.ref b131), .val (.long ((0 : Int64) + (x0 * y0))), .second, .unset, .unset] [(.int nn)]))
        refine own_st (fun t_ k_ => XS.iconst X134.here hx rfl (hb hby at_175) k_) ?_
        show own_Go p.tables e below _ (T134.setTop (mkF m 176 #[.val (.int p0), .val (.int p1), .val (.int p2), .val (.int p3), .val (.int p4), .val (.int p5), .val (.int nn), .val (.long x0), .second, .val (.long x1), .second, .val (.long x2), .second, .val (.long y0), .second, .val (.long y1), .second, .val (.long y2), .second, .val (.ref b127), .val (.ref b131), .val (.long ((0 : Int64) + (x0 * y0))), .second, .unset, .unset] [(.int (2 : Int32)), (.int nn)]))
        refine own_st (fun t_ k_ => XS.icmpNo X134.here hx rfl (hb hby at_176) rfl (flt (by have e0 : (0 : Int32).toInt = 0 := (by decide); have e1 : (1 : Int32).toInt = 1 := (by decide); have e2 : (2 : Int32).toInt = 2 := (by decide); have e3 : (3 : Int32).toInt = 3 := (by decide); rw [← Int32.toInt_inj] at c51_103 c65_110 c85_118; rw [Int32.lt_iff_toInt_lt]; omega : ¬ (nn < (2 : Int32)))).1 k_) ?_
        show own_Go p.tables e below _ (T134.setTop (mkF m 179 #[.val (.int p0), .val (.int p1), .val (.int p2), .val (.int p3), .val (.int p4), .val (.int p5), .val (.int nn), .val (.long x0), .second, .val (.long x1), .second, .val (.long x2), .second, .val (.long y0), .second, .val (.long y1), .second, .val (.long y2), .second, .val (.ref b127), .val (.ref b131), .val (.long ((0 : Int64) + (x0 * y0))), .second, .unset, .unset] []))
        refine own_st (fun t_ k_ => XS.lload X134.here hx rfl (hb hby at_179) rfl k_) ?_
        show own_Go p.tables e below _ (T134.setTop (mkF m 181 #[.val (.int p0), .val (.int p1), .val (.int p2), .val (.int p3), .val (.int p4), .val (.int p5), .val (.int nn), .val (.long x0), .second, .val (.long x1), .second, .val (.long x2), .second, .val (.long y0), .second, .val (.long y1), .second, .val (.long y2), .second, .val (.ref b127), .val (.ref b131), .val (.long ((0 : Int64) + (x0 * y0))), .second, .unset, .unset] [(.long ((0 : Int64) + (x0 * y0)))]))
        refine own_st (fun t_ k_ => XS.lload X134.here hx rfl (hb hby at_181) rfl k_) ?_
        show own_Go p.tables e below _ (T134.setTop (mkF m 183 #[.val (.int p0), .val (.int p1), .val (.int p2), .val (.int p3), .val (.int p4), .val (.int p5), .val (.int nn), .val (.long x0), .second, .val (.long x1), .second, .val (.long x2), .second, .val (.long y0), .second, .val (.long y1), .second, .val (.long y2), .second, .val (.ref b127), .val (.ref b131), .val (.long ((0 : Int64) + (x0 * y0))), .second, .unset, .unset] [(.long x1), (.long ((0 : Int64) + (x0 * y0)))]))
        refine own_st (fun t_ k_ => XS.lload X134.here hx rfl (hb hby at_183) rfl k_) ?_
        show own_Go p.tables e below _ (T134.setTop (mkF m 185 #[.val (.int p0), .val (.int p1), .val (.int p2), .val (.int p3), .val (.int p4), .val (.int p5), .val (.int nn), .val (.long x0), .second, .val (.long x1), .second, .val (.long x2), .second, .val (.long y0), .second, .val (.long y1), .second, .val (.long y2), .second, .val (.ref b127), .val (.ref b131), .val (.long ((0 : Int64) + (x0 * y0))), .second, .unset, .unset] [(.long y1), (.long x1), (.long ((0 : Int64) + (x0 * y0)))]))
        refine own_st (fun t_ k_ => XS.lmul X134.here hx rfl (hb hby at_185) rfl k_) ?_
        show own_Go p.tables e below _ (T134.setTop (mkF m 186 #[.val (.int p0), .val (.int p1), .val (.int p2), .val (.int p3), .val (.int p4), .val (.int p5), .val (.int nn), .val (.long x0), .second, .val (.long x1), .second, .val (.long x2), .second, .val (.long y0), .second, .val (.long y1), .second, .val (.long y2), .second, .val (.ref b127), .val (.ref b131), .val (.long ((0 : Int64) + (x0 * y0))), .second, .unset, .unset] [(.long (x1 * y1)), (.long ((0 : Int64) + (x0 * y0)))]))
        refine own_st (fun t_ k_ => XS.ladd X134.here hx rfl (hb hby at_186) rfl k_) ?_
        show own_Go p.tables e below _ (T134.setTop (mkF m 187 #[.val (.int p0), .val (.int p1), .val (.int p2), .val (.int p3), .val (.int p4), .val (.int p5), .val (.int nn), .val (.long x0), .second, .val (.long x1), .second, .val (.long x2), .second, .val (.long y0), .second, .val (.long y1), .second, .val (.long y2), .second, .val (.ref b127), .val (.ref b131), .val (.long ((0 : Int64) + (x0 * y0))), .second, .unset, .unset] [(.long (((0 : Int64) + (x0 * y0)) + (x1 * y1)))]))
        refine own_st (fun t_ k_ => XS.lstore X134.here hx rfl (hb hby at_187) rfl (l' := #[.val (.int p0), .val (.int p1), .val (.int p2), .val (.int p3), .val (.int p4), .val (.int p5), .val (.int nn), .val (.long x0), .second, .val (.long x1), .second, .val (.long x2), .second, .val (.long y0), .second, .val (.long y1), .second, .val (.long y2), .second, .val (.ref b127), .val (.ref b131), .val (.long (((0 : Int64) + (x0 * y0)) + (x1 * y1))), .second, .unset, .unset]) rfl k_) ?_
        show own_Go p.tables e below _ (T134.setTop (mkF m 189 #[.val (.int p0), .val (.int p1), .val (.int p2), .val (.int p3), .val (.int p4), .val (.int p5), .val (.int nn), .val (.long x0), .second, .val (.long x1), .second, .val (.long x2), .second, .val (.long y0), .second, .val (.long y1), .second, .val (.long y2), .second, .val (.ref b127), .val (.ref b131), .val (.long (((0 : Int64) + (x0 * y0)) + (x1 * y1))), .second, .unset, .unset] []))
        refine own_st (fun t_ k_ => XS.iload X134.here hx rfl (hb hby at_189) rfl k_) ?_
        show own_Go p.tables e below _ (T134.setTop (mkF m 191 #[.val (.int p0), .val (.int p1), .val (.int p2), .val (.int p3), .val (.int p4), .val (.int p5), .val (.int nn), .val (.long x0), .second, .val (.long x1), .second, .val (.long x2), .second, .val (.long y0), .second, .val (.long y1), .second, .val (.long y2), .second, .val (.ref b127), .val (.ref b131), .val (.long (((0 : Int64) + (x0 * y0)) + (x1 * y1))), .second, .unset, .unset] [(.int nn)]))
        refine own_st (fun t_ k_ => XS.iconst X134.here hx rfl (hb hby at_191) k_) ?_
        show own_Go p.tables e below _ (T134.setTop (mkF m 192 #[.val (.int p0), .val (.int p1), .val (.int p2), .val (.int p3), .val (.int p4), .val (.int p5), .val (.int nn), .val (.long x0), .second, .val (.long x1), .second, .val (.long x2), .second, .val (.long y0), .second, .val (.long y1), .second, .val (.long y2), .second, .val (.ref b127), .val (.ref b131), .val (.long (((0 : Int64) + (x0 * y0)) + (x1 * y1))), .second, .unset, .unset] [(.int (3 : Int32)), (.int nn)]))
        refine own_st (fun t_ k_ => XS.icmpNo X134.here hx rfl (hb hby at_192) rfl (flt (by have e0 : (0 : Int32).toInt = 0 := (by decide); have e1 : (1 : Int32).toInt = 1 := (by decide); have e2 : (2 : Int32).toInt = 2 := (by decide); have e3 : (3 : Int32).toInt = 3 := (by decide); rw [← Int32.toInt_inj] at c51_103 c65_110 c85_118; rw [Int32.lt_iff_toInt_lt]; omega : ¬ (nn < (3 : Int32)))).1 k_) ?_
        show own_Go p.tables e below _ (T134.setTop (mkF m 195 #[.val (.int p0), .val (.int p1), .val (.int p2), .val (.int p3), .val (.int p4), .val (.int p5), .val (.int nn), .val (.long x0), .second, .val (.long x1), .second, .val (.long x2), .second, .val (.long y0), .second, .val (.long y1), .second, .val (.long y2), .second, .val (.ref b127), .val (.ref b131), .val (.long (((0 : Int64) + (x0 * y0)) + (x1 * y1))), .second, .unset, .unset] []))
        refine own_st (fun t_ k_ => XS.lload X134.here hx rfl (hb hby at_195) rfl k_) ?_
        show own_Go p.tables e below _ (T134.setTop (mkF m 197 #[.val (.int p0), .val (.int p1), .val (.int p2), .val (.int p3), .val (.int p4), .val (.int p5), .val (.int nn), .val (.long x0), .second, .val (.long x1), .second, .val (.long x2), .second, .val (.long y0), .second, .val (.long y1), .second, .val (.long y2), .second, .val (.ref b127), .val (.ref b131), .val (.long (((0 : Int64) + (x0 * y0)) + (x1 * y1))), .second, .unset, .unset] [(.long (((0 : Int64) + (x0 * y0)) + (x1 * y1)))]))
        refine own_st (fun t_ k_ => XS.lload X134.here hx rfl (hb hby at_197) rfl k_) ?_
        show own_Go p.tables e below _ (T134.setTop (mkF m 199 #[.val (.int p0), .val (.int p1), .val (.int p2), .val (.int p3), .val (.int p4), .val (.int p5), .val (.int nn), .val (.long x0), .second, .val (.long x1), .second, .val (.long x2), .second, .val (.long y0), .second, .val (.long y1), .second, .val (.long y2), .second, .val (.ref b127), .val (.ref b131), .val (.long (((0 : Int64) + (x0 * y0)) + (x1 * y1))), .second, .unset, .unset] [(.long x2), (.long (((0 : Int64) + (x0 * y0)) + (x1 * y1)))]))
        refine own_st (fun t_ k_ => XS.lload X134.here hx rfl (hb hby at_199) rfl k_) ?_
        show own_Go p.tables e below _ (T134.setTop (mkF m 201 #[.val (.int p0), .val (.int p1), .val (.int p2), .val (.int p3), .val (.int p4), .val (.int p5), .val (.int nn), .val (.long x0), .second, .val (.long x1), .second, .val (.long x2), .second, .val (.long y0), .second, .val (.long y1), .second, .val (.long y2), .second, .val (.ref b127), .val (.ref b131), .val (.long (((0 : Int64) + (x0 * y0)) + (x1 * y1))), .second, .unset, .unset] [(.long y2), (.long x2), (.long (((0 : Int64) + (x0 * y0)) + (x1 * y1)))]))
        refine own_st (fun t_ k_ => XS.lmul X134.here hx rfl (hb hby at_201) rfl k_) ?_
        show own_Go p.tables e below _ (T134.setTop (mkF m 202 #[.val (.int p0), .val (.int p1), .val (.int p2), .val (.int p3), .val (.int p4), .val (.int p5), .val (.int nn), .val (.long x0), .second, .val (.long x1), .second, .val (.long x2), .second, .val (.long y0), .second, .val (.long y1), .second, .val (.long y2), .second, .val (.ref b127), .val (.ref b131), .val (.long (((0 : Int64) + (x0 * y0)) + (x1 * y1))), .second, .unset, .unset] [(.long (x2 * y2)), (.long (((0 : Int64) + (x0 * y0)) + (x1 * y1)))]))
        refine own_st (fun t_ k_ => XS.ladd X134.here hx rfl (hb hby at_202) rfl k_) ?_
        show own_Go p.tables e below _ (T134.setTop (mkF m 203 #[.val (.int p0), .val (.int p1), .val (.int p2), .val (.int p3), .val (.int p4), .val (.int p5), .val (.int nn), .val (.long x0), .second, .val (.long x1), .second, .val (.long x2), .second, .val (.long y0), .second, .val (.long y1), .second, .val (.long y2), .second, .val (.ref b127), .val (.ref b131), .val (.long (((0 : Int64) + (x0 * y0)) + (x1 * y1))), .second, .unset, .unset] [(.long ((((0 : Int64) + (x0 * y0)) + (x1 * y1)) + (x2 * y2)))]))
        refine own_st (fun t_ k_ => XS.lstore X134.here hx rfl (hb hby at_203) rfl (l' := #[.val (.int p0), .val (.int p1), .val (.int p2), .val (.int p3), .val (.int p4), .val (.int p5), .val (.int nn), .val (.long x0), .second, .val (.long x1), .second, .val (.long x2), .second, .val (.long y0), .second, .val (.long y1), .second, .val (.long y2), .second, .val (.ref b127), .val (.ref b131), .val (.long ((((0 : Int64) + (x0 * y0)) + (x1 * y1)) + (x2 * y2))), .second, .unset, .unset]) rfl k_) ?_
        show own_Go p.tables e below _ (T134.setTop (mkF m 205 #[.val (.int p0), .val (.int p1), .val (.int p2), .val (.int p3), .val (.int p4), .val (.int p5), .val (.int nn), .val (.long x0), .second, .val (.long x1), .second, .val (.long x2), .second, .val (.long y0), .second, .val (.long y1), .second, .val (.long y2), .second, .val (.ref b127), .val (.ref b131), .val (.long ((((0 : Int64) + (x0 * y0)) + (x1 * y1)) + (x2 * y2))), .second, .unset, .unset] []))
        refine own_st (fun t_ k_ => XS.aload X134.here hx rfl (hb hby at_205) rfl rfl k_) ?_
        show own_Go p.tables e below _ (T134.setTop (mkF m 207 #[.val (.int p0), .val (.int p1), .val (.int p2), .val (.int p3), .val (.int p4), .val (.int p5), .val (.int nn), .val (.long x0), .second, .val (.long x1), .second, .val (.long x2), .second, .val (.long y0), .second, .val (.long y1), .second, .val (.long y2), .second, .val (.ref b127), .val (.ref b131), .val (.long ((((0 : Int64) + (x0 * y0)) + (x1 * y1)) + (x2 * y2))), .second, .unset, .unset] [(.ref b127)]))
        refine own_st (fun t_ k_ => XS.aload X134.here hx rfl (hb hby at_207) rfl rfl k_) ?_
        show own_Go p.tables e below _ (T134.setTop (mkF m 209 #[.val (.int p0), .val (.int p1), .val (.int p2), .val (.int p3), .val (.int p4), .val (.int p5), .val (.int nn), .val (.long x0), .second, .val (.long x1), .second, .val (.long x2), .second, .val (.long y0), .second, .val (.long y1), .second, .val (.long y2), .second, .val (.ref b127), .val (.ref b131), .val (.long ((((0 : Int64) + (x0 * y0)) + (x1 * y1)) + (x2 * y2))), .second, .unset, .unset] [(.ref b131), (.ref b127)]))
        obtain ⟨_, _, ⟨T135, L135, k135, n135⟩, -, X135, ⟨Lc135, hQ135, l135, y135, z135⟩, st135⟩ := Jvm.LawKit.callS X134 hx (y := (⟨"com/example/provender/provender/solver/Row", "dot", "([D[D)D"⟩ : MethodName)) hown (mvT hZ (hw _ (List.mem_of_getElem? (i := 1) rfl))) (mvT hZ (hw _ (List.mem_of_getElem? (i := 2) rfl))) (mvT hZ (hw _ (List.mem_of_getElem? (i := 3) rfl))) (mvT hZ (hw _ (List.mem_of_getElem? (i := 4) rfl))) (by decide) (backOf (W := 0) (own_rm1 l Z a0 hw [] b127 b131 k127 k131 3 3 (own_upd (own_upd (own_upd (fun _ => (0 : UInt64)) 0 (FP.l2d x0)) 1 (FP.l2d x1)) 2 (FP.l2d x2)) (own_upd (own_upd (own_upd (fun _ => (0 : UInt64)) 0 (FP.l2d y0)) 1 (FP.l2d y1)) 2 (FP.l2d y2)) (own_xs x0.toInt x1.toInt x2.toInt 3) (own_xs y0.toInt y1.toInt y2.toInt 3) h134 n0 (Nat.le_trans Z0 K134.1) ((((Aw130.ext E131).other W132 (Nat.ne_of_lt (Nat.lt_of_lt_of_le Aw130.lt (Nat.le_of_eq g131.symm)))).other W133 (Nat.ne_of_lt (Nat.lt_of_lt_of_le Aw130.lt (Nat.le_of_eq g131.symm)))).other W134 (Nat.ne_of_lt (Nat.lt_of_lt_of_le Aw130.lt (Nat.le_of_eq g131.symm)))) Aw134 (own_smallL bx0 bx1 bx2 (own_f3 _ _ _)) (own_smallL by0 by1 by2 (own_f3 _ _ _)) (by decide)) hZ (hw _ (List.mem_of_getElem? (i := 4) rfl)) (hw _ (List.mem_of_getElem? (i := 3) rfl)) (by decide) (by decide)) (g := (mkF m 209 #[.val (.int p0), .val (.int p1), .val (.int p2), .val (.int p3), .val (.int p4), .val (.int p5), .val (.int nn), .val (.long x0), .second, .val (.long x1), .second, .val (.long x2), .second, .val (.long y0), .second, .val (.long y1), .second, .val (.long y2), .second, .val (.ref b127), .val (.ref b131), .val (.long ((((0 : Int64) + (x0 * y0)) + (x1 * y1)) + (x2 * y2))), .second, .unset, .unset] [(.ref b131), (.ref b127)])) rfl (by rw [hml]; rfl) (argsL := [(.ref b127), (.ref b131)]) (rest := []) (lenOf own_pd0 rfl) rfl (by show 2 * 0 + _ ≤ _; exact Nat.le_of_eq rfl) (hb hby at_209) (fun _ _ => ⟨rfl, e134, (by decide : 2 + 0 ≤ _), (by decide : 6 + 0 ≤ _)⟩)
        dsimp only [Pt.U, Pt.locs, Pt.cells, Pt.slots] at X135 l135 y135 z135 st135 hQ135
        subst l135 y135 z135
        obtain ⟨rfl, N135q, eq135⟩ := hQ135
        have N135 := Fr.app N134 N135q
        refine own_st (st135) ?_
        show own_Go p.tables e below _ (T135.setTop (mkF m 212 #[.val (.int p0), .val (.int p1), .val (.int p2), .val (.int p3), .val (.int p4), .val (.int p5), .val (.int nn), .val (.long x0), .second, .val (.long x1), .second, .val (.long x2), .second, .val (.long y0), .second, .val (.long y1), .second, .val (.long y2), .second, .val (.ref b127), .val (.ref b131), .val (.long ((((0 : Int64) + (x0 * y0)) + (x1 * y1)) + (x2 * y2))), .second, .unset, .unset] [(.double (own_dot (own_upd (own_upd (own_upd (fun _ => (0 : UInt64)) 0 (FP.l2d x0)) 1 (FP.l2d x1)) 2 (FP.l2d x2)) (own_upd (own_upd (own_upd (fun _ => (0 : UInt64)) 0 (FP.l2d y0)) 1 (FP.l2d y1)) 2 (FP.l2d y2)) 3))]))
        refine own_st (fun t_ k_ => XS.dstore X135.here hx rfl (hb hby at_212) rfl (l' := #[.val (.int p0), .val (.int p1), .val (.int p2), .val (.int p3), .val (.int p4), .val (.int p5), .val (.int nn), .val (.long x0), .second, .val (.long x1), .second, .val (.long x2), .second, .val (.long y0), .second, .val (.long y1), .second, .val (.long y2), .second, .val (.ref b127), .val (.ref b131), .val (.long ((((0 : Int64) + (x0 * y0)) + (x1 * y1)) + (x2 * y2))), .second, .val (.double (own_dot (own_upd (own_upd (own_upd (fun _ => (0 : UInt64)) 0 (FP.l2d x0)) 1 (FP.l2d x1)) 2 (FP.l2d x2)) (own_upd (own_upd (own_upd (fun _ => (0 : UInt64)) 0 (FP.l2d y0)) 1 (FP.l2d y1)) 2 (FP.l2d y2)) 3)), .second]) rfl k_) ?_
        show own_Go p.tables e below _ (T135.setTop (mkF m 214 #[.val (.int p0), .val (.int p1), .val (.int p2), .val (.int p3), .val (.int p4), .val (.int p5), .val (.int nn), .val (.long x0), .second, .val (.long x1), .second, .val (.long x2), .second, .val (.long y0), .second, .val (.long y1), .second, .val (.long y2), .second, .val (.ref b127), .val (.ref b131), .val (.long ((((0 : Int64) + (x0 * y0)) + (x1 * y1)) + (x2 * y2))), .second, .val (.double (own_dot (own_upd (own_upd (own_upd (fun _ => (0 : UInt64)) 0 (FP.l2d x0)) 1 (FP.l2d x1)) 2 (FP.l2d x2)) (own_upd (own_upd (own_upd (fun _ => (0 : UInt64)) 0 (FP.l2d y0)) 1 (FP.l2d y1)) 2 (FP.l2d y2)) 3)), .second] []))
        refine own_st (fun t_ k_ => XS.dload X135.here hx rfl (hb hby at_214) rfl k_) ?_
        show own_Go p.tables e below _ (T135.setTop (mkF m 216 #[.val (.int p0), .val (.int p1), .val (.int p2), .val (.int p3), .val (.int p4), .val (.int p5), .val (.int nn), .val (.long x0), .second, .val (.long x1), .second, .val (.long x2), .second, .val (.long y0), .second, .val (.long y1), .second, .val (.long y2), .second, .val (.ref b127), .val (.ref b131), .val (.long ((((0 : Int64) + (x0 * y0)) + (x1 * y1)) + (x2 * y2))), .second, .val (.double (own_dot (own_upd (own_upd (own_upd (fun _ => (0 : UInt64)) 0 (FP.l2d x0)) 1 (FP.l2d x1)) 2 (FP.l2d x2)) (own_upd (own_upd (own_upd (fun _ => (0 : UInt64)) 0 (FP.l2d y0)) 1 (FP.l2d y1)) 2 (FP.l2d y2)) 3)), .second] [(.double (own_dot (own_upd (own_upd (own_upd (fun _ => (0 : UInt64)) 0 (FP.l2d x0)) 1 (FP.l2d x1)) 2 (FP.l2d x2)) (own_upd (own_upd (own_upd (fun _ => (0 : UInt64)) 0 (FP.l2d y0)) 1 (FP.l2d y1)) 2 (FP.l2d y2)) 3))]))
        refine own_st (fun t_ k_ => XS.lload X135.here hx rfl (hb hby at_216) rfl k_) ?_
        show own_Go p.tables e below _ (T135.setTop (mkF m 218 #[.val (.int p0), .val (.int p1), .val (.int p2), .val (.int p3), .val (.int p4), .val (.int p5), .val (.int nn), .val (.long x0), .second, .val (.long x1), .second, .val (.long x2), .second, .val (.long y0), .second, .val (.long y1), .second, .val (.long y2), .second, .val (.ref b127), .val (.ref b131), .val (.long ((((0 : Int64) + (x0 * y0)) + (x1 * y1)) + (x2 * y2))), .second, .val (.double (own_dot (own_upd (own_upd (own_upd (fun _ => (0 : UInt64)) 0 (FP.l2d x0)) 1 (FP.l2d x1)) 2 (FP.l2d x2)) (own_upd (own_upd (own_upd (fun _ => (0 : UInt64)) 0 (FP.l2d y0)) 1 (FP.l2d y1)) 2 (FP.l2d y2)) 3)), .second] [(.long ((((0 : Int64) + (x0 * y0)) + (x1 * y1)) + (x2 * y2))), (.double (own_dot (own_upd (own_upd (own_upd (fun _ => (0 : UInt64)) 0 (FP.l2d x0)) 1 (FP.l2d x1)) 2 (FP.l2d x2)) (own_upd (own_upd (own_upd (fun _ => (0 : UInt64)) 0 (FP.l2d y0)) 1 (FP.l2d y1)) 2 (FP.l2d y2)) 3))]))
        refine own_st (fun t_ k_ => XS.l2dS X135.here hx rfl (hb hby at_218) rfl rfl k_) ?_
        show own_Go p.tables e below _ (T135.setTop (mkF m 219 #[.val (.int p0), .val (.int p1), .val (.int p2), .val (.int p3), .val (.int p4), .val (.int p5), .val (.int nn), .val (.long x0), .second, .val (.long x1), .second, .val (.long x2), .second, .val (.long y0), .second, .val (.long y1), .second, .val (.long y2), .second, .val (.ref b127), .val (.ref b131), .val (.long ((((0 : Int64) + (x0 * y0)) + (x1 * y1)) + (x2 * y2))), .second, .val (.double (own_dot (own_upd (own_upd (own_upd (fun _ => (0 : UInt64)) 0 (FP.l2d x0)) 1 (FP.l2d x1)) 2 (FP.l2d x2)) (own_upd (own_upd (own_upd (fun _ => (0 : UInt64)) 0 (FP.l2d y0)) 1 (FP.l2d y1)) 2 (FP.l2d y2)) 3)), .second] [(.double (FP.l2d ((((0 : Int64) + (x0 * y0)) + (x1 * y1)) + (x2 * y2)))), (.double (own_dot (own_upd (own_upd (own_upd (fun _ => (0 : UInt64)) 0 (FP.l2d x0)) 1 (FP.l2d x1)) 2 (FP.l2d x2)) (own_upd (own_upd (own_upd (fun _ => (0 : UInt64)) 0 (FP.l2d y0)) 1 (FP.l2d y1)) 2 (FP.l2d y2)) 3))]))
        refine own_st (fun t_ k_ => XS.dcmpS X135.here hx rfl (hb hby at_219) rfl rfl k_) ?_
        show own_Go p.tables e below _ (T135.setTop (mkF m 220 #[.val (.int p0), .val (.int p1), .val (.int p2), .val (.int p3), .val (.int p4), .val (.int p5), .val (.int nn), .val (.long x0), .second, .val (.long x1), .second, .val (.long x2), .second, .val (.long y0), .second, .val (.long y1), .second, .val (.long y2), .second, .val (.ref b127), .val (.ref b131), .val (.long ((((0 : Int64) + (x0 * y0)) + (x1 * y1)) + (x2 * y2))), .second, .val (.double (own_dot (own_upd (own_upd (own_upd (fun _ => (0 : UInt64)) 0 (FP.l2d x0)) 1 (FP.l2d x1)) 2 (FP.l2d x2)) (own_upd (own_upd (own_upd (fun _ => (0 : UInt64)) 0 (FP.l2d y0)) 1 (FP.l2d y1)) 2 (FP.l2d y2)) 3)), .second] [(.int (cmpValue (FP.dcmp (own_dot (own_upd (own_upd (own_upd (fun _ => (0 : UInt64)) 0 (FP.l2d x0)) 1 (FP.l2d x1)) 2 (FP.l2d x2)) (own_upd (own_upd (own_upd (fun _ => (0 : UInt64)) 0 (FP.l2d y0)) 1 (FP.l2d y1)) 2 (FP.l2d y2)) 3) (FP.l2d ((((0 : Int64) + (x0 * y0)) + (x1 * y1)) + (x2 * y2)))) .l))]))
        refine own_st (fun t_ k_ => XS.ifNo X135.here hx rfl (hb hby at_220) rfl ((if0 _ _).trans (teq (own_e3 bx0 bx1 bx2 by0 by1 by2 (own_smallL bx0 bx1 bx2 (own_f3 _ _ _)) (own_smallL by0 by1 by2 (own_f3 _ _ _)) .l : (cmpValue (FP.dcmp (own_dot (own_upd (own_upd (own_upd (fun _ => (0 : UInt64)) 0 (FP.l2d x0)) 1 (FP.l2d x1)) 2 (FP.l2d x2)) (own_upd (own_upd (own_upd (fun _ => (0 : UInt64)) 0 (FP.l2d y0)) 1 (FP.l2d y1)) 2 (FP.l2d y2)) 3) (FP.l2d ((((0 : Int64) + (x0 * y0)) + (x1 * y1)) + (x2 * y2)))) .l) = (0 : Int32))).2) k_) ?_
        show own_Go p.tables e below _ (T135.setTop (mkF m 223 #[.val (.int p0), .val (.int p1), .val (.int p2), .val (.int p3), .val (.int p4), .val (.int p5), .val (.int nn), .val (.long x0), .second, .val (.long x1), .second, .val (.long x2), .second, .val (.long y0), .second, .val (.long y1), .second, .val (.long y2), .second, .val (.ref b127), .val (.ref b131), .val (.long ((((0 : Int64) + (x0 * y0)) + (x1 * y1)) + (x2 * y2))), .second, .val (.double (own_dot (own_upd (own_upd (own_upd (fun _ => (0 : UInt64)) 0 (FP.l2d x0)) 1 (FP.l2d x1)) 2 (FP.l2d x2)) (own_upd (own_upd (own_upd (fun _ => (0 : UInt64)) 0 (FP.l2d y0)) 1 (FP.l2d y1)) 2 (FP.l2d y2)) 3)), .second] []))
        refine own_st (fun t_ k_ => XS.iconst X135.here hx rfl (hb hby at_223) k_) ?_
        show own_Go p.tables e below _ (T135.setTop (mkF m 224 #[.val (.int p0), .val (.int p1), .val (.int p2), .val (.int p3), .val (.int p4), .val (.int p5), .val (.int nn), .val (.long x0), .second, .val (.long x1), .second, .val (.long x2), .second, .val (.long y0), .second, .val (.long y1), .second, .val (.long y2), .second, .val (.ref b127), .val (.ref b131), .val (.long ((((0 : Int64) + (x0 * y0)) + (x1 * y1)) + (x2 * y2))), .second, .val (.double (own_dot (own_upd (own_upd (own_upd (fun _ => (0 : UInt64)) 0 (FP.l2d x0)) 1 (FP.l2d x1)) 2 (FP.l2d x2)) (own_upd (own_upd (own_upd (fun _ => (0 : UInt64)) 0 (FP.l2d y0)) 1 (FP.l2d y1)) 2 (FP.l2d y2)) 3)), .second] [(.int (1 : Int32))]))
        refine own_st (fun t_ k_ => XS.goto X135.here hx rfl (pc0 := 224) (pc' := 228) rfl (hb hby at_224) (by decide) (by decide) k_) ?_
        show own_Go p.tables e below _ (T135.setTop (mkF m 228 #[.val (.int p0), .val (.int p1), .val (.int p2), .val (.int p3), .val (.int p4), .val (.int p5), .val (.int nn), .val (.long x0), .second, .val (.long x1), .second, .val (.long x2), .second, .val (.long y0), .second, .val (.long y1), .second, .val (.long y2), .second, .val (.ref b127), .val (.ref b131), .val (.long ((((0 : Int64) + (x0 * y0)) + (x1 * y1)) + (x2 * y2))), .second, .val (.double (own_dot (own_upd (own_upd (own_upd (fun _ => (0 : UInt64)) 0 (FP.l2d x0)) 1 (FP.l2d x1)) 2 (FP.l2d x2)) (own_upd (own_upd (own_upd (fun _ => (0 : UInt64)) 0 (FP.l2d y0)) 1 (FP.l2d y1)) 2 (FP.l2d y2)) 3)), .second] [(.int (1 : Int32))]))
        exact own_ret (w := (.int (1 : Int32))) X135 hx hnl Bd.returns rfl (Or.inl ⟨rfl, by decide, _, rfl⟩) (hb hby at_228) ⟨rfl, N135, (by rw [eq135]; exact K134)⟩ (by decide) (by decide)

set_option maxRecDepth 65536 in
set_option maxHeartbeats 40000000 in
theorem comes_1 {Post : Tables → Env → Array Value → State → Outcome → State → Prop} (hpost : ∀ tb e args s v u, (limb_1_1.after args s (.returned v) u = true ∧ limb_1_2.after args s (.returned v) u = true ∧ True) → FrameEnd s (.returned v) u (Jvm.fieldLocs frame_1_writes args s ++ Jvm.arrayLocs frame_1_arrays args s ++ Jvm.staticLocs frame_1_statics s) 16 128 → Post tb e args s (.returned v) u) :
    ArmFor flags0 classFile x code maxLocals ret World_1 tables_1 room_1 Calls_1 rest_1 Pre_1 Post := by
  intro l hfl _ _ p e ha hc hk s m args below hf hA hF happ hP
  obtain ⟨hcalls, hrest, hpre⟩ := hP
  obtain ⟨-, -, -, hnamed, -, -, -, hat⟩ := (Spec.applies_iff hf).mp happ
  obtain ⟨hg, hn⟩ := and_e (Cond.before_iff.mp (show (Jvm.Cond.and given_1 narrow_1).before args s = true from hpre))
  obtain ⟨hcount, g0⟩ := and_e hg
  obtain ⟨v0, g1⟩ := and_e g0
  obtain ⟨v1, g2⟩ := and_e g1
  obtain ⟨v2, g3⟩ := and_e g2
  obtain ⟨v3, g4⟩ := and_e g3
  obtain ⟨v4, g5⟩ := and_e g4
  have v5 := g5
  obtain ⟨w0, w1, w2, w3, w4, w5, rfl⟩ : ∃ w0 w1 w2 w3 w4 w5 : Value, args = #[w0, w1, w2, w3, w4, w5] := by
    have hs : args.size = 6 := by simpa [Cond.value, given_1] using hcount
    obtain ⟨L⟩ := args
    match L, hs with
    | [w0, w1, w2, w3, w4, w5], _ => exact ⟨w0, w1, w2, w3, w4, w5, rfl⟩
  have hw := fun d (hd : d ∈ tables_1) => atoms_spec (ws := Jvm.Cond.code x code maxLocals ret :: tables_1) hat d (List.mem_cons_of_mem _ hd)
  have hfit : Fit s := fun {y c} hc i hi => by
    obtain ⟨ha, rfl⟩ := Array.getElem?_eq_some_iff.mp hc
    have q := List.all_eq_true.mp ((Array.all_eq_true_iff_forall_mem.mp hF) _ (Array.getElem_mem ha)) i (List.mem_range.mpr hi)
    simpa [Array.getElem?_eq_getElem hi] using q
  obtain ⟨i0, ei0⟩ := is_v v0
  obtain rfl : w0 = (.int i0) := Option.some.inj ei0
  obtain ⟨i1, ei1⟩ := is_v v1
  obtain rfl : w1 = (.int i1) := Option.some.inj ei1
  obtain ⟨i2, ei2⟩ := is_v v2
  obtain rfl : w2 = (.int i2) := Option.some.inj ei2
  obtain ⟨i3, ei3⟩ := is_v v3
  obtain rfl : w3 = (.int i3) := Option.some.inj ei3
  obtain ⟨i4, ei4⟩ := is_v v4
  obtain rfl : w4 = (.int i4) := Option.some.inj ei4
  obtain ⟨i5, ei5⟩ := is_v v5
  obtain rfl : w5 = (.int i5) := Option.some.inj ei5
  obtain ⟨n, o, h1, h2, h3, _, L, rfl, ⟨rfl, N, -⟩, hq⟩ := own_rm0 l s _ hw tables_1 i0 i1 i2 i3 i4 i5 s.heap s.heap.size (Nat.le_refl _) p e ha hc hk s m _ below hf ((Spec.applies_iff_loose hf).mp happ).1 ⟨rfl, State.Warmed39.refl s, rfl⟩ trivial
  refine ⟨n, _, h1, h2, h3, hpost _ _ _ _ _ _ ⟨Cond.after_iff.mpr rfl, Cond.after_iff.mpr (eq_i res_at (Term.int_eval (1)) rfl), trivial⟩ ⟨hq.1, hq.2.1, (hq.2.2.sift fun y hy => Or.inr (N y hy)).mono (by decide) (by decide)⟩⟩
theorem main_1_1 : Claimed_1_1 := comes_1 fun _ _ _ _ _ _ h hF => ⟨h.1, hF⟩
theorem main_1_2 : Claimed_1_2 := comes_1 fun _ _ _ _ _ _ h hF => ⟨h.2.1, hF⟩

end Jvm.Pilot.@@N@@
namespace Jvm.Pilot.@@N@@
open Jvm Jvm.ClassFile Sem Op Lib Jvm.Free Jvm.Stand Jvm.Pilot.@@N@@.Jvm.D
/-! MADE BY PROGRAM (witnessworld.py) out of the Statement's table words and the real class files: 12 classes; the members and pool entries that the words name. The judged class is class 1, her method 1. -/
namespace start1
open Jvm.ClassFile
def u (s : String) : CpInfo := .utf8 (stringToUtf16 s)
/-- a pool by its gaps: so many unusable entries, then the entry; so many at the end -/
def gap : Nat → List CpInfo → List CpInfo
  | 0, r => r
  | n + 1, r => .unusable :: gap n r
def poolList (es : List (Nat × CpInfo)) (last : Nat) : List CpInfo := es.foldr (fun e r => gap e.1 (e.2 :: r)) (gap last [])
def pool (es : List (Nat × CpInfo)) (last : Nat) : Array CpInfo := ⟨poolList es last⟩
def fileOf (pool : Array CpInfo) (this : Nat) (attrs : Array Attribute := #[]) (ms : Array MethodInfo := #[]) (fl : Nat := 33) (sup : Nat := 0) (ifs : Array Nat := #[]) (fds : Array FieldInfo := #[]) : ClassFile where
  minorVersion := 0
  majorVersion := 65
  constantPool := pool
  accessFlags := fl
  thisClass := this
  superClass := sup
  interfaces := ifs
  fields := fds
  methods := ms
  attributes := attrs
def plain (name : String) (sup : Option ClassId) : Class where
  name := name
  kind := .ordinary
  loader := none
  accessFlags := 33
  super := sup
  interfaces := #[]
  cf := none
  fields := #[]
  methods := #[]
  instanceTypes := #[]
  staticTypes := #[]
  resolved := #[]
  callSites := []
  init := .initialized
  statics := none
  mirror := none

def pool0 : Array CpInfo := pool [(5, u "<init>"), (0, u "()V"), (1, .class_ 10), (1, u "java/lang/Object")] 113

def k0m0 : Method := { name := "<init>", desc := "()V", sig := { parameters := [], returnType := none }, accessFlags := 1, code := none }
/-- java/lang/Object -/
def k0 : Class := { plain "java/lang/Object" none with
  accessFlags := 33
  interfaces := #[]
  cf := some (fileOf pool0 8 #[] #[{ accessFlags := 1, nameIndex := 5, descriptorIndex := 6, attributes := #[] }] 33 0 #[] #[])
  fields := #[]
  methods := #[k0m0]
  instanceTypes := #[]
  staticTypes := #[]
  resolved := Array.replicate 124 none
  statics := none }

def pool1 : Array CpInfo := pool [(2, .class_ 4), (1, u "java/lang/Object"), (0, u "<init>"), (0, u "()V"), (0, .methodref 8 9), (0, .class_ 10), (0, .nameAndType 11 12), (0, u "com/example/provender/provender/solver/Row"), (0, u "dot"), (0, u "([D[D)D"), (0, .class_ 14), (0, u "com/example/provender/provender/solver/RowDotPinLaw"), (2, u "law"), (0, u "(IIIIII)Z")] 5

def k1m0 : Method := { name := "<init>", desc := "()V", sig := { parameters := [], returnType := none }, accessFlags := 1, code := none }
def k1c1 : Code := { maxStack := 6, maxLocals := 25, code := code, exceptionTable := #[], attributes := #[] }
def k1m1 : Method := { name := "law", desc := "(IIIIII)Z", sig := { parameters := [.int, .int, .int, .int, .int, .int], returnType := some .boolean }, accessFlags := 9, code := some k1c1 }
/-- com/example/provender/provender/solver/RowDotPinLaw -/
def k1 : Class := { plain "com/example/provender/provender/solver/RowDotPinLaw" (some 0) with
  accessFlags := 49
  interfaces := #[]
  cf := some (fileOf pool1 13 #[] #[{ accessFlags := 1, nameIndex := 5, descriptorIndex := 6, attributes := #[] }, { accessFlags := 9, nameIndex := 17, descriptorIndex := 18, attributes := #[] }] 49 2 #[] #[])
  fields := #[]
  methods := #[k1m0, k1m1]
  instanceTypes := #[]
  staticTypes := #[]
  resolved := Array.replicate 24 none
  statics := none }

def pool2 : Array CpInfo := pool [(2, .class_ 4), (1, u "java/lang/Object"), (0, u "<init>"), (0, u "()V"), (0, .class_ 8), (0, u "java/lang/Record")] 13

def k2m0 : Method := { name := "<init>", desc := "()V", sig := { parameters := [], returnType := none }, accessFlags := 4, code := none }
/-- java/lang/Record -/
def k2 : Class := { plain "java/lang/Record" (some 0) with
  accessFlags := 1057
  interfaces := #[]
  cf := some (fileOf pool2 7 #[] #[{ accessFlags := 4, nameIndex := 5, descriptorIndex := 6, attributes := #[] }] 1057 2 #[] #[])
  fields := #[]
  methods := #[k2m0]
  instanceTypes := #[]
  staticTypes := #[]
  resolved := Array.replicate 22 none
  statics := none }

def pool3 : Array CpInfo := pool [(2, .class_ 4), (1, u "java/lang/Record"), (3, .class_ 10), (1, u "com/example/provender/provender/solver/Row"), (0, u "coefficients"), (0, u "[D"), (2, u "atLeast"), (0, u "Z"), (2, u "bound"), (0, u "D"), (19, u "dot"), (0, u "([D[D)D"), (16, u "ROUNDING")] 37

def k3c0 : Code := { maxStack := 6, maxLocals := 5, code := prog_51_method_2_code, exceptionTable := #[], attributes := #[] }
def k3m0 : Method := { name := "dot", desc := "([D[D)D", sig := { parameters := [(.array .double), (.array .double)], returnType := some .double }, accessFlags := 8, code := some k3c0 }
/-- com/example/provender/provender/solver/Row -/
def k3 : Class := { plain "com/example/provender/provender/solver/Row" (some 2) with
  accessFlags := 48
  interfaces := #[]
  cf := some (fileOf pool3 8 #[] #[{ accessFlags := 8, nameIndex := 40, descriptorIndex := 41, attributes := #[] }] 48 2 #[] #[{ accessFlags := 18, nameIndex := 11, descriptorIndex := 12, attributes := #[] }, { accessFlags := 18, nameIndex := 15, descriptorIndex := 16, attributes := #[] }, { accessFlags := 18, nameIndex := 19, descriptorIndex := 20, attributes := #[] }, { accessFlags := 24, nameIndex := 58, descriptorIndex := 20, attributes := #[] }])
  fields := #[{ name := "coefficients", type := (.array .double), accessFlags := 18, slot := 0, constantValue := 0 }, { name := "atLeast", type := .boolean, accessFlags := 18, slot := 1, constantValue := 0 }, { name := "bound", type := .double, accessFlags := 18, slot := 2, constantValue := 0 }, { name := "ROUNDING", type := .double, accessFlags := 24, slot := 0, constantValue := 0 }]
  methods := #[k3m0]
  instanceTypes := #[(.array .double), .boolean, .double]
  staticTypes := #[.double]
  resolved := Array.replicate 96 none
  statics := none }

def pool4 : Array CpInfo := pool [(1, u "java/lang/Cloneable"), (0, .class_ 1), (0, u "java/lang/Object"), (0, .class_ 3)] 3

/-- java/lang/Cloneable -/
def k4 : Class := { plain "java/lang/Cloneable" (some 0) with
  accessFlags := 1537
  interfaces := #[]
  cf := some (fileOf pool4 2 #[] #[] 1537 4 #[] #[])
  fields := #[]
  methods := #[]
  instanceTypes := #[]
  staticTypes := #[]
  resolved := Array.replicate 8 none
  statics := none }

def pool5 : Array CpInfo := pool [(1, u "java/io/Serializable"), (0, .class_ 1), (0, u "java/lang/Object"), (0, .class_ 3)] 3

/-- java/io/Serializable -/
def k5 : Class := { plain "java/io/Serializable" (some 0) with
  accessFlags := 1537
  interfaces := #[]
  cf := some (fileOf pool5 2 #[] #[] 1537 4 #[] #[])
  fields := #[]
  methods := #[]
  instanceTypes := #[]
  staticTypes := #[]
  resolved := Array.replicate 8 none
  statics := none }

/-- the primitive byte -/
def k6 : Class := { plain "byte" none with kind := .primitive 'B', accessFlags := 0x411 }
/-- [B -/
def k7 : Class := { plain "[B" (some 0) with kind := .array 6 .byte, interfaces := #[4, 5], accessFlags := 1041 }

/-- the primitive double -/
def k8 : Class := { plain "double" none with kind := .primitive 'D', accessFlags := 0x411 }
/-- [D -/
def k9 : Class := { plain "[D" (some 0) with kind := .array 8 .double, interfaces := #[4, 5], accessFlags := 1041 }

/-- the primitive int -/
def k10 : Class := { plain "int" none with kind := .primitive 'I', accessFlags := 0x411 }
/-- [I -/
def k11 : Class := { plain "[I" (some 0) with kind := .array 10 .int, interfaces := #[4, 5], accessFlags := 1041 }

def heap : Heap := #[]
def classes : Array Class := #[k0, k1, k2, k3, k4, k5, k6, k7, k8, k9, k10, k11]
def interned : List (Array UInt16 × Addr) := []
def slotsUsed : Nat := 0
def theMethod : MethodId := ⟨1, 1⟩
def args0 : Array Value := #[.int 3, .int 6, .int 7, .int 8, .int 9, .int 10]
def aboutOver (below : List Frame) : State where
  vm := { classes := classes, interned := interned.toArray }
  heap := heap
  slotsUsed := slotsUsed
  threads := #[{ frames := .invoking theMethod args0 :: below }]
def below0 : List Frame := [.native { method := ⟨0, 0⟩, args := #[] }]
def about1 : State := aboutOver below0
def p0 : Program := .bare "" "" ""
def e0 : Env := launch0.env 0 0 0
theorem w_frames : about1.frames = Frame.invoking theMethod args0 :: below0 := rfl
set_option maxRecDepth 65536 in
theorem w_args : argsFit about1.vm theMethod args0 = true := by decide +kernel
set_option maxRecDepth 65536 in
theorem w_heap : heapFits about1 = true := by decide +kernel
set_option maxRecDepth 65536 in
theorem w_runnable : about1.curStatus? = some .runnable := by decide +kernel
set_option maxRecDepth 65536 in
theorem w_alone : about1.alone = true := by decide +kernel
set_option maxRecDepth 65536 in
theorem w_named : about1.methodNamed? x = some theMethod := by decide +kernel
set_option maxRecDepth 65536 in
theorem w_hears : about1.hears theMethod below0 = true := by decide +kernel
set_option maxRecDepth 65536 in
theorem w_ripe : about1.ripe theMethod args0 below0 = true := by decide +kernel
theorem w_running : about1.status = .running := rfl
set_option maxRecDepth 65536 in
theorem w_room : about1.hasRoom e0.platform room_1 = true :=
  launch0.hasRoom_least _ room_1 (by decide +kernel) (by decide +kernel) (by decide +kernel) (by decide +kernel) (by decide +kernel) (by decide +kernel)
theorem allAtoms_all (ts : List Jvm.Cond) (a : Array Jvm.Value) (st : Jvm.State) : (allAtoms ts).before a st = ts.all (fun c => c.before a st) := by
  induction ts with
  | nil => rfl
  | cons c t ih =>
    show (Jvm.Cond.and c (allAtoms t)).before a st = _
    rw [Jvm.Cond.before_and, ih, List.all_cons]
def words1 : List Jvm.Cond := Jvm.Cond.code x code maxLocals ret :: tables_1
/-- a 'code' word, met by the world's own term for the bytes: nothing is compared byte by byte -/
theorem code_word {y : MethodName} {bytes : ByteArray} {mx : Nat} {rt : Option FieldType} {a : Array Value} {s : State} {m : MethodId} {meth : Method} {c : Code} (h1 : s.methodNamed? y = some m) (h2 : s.vm.method? m = some meth) (h3 : meth.code = some c) (h4 : c.code = bytes)
    (h5 : (c.maxLocals == mx && c.exceptionTable.isEmpty && decide (c.maxStack ≤ mostOperands) && decide (meth.sig.returnType = rt) && !meth.locks && decide (parseMethodDescriptor y.desc = some meth.sig)) = true) : (Jvm.Cond.code y bytes mx rt).before a s = true := by
  simp only [Bool.and_eq_true, beq_iff_eq, Bool.not_eq_true', decide_eq_true_eq] at h5
  obtain ⟨⟨⟨⟨⟨g1, g2⟩, g3⟩, g4⟩, g5⟩, g6⟩ := h5
  simp [Cond.before, Cond.holds, Cond.value, h1, h2, h3, h4, g1, g2, g3, g4, g5, g6]
def isCode : Jvm.Cond → Bool
  | .code _ _ _ _ => true
  | _ => false
theorem all_split {L : List Jvm.Cond} {P : Jvm.Cond → Bool} (h1 : L.all (fun c => isCode c || P c) = true) (h2 : ∀ c ∈ L.filter isCode, P c = true) : L.all P = true := by
  refine List.all_eq_true.mpr fun c hc => ?_
  have h := List.all_eq_true.mp h1 c hc
  rcases Bool.eq_false_or_eq_true (isCode c) with hi | hi
  · exact h2 c (List.mem_filter.mpr ⟨hc, hi⟩)
  · simpa [hi] using h
set_option maxRecDepth 65536 in
theorem w_c0 : (Jvm.Cond.code x code maxLocals ret).before args0 about1 = true := code_word (m := ⟨1, 1⟩) (meth := k1m1) (c := k1c1) (by decide +kernel) rfl rfl rfl (by decide +kernel)
set_option maxRecDepth 65536 in
theorem w_c1 : (Jvm.Cond.code ({ cls := "com/example/provender/provender/solver/Row", name := "dot", desc := "([D[D)D" } : Jvm.MethodName) prog_51_method_2_code (5 : Nat) (Option.some Jvm.ClassFile.FieldType.double)).before args0 about1 = true := code_word (m := ⟨3, 0⟩) (meth := k3m0) (c := k3c0) (by decide +kernel) rfl rfl rfl (by decide +kernel)
def codes1 : List Jvm.Cond := [Jvm.Cond.code x code maxLocals ret, Jvm.Cond.code ({ cls := "com/example/provender/provender/solver/Row", name := "dot", desc := "([D[D)D" } : Jvm.MethodName) prog_51_method_2_code (5 : Nat) (Option.some Jvm.ClassFile.FieldType.double)]
set_option maxRecDepth 65536 in
theorem codes_eq : words1.filter isCode = codes1 := rfl
theorem w_codes : ∀ c ∈ words1.filter isCode, c.before args0 about1 = true := by
  rw [codes_eq]
  intro c hc
  simp only [codes1, List.mem_cons, List.not_mem_nil, or_false] at hc
  rcases hc with rfl | rfl
  · exact w_c0
  · exact w_c1
set_option maxRecDepth 65536 in
theorem w_t1 : words1.all (fun c => isCode c || c.before args0 about1) = true := by decide +kernel
theorem w_tables : (allAtoms (Jvm.Cond.code x code maxLocals ret :: tables_1)).before args0 about1 = true := by
  rw [allAtoms_all]
  show words1.all (fun c => c.before args0 about1) = true
  refine all_split ?_ w_codes
  rw [w_t1]
set_option maxRecDepth 65536 in
theorem w_case : (Jvm.Cond.and given_1 narrow_1).before args0 about1 = true := by decide +kernel
theorem w_applies : (headSpec (Jvm.Cond.code x code maxLocals ret :: tables_1) room_1).applies x e0.platform about1 = true :=
  (Spec.applies_iff w_frames).mpr ⟨w_running, w_runnable, w_alone, w_named, w_hears, w_ripe, w_room, w_tables⟩
theorem atStart : AtStart classFile x code maxLocals ret World_1 tables_1 room_1 Calls_1 rest_1 Pre_1 launch0 p0 e0 about1 theMethod args0 below0 :=
  ⟨lists_1, trivial, launch0.admits_env _ _ _, launch0.least_env, fairChoices_fair.cas, fairChoices_fair.clock, w_frames, w_args, w_heap, w_applies, trivial, trivial, w_case⟩
end start1
theorem witness_1 : WitnessClaimed_1 := ⟨start1.p0, start1.e0, start1.about1, start1.theMethod, start1.args0, start1.below0, start1.atStart⟩
end Jvm.Pilot.@@N@@
