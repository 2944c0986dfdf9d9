import JvmDerived
import JvmDerived.Pilot.@@N@@Statement
import JvmDerived.Pilot.@@N@@Code
set_option linter.unusedVariables false
set_option linter.unusedSimpArgs false
namespace Jvm.Pilot.@@N@@
open Jvm Jvm.ClassFile Sem Op Lib Jvm.Free Jvm.Stand Jvm.LawKit Jvm.RoadKit Bundle Jvm.Pilot.@@N@@.Jvm.D

section Own
variable {p : Program} {l : Launch} {e : Env} {R : Room} {s : State} {m : MethodId} {args : Array Value} {below : List Frame} {meth : Method} {c : Code} {T : State} {locs : List Loc} {cells slots : Nat} {Z : State} {h h' : Heap}
def own_Go (tb : Tables) (e : Env) (below : List Frame) (P : State → Outcome → Prop) (A : State) : Prop := ∃ t o, Steps tb e below A t ∧ P t o
def own_P (below : List Frame) (s : State) (Q : Option Value → Heap → List Loc → Prop) (kc ks : Nat) (t : State) (o : Outcome) : Prop := t.status = .running ∧ Ended t below o ∧ ∃ v L, o = .returned v ∧ Q v t.heap L ∧ FrameEnd s o t L kc ks
theorem own_st {tb : Tables} {P : State → Outcome → Prop} {A B : State} (k : ∀ t, Steps tb e below B t → Steps tb e below A t) (h : own_Go tb e below P B) : own_Go tb e below P A := by
  obtain ⟨t, o, h1, h2⟩ := h
  exact ⟨t, o, k t h1, h2⟩
theorem own_tr {tb : Tables} {P : State → Outcome → Prop} {A B : State} (k : Steps tb e below A B) (h : own_Go tb e below P B) : own_Go tb e below P A := by
  obtain ⟨t, o, h1, h2⟩ := h
  exact ⟨t, o, k.trans h1, h2⟩
theorem own_ret (X : Stand p l e R s m args below meth c T locs cells slots) (hx : p.tables.exec = Jvm.exec) (hnl : meth.locks = false) {pc : Nat} {Ls : Array Slot} {w : Value} {t : FieldType} {i : Instr} {rest : List Value} (hret : meth.sig.returnType = some t) (hn : narrow t w = w)
    (hi : (i = .ireturn ∧ (t = .int ∨ t = .boolean ∨ t = .byte ∨ t = .char ∨ t = .short) ∧ ∃ z, w = .int z) ∨ (i = .lreturn ∧ t = .long ∧ ∃ z, w = .long z) ∨ (i = .dreturn ∧ t = .double ∧ ∃ z, w = .double z) ∨ (i = .freturn ∧ t = .float ∧ ∃ z, w = .float z) ∨ (i = .areturn ∧ t.isReference = true ∧ w.isRef = true))
    (hd : decode c.code pc = .ok (i, 1)) {Q : Option Value → Heap → List Loc → Prop} {kc ks : Nat} (hq : Q (some w) T.heap locs) (hc : cells ≤ kc) (hs : slots ≤ ks) : own_Go p.tables e below (own_P below s Q kc ks) (T.setTop (mkF m pc Ls (w :: rest))) := by
  obtain ⟨fs, hr, hrun, hended, hW, hsame⟩ := X.leave (v := some w) (fun h => by rw [hret] at h; cases h) hnl
  exact ⟨_, _, retOut X hx hret hn hi hd hr, hrun, hended, _, _, rfl, hq, ⟨_, rfl⟩, hW, hsame.mono hc hs⟩
theorem own_ret0 (X : Stand p l e R s m args below meth c T locs cells slots) (hx : p.tables.exec = Jvm.exec) (hnl : meth.locks = false) {pc : Nat} {Ls : Array Slot} (hret : meth.sig.returnType = none)
    (hd : decode c.code pc = .ok (.return_, 1)) {Q : Option Value → Heap → List Loc → Prop} {kc ks : Nat} (hq : Q none T.heap locs) (hc : cells ≤ kc) (hs : slots ≤ ks) : own_Go p.tables e below (own_P below s Q kc ks) (T.setTop (mkF m pc Ls [])) := by
  obtain ⟨fs, hr, hrun, hended, hW, hsame⟩ := X.leave (v := none) (fun _ => rfl) hnl
  exact ⟨_, _, X.returnOut hx hret hd hr, hrun, hended, _, _, rfl, hq, ⟨_, rfl⟩, hW, hsame.mono hc hs⟩
theorem own_lrem {g : JFrame} {target : State} (X : Stand p l e R s m args below meth c T locs cells slots) (hx : p.tables.exec = Jvm.exec) (hg : g.method = m) {x y : Int64} {rest : List Value} (hd : decode c.code g.pc = .ok (.lrem, 1)) (hs : g.stack = .long y :: .long x :: rest) (hy : y ≠ 0)
    (hr : Steps p.tables e below (T.setTop { g with pc := g.pc + 1, stack := .long (x % y) :: rest }) target) : Steps p.tables e below (T.setTop g) target := by
  exact XS.lrem X.here hx hg hd hs hy (by rw [lrem_mod]; exact hr)
end Own

section OwnA
variable {p : Program} {l : Launch} {e : Env} {R : Room} {s : State} {m : MethodId} {args : Array Value} {below : List Frame} {meth : Method} {c : Code} {T : State} {locs : List Loc} {cells slots : Nat} {Z : State} {h h' : Heap} {a b : Addr} {k : ClassId} {ty : FieldType} {n : Nat} {f : Nat → Value} {sl : Nat} {v : Value} {ws : List Addr}
def own_A (Z : State) (h : Heap) (a : Addr) (k : ClassId) (ty : FieldType) (n : Nat) (f : Nat → Value) : Prop := ∃ c : Cell, Arr Z h a c ty ∧ c.cls = k ∧ c.slots.size = n ∧ n < 2 ^ 31 ∧ (∀ i, i < n → c.slots[i]? = some (f i)) ∧ ∀ i, i < n → fits ty (f i) = true
def own_upd {α : Type} (f : Nat → α) (i : Nat) (x : α) : Nat → α := fun j => if j = i then x else f j
theorem own_A.lt (F : own_A Z h a k ty n f) : a < h.size := by obtain ⟨c, A, -⟩ := F; exact A.lt
theorem own_A.ext (F : own_A Z h a k ty n f) (E : Ext h h') : own_A Z h' a k ty n f := by obtain ⟨c, A, r⟩ := F; exact ⟨c, A.ext E, r⟩
theorem own_A.other (F : own_A Z h b k ty n f) (W : Wr h h' a sl v) (q : b ≠ a) : own_A Z h' b k ty n f := by obtain ⟨c, A, r⟩ := F; exact ⟨c, A.other W q, r⟩
theorem own_A.keep (F : own_A Z h a k ty n f) (K : Keep h h' ws) (q : a ∉ ws) : own_A Z h' a k ty n f := by obtain ⟨c, A, r⟩ := F; exact ⟨c, ⟨K.2.1 a c A.1 q, A.2⟩, r⟩
theorem own_A.congr (F : own_A Z h a k ty n f) {g : Nat → Value} (q : ∀ i, i < n → g i = f i) : own_A Z h a k ty n g := by
  obtain ⟨c, A, r1, r2, r3, H, G⟩ := F
  exact ⟨c, A, r1, r2, r3, fun i hi => by rw [q i hi]; exact H i hi, fun i hi => by rw [q i hi]; exact G i hi⟩
theorem own_A.small (F : own_A Z h a k ty n f) : n < 2 ^ 31 := by obtain ⟨c, A, r1, r2, r3, -⟩ := F; exact r3
theorem own_A.fit (F : own_A Z h a k ty n f) {i : Nat} (hi : i < n) : fits ty (f i) = true := by obtain ⟨c, A, r1, r2, r3, H, G⟩ := F; exact G i hi
theorem own_A.new {z : Int32} (A : Arr Z h a (newA k ty z) ty) (hz : z = Int32.ofNat n) (q : ¬ z < 0) {g : Nat → Value} (hg : ∀ i, g i = defaultValue ty := by intro i; rfl) (hn : n < 2 ^ 31 := by decide) : own_A Z h a k ty n g := by
  have e : z.toNatClampNeg = n := by rw [hz]; simp [Int32.toNatClampNeg, Int32.toInt_ofNat_of_lt hn]
  refine ⟨_, A, rfl, by rw [sz_new]; exact e, hn, fun i hi => ?_, fun i hi => ?_⟩
  · rw [hg]; simp [newA, e, hi]
  · rw [hg]; cases ty <;> rfl
theorem own_idx {j : Int32} {i n : Nat} (h1 : j.toInt = (i : Int)) (h2 : i < n) : ¬ (j < 0 ∨ n ≤ j.toNatClampNeg) ∧ j.toNatClampNeg = i := by
  have e : j.toNatClampNeg = i := by simp [Int32.toNatClampNeg, h1]
  refine ⟨fun q => ?_, e⟩
  rcases q with q | q
  · rw [Int32.lt_iff_toInt_lt, h1] at q; simp at q; omega
  · rw [e] at q; omega
theorem own_len (X : Stand p l e R s m args below meth c T locs cells slots) (hx : p.tables.exec = Jvm.exec) (hZ : Z.Warmed39 s.vm) (eT : T.heap = h) (F : own_A Z h a k ty n f) {g : JFrame} (hg : g.method = m) {rest : List Value} (hs : g.stack = .ref a :: rest) (hd : decode c.code g.pc = .ok (.arraylength, 1)) (t : State)
    (k : Steps p.tables e below (T.setTop { g with pc := g.pc + 1, stack := .int (Int32.ofNat n) :: rest }) t) : Steps p.tables e below (T.setTop g) t := by
  obtain ⟨cl, A, r1, r2, r3, H, G⟩ := F
  refine X.arraylength hx (cell := cl) (by rw [eT]; exact A.1) (State.isArrayOf_alike hZ.alike A.2.1) hg hs hd t ?_
  rw [r2]; exact k
theorem own_setA (F : own_A Z h a k ty n f) {i : Nat} (hi : i < n) (W : Wr h h' a i v) (hv : fits ty v = true) : own_A Z h' a k ty n (own_upd f i v) := by
  obtain ⟨cl, A, r1, r2, r3, H, G⟩ := F
  refine ⟨_, A.same W, r1, by rw [sz_set]; exact r2, r3, fun j hj => ?_, fun j hj => ?_⟩
  · by_cases q : j = i
    · subst q; simp [own_upd, Cell.setSlot, r2, hj]
    · simp only [own_upd, if_neg q, Cell.setSlot]
      rw [Array.getElem?_setIfInBounds_ne (Ne.symm q)]; exact H j hj
  · by_cases q : j = i
    · simp only [own_upd, if_pos q]; exact hv
    · simp only [own_upd, if_neg q]; exact G j hj
theorem own_updI (f : Nat → Int32) (i : Nat) (x : Int32) : own_upd (fun j => Value.int (f j)) i (.int x) = fun j => .int (own_upd f i x j) := by funext j; simp only [own_upd]; split <;> rfl
theorem own_updJ (f : Nat → Int64) (i : Nat) (x : Int64) : own_upd (fun j => Value.long (f j)) i (.long x) = fun j => .long (own_upd f i x j) := by funext j; simp only [own_upd]; split <;> rfl
theorem own_updD (f : Nat → UInt64) (i : Nat) (x : UInt64) : own_upd (fun j => Value.double (f j)) i (.double x) = fun j => .double (own_upd f i x j) := by funext j; simp only [own_upd]; split <;> rfl
theorem own_iaload (X : Stand p l e R s m args below meth c T locs cells slots) (hx : p.tables.exec = Jvm.exec) (hZ : Z.Warmed39 s.vm) (eT : T.heap = h) {f : Nat → Int32} (F : own_A Z h a k .int n (fun i => .int (f i))) {j : Int32} {i : Nat} (h1 : j.toInt = (i : Int)) (h2 : i < n) {g : JFrame} (hg : g.method = m) {rest : List Value} (hs : g.stack = .int j :: .ref a :: rest) (hd : decode c.code g.pc = .ok (.iaload, 1)) (t : State)
    (k : Steps p.tables e below (T.setTop { g with pc := g.pc + 1, stack := .int (f i) :: rest }) t) : Steps p.tables e below (T.setTop g) t := by
  obtain ⟨cl, A, r1, r2, r3, H, G⟩ := F
  obtain ⟨q1, q2⟩ := own_idx h1 (r2 ▸ h2)
  exact X.iaload hx (j := j) (v := .int (f i)) (by rw [eT]; exact A.1) (State.isArrayOf_alike hZ.alike A.2.1) A.2.2 q1 (by rw [q2]; exact H i h2) hg hs hd t k
theorem own_laload (X : Stand p l e R s m args below meth c T locs cells slots) (hx : p.tables.exec = Jvm.exec) (hZ : Z.Warmed39 s.vm) (eT : T.heap = h) {f : Nat → Int64} (F : own_A Z h a k .long n (fun i => .long (f i))) {j : Int32} {i : Nat} (h1 : j.toInt = (i : Int)) (h2 : i < n) {g : JFrame} (hg : g.method = m) {rest : List Value} (hs : g.stack = .int j :: .ref a :: rest) (hd : decode c.code g.pc = .ok (.laload, 1)) (t : State)
    (k : Steps p.tables e below (T.setTop { g with pc := g.pc + 1, stack := .long (f i) :: rest }) t) : Steps p.tables e below (T.setTop g) t := by
  obtain ⟨cl, A, r1, r2, r3, H, G⟩ := F
  obtain ⟨q1, q2⟩ := own_idx h1 (r2 ▸ h2)
  exact X.laload hx (j := j) (v := .long (f i)) (by rw [eT]; exact A.1) (State.isArrayOf_alike hZ.alike A.2.1) A.2.2 q1 (by rw [q2]; exact H i h2) hg hs hd t k
theorem own_daload (X : Stand p l e R s m args below meth c T locs cells slots) (hx : p.tables.exec = Jvm.exec) (hZ : Z.Warmed39 s.vm) (eT : T.heap = h) {f : Nat → UInt64} (F : own_A Z h a k .double n (fun i => .double (f i))) {j : Int32} {i : Nat} (h1 : j.toInt = (i : Int)) (h2 : i < n) {g : JFrame} (hg : g.method = m) {rest : List Value} (hs : g.stack = .int j :: .ref a :: rest) (hd : decode c.code g.pc = .ok (.daload, 1)) (t : State)
    (k : Steps p.tables e below (T.setTop { g with pc := g.pc + 1, stack := .double (f i) :: rest }) t) : Steps p.tables e below (T.setTop g) t := by
  obtain ⟨cl, A, r1, r2, r3, H, G⟩ := F
  obtain ⟨q1, q2⟩ := own_idx h1 (r2 ▸ h2)
  exact X.daload hx (j := j) (v := .double (f i)) (by rw [eT]; exact A.1) (State.isArrayOf_alike hZ.alike A.2.1) A.2.2 q1 (by rw [q2]; exact H i h2) hg hs hd t k
theorem own_caload (X : Stand p l e R s m args below meth c T locs cells slots) (hx : p.tables.exec = Jvm.exec) (hZ : Z.Warmed39 s.vm) (eT : T.heap = h) {f : Nat → Int32} (F : own_A Z h a k .char n (fun i => .int (f i))) {j : Int32} {i : Nat} (h1 : j.toInt = (i : Int)) (h2 : i < n) {g : JFrame} (hg : g.method = m) {rest : List Value} (hs : g.stack = .int j :: .ref a :: rest) (hd : decode c.code g.pc = .ok (.caload, 1)) (t : State)
    (k : Steps p.tables e below (T.setTop { g with pc := g.pc + 1, stack := .int (f i) :: rest }) t) : Steps p.tables e below (T.setTop g) t := by
  obtain ⟨cl, A, r1, r2, r3, H, G⟩ := F
  obtain ⟨q1, q2⟩ := own_idx h1 (r2 ▸ h2)
  exact X.caload hx (j := j) (v := .int (f i)) (by rw [eT]; exact A.1) (State.isArrayOf_alike hZ.alike A.2.1) A.2.2 q1 (by rw [q2]; exact H i h2) hg hs hd t k
theorem own_saload (X : Stand p l e R s m args below meth c T locs cells slots) (hx : p.tables.exec = Jvm.exec) (hZ : Z.Warmed39 s.vm) (eT : T.heap = h) {f : Nat → Int32} (F : own_A Z h a k .short n (fun i => .int (f i))) {j : Int32} {i : Nat} (h1 : j.toInt = (i : Int)) (h2 : i < n) {g : JFrame} (hg : g.method = m) {rest : List Value} (hs : g.stack = .int j :: .ref a :: rest) (hd : decode c.code g.pc = .ok (.saload, 1)) (t : State)
    (k : Steps p.tables e below (T.setTop { g with pc := g.pc + 1, stack := .int (f i) :: rest }) t) : Steps p.tables e below (T.setTop g) t := by
  obtain ⟨cl, A, r1, r2, r3, H, G⟩ := F
  obtain ⟨q1, q2⟩ := own_idx h1 (r2 ▸ h2)
  exact X.saload hx (j := j) (v := .int (f i)) (by rw [eT]; exact A.1) (State.isArrayOf_alike hZ.alike A.2.1) A.2.2 q1 (by rw [q2]; exact H i h2) hg hs hd t k
theorem own_baload (X : Stand p l e R s m args below meth c T locs cells slots) (hx : p.tables.exec = Jvm.exec) (hZ : Z.Warmed39 s.vm) (eT : T.heap = h) {f : Nat → Int32} (F : own_A Z h a k .byte n (fun i => .int (f i))) {j : Int32} {i : Nat} (h1 : j.toInt = (i : Int)) (h2 : i < n) {g : JFrame} (hg : g.method = m) {rest : List Value} (hs : g.stack = .int j :: .ref a :: rest) (hd : decode c.code g.pc = .ok (.baload, 1)) (t : State)
    (k : Steps p.tables e below (T.setTop { g with pc := g.pc + 1, stack := .int (f i) :: rest }) t) : Steps p.tables e below (T.setTop g) t := by
  obtain ⟨cl, A, r1, r2, r3, H, G⟩ := F
  obtain ⟨q1, q2⟩ := own_idx h1 (r2 ▸ h2)
  exact X.baloadBytes hx (j := j) (v := .int (f i)) (by rw [eT]; exact A.1) (State.isArrayOf_alike hZ.alike A.2.1) A.2.2 q1 (by rw [q2]; exact H i h2) hg hs hd t k
theorem own_zaload (X : Stand p l e R s m args below meth c T locs cells slots) (hx : p.tables.exec = Jvm.exec) (hZ : Z.Warmed39 s.vm) (eT : T.heap = h) {f : Nat → Int32} (F : own_A Z h a k .boolean n (fun i => .int (f i))) {j : Int32} {i : Nat} (h1 : j.toInt = (i : Int)) (h2 : i < n) {g : JFrame} (hg : g.method = m) {rest : List Value} (hs : g.stack = .int j :: .ref a :: rest) (hd : decode c.code g.pc = .ok (.baload, 1)) (t : State)
    (k : Steps p.tables e below (T.setTop { g with pc := g.pc + 1, stack := .int (f i) :: rest }) t) : Steps p.tables e below (T.setTop g) t := by
  obtain ⟨cl, A, r1, r2, r3, H, G⟩ := F
  obtain ⟨q1, q2⟩ := own_idx h1 (r2 ▸ h2)
  exact X.baloadBooleans hx (j := j) (v := .int (f i)) (by rw [eT]; exact A.1) (State.isArrayOf_alike hZ.alike A.2.1) A.2.2 q1 (by rw [q2]; exact H i h2) hg hs hd t k
theorem own_aaload (X : Stand p l e R s m args below meth c T locs cells slots) (hx : p.tables.exec = Jvm.exec) (hZ : Z.Warmed39 s.vm) (eT : T.heap = h) (F : own_A Z h a k ty n f) {j : Int32} {i : Nat} (h1 : j.toInt = (i : Int)) (h2 : i < n) (hty : ty.isReference = true) {g : JFrame} (hg : g.method = m) {rest : List Value} (hs : g.stack = .int j :: .ref a :: rest) (hd : decode c.code g.pc = .ok (.aaload, 1)) (t : State)
    (k : Steps p.tables e below (T.setTop { g with pc := g.pc + 1, stack := f i :: rest }) t) : Steps p.tables e below (T.setTop g) t := by
  obtain ⟨cl, A, r1, r2, r3, H, G⟩ := F
  obtain ⟨q1, q2⟩ := own_idx h1 (r2 ▸ h2)
  exact X.aaload hx (j := j) (v := f i) (by rw [eT]; exact A.1) (State.isArrayOf_alike hZ.alike A.2.1) hty A.2.2 q1 (by rw [q2]; exact H i h2) hg hs hd t k
theorem own_iastore (X : Stand p l e R s m args below meth c T locs cells slots) (hx : p.tables.exec = Jvm.exec) (hZ : Z.Warmed39 s.vm) (eT : T.heap = h) {f : Nat → Int32} (F : own_A Z h a k .int n (fun i => .int (f i))) {j : Int32} {x : Int32} {i : Nat} (h1 : j.toInt = (i : Int)) (h2 : i < n) {g : JFrame} (hg : g.method = m) {rest : List Value} (hs : g.stack = .int x :: .int j :: .ref a :: rest) (hd : decode c.code g.pc = .ok (.iastore, 1)) :
    ∃ T' h', Stand p l e R s m args below meth c T' (locs ++ [⟨a, i⟩]) cells slots ∧ T'.heap = h' ∧ Wr h h' a i (.int x) ∧ own_A Z h' a k .int n (fun q => .int (own_upd f i x q)) ∧ ∀ target, Steps p.tables e below (T'.setTop { g with pc := g.pc + 1, stack := rest }) target → Steps p.tables e below (T.setTop g) target := by
  have F0 := F
  obtain ⟨cl, A, r1, r2, r3, H, G⟩ := F
  obtain ⟨q1, q2⟩ := own_idx h1 (r2 ▸ h2)
  obtain ⟨T', h', X', e', W', st⟩ := stI X hx hZ eT A q1 hg hs hd
  rw [q2] at X' W'
  exact ⟨T', h', X', e', W', by rw [← own_updI]; exact own_setA F0 h2 W' rfl, st⟩
theorem own_lastore (X : Stand p l e R s m args below meth c T locs cells slots) (hx : p.tables.exec = Jvm.exec) (hZ : Z.Warmed39 s.vm) (eT : T.heap = h) {f : Nat → Int64} (F : own_A Z h a k .long n (fun i => .long (f i))) {j : Int32} {x : Int64} {i : Nat} (h1 : j.toInt = (i : Int)) (h2 : i < n) {g : JFrame} (hg : g.method = m) {rest : List Value} (hs : g.stack = .long x :: .int j :: .ref a :: rest) (hd : decode c.code g.pc = .ok (.lastore, 1)) :
    ∃ T' h', Stand p l e R s m args below meth c T' (locs ++ [⟨a, i⟩]) cells slots ∧ T'.heap = h' ∧ Wr h h' a i (.long x) ∧ own_A Z h' a k .long n (fun q => .long (own_upd f i x q)) ∧ ∀ target, Steps p.tables e below (T'.setTop { g with pc := g.pc + 1, stack := rest }) target → Steps p.tables e below (T.setTop g) target := by
  have F0 := F
  obtain ⟨cl, A, r1, r2, r3, H, G⟩ := F
  obtain ⟨q1, q2⟩ := own_idx h1 (r2 ▸ h2)
  obtain ⟨T', h', X', e', W', st⟩ := stJ X hx hZ eT A q1 hg hs hd
  rw [q2] at X' W'
  exact ⟨T', h', X', e', W', by rw [← own_updJ]; exact own_setA F0 h2 W' rfl, st⟩
theorem own_dastore (X : Stand p l e R s m args below meth c T locs cells slots) (hx : p.tables.exec = Jvm.exec) (hZ : Z.Warmed39 s.vm) (eT : T.heap = h) {f : Nat → UInt64} (F : own_A Z h a k .double n (fun i => .double (f i))) {j : Int32} {x : UInt64} {i : Nat} (h1 : j.toInt = (i : Int)) (h2 : i < n) {g : JFrame} (hg : g.method = m) {rest : List Value} (hs : g.stack = .double x :: .int j :: .ref a :: rest) (hd : decode c.code g.pc = .ok (.dastore, 1)) :
    ∃ T' h', Stand p l e R s m args below meth c T' (locs ++ [⟨a, i⟩]) cells slots ∧ T'.heap = h' ∧ Wr h h' a i (.double x) ∧ own_A Z h' a k .double n (fun q => .double (own_upd f i x q)) ∧ ∀ target, Steps p.tables e below (T'.setTop { g with pc := g.pc + 1, stack := rest }) target → Steps p.tables e below (T.setTop g) target := by
  have F0 := F
  obtain ⟨cl, A, r1, r2, r3, H, G⟩ := F
  obtain ⟨q1, q2⟩ := own_idx h1 (r2 ▸ h2)
  obtain ⟨T', h', X', e', W', st⟩ := stD X hx hZ eT A q1 hg hs hd
  rw [q2] at X' W'
  exact ⟨T', h', X', e', W', by rw [← own_updD]; exact own_setA F0 h2 W' rfl, st⟩
theorem own_castore (X : Stand p l e R s m args below meth c T locs cells slots) (hx : p.tables.exec = Jvm.exec) (hZ : Z.Warmed39 s.vm) (eT : T.heap = h) {f : Nat → Int32} (F : own_A Z h a k .char n (fun i => .int (f i))) {j x v' : Int32} {i : Nat} (h1 : j.toInt = (i : Int)) (h2 : i < n) (hv : nar .char x = v') {g : JFrame} (hg : g.method = m) {rest : List Value} (hs : g.stack = .int x :: .int j :: .ref a :: rest) (hd : decode c.code g.pc = .ok (.castore, 1)) :
    ∃ T' h', Stand p l e R s m args below meth c T' (locs ++ [⟨a, i⟩]) cells slots ∧ T'.heap = h' ∧ Wr h h' a i (.int v') ∧ own_A Z h' a k .char n (fun q => .int (own_upd f i v' q)) ∧ ∀ target, Steps p.tables e below (T'.setTop { g with pc := g.pc + 1, stack := rest }) target → Steps p.tables e below (T.setTop g) target := by
  have F0 := F
  obtain ⟨cl, A, r1, r2, r3, H, G⟩ := F
  obtain ⟨q1, q2⟩ := own_idx h1 (r2 ▸ h2)
  obtain ⟨T', h', X', e', W', st⟩ := stC X hx hZ eT A q1 hg hs hd
  rw [q2] at X' W'
  subst hv
  exact ⟨T', h', X', e', W', by rw [← own_updI]; exact own_setA F0 h2 W' (fits_nar_char _), st⟩
theorem own_bastore (X : Stand p l e R s m args below meth c T locs cells slots) (hx : p.tables.exec = Jvm.exec) (hZ : Z.Warmed39 s.vm) (eT : T.heap = h) {f : Nat → Int32} (F : own_A Z h a k .byte n (fun i => .int (f i))) {j x v' : Int32} {i : Nat} (h1 : j.toInt = (i : Int)) (h2 : i < n) (hv : nar .byte x = v') {g : JFrame} (hg : g.method = m) {rest : List Value} (hs : g.stack = .int x :: .int j :: .ref a :: rest) (hd : decode c.code g.pc = .ok (.bastore, 1)) :
    ∃ T' h', Stand p l e R s m args below meth c T' (locs ++ [⟨a, i⟩]) cells slots ∧ T'.heap = h' ∧ Wr h h' a i (.int v') ∧ own_A Z h' a k .byte n (fun q => .int (own_upd f i v' q)) ∧ ∀ target, Steps p.tables e below (T'.setTop { g with pc := g.pc + 1, stack := rest }) target → Steps p.tables e below (T.setTop g) target := by
  have F0 := F
  obtain ⟨cl, A, r1, r2, r3, H, G⟩ := F
  obtain ⟨q1, q2⟩ := own_idx h1 (r2 ▸ h2)
  obtain ⟨T', h', X', e', W', st⟩ := stB X hx hZ eT A q1 hg hs hd
  rw [q2] at X' W'
  subst hv
  exact ⟨T', h', X', e', W', by rw [← own_updI]; exact own_setA F0 h2 W' (fits_nar_byte _), st⟩
theorem own_zastore (X : Stand p l e R s m args below meth c T locs cells slots) (hx : p.tables.exec = Jvm.exec) (hZ : Z.Warmed39 s.vm) (eT : T.heap = h) {f : Nat → Int32} (F : own_A Z h a k .boolean n (fun i => .int (f i))) {j x v' : Int32} {i : Nat} (h1 : j.toInt = (i : Int)) (h2 : i < n) (hv : nar .boolean x = v') {g : JFrame} (hg : g.method = m) {rest : List Value} (hs : g.stack = .int x :: .int j :: .ref a :: rest) (hd : decode c.code g.pc = .ok (.bastore, 1)) :
    ∃ T' h', Stand p l e R s m args below meth c T' (locs ++ [⟨a, i⟩]) cells slots ∧ T'.heap = h' ∧ Wr h h' a i (.int v') ∧ own_A Z h' a k .boolean n (fun q => .int (own_upd f i v' q)) ∧ ∀ target, Steps p.tables e below (T'.setTop { g with pc := g.pc + 1, stack := rest }) target → Steps p.tables e below (T.setTop g) target := by
  have F0 := F
  obtain ⟨cl, A, r1, r2, r3, H, G⟩ := F
  obtain ⟨q1, q2⟩ := own_idx h1 (r2 ▸ h2)
  obtain ⟨T', h', X', e', W', st⟩ := stZ X hx hZ eT A q1 hg hs hd
  rw [q2] at X' W'
  subst hv
  exact ⟨T', h', X', e', W', by rw [← own_updI]; exact own_setA F0 h2 W' (fits_nar_bool _), st⟩
theorem own_sastore (X : Stand p l e R s m args below meth c T locs cells slots) (hx : p.tables.exec = Jvm.exec) (hZ : Z.Warmed39 s.vm) (eT : T.heap = h) {f : Nat → Int32} (F : own_A Z h a k .short n (fun i => .int (f i))) {j x v' : Int32} {i : Nat} (h1 : j.toInt = (i : Int)) (h2 : i < n) (hv : nar .short x = v') {g : JFrame} (hg : g.method = m) {rest : List Value} (hs : g.stack = .int x :: .int j :: .ref a :: rest) (hd : decode c.code g.pc = .ok (.sastore, 1)) :
    ∃ T' h', Stand p l e R s m args below meth c T' (locs ++ [⟨a, i⟩]) cells slots ∧ T'.heap = h' ∧ Wr h h' a i (.int v') ∧ own_A Z h' a k .short n (fun q => .int (own_upd f i v' q)) ∧ ∀ target, Steps p.tables e below (T'.setTop { g with pc := g.pc + 1, stack := rest }) target → Steps p.tables e below (T.setTop g) target := by
  have F0 := F
  obtain ⟨cl, A, r1, r2, r3, H, G⟩ := F
  obtain ⟨q1, q2⟩ := own_idx h1 (r2 ▸ h2)
  obtain ⟨T', h', X', e', W', st⟩ := stS X hx hZ eT A q1 hg hs hd
  rw [q2] at X' W'
  subst hv
  exact ⟨T', h', X', e', W', by rw [← own_updI]; exact own_setA F0 h2 W' (fits_nar_short _), st⟩
theorem own_aastore (X : Stand p l e R s m args below meth c T locs cells slots) (hx : p.tables.exec = Jvm.exec) (hZ : Z.Warmed39 s.vm) (eT : T.heap = h) (F : own_A Z h a k ty n f) {j : Int32} {i : Nat} (h1 : j.toInt = (i : Int)) (h2 : i < n) (hq : ty.isReference = true ∧ Sto Z h a v ∧ fits ty v = true) {g : JFrame} (hg : g.method = m) {rest : List Value} (hs : g.stack = v :: .int j :: .ref a :: rest) (hd : decode c.code g.pc = .ok (.aastore, 1)) :
    ∃ T' h', Stand p l e R s m args below meth c T' (locs ++ [⟨a, i⟩]) cells slots ∧ T'.heap = h' ∧ Wr h h' a i v ∧ own_A Z h' a k ty n (own_upd f i v) ∧ ∀ target, Steps p.tables e below (T'.setTop { g with pc := g.pc + 1, stack := rest }) target → Steps p.tables e below (T.setTop g) target := by
  have F0 := F
  obtain ⟨cl, A, r1, r2, r3, H, G⟩ := F
  obtain ⟨q1, q2⟩ := own_idx h1 (r2 ▸ h2)
  obtain ⟨T', h', X', e', W', st⟩ := stR X hx hZ eT A q1 hq.1 hq.2.1 hg hs hd
  rw [q2] at X' W'
  exact ⟨T', h', X', e', W', own_setA F0 h2 W' hq.2.2, st⟩
end OwnA

section OwnN
theorem own_inc {i : Int32} {k : Nat} (h : i.toInt = (k : Int)) (hk : k < 2147483647) : (i + 1).toInt = ((k + 1 : Nat) : Int) := by
  have e1 : (1 : Int32).toInt = 1 := by decide
  rw [Int32.toInt_add, h, e1, bmod32 (by omega) (by omega)]
  omega
theorem own_lt {i : Int32} {k n : Nat} (h : i.toInt = (k : Int)) (hn : n < 2147483648) : i < Int32.ofNat n ↔ k < n := by
  rw [Int32.lt_iff_toInt_lt, h, Int32.toInt_ofNat_of_lt (by omega)]
  omega
end OwnN

section OwnW
variable {args : Array Value} {first s : State} {o : Option Outcome} {idx : List Nat} {t : Term}
theorem own_eqI {k : Int32} (h : (Cond.eq t (.int k)).value args first o s idx = some true) : t.eval args first o idx s = some (.int k) := by
  simp only [Cond.value, Term.eval] at h; cases ht : t.eval args first o idx s with | none => simp [ht] at h | some x => cases x <;> simp [ht] at h ⊢; exact h
theorem own_eqJ {k : Int64} (h : (Cond.eq t (.long k)).value args first o s idx = some true) : t.eval args first o idx s = some (.long k) := by
  simp only [Cond.value, Term.eval] at h; cases ht : t.eval args first o idx s with | none => simp [ht] at h | some x => cases x <;> simp [ht] at h ⊢; exact h
theorem own_eqD {k : Int64} (h : (Cond.eq t (.op1 .bitsD (.long k))).value args first o s idx = some true) : t.eval args first o idx s = some (.double k.toUInt64) := by
  simp only [Cond.value, Term.eval, Unary.apply, Option.bind_eq_bind, Option.bind_some] at h; cases ht : t.eval args first o idx s with | none => simp [ht] at h | some x => cases x <;> simp [ht] at h ⊢; exact h
theorem own_neq0 {G : Int32} (ev : t.eval args first o idx s = some (.int G)) (h : (Cond.not (.eq t (.int 0))).value args first o s idx = some true) : ¬ G = (0 : Int32) := by
  intro q; subst q; simp [Cond.value, ev, Term.eval] at h
end OwnW

section OwnS
def own_bl (cd : Int32) (n : Nat) : Nat := if cd = 0 then n else n + n
def own_u16 (cs : Nat → Int32) : Nat → Int32 := fun i => if i % 2 = 0 then (cs (i / 2) >>> ((0 : Int32) &&& 31)).toInt8.toInt32 else (cs (i / 2) >>> ((8 : Int32) &&& 31)).toInt8.toInt32
def own_by (cd : Int32) (cs : Nat → Int32) : Nat → Int32 := if cd = 0 then (fun i => (cs i).toInt8.toInt32) else own_u16 cs
def own_cb (cs f : Nat → Int32) (j : Nat) : Nat → Int32 := fun i => if i < j then (cs i).toInt8.toInt32 else f i
theorem own_ltp {i p_ : Int32} {k n : Nat} (h : i.toInt = (k : Int)) (hp : p_.toInt = (n : Int)) : i < p_ ↔ k < n := by
  rw [Int32.lt_iff_toInt_lt, h, hp]; omega
theorem own_asN {i : Int32} {k : Nat} (h : i.toInt = (k : Int)) : i = Int32.ofNat k := Int32.toInt_inj.mp (by
  have := rng32 i
  rw [h, Int32.toInt_ofNat_of_lt (by omega)])
theorem own_i8 (x : Int32) : x.toInt8.toInt32.toInt8.toInt32 = x.toInt8.toInt32 := by
  apply Int32.toInt_inj.mp
  have a := c_i2b x
  have b := c_i2b x.toInt8.toInt32
  omega
theorem own_narb (x : Int32) : nar .byte (x.toInt8.toInt32) = x.toInt8.toInt32 := own_i8 x
theorem own_i16 {c : Int32} (h0 : 0 ≤ c.toInt) (h1 : c.toInt ≤ 65535) : c.toUInt32.toUInt16.toUInt32.toInt32 = c := by
  apply Int32.toInt_inj.mp
  have a := c_i2c c
  omega
theorem own_narc {c : Int32} (h0 : 0 ≤ c.toInt) (h1 : c.toInt ≤ 65535) : nar .char c = c := own_i16 h0 h1
theorem own_nwc {c : Int32} (h0 : 0 ≤ c.toInt) (h1 : c.toInt ≤ 65535) : narrow .char (.int c) = .int c := congrArg Value.int (own_i16 h0 h1)
theorem own_char {c : Int32} (h : fits .char (.int c) = true) : 0 ≤ c.toInt ∧ c.toInt ≤ 65535 := by
  have q := rng_char h
  have z : (0 : Int32).toInt = 0 := by decide
  have w : (65535 : Int32).toInt = 65535 := by decide
  simp only [Int32.lt_iff_toInt_lt] at q
  omega
theorem own_charf {c : Int32} (h0 : 0 ≤ c.toInt) (h1 : c.toInt ≤ 65535) : fits .char (.int c) = true := by
  have z : (0 : Int32).toInt = 0 := by decide
  have w : (65535 : Int32).toInt = 65535 := by decide
  simp only [fits, Bool.and_eq_true, decide_eq_true_eq, Int32.le_iff_toInt_le]
  omega
theorem own_shr0 (x : Int32) : (x >>> ((0 : Int32) &&& 31)).toInt = x.toInt := by
  rw [c_ishr x 0 0 (by decide)]; simp
/-- the two bytes of a char, joined -/
theorem own_join {c x y : Int32} (h0 : 0 ≤ c.toInt) (h1 : c.toInt ≤ 65535) (hx : x = (c >>> ((0 : Int32) &&& 31)).toInt8.toInt32) (hy : y = (c >>> ((8 : Int32) &&& 31)).toInt8.toInt32) :
    ((((x &&& (255 : Int32)) <<< ((0 : Int32) &&& 31)) ||| ((y &&& (255 : Int32)) <<< ((8 : Int32) &&& 31))).toUInt32.toUInt16.toUInt32.toInt32) = c := by
  have e0 := own_shr0 c
  have e8 := c_ishr c 8 8 (by decide)
  have b0 := c_i2b (c >>> ((0 : Int32) &&& 31))
  have b8 := c_i2b (c >>> ((8 : Int32) &&& 31))
  rw [← hx] at b0; rw [← hy] at b8
  have m0 := c_mask x 255 8 (by decide) (by decide)
  have m8 := c_mask y 255 8 (by decide) (by decide)
  have s0 := c_ishl (x &&& 255) 0 0 (by decide)
  have s8 := c_ishl (y &&& 255) 8 8 (by decide)
  have p8 : ((2 ^ 8 : Nat) : Int) = 256 := by decide
  have p0 : ((2 ^ 0 : Nat) : Int) = 1 := by decide
  rw [p8] at e8 m0 m8 s8
  rw [p0] at s0
  have r0 := rng32 ((x &&& 255) <<< ((0 : Int32) &&& 31))
  have r8 := rng32 ((y &&& 255) <<< ((8 : Int32) &&& 31))
  have o := c_or' ((x &&& 255) <<< ((0 : Int32) &&& 31)) ((y &&& 255) <<< ((8 : Int32) &&& 31)) 8 (by decide) 256 (by decide)
  have v0 : ((x &&& 255) <<< ((0 : Int32) &&& 31)).toInt = c.toInt % 256 := by omega
  have v8 : ((y &&& 255) <<< ((8 : Int32) &&& 31)).toInt = (c.toInt / 256) * 256 := by omega
  have ro := rng32 (((x &&& 255) <<< ((0 : Int32) &&& 31)) ||| ((y &&& 255) <<< ((8 : Int32) &&& 31)))
  have o' := o (by omega) (by omega) (by omega)
  apply Int32.toInt_inj.mp
  have i := c_i2c (((x &&& 255) <<< ((0 : Int32) &&& 31)) ||| ((y &&& 255) <<< ((8 : Int32) &&& 31)))
  omega
/-- a byte of a Latin-1 string, widened -/
theorem own_lat {c : Int32} (h0 : 0 ≤ c.toInt) (h1 : ¬ (255 : Int32) < c) : ((c.toInt8.toInt32 &&& (255 : Int32)).toUInt32.toUInt16.toUInt32.toInt32) = c := by
  have w : (255 : Int32).toInt = 255 := by decide
  rw [Int32.lt_iff_toInt_lt, w] at h1
  have b := c_i2b c
  have m0 := c_mask c.toInt8.toInt32 255 8 (by decide) (by decide)
  have p8 : ((2 ^ 8 : Nat) : Int) = 256 := by decide
  rw [p8] at m0
  apply Int32.toInt_inj.mp
  have i := c_i2c (c.toInt8.toInt32 &&& 255)
  omega
theorem own_shl1 {q : Int32} {k : Nat} (h : q.toInt = (k : Int)) (hk : k < 100000) : (q <<< ((1 : Int32) &&& 31)).toInt = ((k + k : Nat) : Int) := by
  have s := c_ishl q 1 1 (by decide)
  have p1 : ((2 ^ 1 : Nat) : Int) = 2 := by decide
  have r := rng32 (q <<< ((1 : Int32) &&& 31))
  rw [p1, h] at s
  omega
theorem own_cdl {cd p_ : Int32} {n : Nat} (hcd : cd = 0 ∨ cd = 1) (hp : p_.toInt = (n : Int)) (hn : 1 ≤ n ∧ n < 100000) : ((((p_ - (Int32.ofNat (own_bl cd n))).toUInt32 >>> ((31 : Int32) &&& 31).toUInt32).toInt32).toInt8.toInt32) = cd := by
  have hz : p_ = Int32.ofNat n := own_asN hp
  apply Int32.toInt_inj.mp
  have e := c_iushr (p_ - Int32.ofNat (own_bl cd n)) 31 31 (by decide) (by decide)
  have p31 : ((2 ^ 31 : Nat) : Int) = 2147483648 := by decide
  rw [p31] at e
  have b := c_i2b (((p_ - (Int32.ofNat (own_bl cd n))).toUInt32 >>> ((31 : Int32) &&& 31).toUInt32).toInt32)
  have s := c_isub p_ (Int32.ofNat (own_bl cd n))
  have r := rng32 (p_ - Int32.ofNat (own_bl cd n))
  rcases hcd with rfl | rfl
  · have l : own_bl 0 n = n := by simp [own_bl]
    rw [l] at e b s r ⊢
    rw [Int32.toInt_ofNat_of_lt (by omega), hp] at s
    have z : (0 : Int32).toInt = 0 := by decide
    omega
  · have l : own_bl 1 n = n + n := by simp [own_bl]
    rw [l] at e b s r ⊢
    rw [Int32.toInt_ofNat_of_lt (by omega), hp] at s
    have z : (1 : Int32).toInt = 1 := by decide
    omega
end OwnS

section OwnT
theorem own_bl0 (n : Nat) : own_bl 0 n = n := by simp [own_bl]
theorem own_bl1 (n : Nat) : own_bl 1 n = n + n := by simp [own_bl]
theorem own_by0 (cs : Nat → Int32) (i : Nat) : own_by 0 cs i = (cs i).toInt8.toInt32 := by simp [own_by]
theorem own_by1 (cs : Nat → Int32) (i : Nat) : own_by 1 cs i = own_u16 cs i := by simp [own_by]
theorem own_cb_up (cs f : Nat → Int32) (k j : Nat) : own_cb cs f (k + 1) j = own_upd (own_cb cs f k) k (cs k).toInt8.toInt32 j := by
  simp only [own_cb, own_upd]
  by_cases e : j = k
  · subst e; simp
  · simp only [e, if_false]
    by_cases q : j < k
    · rw [if_pos q, if_pos (by omega)]
    · rw [if_neg q, if_neg (by omega)]
theorem own_narcc (y : Int32) : nar .char (y.toUInt32.toUInt16.toUInt32.toInt32) = y.toUInt32.toUInt16.toUInt32.toInt32 := by
  have a := c_i2c y
  exact own_narc (by omega) (by omega)
theorem own_nw01 {b : Int32} (h : b = 0 ∨ b = 1) : narrow .byte (.int b) = .int b := by rcases h with rfl | rfl <;> rfl
theorem own_f01 {b : Int32} (h : b = 0 ∨ b = 1) : fits .byte (.int b) = true := by rcases h with rfl | rfl <;> rfl
theorem own_c01 {cd : Int32} {P : Prop} (h : (cd = 0 ∧ P) ∨ cd = 1) : cd = 0 ∨ cd = 1 := h.imp (·.1) id
theorem own_ofN {j n : Nat} {p_ : Int32} (hp : p_.toInt = (n : Int)) (hj : j ≤ n) (e : Int32.ofNat j = p_) : j = n := by
  have q := congrArg Int32.toInt e
  have r := rng32 p_
  rw [hp, Int32.toInt_ofNat_of_lt (by omega)] at q
  omega
theorem own_ofNn {j n : Nat} {p_ : Int32} (hp : p_.toInt = (n : Int)) (hj : j ≤ n) (e : ¬ Int32.ofNat j = p_) : j < n := by
  refine Nat.lt_of_le_of_ne hj fun q => e ?_
  rw [q]; exact (own_asN hp).symm
theorem own_toN {n : Nat} (h : n < 100000) : (Int32.ofNat n).toInt = (n : Int) := Int32.toInt_ofNat_of_lt (by omega)
theorem own_nz {p_ : Int32} {n : Nat} (hp : p_.toInt = (n : Int)) (hn : 1 ≤ n) : ¬ p_ = (0 : Int32) := fun q => by
  have z : (0 : Int32).toInt = 0 := by decide
  rw [q, z] at hp; omega
theorem own_nn {p_ : Int32} {n : Nat} (hp : p_.toInt = (n : Int)) : ¬ p_ < (0 : Int32) := by
  have z : (0 : Int32).toInt = 0 := by decide
  rw [Int32.lt_iff_toInt_lt, hp, z]; omega
theorem own_cl {p_ : Int32} {n c : Nat} (hp : p_.toInt = (n : Int)) (hc : n ≤ c) : p_.toNatClampNeg ≤ c := by
  simp [Int32.toNatClampNeg, hp]; omega
end OwnT
section OwnU
def own_l8 (cs : Nat → Int32) : Nat → Int32 := fun i => (cs i).toInt8.toInt32
def own_pb (cs : Nat → Int32) (k : Nat) : Nat → Int32 := fun i => if i < k + k then own_u16 cs i else 0
theorem own_u16e (cs : Nat → Int32) (k : Nat) : own_u16 cs (k + k) = (cs k >>> ((0 : Int32) &&& 31)).toInt8.toInt32 := by
  unfold own_u16
  rw [if_pos (by omega), show (k + k) / 2 = k by omega]
theorem own_u16o (cs : Nat → Int32) (k : Nat) : own_u16 cs (k + k + 1) = (cs k >>> ((8 : Int32) &&& 31)).toInt8.toInt32 := by
  unfold own_u16
  rw [if_neg (by omega), show (k + k + 1) / 2 = k by omega]
theorem own_pb_up (cs : Nat → Int32) (k j : Nat) : own_pb cs (k + 1) j = own_upd (own_upd (own_pb cs k) (k + k) ((cs k >>> ((0 : Int32) &&& 31)).toInt8.toInt32)) (k + k + 1) ((cs k >>> ((8 : Int32) &&& 31)).toInt8.toInt32) j := by
  simp only [own_pb, own_upd]
  by_cases e1 : j = k + k + 1
  · rw [if_pos (by omega), if_pos e1, e1, own_u16o]
  · rw [if_neg e1]
    by_cases e0 : j = k + k
    · rw [if_pos (by omega), if_pos e0, e0, own_u16e]
    · rw [if_neg e0]
      by_cases q : j < k + k
      · rw [if_pos (by omega), if_pos q]
      · rw [if_neg (by omega), if_neg q]
def own_l1 (cd : Int32) : Int32 := if cd = 0 then 1 else 0
theorem own_shr1 {n : Nat} (h : n < 100000) : ((Int32.ofNat (n + n)) >>> ((1 : Int32) &&& 31)).toInt = (n : Int) := by
  have s := c_ishr (Int32.ofNat (n + n)) 1 1 (by decide)
  have p1 : ((2 ^ 1 : Nat) : Int) = 2 := by decide
  rw [p1, Int32.toInt_ofNat_of_lt (by omega)] at s
  omega
theorem own_bound {p_ : Int32} {n : Nat} (hp : p_.toInt = (n : Int)) (h : n < 1073741823) : p_ < (1073741823 : Int32) := by
  have z : (1073741823 : Int32).toInt = 1073741823 := by decide
  rw [Int32.lt_iff_toInt_lt, hp, z]; omega
end OwnU

section OwnH
variable {p : Program} {l : Launch} {e : Env} {R : Room} {s : State} {m : MethodId} {args : Array Value} {below : List Frame} {meth : Method} {c : Code} {T : State} {locs : List Loc} {cells slots : Nat} {Z : State} {a0 : Array Value} {EL : List (String × Nat)} {h h' : Heap} {vm0 : Vm}
def own_PW (below : List Frame) (s Z : State) (EL : List (String × Nat)) (Q : Option Value → Heap → List Loc → Prop) (kc ks : Nat) (t : State) (o : Outcome) : Prop :=
  t.status = .running ∧ Ended t below o ∧ ∃ v L, o = .returned v ∧ Q v t.heap L ∧ CHr Z EL s.vm s.heap t.vm t.heap ∧ ReturnedEndW s o t L kc ks
theorem own_retW (X : Stand p l e R (s.setVm vm0) m args below meth c T locs cells slots) (hx : p.tables.exec = Jvm.exec) (hnl : meth.locks = false) (hZ : Z.Warmed39 vm0) (hEL : EW Z a0 EL) {k0 : Nat} (hS : s.Since vm0 k0) (hk : k0 ≤ T.heap.size) (C : CHr Z EL s.vm s.heap vm0 T.heap)
    {pc : Nat} {Ls : Array Slot} {w : Value} {t : FieldType} {i : Instr} {rest : List Value} (hret : meth.sig.returnType = some t) (hn : narrow t w = w)
    (hi : (i = .ireturn ∧ (t = .int ∨ t = .boolean ∨ t = .byte ∨ t = .char ∨ t = .short) ∧ ∃ z, w = .int z) ∨ (i = .lreturn ∧ t = .long ∧ ∃ z, w = .long z) ∨ (i = .dreturn ∧ t = .double ∧ ∃ z, w = .double z) ∨ (i = .freturn ∧ t = .float ∧ ∃ z, w = .float z) ∨ (i = .areturn ∧ t.isReference = true ∧ w.isRef = true))
    (hd : decode c.code pc = .ok (i, 1)) {Q : Option Value → Heap → List Loc → Prop} {kc ks : Nat} (hq : Q (some w) T.heap locs) (hc : cells ≤ kc) (hs : slots ≤ ks) : own_Go p.tables e below (own_PW below s Z EL Q kc ks) (T.setTop (mkF m pc Ls (w :: rest))) := by
  obtain ⟨fs, hr, hrun, hended, hE⟩ := X.leaveW hS hk (v := some w) (fun h => by rw [hret] at h; cases h) hnl
  have C' := C.trans (CHv.at X hZ hEL C.1)
  exact ⟨_, _, retOut X hx hret hn hi hd hr, hrun, hended, _, _, rfl, hq, C', hE.1, hE.2.1, hE.2.2.1, hE.2.2.2.mono hc hs⟩
theorem own_retW0 (X : Stand p l e R (s.setVm vm0) m args below meth c T locs cells slots) (hx : p.tables.exec = Jvm.exec) (hnl : meth.locks = false) (hZ : Z.Warmed39 vm0) (hEL : EW Z a0 EL) {k0 : Nat} (hS : s.Since vm0 k0) (hk : k0 ≤ T.heap.size) (C : CHr Z EL s.vm s.heap vm0 T.heap)
    {pc : Nat} {Ls : Array Slot} (hret : meth.sig.returnType = none)
    (hd : decode c.code pc = .ok (.return_, 1)) {Q : Option Value → Heap → List Loc → Prop} {kc ks : Nat} (hq : Q none T.heap locs) (hc : cells ≤ kc) (hs : slots ≤ ks) : own_Go p.tables e below (own_PW below s Z EL Q kc ks) (T.setTop (mkF m pc Ls [])) := by
  obtain ⟨fs, hr, hrun, hended, hE⟩ := X.leaveW hS hk (v := none) (fun _ => rfl) hnl
  have C' := C.trans (CHv.at X hZ hEL C.1)
  exact ⟨_, _, X.returnOut hx hret hd hr, hrun, hended, _, _, rfl, hq, C', hE.1, hE.2.1, hE.2.2.1, hE.2.2.2.mono hc hs⟩
theorem own_backSH {y : MethodName} {bytes : ByteArray} {maxL : Nat} {ret : Option FieldType} {rm : Room} {len W : Nat} {as' : Array Value} {Q : Option Value → Heap → List Loc → Prop} {xs : List Addr}
    (hM : MetFree l y (head1 [Cond.code y bytes maxL ret] rm) (fun a U => a = as' ∧ Z.Warmed39 U.vm ∧ U.heap = h ∧ CHv Z EL U.vm h ∧ ∀ x ∈ xs, Safe Z EL U.vm h x) (fun _ _ _ _ _ => True) (fun _ U o U' => ∃ v L, o = .returned v ∧ Q v U'.heap L ∧ CHr Z EL U.vm U.heap U'.vm U'.heap ∧ ReturnedEndW U o U' L rm.cells rm.slots))
    (hZ : Z.Warmed39 vm0) (wc : (Cond.code y bytes maxL ret).before a0 Z = true) (wz : (Cond.initialized y.cls).before a0 Z = true) (hf : rm.frames + 1 ≤ R.frames) (hl : W + (maxL + 11) + rm.locals ≤ R.locals) (hEL : EW Z a0 EL) (H : CHv Z EL vm0 h) (hxs : ∀ x ∈ xs, x < h.size ∧ Safe Z EL vm0 h x) :
    BackS l R p e below (s.setVm vm0) args y len W (fun A a => a = as' ∧ A.U.heap = h ∧ A.cells + rm.cells ≤ R.cells ∧ A.slots + rm.slots ≤ R.slots)
      (fun A _ v B => ∃ L, Q v B.U.heap L ∧ B.locs = A.locs ++ L ∧ B.cells = A.cells + rm.cells ∧ B.slots = A.slots + rm.slots ∧ CHr Z EL vm0 h B.U.vm B.U.heap) :=
  BackS.of_freeW (bytes := bytes) (maxL := maxL) (ret := ret) (E := fun _ first o t L k n => k = rm.cells ∧ n = rm.slots ∧ (∃ v, o = .returned v ∧ Q v t.heap L) ∧ CHr Z EL first.vm first.heap t.vm t.heap) hM hf hl
    (fun m meth c A a Y hp => have hU : Z.Warmed39 A.U.vm := wtrans (s := s.setVm vm0) hZ Y.warmed
      ⟨by show (Cond.and _ .tt).before a A.U = true; rw [Cond.before_and, mv hU wc]; rfl, mv hU wc, mv hU wz, hp.2.2.1, hp.2.2.2⟩)
    (fun m meth c A a g mk Y hp => ⟨hp.1, wtrans (s := s.setVm vm0) hZ Y.warmed, hp.2.1, (CHv.at Y hZ hEL H).1, fun x hx => (CHv.at Y hZ hEL H).safe (hxs x hx).1 (hxs x hx).2⟩) (fun _ _ _ _ _ _ _ _ _ => trivial)
    (fun _ _ _ _ ⟨v, L, h1, h2, h3, h4⟩ => ⟨L, _, _, h4, rfl, rfl, ⟨v, h1, h2⟩, h3⟩)
    (fun m meth c A a g mk v t L k n Y hp _ _ ⟨e1, e2, ⟨v', e3, e4⟩, e5⟩ => by
      cases e3; subst e1 e2
      refine ⟨L, e4, rfl, rfl, rfl, (CHv.at Y hZ hEL H).trans ?_⟩
      rw [← hp.2.1]; exact e5)
theorem own_safeN {hb : Heap} {ws : List Addr} {x : Addr} (H : CHv Z EL vm0 hb) (K : Keep hb h ws) (hs : ∀ a ∈ ws, Safe Z EL vm0 hb a) (hx : hb.size ≤ x) : Safe Z EL vm0 h x := fun B => Safe.new hx ((H.keepStep K hs).2 _ B)
theorem own_sl0 {P : Addr → Prop} : ∀ x ∈ ([] : List Addr), P x := fun _ q => by cases q
theorem own_slS {P : Addr → Prop} {a : Addr} {as : List Addr} (h1 : P a) (h2 : ∀ x ∈ as, P x) : ∀ x ∈ a :: as, P x := fun x q => by
  cases q with
  | head => exact h1
  | tail _ q => exact h2 x q
end OwnH
section OwnH2
variable {Z : State} {h : Heap} {a : Addr} {k : ClassId} {ty : FieldType} {n : Nat} {f : Nat → Value} {EL : List (String × Nat)} {vm : Vm}
theorem own_A.ofArv {z : Int32} {vs : List Value} {d : Value} (F : Arv Z h a k ty z vs d) (hz : z.toNatClampNeg = n) (hn : n < 2 ^ 31) (hf : ∀ i, i < n → f i = vs.getD i d) : own_A Z h a k ty n f := by
  obtain ⟨c, A, r1, r2, r3, H, G⟩ := F
  refine ⟨c, A, r1, by rw [r2, hz], hn, fun i hi => ?_, fun i hi => ?_⟩
  · rw [hf i hi]; exact H i (by rw [r2, hz]; exact hi)
  · rw [hf i hi]; exact G i (by rw [r2, hz]; exact hi)
theorem own_safeA (hal : Z.vm.Alike vm) (F : own_A Z h a k ty n f) (ht : ty ≠ .byte) : Safe Z EL vm h a := by obtain ⟨c, A, -⟩ := F; exact Safe.arr hal A ht
end OwnH2

def own_EL : List (String × Nat) := [("java/lang/String", 7)]
theorem own_hEL {Z : State} {a0 : Array Value} (hw : ∀ d ∈ tables_1, d.before a0 Z = true) : EW Z a0 own_EL := (EW.cons (text := "") (hw _ (List.mem_of_getElem? (i := 34) rfl)) (by decide) EW.nil)
theorem own_wS {Z : State} {a0 : Array Value} (hw : ∀ d ∈ tables_1, d.before a0 Z = true) : ∀ a ∈ Bundle.stringAtoms, a.before a0 Z = true := by
  intro a ha
  simp only [Bundle.stringAtoms, List.mem_cons, List.not_mem_nil, or_false] at ha
  rcases ha with rfl | rfl | rfl | rfl | rfl | rfl | rfl
  · exact (hw _ (List.mem_of_getElem? (i := 6) rfl))
  · exact (hw _ (List.mem_of_getElem? (i := 5) rfl))
  · exact (hw _ (List.mem_of_getElem? (i := 23) rfl))
  · exact (hw _ (List.mem_of_getElem? (i := 33) rfl))
  · exact (hw _ (List.mem_of_getElem? (i := 31) rfl))
  · exact (hw _ (List.mem_of_getElem? (i := 35) rfl))
  · exact (hw _ (List.mem_of_getElem? (i := 36) rfl))
theorem own_d6_0 : decode jdk_52_method_21_code 0 = .ok (.iconst 0, 1) := by decide +kernel
theorem own_d6_1 : decode jdk_52_method_21_code 1 = .ok (.istore 5, 2) := by decide +kernel
theorem own_d6_3 : decode jdk_52_method_21_code 3 = .ok (.iload 5, 2) := by decide +kernel
theorem own_d6_5 : decode jdk_52_method_21_code 5 = .ok (.iload 4, 2) := by decide +kernel
theorem own_d6_7 : decode jdk_52_method_21_code 7 = .ok (.if_icmp .ge 37, 3) := by decide +kernel
theorem own_d6_10 : decode jdk_52_method_21_code 10 = .ok (.aload_n 0, 1) := by decide +kernel
theorem own_d6_11 : decode jdk_52_method_21_code 11 = .ok (.iload_n 1, 1) := by decide +kernel
theorem own_d6_12 : decode jdk_52_method_21_code 12 = .ok (.caload, 1) := by decide +kernel
theorem own_d6_13 : decode jdk_52_method_21_code 13 = .ok (.istore 6, 2) := by decide +kernel
theorem own_d6_15 : decode jdk_52_method_21_code 15 = .ok (.iload 6, 2) := by decide +kernel
theorem own_d6_17 : decode jdk_52_method_21_code 17 = .ok (.sipush 255, 3) := by decide +kernel
theorem own_d6_20 : decode jdk_52_method_21_code 20 = .ok (.if_icmp .le 6, 3) := by decide +kernel
theorem own_d6_23 : decode jdk_52_method_21_code 23 = .ok (.iload 5, 2) := by decide +kernel
theorem own_d6_25 : decode jdk_52_method_21_code 25 = .ok (.ireturn, 1) := by decide +kernel
theorem own_d6_26 : decode jdk_52_method_21_code 26 = .ok (.aload_n 2, 1) := by decide +kernel
theorem own_d6_27 : decode jdk_52_method_21_code 27 = .ok (.iload_n 3, 1) := by decide +kernel
theorem own_d6_28 : decode jdk_52_method_21_code 28 = .ok (.iload 6, 2) := by decide +kernel
theorem own_d6_30 : decode jdk_52_method_21_code 30 = .ok (.i2b, 1) := by decide +kernel
theorem own_d6_31 : decode jdk_52_method_21_code 31 = .ok (.bastore, 1) := by decide +kernel
theorem own_d6_32 : decode jdk_52_method_21_code 32 = .ok (.iinc 1 1, 3) := by decide +kernel
theorem own_d6_35 : decode jdk_52_method_21_code 35 = .ok (.iinc 3 1, 3) := by decide +kernel
theorem own_d6_38 : decode jdk_52_method_21_code 38 = .ok (.iinc 5 1, 3) := by decide +kernel
theorem own_d6_41 : decode jdk_52_method_21_code 41 = .ok (.goto (-38), 3) := by decide +kernel
theorem own_d6_44 : decode jdk_52_method_21_code 44 = .ok (.iload 4, 2) := by decide +kernel
theorem own_d6_46 : decode jdk_52_method_21_code 46 = .ok (.ireturn, 1) := by decide +kernel
theorem own_pn0 : plainName "java/lang/StringUTF16" = true := by first | (simp [plainName, overriddenIn]; done) | decide +kernel
theorem own_ef6 (m : MethodId) (x0 : Addr) (x1 : Int32) (x2 : Addr) (x3 : Int32) (x4 : Int32) : entryFrame m #[(.ref x0), (.int x1), (.ref x2), (.int x3), (.int x4)] 7 = mkF m 0 #[.val (.ref x0), .val (.int x1), .val (.ref x2), .val (.int x3), .val (.int x4), .unset, .unset] [] := by first | (simp [entryFrame, mkF, argsToLocals, Value.category]; done) | rfl
def own_Q6 (Z : State) (a1 : Addr) (a2 : Addr) (p_ : Int32) (k1 : ClassId) (k2 : ClassId) (n1 : Nat) (cs : Nat → Int32) (f2 : Nat → Int32) (h0 : Heap) (n0 : Nat) (v : Option Value) (h : Heap) (L : List Loc) : Prop := ∃ (j : Nat), v = some (.int (Int32.ofNat j)) ∧ Fr n0 L ∧ Keep h0 h [a2] ∧ own_A Z h a2 k2 .byte n1 (fun i => .int ((own_cb cs f2 j) i)) ∧ (j ≤ n1 ∧ (∀ q : Nat, q < j → ¬ (255 : Int32) < cs q) ∧ (j < n1 → (255 : Int32) < cs j))
set_option maxRecDepth 65536 in
set_option maxHeartbeats 40000000 in
theorem own_rm6 (l : Launch) (Z : State) (a0 : Array Value) (hw : ∀ d ∈ tables_1, d.before a0 Z = true) (ws : List Jvm.Cond) (a1 : Addr) (a2 : Addr) (p_ : Int32) (k1 : ClassId) (k2 : ClassId) (n1 : Nat) (cs : Nat → Int32) (f2 : Nat → Int32) (h0 : Heap) (n0 : Nat) (Z0 : n0 ≤ h0.size) (q0 : own_A Z h0 a1 k1 .char n1 (fun i => .int (cs i))) (q1 : own_A Z h0 a2 k2 .byte n1 (fun i => .int (f2 i))) (q2 : n0 ≤ a2) (hne : (a1 ≠ a2)) (hp : (p_.toInt = (n1 : Int) ∧ n1 ≤ 4000)) :
    MetFree l (⟨"java/lang/StringUTF16", "compress", "([CI[BII)I"⟩ : MethodName) (head1 (Jvm.Cond.code (⟨"java/lang/StringUTF16", "compress", "([CI[BII)I"⟩ : MethodName) jdk_52_method_21_code 7 (some .int) :: ws) ({ frames := 0, cells := 0, slots := 0, locals := 0 } : Room)) (fun a U => a = #[(.ref a1), (.int (0 : Int32)), (.ref a2), (.int (0 : Int32)), (.int p_)] ∧ Z.Warmed39 U.vm ∧ U.heap = h0) (fun _ _ _ _ _ => True) (fun _ U o U' => ∃ v L, o = .returned v ∧ own_Q6 Z a1 a2 p_ k1 k2 n1 cs f2 h0 n0 v U'.heap L ∧ FrameEnd U o U' L ({ frames := 0, cells := 0, slots := 0, locals := 0 } : Room).cells ({ frames := 0, cells := 0, slots := 0, locals := 0 } : Room).slots) := by
  refine MetFree.of_bodySF (plainFor_of_name own_pn0) hisR ?_
  intro p e s m args below meth c s₁ Bd hml0 hP hK
  obtain ⟨rfl, hZ, hh⟩ := hP
  have hx := Bd.exec
  have hby := Bd.bytes
  have hml : c.maxLocals = 7 := hml0
  have hown : s.vm.findClass "java/lang/StringUTF16" = some m.cls := findClass_of_methodNamed Bd.named
  have hnm := (name_of_methodNamed Bd.named Bd.method).1
  have hnl : meth.locks = false := Bd.notSynchronized
  have X0 : Stand p l e ({ frames := 0, cells := 0, slots := 0, locals := 0 } : Room) s m #[(.ref a1), (.int (0 : Int32)), (.ref a2), (.int (0 : Int32)), (.int p_)] below meth c s₁ [] 0 0 := Stand.of_body Bd
  have e0 : s₁.heap = h0 := by rw [← hh, Bd.state]; rfl
  have N0 := Fr.nil n0
  show own_Go p.tables e below (own_P below s (own_Q6 Z a1 a2 p_ k1 k2 n1 cs f2 h0 n0) ({ frames := 0, cells := 0, slots := 0, locals := 0 } : Room).cells ({ frames := 0, cells := 0, slots := 0, locals := 0 } : Room).slots) _
  refine own_st (fun t_ k_ => castTop (own_ef6 m a1 (0 : Int32) a2 (0 : Int32) p_) k_) ?_
  show own_Go p.tables e below _ (s₁.setTop (mkF m 0 #[.val (.ref a1), .val (.int (0 : Int32)), .val (.ref a2), .val (.int (0 : Int32)), .val (.int p_), .unset, .unset] []))
  refine own_st (fun t_ k_ => XS.iconst X0.here hx rfl (hb hby own_d6_0) k_) ?_
  show own_Go p.tables e below _ (s₁.setTop (mkF m 1 #[.val (.ref a1), .val (.int (0 : Int32)), .val (.ref a2), .val (.int (0 : Int32)), .val (.int p_), .unset, .unset] [(.int (0 : Int32))]))
  refine own_st (fun t_ k_ => XS.istore X0.here hx rfl (hb hby own_d6_1) rfl (l' := #[.val (.ref a1), .val (.int (0 : Int32)), .val (.ref a2), .val (.int (0 : Int32)), .val (.int p_), .val (.int (0 : Int32)), .unset]) rfl k_) ?_
  show own_Go p.tables e below _ (s₁.setTop (mkF m 3 #[.val (.ref a1), .val (.int (0 : Int32)), .val (.ref a2), .val (.int (0 : Int32)), .val (.int p_), .val (.int (0 : Int32)), .unset] []))
  have qb0 : own_A Z h0 a2 k2 .byte n1 (fun i => .int ((own_cb cs f2 0) i)) := q1.congr (fun q _ => by simp [own_cb])
  have loop101 : ∀ (mm : Nat) (k : Nat) (i : Int32) (s6 : Slot) (T101 : State) (Lo101 : List Loc) (h101 : Heap), n1 - k = mm → Stand p l e ({ frames := 0, cells := 0, slots := 0, locals := 0 } : Room) s m #[(.ref a1), (.int (0 : Int32)), (.ref a2), (.int (0 : Int32)), (.int p_)] below meth c T101 Lo101 0 0 → T101.heap = h101 → Fr n0 Lo101 → Keep h0 h101 [a2] → own_A Z h101 a1 k1 .char n1 (fun i => .int (cs i)) → own_A Z h101 a2 k2 .byte n1 (fun i => .int ((own_cb cs f2 k) i)) → (i.toInt = (k : Int)) → (k ≤ n1) → (One s6) → (∀ q : Nat, q < k → ¬ (255 : Int32) < cs q) → own_Go p.tables e below (own_P below s (own_Q6 Z a1 a2 p_ k1 k2 n1 cs f2 h0 n0) ({ frames := 0, cells := 0, slots := 0, locals := 0 } : Room).cells ({ frames := 0, cells := 0, slots := 0, locals := 0 } : Room).slots) (T101.setTop (mkF m 3 #[.val (.ref a1), .val (.int i), .val (.ref a2), .val (.int i), .val (.int p_), .val (.int i), s6] [])) := by
    intro mm
    induction mm using Nat.strongRecOn with
    | _ mm ih101 =>
      intro k i s6 T101 Lo101 h101 hm101 X101 e101 N101 K101 fa101_0 fa101_1 hi hk hs6 hall
      show own_Go p.tables e below _ (T101.setTop (mkF m 3 #[.val (.ref a1), .val (.int i), .val (.ref a2), .val (.int i), .val (.int p_), .val (.int i), s6] []))
      refine own_st (fun t_ k_ => XS.iload X101.here hx rfl (hb hby own_d6_3) rfl k_) ?_
      show own_Go p.tables e below _ (T101.setTop (mkF m 5 #[.val (.ref a1), .val (.int i), .val (.ref a2), .val (.int i), .val (.int p_), .val (.int i), s6] [(.int i)]))
      refine own_st (fun t_ k_ => XS.iload X101.here hx rfl (hb hby own_d6_5) rfl k_) ?_
      show own_Go p.tables e below _ (T101.setTop (mkF m 7 #[.val (.ref a1), .val (.int i), .val (.ref a2), .val (.int i), .val (.int p_), .val (.int i), s6] [(.int p_), (.int i)]))
      by_cases c7_102 : i < p_
      · skip
        have hkn : k < n1 := (own_ltp hi hp.1).mp c7_102
        refine own_st (fun t_ k_ => XS.icmpNo X101.here hx rfl (hb hby own_d6_7) rfl (tlt c7_102).2.1 k_) ?_
        show own_Go p.tables e below _ (T101.setTop (mkF m 10 #[.val (.ref a1), .val (.int i), .val (.ref a2), .val (.int i), .val (.int p_), .val (.int i), s6] []))
        refine own_st (fun t_ k_ => XS.aloadN X101.here hx rfl (hb hby own_d6_10) rfl rfl k_) ?_
        show own_Go p.tables e below _ (T101.setTop (mkF m 11 #[.val (.ref a1), .val (.int i), .val (.ref a2), .val (.int i), .val (.int p_), .val (.int i), s6] [(.ref a1)]))
        refine own_st (fun t_ k_ => XS.iloadN X101.here hx rfl (hb hby own_d6_11) rfl k_) ?_
        show own_Go p.tables e below _ (T101.setTop (mkF m 12 #[.val (.ref a1), .val (.int i), .val (.ref a2), .val (.int i), .val (.int p_), .val (.int i), s6] [(.int i), (.ref a1)]))
        refine own_st (own_caload X101 hx hZ e101 fa101_0 (i := k) hi hkn (g := (mkF m 12 #[.val (.ref a1), .val (.int i), .val (.ref a2), .val (.int i), .val (.int p_), .val (.int i), s6] [(.int i), (.ref a1)])) rfl rfl (hb hby own_d6_12)) ?_
        show own_Go p.tables e below _ (T101.setTop (mkF m 13 #[.val (.ref a1), .val (.int i), .val (.ref a2), .val (.int i), .val (.int p_), .val (.int i), s6] [(.int (cs k))]))
        refine own_st (fun t_ k_ => XS.istoreS X101.here hx rfl (hb hby own_d6_13) rfl rfl hs6 k_) ?_
        show own_Go p.tables e below _ (T101.setTop (mkF m 15 #[.val (.ref a1), .val (.int i), .val (.ref a2), .val (.int i), .val (.int p_), .val (.int i), .val (.int (cs k))] []))
        refine own_st (fun t_ k_ => XS.iload X101.here hx rfl (hb hby own_d6_15) rfl k_) ?_
        show own_Go p.tables e below _ (T101.setTop (mkF m 17 #[.val (.ref a1), .val (.int i), .val (.ref a2), .val (.int i), .val (.int p_), .val (.int i), .val (.int (cs k))] [(.int (cs k))]))
        refine own_st (fun t_ k_ => XS.sipush X101.here hx rfl (hb hby own_d6_17) k_) ?_
        show own_Go p.tables e below _ (T101.setTop (mkF m 20 #[.val (.ref a1), .val (.int i), .val (.ref a2), .val (.int i), .val (.int p_), .val (.int i), .val (.int (cs k))] [(.int (255 : Int32)), (.int (cs k))]))
        by_cases c20_103 : (255 : Int32) < (cs k)
        · skip
          have hle := c20_103
          refine own_st (fun t_ k_ => XS.icmpNo X101.here hx rfl (hb hby own_d6_20) rfl (tlt c20_103).2.2.2 k_) ?_
          show own_Go p.tables e below _ (T101.setTop (mkF m 23 #[.val (.ref a1), .val (.int i), .val (.ref a2), .val (.int i), .val (.int p_), .val (.int i), .val (.int (cs k))] []))
          refine own_st (fun t_ k_ => XS.iload X101.here hx rfl (hb hby own_d6_23) rfl k_) ?_
          show own_Go p.tables e below _ (T101.setTop (mkF m 25 #[.val (.ref a1), .val (.int i), .val (.ref a2), .val (.int i), .val (.int p_), .val (.int i), .val (.int (cs k))] [(.int i)]))
          exact own_ret (w := (.int i)) X101 hx hnl Bd.returns rfl (Or.inl ⟨rfl, by decide, _, rfl⟩) (hb hby own_d6_25) ⟨k, (by rw [own_asN hi]), N101, (by rw [e101]; exact K101), (by rw [e101]; exact fa101_1), ⟨hk, hall, fun _ => hle⟩⟩ (by decide) (by decide)
        · skip
          have hle := c20_103
          refine own_st (fun t_ k_ => XS.icmpYes X101.here hx rfl (pc0 := 20) (pc' := 26) rfl (hb hby own_d6_20) rfl (flt c20_103).2.2.2 (by decide) (by decide) k_) ?_
          show own_Go p.tables e below _ (T101.setTop (mkF m 26 #[.val (.ref a1), .val (.int i), .val (.ref a2), .val (.int i), .val (.int p_), .val (.int i), .val (.int (cs k))] []))
          refine own_st (fun t_ k_ => XS.aloadN X101.here hx rfl (hb hby own_d6_26) rfl rfl k_) ?_
          show own_Go p.tables e below _ (T101.setTop (mkF m 27 #[.val (.ref a1), .val (.int i), .val (.ref a2), .val (.int i), .val (.int p_), .val (.int i), .val (.int (cs k))] [(.ref a2)]))
          refine own_st (fun t_ k_ => XS.iloadN X101.here hx rfl (hb hby own_d6_27) rfl k_) ?_
          show own_Go p.tables e below _ (T101.setTop (mkF m 28 #[.val (.ref a1), .val (.int i), .val (.ref a2), .val (.int i), .val (.int p_), .val (.int i), .val (.int (cs k))] [(.int i), (.ref a2)]))
          refine own_st (fun t_ k_ => XS.iload X101.here hx rfl (hb hby own_d6_28) rfl k_) ?_
          show own_Go p.tables e below _ (T101.setTop (mkF m 30 #[.val (.ref a1), .val (.int i), .val (.ref a2), .val (.int i), .val (.int p_), .val (.int i), .val (.int (cs k))] [(.int (cs k)), (.int i), (.ref a2)]))
          refine own_st (fun t_ k_ => XS.i2b X101.here hx rfl (hb hby own_d6_30) rfl k_) ?_
          show own_Go p.tables e below _ (T101.setTop (mkF m 31 #[.val (.ref a1), .val (.int i), .val (.ref a2), .val (.int i), .val (.int p_), .val (.int i), .val (.int (cs k))] [(.int ((cs k).toInt8.toInt32)), (.int i), (.ref a2)]))
          obtain ⟨T104, h104, X104, e104, W104, Aw104, st104⟩ := own_bastore X101 hx hZ e101 fa101_1 (i := k) hi hkn (own_narb _) (v' := ((cs k).toInt8.toInt32)) (g := (mkF m 31 #[.val (.ref a1), .val (.int i), .val (.ref a2), .val (.int i), .val (.int p_), .val (.int i), .val (.int (cs k))] [(.int ((cs k).toInt8.toInt32)), (.int i), (.ref a2)])) rfl rfl (hb hby own_d6_31)
          have N104 := Fr.snoc X104 N101 q2
          have K104 : Keep h0 h104 [a2] := K101.wr W104 (Or.inl (List.mem_of_getElem? (i := 0) rfl))
          refine own_st (st104) ?_
          show own_Go p.tables e below _ (T104.setTop (mkF m 32 #[.val (.ref a1), .val (.int i), .val (.ref a2), .val (.int i), .val (.int p_), .val (.int i), .val (.int (cs k))] []))
          have Ac105 : own_A Z h104 a2 k2 .byte n1 (fun i => .int ((own_cb cs f2 (k + 1)) i)) := Aw104.congr (fun q _ => by rw [own_cb_up])
          refine own_st (fun t_ k_ => XS.iinc X104.here hx rfl (hb hby own_d6_32) rfl (l' := #[.val (.ref a1), .val (.int (i + (1 : Int32))), .val (.ref a2), .val (.int i), .val (.int p_), .val (.int i), .val (.int (cs k))]) rfl k_) ?_
          show own_Go p.tables e below _ (T104.setTop (mkF m 35 #[.val (.ref a1), .val (.int (i + (1 : Int32))), .val (.ref a2), .val (.int i), .val (.int p_), .val (.int i), .val (.int (cs k))] []))
          refine own_st (fun t_ k_ => XS.iinc X104.here hx rfl (hb hby own_d6_35) rfl (l' := #[.val (.ref a1), .val (.int (i + (1 : Int32))), .val (.ref a2), .val (.int (i + (1 : Int32))), .val (.int p_), .val (.int i), .val (.int (cs k))]) rfl k_) ?_
          show own_Go p.tables e below _ (T104.setTop (mkF m 38 #[.val (.ref a1), .val (.int (i + (1 : Int32))), .val (.ref a2), .val (.int (i + (1 : Int32))), .val (.int p_), .val (.int i), .val (.int (cs k))] []))
          refine own_st (fun t_ k_ => XS.iinc X104.here hx rfl (hb hby own_d6_38) rfl (l' := #[.val (.ref a1), .val (.int (i + (1 : Int32))), .val (.ref a2), .val (.int (i + (1 : Int32))), .val (.int p_), .val (.int (i + (1 : Int32))), .val (.int (cs k))]) rfl k_) ?_
          show own_Go p.tables e below _ (T104.setTop (mkF m 41 #[.val (.ref a1), .val (.int (i + (1 : Int32))), .val (.ref a2), .val (.int (i + (1 : Int32))), .val (.int p_), .val (.int (i + (1 : Int32))), .val (.int (cs k))] []))
          refine own_st (fun t_ k_ => XS.goto X104.here hx rfl (pc0 := 41) (pc' := 3) rfl (hb hby own_d6_41) (by decide) (by decide) k_) ?_
          show own_Go p.tables e below _ (T104.setTop (mkF m 3 #[.val (.ref a1), .val (.int (i + (1 : Int32))), .val (.ref a2), .val (.int (i + (1 : Int32))), .val (.int p_), .val (.int (i + (1 : Int32))), .val (.int (cs k))] []))
          exact ih101 _ (by omega) (k + 1) (i + (1 : Int32)) (.val (.int (cs k))) T104 _ h104 rfl X104 e104 N104 K104 ((fa101_0.other W104 hne)) (Ac105) (own_inc hi (by omega)) (by omega) (One.val rfl) (fun q hq => by by_cases e_ : q = k; exact e_ ▸ hle; exact hall q (by omega))
      · skip
        have hkn : k = n1 := by have q := mt (own_ltp hi hp.1).mpr c7_102; omega
        have Af : own_A Z h101 a2 k2 .byte n1 (fun i => .int ((own_cb cs f2 n1) i)) := fa101_1.congr (fun q _ => by rw [hkn])
        refine own_st (fun t_ k_ => XS.icmpYes X101.here hx rfl (pc0 := 7) (pc' := 44) rfl (hb hby own_d6_7) rfl (flt c7_102).2.1 (by decide) (by decide) k_) ?_
        show own_Go p.tables e below _ (T101.setTop (mkF m 44 #[.val (.ref a1), .val (.int i), .val (.ref a2), .val (.int i), .val (.int p_), .val (.int i), s6] []))
        refine own_st (fun t_ k_ => XS.iload X101.here hx rfl (hb hby own_d6_44) rfl k_) ?_
        show own_Go p.tables e below _ (T101.setTop (mkF m 46 #[.val (.ref a1), .val (.int i), .val (.ref a2), .val (.int i), .val (.int p_), .val (.int i), s6] [(.int p_)]))
        exact own_ret (w := (.int p_)) X101 hx hnl Bd.returns rfl (Or.inl ⟨rfl, by decide, _, rfl⟩) (hb hby own_d6_46) ⟨n1, (by rw [own_asN hp.1]), N101, (by rw [e101]; exact K101), (by rw [e101]; exact Af), ⟨Nat.le_refl _, fun q hq => hall q (by omega), fun h_ => absurd h_ (Nat.lt_irrefl _)⟩⟩ (by decide) (by decide)
  exact loop101 _ 0 (0 : Int32) .unset s₁ _ h0 rfl X0 e0 N0 (Keep.refl h0 [a2]) (q0) (qb0) (by decide) (Nat.zero_le _) One.u (fun q hq => absurd hq (Nat.not_lt_zero _))

theorem own_d7_0 : decode jdk_52_method_15_code 0 = .ok (.iload_n 1, 1) := by decide +kernel
theorem own_d7_1 : decode jdk_52_method_15_code 1 = .ok (.aload_n 0, 1) := by decide +kernel
theorem own_d7_2 : decode jdk_52_method_15_code 2 = .ok (.arraylength, 1) := by decide +kernel
theorem own_d7_3 : decode jdk_52_method_15_code 3 = .ok (.isub, 1) := by decide +kernel
theorem own_d7_4 : decode jdk_52_method_15_code 4 = .ok (.bipush 31, 2) := by decide +kernel
theorem own_d7_6 : decode jdk_52_method_15_code 6 = .ok (.iushr, 1) := by decide +kernel
theorem own_d7_7 : decode jdk_52_method_15_code 7 = .ok (.i2b, 1) := by decide +kernel
theorem own_d7_8 : decode jdk_52_method_15_code 8 = .ok (.ireturn, 1) := by decide +kernel
theorem own_ef7 (m : MethodId) (x0 : Addr) (x1 : Int32) : entryFrame m #[(.ref x0), (.int x1)] 2 = mkF m 0 #[.val (.ref x0), .val (.int x1)] [] := by first | (simp [entryFrame, mkF, argsToLocals, Value.category]; done) | rfl
def own_Q7 (Z : State) (t : Addr) (p_ : Int32) (kt : ClassId) (cd : Int32) (n1 : Nat) (gb : Nat → Int32) (h0 : Heap) (n0 : Nat) (v : Option Value) (h : Heap) (L : List Loc) : Prop := v = some (.int cd) ∧ Fr n0 L ∧ h = h0
set_option maxRecDepth 65536 in
set_option maxHeartbeats 40000000 in
theorem own_rm7 (l : Launch) (Z : State) (a0 : Array Value) (hw : ∀ d ∈ tables_1, d.before a0 Z = true) (ws : List Jvm.Cond) (t : Addr) (p_ : Int32) (kt : ClassId) (cd : Int32) (n1 : Nat) (gb : Nat → Int32) (h0 : Heap) (n0 : Nat) (Z0 : n0 ≤ h0.size) (q0 : own_A Z h0 t kt .byte (own_bl cd n1) (fun i => .int (gb i))) (hcd : (cd = 0 ∨ cd = 1)) (hp : (p_.toInt = (n1 : Int) ∧ 1 ≤ n1 ∧ n1 < 100000)) :
    MetFree l (⟨"java/lang/StringUTF16", "coderFromArrayLen", "([BI)B"⟩ : MethodName) (head1 (Jvm.Cond.code (⟨"java/lang/StringUTF16", "coderFromArrayLen", "([BI)B"⟩ : MethodName) jdk_52_method_15_code 2 (some .byte) :: ws) ({ frames := 0, cells := 0, slots := 0, locals := 0 } : Room)) (fun a U => a = #[(.ref t), (.int p_)] ∧ Z.Warmed39 U.vm ∧ U.heap = h0) (fun _ _ _ _ _ => True) (fun _ U o U' => ∃ v L, o = .returned v ∧ own_Q7 Z t p_ kt cd n1 gb h0 n0 v U'.heap L ∧ FrameEnd U o U' L ({ frames := 0, cells := 0, slots := 0, locals := 0 } : Room).cells ({ frames := 0, cells := 0, slots := 0, locals := 0 } : Room).slots) := by
  refine MetFree.of_bodySF (plainFor_of_name own_pn0) hisR ?_
  intro p e s m args below meth c s₁ Bd hml0 hP hK
  obtain ⟨rfl, hZ, hh⟩ := hP
  have hx := Bd.exec
  have hby := Bd.bytes
  have hml : c.maxLocals = 2 := hml0
  have hown : s.vm.findClass "java/lang/StringUTF16" = some m.cls := findClass_of_methodNamed Bd.named
  have hnm := (name_of_methodNamed Bd.named Bd.method).1
  have hnl : meth.locks = false := Bd.notSynchronized
  have X0 : Stand p l e ({ frames := 0, cells := 0, slots := 0, locals := 0 } : Room) s m #[(.ref t), (.int p_)] below meth c s₁ [] 0 0 := Stand.of_body Bd
  have e0 : s₁.heap = h0 := by rw [← hh, Bd.state]; rfl
  have N0 := Fr.nil n0
  show own_Go p.tables e below (own_P below s (own_Q7 Z t p_ kt cd n1 gb h0 n0) ({ frames := 0, cells := 0, slots := 0, locals := 0 } : Room).cells ({ frames := 0, cells := 0, slots := 0, locals := 0 } : Room).slots) _
  refine own_st (fun t_ k_ => castTop (own_ef7 m t p_) k_) ?_
  show own_Go p.tables e below _ (s₁.setTop (mkF m 0 #[.val (.ref t), .val (.int p_)] []))
  refine own_st (fun t_ k_ => XS.iloadN X0.here hx rfl (hb hby own_d7_0) rfl k_) ?_
  show own_Go p.tables e below _ (s₁.setTop (mkF m 1 #[.val (.ref t), .val (.int p_)] [(.int p_)]))
  refine own_st (fun t_ k_ => XS.aloadN X0.here hx rfl (hb hby own_d7_1) rfl rfl k_) ?_
  show own_Go p.tables e below _ (s₁.setTop (mkF m 2 #[.val (.ref t), .val (.int p_)] [(.ref t), (.int p_)]))
  refine own_st (own_len X0 hx hZ e0 q0 (g := (mkF m 2 #[.val (.ref t), .val (.int p_)] [(.ref t), (.int p_)])) rfl rfl (hb hby own_d7_2)) ?_
  show own_Go p.tables e below _ (s₁.setTop (mkF m 3 #[.val (.ref t), .val (.int p_)] [(.int (Int32.ofNat (own_bl cd n1))), (.int p_)]))
  refine own_st (fun t_ k_ => XS.isub X0.here hx rfl (hb hby own_d7_3) rfl k_) ?_
  show own_Go p.tables e below _ (s₁.setTop (mkF m 4 #[.val (.ref t), .val (.int p_)] [(.int (p_ - (Int32.ofNat (own_bl cd n1))))]))
  refine own_st (fun t_ k_ => XS.bipush X0.here hx rfl (hb hby own_d7_4) k_) ?_
  show own_Go p.tables e below _ (s₁.setTop (mkF m 6 #[.val (.ref t), .val (.int p_)] [(.int (31 : Int32)), (.int (p_ - (Int32.ofNat (own_bl cd n1))))]))
  refine own_st (fun t_ k_ => XS.iushr X0.here hx rfl (hb hby own_d7_6) rfl k_) ?_
  show own_Go p.tables e below _ (s₁.setTop (mkF m 7 #[.val (.ref t), .val (.int p_)] [(.int (((p_ - (Int32.ofNat (own_bl cd n1))).toUInt32 >>> ((31 : Int32) &&& 31).toUInt32).toInt32))]))
  refine own_st (fun t_ k_ => XS.i2b X0.here hx rfl (hb hby own_d7_7) rfl k_) ?_
  show own_Go p.tables e below _ (s₁.setTop (mkF m 8 #[.val (.ref t), .val (.int p_)] [(.int ((((p_ - (Int32.ofNat (own_bl cd n1))).toUInt32 >>> ((31 : Int32) &&& 31).toUInt32).toInt32).toInt8.toInt32))]))
  rw [show ((((p_ - (Int32.ofNat (own_bl cd n1))).toUInt32 >>> ((31 : Int32) &&& 31).toUInt32).toInt32).toInt8.toInt32) = cd from own_cdl hcd hp.1 hp.2]
  show own_Go p.tables e below _ (s₁.setTop (mkF m 8 #[.val (.ref t), .val (.int p_)] [(.int cd)]))
  exact own_ret (w := (.int cd)) X0 hx hnl Bd.returns (own_nw01 hcd) (Or.inl ⟨rfl, by decide, _, rfl⟩) (hb hby own_d7_8) ⟨rfl, N0, e0⟩ (by decide) (by decide)

theorem own_d5_0 : decode jdk_52_method_16_code 0 = .ok (.iload_n 2, 1) := by decide +kernel
theorem own_d5_1 : decode jdk_52_method_16_code 1 = .ok (.newarray .byte, 2) := by decide +kernel
theorem own_d5_3 : decode jdk_52_method_16_code 3 = .ok (.astore_n 3, 1) := by decide +kernel
theorem own_d5_4 : decode jdk_52_method_16_code 4 = .ok (.aload_n 0, 1) := by decide +kernel
theorem own_d5_5 : decode jdk_52_method_16_code 5 = .ok (.iload_n 1, 1) := by decide +kernel
theorem own_d5_6 : decode jdk_52_method_16_code 6 = .ok (.aload_n 3, 1) := by decide +kernel
theorem own_d5_7 : decode jdk_52_method_16_code 7 = .ok (.iconst 0, 1) := by decide +kernel
theorem own_d5_8 : decode jdk_52_method_16_code 8 = .ok (.iload_n 2, 1) := by decide +kernel
theorem own_d5_9 : decode jdk_52_method_16_code 9 = .ok (.invokestatic 115, 3) := by decide +kernel
theorem own_d5_12 : decode jdk_52_method_16_code 12 = .ok (.istore 4, 2) := by decide +kernel
theorem own_d5_14 : decode jdk_52_method_16_code 14 = .ok (.iload 4, 2) := by decide +kernel
theorem own_d5_16 : decode jdk_52_method_16_code 16 = .ok (.iload_n 2, 1) := by decide +kernel
theorem own_d5_17 : decode jdk_52_method_16_code 17 = .ok (.if_icmp .eq 40, 3) := by decide +kernel
theorem own_d5_57 : decode jdk_52_method_16_code 57 = .ok (.aload_n 3, 1) := by decide +kernel
theorem own_d5_58 : decode jdk_52_method_16_code 58 = .ok (.areturn, 1) := by decide +kernel
theorem own_pd0 : parseMethodDescriptor "([CI[BII)I" = some ⟨[(.array .char), .int, (.array .byte), .int, .int], some .int⟩ := by decide +kernel
theorem own_ef5 (m : MethodId) (x0 : Addr) (x1 : Int32) (x2 : Int32) : entryFrame m #[(.ref x0), (.int x1), (.int x2)] 6 = mkF m 0 #[.val (.ref x0), .val (.int x1), .val (.int x2), .unset, .unset, .unset] [] := by first | (simp [entryFrame, mkF, argsToLocals, Value.category]; done) | rfl
def own_Q5 (Z : State) (a1 : Addr) (p_ : Int32) (k1 : ClassId) (n1 : Nat) (cs : Nat → Int32) (h0 : Heap) (n0 : Nat) (v : Option Value) (h : Heap) (L : List Loc) : Prop := ∃ (t : Addr) (kt : ClassId) (cd : Int32), v = some (.ref t) ∧ Fr n0 L ∧ Keep h0 h [] ∧ h0.size ≤ t ∧ own_A Z h t kt .byte (own_bl cd n1) (fun i => .int ((own_by cd cs) i)) ∧ ((cd = 0 ∧ ∀ q : Nat, q < n1 → ¬ (255 : Int32) < cs q) ∨ cd = 1)
set_option maxRecDepth 65536 in
set_option maxHeartbeats 40000000 in
theorem own_rm5 (l : Launch) (Z : State) (a0 : Array Value) (hw : ∀ d ∈ tables_1, d.before a0 Z = true) (ws : List Jvm.Cond) (a1 : Addr) (p_ : Int32) (k1 : ClassId) (n1 : Nat) (cs : Nat → Int32) (h0 : Heap) (n0 : Nat) (Z0 : n0 ≤ h0.size) (q0 : own_A Z h0 a1 k1 .char n1 (fun i => .int (cs i))) (hp : (p_.toInt = (n1 : Int) ∧ 1 ≤ n1 ∧ n1 ≤ 3)) (hlat : (∀ q : Nat, q < n1 → ¬ (255 : Int32) < cs q)) :
    MetFree l (⟨"java/lang/StringUTF16", "compress", "([CII)[B"⟩ : MethodName) (head1 (Jvm.Cond.code (⟨"java/lang/StringUTF16", "compress", "([CII)[B"⟩ : MethodName) jdk_52_method_16_code 6 (some (.array .byte)) :: ws) ({ frames := 1, cells := 1, slots := 3, locals := 18 } : Room)) (fun a U => a = #[(.ref a1), (.int (0 : Int32)), (.int p_)] ∧ Z.Warmed39 U.vm ∧ U.heap = h0) (fun _ _ _ _ _ => True) (fun _ U o U' => ∃ v L, o = .returned v ∧ own_Q5 Z a1 p_ k1 n1 cs h0 n0 v U'.heap L ∧ FrameEnd U o U' L ({ frames := 1, cells := 1, slots := 3, locals := 18 } : Room).cells ({ frames := 1, cells := 1, slots := 3, locals := 18 } : Room).slots) := by
  refine MetFree.of_bodySF (plainFor_of_name own_pn0) hisR ?_
  intro p e s m args below meth c s₁ Bd hml0 hP hK
  obtain ⟨rfl, hZ, hh⟩ := hP
  have hx := Bd.exec
  have hby := Bd.bytes
  have hml : c.maxLocals = 6 := hml0
  have hown : s.vm.findClass "java/lang/StringUTF16" = some m.cls := findClass_of_methodNamed Bd.named
  have hnm := (name_of_methodNamed Bd.named Bd.method).1
  have hnl : meth.locks = false := Bd.notSynchronized
  have X0 : Stand p l e ({ frames := 1, cells := 1, slots := 3, locals := 18 } : Room) s m #[(.ref a1), (.int (0 : Int32)), (.int p_)] below meth c s₁ [] 0 0 := Stand.of_body Bd
  have e0 : s₁.heap = h0 := by rw [← hh, Bd.state]; rfl
  have N0 := Fr.nil n0
  show own_Go p.tables e below (own_P below s (own_Q5 Z a1 p_ k1 n1 cs h0 n0) ({ frames := 1, cells := 1, slots := 3, locals := 18 } : Room).cells ({ frames := 1, cells := 1, slots := 3, locals := 18 } : Room).slots) _
  refine own_st (fun t_ k_ => castTop (own_ef5 m a1 (0 : Int32) p_) k_) ?_
  show own_Go p.tables e below _ (s₁.setTop (mkF m 0 #[.val (.ref a1), .val (.int (0 : Int32)), .val (.int p_), .unset, .unset, .unset] []))
  refine own_st (fun t_ k_ => XS.iloadN X0.here hx rfl (hb hby own_d5_0) rfl k_) ?_
  show own_Go p.tables e below _ (s₁.setTop (mkF m 1 #[.val (.ref a1), .val (.int (0 : Int32)), .val (.int p_), .unset, .unset, .unset] [(.int p_)]))
  obtain ⟨T106, h106, k106, X106, e106, E106, A106, st106⟩ := newP X0 hx hZ (hw _ (List.mem_of_getElem? (i := 23) rfl)) e0 (g := (mkF m 1 #[.val (.ref a1), .val (.int (0 : Int32)), .val (.int p_), .unset, .unset, .unset] [(.int p_)])) rfl (hb hby own_d5_1) rfl (own_nn hp.1) (cap := 3) (own_cl hp.1 hp.2.2) (by decide) (by decide) (by decide)
  obtain ⟨b106, g106⟩ : ∃ z, z = h0.size := ⟨_, rfl⟩
  rw [← g106] at A106 st106
  have fr106 : h0.size ≤ b106 := Nat.le_trans (Keep.refl h0 []).1 (Nat.le_of_eq g106.symm)
  have ge106 : n0 ≤ b106 := Nat.le_trans Z0 fr106
  have K106 : Keep h0 h106 [] := (Keep.refl h0 []).ext E106
  have Ar106 : own_A Z h106 b106 k106 .byte n1 (fun i => .int ((fun _ => (0 : Int32)) i)) := own_A.new A106 (own_asN hp.1) (own_nn hp.1) (hn := by omega)
  refine own_st (st106) ?_
  show own_Go p.tables e below _ (T106.setTop (mkF m 3 #[.val (.ref a1), .val (.int (0 : Int32)), .val (.int p_), .unset, .unset, .unset] [(.ref b106)]))
  refine own_st (fun t_ k_ => XS.astoreN X106.here hx rfl (hb hby own_d5_3) rfl rfl (l' := #[.val (.ref a1), .val (.int (0 : Int32)), .val (.int p_), .val (.ref b106), .unset, .unset]) rfl k_) ?_
  show own_Go p.tables e below _ (T106.setTop (mkF m 4 #[.val (.ref a1), .val (.int (0 : Int32)), .val (.int p_), .val (.ref b106), .unset, .unset] []))
  refine own_st (fun t_ k_ => XS.aloadN X106.here hx rfl (hb hby own_d5_4) rfl rfl k_) ?_
  show own_Go p.tables e below _ (T106.setTop (mkF m 5 #[.val (.ref a1), .val (.int (0 : Int32)), .val (.int p_), .val (.ref b106), .unset, .unset] [(.ref a1)]))
  refine own_st (fun t_ k_ => XS.iloadN X106.here hx rfl (hb hby own_d5_5) rfl k_) ?_
  show own_Go p.tables e below _ (T106.setTop (mkF m 6 #[.val (.ref a1), .val (.int (0 : Int32)), .val (.int p_), .val (.ref b106), .unset, .unset] [(.int (0 : Int32)), (.ref a1)]))
  refine own_st (fun t_ k_ => XS.aloadN X106.here hx rfl (hb hby own_d5_6) rfl rfl k_) ?_
  show own_Go p.tables e below _ (T106.setTop (mkF m 7 #[.val (.ref a1), .val (.int (0 : Int32)), .val (.int p_), .val (.ref b106), .unset, .unset] [(.ref b106), (.int (0 : Int32)), (.ref a1)]))
  refine own_st (fun t_ k_ => XS.iconst X106.here hx rfl (hb hby own_d5_7) k_) ?_
  show own_Go p.tables e below _ (T106.setTop (mkF m 8 #[.val (.ref a1), .val (.int (0 : Int32)), .val (.int p_), .val (.ref b106), .unset, .unset] [(.int (0 : Int32)), (.ref b106), (.int (0 : Int32)), (.ref a1)]))
  refine own_st (fun t_ k_ => XS.iloadN X106.here hx rfl (hb hby own_d5_8) rfl k_) ?_
  show own_Go p.tables e below _ (T106.setTop (mkF m 9 #[.val (.ref a1), .val (.int (0 : Int32)), .val (.int p_), .val (.ref b106), .unset, .unset] [(.int p_), (.int (0 : Int32)), (.ref b106), (.int (0 : Int32)), (.ref a1)]))
  obtain ⟨_, _, ⟨T107, L107, k107, n107⟩, -, X107, ⟨Lc107, hQ107, l107, y107, z107⟩, st107⟩ := Jvm.LawKit.callS X106 hx (y := (⟨"java/lang/StringUTF16", "compress", "([CI[BII)I"⟩ : MethodName)) hown (mvT hZ (hw _ (List.mem_of_getElem? (i := 24) rfl))) (mvT hZ (hw _ (List.mem_of_getElem? (i := 25) rfl))) (mvT hZ (hw _ (List.mem_of_getElem? (i := 21) rfl))) (mvT hZ (hw _ (List.mem_of_getElem? (i := 26) rfl))) (by decide) (backOf (W := 0) (own_rm6 l Z a0 hw [] a1 b106 p_ k1 k106 n1 cs (fun _ => (0 : Int32)) h106 n0 (Nat.le_trans Z0 K106.1) (q0.ext E106) Ar106 ge106 (Nat.ne_of_lt (Nat.lt_of_lt_of_le q0.lt (Nat.le_of_eq g106.symm))) ⟨hp.1, (by omega)⟩) hZ (hw _ (List.mem_of_getElem? (i := 26) rfl)) (hw _ (List.mem_of_getElem? (i := 21) rfl)) (by decide) (by decide)) (g := (mkF m 9 #[.val (.ref a1), .val (.int (0 : Int32)), .val (.int p_), .val (.ref b106), .unset, .unset] [(.int p_), (.int (0 : Int32)), (.ref b106), (.int (0 : Int32)), (.ref a1)])) rfl (by rw [hml]; rfl) (argsL := [(.ref a1), (.int (0 : Int32)), (.ref b106), (.int (0 : Int32)), (.int p_)]) (rest := []) (lenOf own_pd0 rfl) rfl (by show 2 * 0 + _ ≤ _; exact Nat.le_of_eq rfl) (hb hby own_d5_9) (fun _ _ => ⟨rfl, e106, (by decide : 1 + 0 ≤ _), (by decide : 3 + 0 ≤ _)⟩)
  dsimp only [Pt.U, Pt.locs, Pt.cells, Pt.slots] at X107 l107 y107 z107 st107 hQ107
  subst y107 z107
  obtain ⟨j_107, rfl, N107q, Kq107, P107_0, P107_1⟩ := hQ107
  have N107 : Fr n0 L107 := by rw [l107]; exact Fr.app N0 N107q
  have K107 : Keep h0 T107.heap [] := K106.trans Kq107 (allS (P := fun x => x ∈ [] ∨ h0.size ≤ x) (Or.inr fr106) all0)
  refine own_st (st107) ?_
  show own_Go p.tables e below _ (T107.setTop (mkF m 12 #[.val (.ref a1), .val (.int (0 : Int32)), .val (.int p_), .val (.ref b106), .unset, .unset] [(.int (Int32.ofNat j_107))]))
  have hj := P107_1
  refine own_st (fun t_ k_ => XS.istore X107.here hx rfl (hb hby own_d5_12) rfl (l' := #[.val (.ref a1), .val (.int (0 : Int32)), .val (.int p_), .val (.ref b106), .val (.int (Int32.ofNat j_107)), .unset]) rfl k_) ?_
  show own_Go p.tables e below _ (T107.setTop (mkF m 14 #[.val (.ref a1), .val (.int (0 : Int32)), .val (.int p_), .val (.ref b106), .val (.int (Int32.ofNat j_107)), .unset] []))
  refine own_st (fun t_ k_ => XS.iload X107.here hx rfl (hb hby own_d5_14) rfl k_) ?_
  show own_Go p.tables e below _ (T107.setTop (mkF m 16 #[.val (.ref a1), .val (.int (0 : Int32)), .val (.int p_), .val (.ref b106), .val (.int (Int32.ofNat j_107)), .unset] [(.int (Int32.ofNat j_107))]))
  refine own_st (fun t_ k_ => XS.iloadN X107.here hx rfl (hb hby own_d5_16) rfl k_) ?_
  show own_Go p.tables e below _ (T107.setTop (mkF m 17 #[.val (.ref a1), .val (.int (0 : Int32)), .val (.int p_), .val (.ref b106), .val (.int (Int32.ofNat j_107)), .unset] [(.int p_), (.int (Int32.ofNat j_107))]))
  refine own_st (fun t_ k_ => XS.icmpYes X107.here hx rfl (pc0 := 17) (pc' := 57) rfl (hb hby own_d5_17) rfl (teq (by have e_ : j_107 = n1 := (by rcases Nat.lt_or_eq_of_le hj.1 with q_ | q_; exact absurd (hj.2.2 q_) (hlat _ q_); exact q_); rw [e_]; exact (own_asN hp.1).symm : (Int32.ofNat j_107) = p_)).1 (by decide) (by decide) k_) ?_
  show own_Go p.tables e below _ (T107.setTop (mkF m 57 #[.val (.ref a1), .val (.int (0 : Int32)), .val (.int p_), .val (.ref b106), .val (.int (Int32.ofNat j_107)), .unset] []))
  have ej : j_107 = n1 := (by rcases Nat.lt_or_eq_of_le hj.1 with q_ | q_; exact absurd (hj.2.2 q_) (hlat _ q_); exact q_)
  have Al : own_A Z T107.heap b106 k106 .byte (own_bl (0 : Int32) n1) (fun i => .int ((own_by (0 : Int32) cs) i)) := by rw [own_bl0]; exact (P107_0).congr (fun q hq => by rw [own_by0]; simp only [own_cb]; rw [if_pos (by omega)])
  refine own_st (fun t_ k_ => XS.aloadN X107.here hx rfl (hb hby own_d5_57) rfl rfl k_) ?_
  show own_Go p.tables e below _ (T107.setTop (mkF m 58 #[.val (.ref a1), .val (.int (0 : Int32)), .val (.int p_), .val (.ref b106), .val (.int (Int32.ofNat j_107)), .unset] [(.ref b106)]))
  exact own_ret (w := (.ref b106)) X107 hx hnl Bd.returns rfl (Or.inr (Or.inr (Or.inr (Or.inr ⟨rfl, rfl, rfl⟩)))) (hb hby own_d5_58) ⟨b106, k106, (0 : Int32), rfl, N107, (K107), fr106, (Al), (Or.inl ⟨rfl, fun q hq => hj.2.1 q (by omega)⟩)⟩ (by decide) (by decide)

theorem own_d3_0 : decode jdk_42_method_149_code 0 = .ok (.aload_n 0, 1) := by decide +kernel
theorem own_d3_1 : decode jdk_42_method_149_code 1 = .ok (.invokespecial 1, 3) := by decide +kernel
theorem own_d3_4 : decode jdk_42_method_149_code 4 = .ok (.iload_n 3, 1) := by decide +kernel
theorem own_d3_5 : decode jdk_42_method_149_code 5 = .ok (.ifCond .ne 22, 3) := by decide +kernel
theorem own_d3_27 : decode jdk_42_method_149_code 27 = .ok (.getstatic 38, 3) := by decide +kernel
theorem own_d3_30 : decode jdk_42_method_149_code 30 = .ok (.ifCond .eq 28, 3) := by decide +kernel
theorem own_d3_33 : decode jdk_42_method_149_code 33 = .ok (.aload_n 1, 1) := by decide +kernel
theorem own_d3_34 : decode jdk_42_method_149_code 34 = .ok (.iload_n 2, 1) := by decide +kernel
theorem own_d3_35 : decode jdk_42_method_149_code 35 = .ok (.iload_n 3, 1) := by decide +kernel
theorem own_d3_36 : decode jdk_42_method_149_code 36 = .ok (.invokestatic 177, 3) := by decide +kernel
theorem own_d3_39 : decode jdk_42_method_149_code 39 = .ok (.astore 5, 2) := by decide +kernel
theorem own_d3_41 : decode jdk_42_method_149_code 41 = .ok (.aload_n 0, 1) := by decide +kernel
theorem own_d3_42 : decode jdk_42_method_149_code 42 = .ok (.aload 5, 2) := by decide +kernel
theorem own_d3_44 : decode jdk_42_method_149_code 44 = .ok (.iload_n 3, 1) := by decide +kernel
theorem own_d3_45 : decode jdk_42_method_149_code 45 = .ok (.invokestatic 47, 3) := by decide +kernel
theorem own_d3_48 : decode jdk_42_method_149_code 48 = .ok (.putfield 15, 3) := by decide +kernel
theorem own_d3_51 : decode jdk_42_method_149_code 51 = .ok (.aload_n 0, 1) := by decide +kernel
theorem own_d3_52 : decode jdk_42_method_149_code 52 = .ok (.aload 5, 2) := by decide +kernel
theorem own_d3_54 : decode jdk_42_method_149_code 54 = .ok (.putfield 9, 3) := by decide +kernel
theorem own_d3_57 : decode jdk_42_method_149_code 57 = .ok (.return_, 1) := by decide +kernel
theorem own_pn1 : plainName "java/lang/String" = true := by first | (simp [plainName, overriddenIn]; done) | decide +kernel
theorem own_pd1 : parseMethodDescriptor "([CII)[B" = some ⟨[(.array .char), .int, .int], some (.array .byte)⟩ := by decide +kernel
theorem own_pd2 : parseMethodDescriptor "([BI)B" = some ⟨[(.array .byte), .int], some .byte⟩ := by decide +kernel
theorem own_ef3 (m : MethodId) (x0 : Addr) (x1 : Addr) (x2 : Int32) (x3 : Int32) : entryFrame m #[(.ref x0), (.ref x1), (.int x2), (.int x3), .null] 6 = mkF m 0 #[.val (.ref x0), .val (.ref x1), .val (.int x2), .val (.int x3), .val .null, .unset] [] := by first | (simp [entryFrame, mkF, argsToLocals, Value.category]; done) | rfl
def own_Q3 (Z : State) (a1 : Addr) (b1 : Addr) (p_ : Int32) (k1 : ClassId) (n1 : Nat) (cs : Nat → Int32) (G1 : Int32) (h0 : Heap) (n0 : Nat) (v : Option Value) (h : Heap) (L : List Loc) : Prop := ∃ (t : Addr) (kt : ClassId) (cd : Int32), v = none ∧ Fr n0 L ∧ Keep h0 h [a1] ∧ h0.size ≤ t ∧ Fld Z h a1 "java/lang/String" "value" "[B" (.ref t) ∧ Fld Z h a1 "java/lang/String" "coder" "B" (.int cd) ∧ own_A Z h t kt .byte (own_bl cd n1) (fun i => .int ((own_by cd cs) i)) ∧ ((cd = 0 ∧ ∀ q : Nat, q < n1 → ¬ (255 : Int32) < cs q) ∨ cd = 1)
set_option maxRecDepth 65536 in
set_option maxHeartbeats 40000000 in
theorem own_rm3 (l : Launch) (Z : State) (a0 : Array Value) (hw : ∀ d ∈ tables_1, d.before a0 Z = true) (ws : List Jvm.Cond) (a1 : Addr) (b1 : Addr) (p_ : Int32) (k1 : ClassId) (n1 : Nat) (cs : Nat → Int32) (G1 : Int32) (h0 : Heap) (n0 : Nat) (Z0 : n0 ≤ h0.size) (q0 : Exa Z h0 a1 "java/lang/String") (q1 : Fld Z h0 a1 "java/lang/String" "value" "[B" .null) (q2 : Fld Z h0 a1 "java/lang/String" "coder" "B" (.int (0 : Int32))) (q3 : own_A Z h0 b1 k1 .char n1 (fun i => .int (cs i))) (q4 : n0 ≤ a1) (hne : (a1 ≠ b1)) (hp : (p_.toInt = (n1 : Int) ∧ 1 ≤ n1 ∧ n1 ≤ 3)) (hlat : (∀ q : Nat, q < n1 → ¬ (255 : Int32) < cs q)) (q8 : Old Z n0 h0) (q9 : Sta Z Z.heap "java/lang/String" "COMPACT_STRINGS" "Z" (.int G1)) (hG1 : (¬ G1 = (0 : Int32))) :
    MetFree l (⟨"java/lang/String", "<init>", "([CIILjava/lang/Void;)V"⟩ : MethodName) (head1 (Jvm.Cond.code (⟨"java/lang/String", "<init>", "([CIILjava/lang/Void;)V"⟩ : MethodName) jdk_42_method_149_code 6 none :: ws) ({ frames := 2, cells := 1, slots := 3, locals := 35 } : Room)) (fun a U => a = #[(.ref a1), (.ref b1), (.int (0 : Int32)), (.int p_), .null] ∧ Z.Warmed39 U.vm ∧ U.heap = h0) (fun _ _ _ _ _ => True) (fun _ U o U' => ∃ v L, o = .returned v ∧ own_Q3 Z a1 b1 p_ k1 n1 cs G1 h0 n0 v U'.heap L ∧ FrameEnd U o U' L ({ frames := 2, cells := 1, slots := 3, locals := 35 } : Room).cells ({ frames := 2, cells := 1, slots := 3, locals := 35 } : Room).slots) := by
  refine MetFree.of_bodySF (plainFor_of_name own_pn1) hisR ?_
  intro p e s m args below meth c s₁ Bd hml0 hP hK
  obtain ⟨rfl, hZ, hh⟩ := hP
  have hx := Bd.exec
  have hby := Bd.bytes
  have hml : c.maxLocals = 6 := hml0
  have hown : s.vm.findClass "java/lang/String" = some m.cls := findClass_of_methodNamed Bd.named
  have hnm := (name_of_methodNamed Bd.named Bd.method).1
  have hnl : meth.locks = false := Bd.notSynchronized
  have X0 : Stand p l e ({ frames := 2, cells := 1, slots := 3, locals := 35 } : Room) s m #[(.ref a1), (.ref b1), (.int (0 : Int32)), (.int p_), .null] below meth c s₁ [] 0 0 := Stand.of_body Bd
  have e0 : s₁.heap = h0 := by rw [← hh, Bd.state]; rfl
  have N0 := Fr.nil n0
  show own_Go p.tables e below (own_P below s (own_Q3 Z a1 b1 p_ k1 n1 cs G1 h0 n0) ({ frames := 2, cells := 1, slots := 3, locals := 35 } : Room).cells ({ frames := 2, cells := 1, slots := 3, locals := 35 } : Room).slots) _
  refine own_st (fun t_ k_ => castTop (own_ef3 m a1 b1 (0 : Int32) p_) k_) ?_
  show own_Go p.tables e below _ (s₁.setTop (mkF m 0 #[.val (.ref a1), .val (.ref b1), .val (.int (0 : Int32)), .val (.int p_), .val .null, .unset] []))
  refine own_st (fun t_ k_ => XS.aloadN X0.here hx rfl (hb hby own_d3_0) rfl rfl k_) ?_
  show own_Go p.tables e below _ (s₁.setTop (mkF m 1 #[.val (.ref a1), .val (.ref b1), .val (.int (0 : Int32)), .val (.int p_), .val .null, .unset] [(.ref a1)]))
  obtain ⟨T108, X108, e108, st108⟩ := initO X0 hx hZ hown (hw _ (List.mem_of_getElem? (i := 15) rfl)) (hw _ (List.mem_of_getElem? (i := 16) rfl)) (hw _ (List.mem_of_getElem? (i := 17) rfl)) e0 (g := (mkF m 1 #[.val (.ref a1), .val (.ref b1), .val (.int (0 : Int32)), .val (.int p_), .val .null, .unset] [(.ref a1)])) rfl (by rw [hml]; rfl) rfl (hb hby own_d3_1) (by decide) (W := 0) (by show 2 * 0 + _ ≤ _; exact Nat.le_of_eq rfl) (by decide)
  refine own_st (st108) ?_
  show own_Go p.tables e below _ (T108.setTop (mkF m 4 #[.val (.ref a1), .val (.ref b1), .val (.int (0 : Int32)), .val (.int p_), .val .null, .unset] []))
  refine own_st (fun t_ k_ => XS.iloadN X108.here hx rfl (hb hby own_d3_4) rfl k_) ?_
  show own_Go p.tables e below _ (T108.setTop (mkF m 5 #[.val (.ref a1), .val (.ref b1), .val (.int (0 : Int32)), .val (.int p_), .val .null, .unset] [(.int p_)]))
  refine own_st (fun t_ k_ => XS.ifYes X108.here hx rfl (pc0 := 5) (pc' := 27) rfl (hb hby own_d3_5) rfl ((if0 _ _).trans (feq (own_nz hp.1 hp.2.1)).2) (by decide) (by decide) k_) ?_
  show own_Go p.tables e below _ (T108.setTop (mkF m 27 #[.val (.ref a1), .val (.ref b1), .val (.int (0 : Int32)), .val (.int p_), .val .null, .unset] []))
  obtain ⟨T109, X109, e109, st109⟩ := getS2 X108 hx hZ hown (host := "") (Or.inl (hw _ (List.mem_of_getElem? (i := 18) rfl))) Via.refl e108 (q9.ext q8.2) (g := (mkF m 27 #[.val (.ref a1), .val (.ref b1), .val (.int (0 : Int32)), .val (.int p_), .val .null, .unset] [])) rfl (hb hby own_d3_27)
  refine own_st (st109) ?_
  show own_Go p.tables e below _ (T109.setTop (mkF m 30 #[.val (.ref a1), .val (.ref b1), .val (.int (0 : Int32)), .val (.int p_), .val .null, .unset] [(.int G1)]))
  refine own_st (fun t_ k_ => XS.ifNo X109.here hx rfl (hb hby own_d3_30) rfl ((if0 _ _).trans (feq hG1).1) k_) ?_
  show own_Go p.tables e below _ (T109.setTop (mkF m 33 #[.val (.ref a1), .val (.ref b1), .val (.int (0 : Int32)), .val (.int p_), .val .null, .unset] []))
  refine own_st (fun t_ k_ => XS.aloadN X109.here hx rfl (hb hby own_d3_33) rfl rfl k_) ?_
  show own_Go p.tables e below _ (T109.setTop (mkF m 34 #[.val (.ref a1), .val (.ref b1), .val (.int (0 : Int32)), .val (.int p_), .val .null, .unset] [(.ref b1)]))
  refine own_st (fun t_ k_ => XS.iloadN X109.here hx rfl (hb hby own_d3_34) rfl k_) ?_
  show own_Go p.tables e below _ (T109.setTop (mkF m 35 #[.val (.ref a1), .val (.ref b1), .val (.int (0 : Int32)), .val (.int p_), .val .null, .unset] [(.int (0 : Int32)), (.ref b1)]))
  refine own_st (fun t_ k_ => XS.iloadN X109.here hx rfl (hb hby own_d3_35) rfl k_) ?_
  show own_Go p.tables e below _ (T109.setTop (mkF m 36 #[.val (.ref a1), .val (.ref b1), .val (.int (0 : Int32)), .val (.int p_), .val .null, .unset] [(.int p_), (.int (0 : Int32)), (.ref b1)]))
  obtain ⟨_, _, ⟨T110, L110, k110, n110⟩, -, X110, ⟨Lc110, hQ110, l110, y110, z110⟩, st110⟩ := Jvm.LawKit.callS X109 hx (y := (⟨"java/lang/StringUTF16", "compress", "([CII)[B"⟩ : MethodName)) hown (mvT hZ (hw _ (List.mem_of_getElem? (i := 19) rfl))) (mvT hZ (hw _ (List.mem_of_getElem? (i := 20) rfl))) (mvT hZ (hw _ (List.mem_of_getElem? (i := 21) rfl))) (mvT hZ (hw _ (List.mem_of_getElem? (i := 22) rfl))) (by decide) (backOf (W := 0) (own_rm5 l Z a0 hw [] b1 p_ k1 n1 cs h0 n0 (Nat.le_trans Z0 (Keep.refl h0 [a1]).1) q3 ⟨hp.1, hp.2.1, hp.2.2⟩ hlat) hZ (hw _ (List.mem_of_getElem? (i := 22) rfl)) (hw _ (List.mem_of_getElem? (i := 21) rfl)) (by decide) (by decide)) (g := (mkF m 36 #[.val (.ref a1), .val (.ref b1), .val (.int (0 : Int32)), .val (.int p_), .val .null, .unset] [(.int p_), (.int (0 : Int32)), (.ref b1)])) rfl (by rw [hml]; rfl) (argsL := [(.ref b1), (.int (0 : Int32)), (.int p_)]) (rest := []) (lenOf own_pd1 rfl) rfl (by show 2 * 0 + _ ≤ _; exact Nat.le_of_eq rfl) (hb hby own_d3_36) (fun _ _ => ⟨rfl, e109, (by decide : 0 + 1 ≤ _), (by decide : 0 + 3 ≤ _)⟩)
  dsimp only [Pt.U, Pt.locs, Pt.cells, Pt.slots] at X110 l110 y110 z110 st110 hQ110
  subst y110 z110
  obtain ⟨t_110, kt_110, cd_110, rfl, N110q, Kq110, P110_0, P110_1, P110_2⟩ := hQ110
  have N110 : Fr n0 L110 := by rw [l110]; exact Fr.app N0 N110q
  have K110 : Keep h0 T110.heap [a1] := (Keep.refl h0 [a1]).trans Kq110 all0
  have fr110_0 : h0.size ≤ t_110 := Nat.le_trans (Keep.refl h0 [a1]).1 P110_0
  have ge110_0 : n0 ≤ t_110 := Nat.le_trans Z0 fr110_0
  refine own_st (st110) ?_
  show own_Go p.tables e below _ (T110.setTop (mkF m 39 #[.val (.ref a1), .val (.ref b1), .val (.int (0 : Int32)), .val (.int p_), .val .null, .unset] [(.ref t_110)]))
  refine own_st (fun t_ k_ => XS.astore X110.here hx rfl (hb hby own_d3_39) rfl rfl (l' := #[.val (.ref a1), .val (.ref b1), .val (.int (0 : Int32)), .val (.int p_), .val .null, .val (.ref t_110)]) rfl k_) ?_
  show own_Go p.tables e below _ (T110.setTop (mkF m 41 #[.val (.ref a1), .val (.ref b1), .val (.int (0 : Int32)), .val (.int p_), .val .null, .val (.ref t_110)] []))
  refine own_st (fun t_ k_ => XS.aloadN X110.here hx rfl (hb hby own_d3_41) rfl rfl k_) ?_
  show own_Go p.tables e below _ (T110.setTop (mkF m 42 #[.val (.ref a1), .val (.ref b1), .val (.int (0 : Int32)), .val (.int p_), .val .null, .val (.ref t_110)] [(.ref a1)]))
  refine own_st (fun t_ k_ => XS.aload X110.here hx rfl (hb hby own_d3_42) rfl rfl k_) ?_
  show own_Go p.tables e below _ (T110.setTop (mkF m 44 #[.val (.ref a1), .val (.ref b1), .val (.int (0 : Int32)), .val (.int p_), .val .null, .val (.ref t_110)] [(.ref t_110), (.ref a1)]))
  refine own_st (fun t_ k_ => XS.iloadN X110.here hx rfl (hb hby own_d3_44) rfl k_) ?_
  show own_Go p.tables e below _ (T110.setTop (mkF m 45 #[.val (.ref a1), .val (.ref b1), .val (.int (0 : Int32)), .val (.int p_), .val .null, .val (.ref t_110)] [(.int p_), (.ref t_110), (.ref a1)]))
  obtain ⟨_, _, ⟨T111, L111, k111, n111⟩, -, X111, ⟨Lc111, hQ111, l111, y111, z111⟩, st111⟩ := Jvm.LawKit.callS X110 hx (y := (⟨"java/lang/StringUTF16", "coderFromArrayLen", "([BI)B"⟩ : MethodName)) hown (mvT hZ (hw _ (List.mem_of_getElem? (i := 27) rfl))) (mvT hZ (hw _ (List.mem_of_getElem? (i := 28) rfl))) (mvT hZ (hw _ (List.mem_of_getElem? (i := 21) rfl))) (mvT hZ (hw _ (List.mem_of_getElem? (i := 29) rfl))) (by decide) (backOf (W := 1) (own_rm7 l Z a0 hw [] t_110 p_ kt_110 cd_110 n1 (own_by cd_110 cs) T110.heap n0 (Nat.le_trans Z0 K110.1) P110_1 (own_c01 P110_2) ⟨hp.1, hp.2.1, (by omega)⟩) hZ (hw _ (List.mem_of_getElem? (i := 29) rfl)) (hw _ (List.mem_of_getElem? (i := 21) rfl)) (by decide) (by decide)) (g := (mkF m 45 #[.val (.ref a1), .val (.ref b1), .val (.int (0 : Int32)), .val (.int p_), .val .null, .val (.ref t_110)] [(.int p_), (.ref t_110), (.ref a1)])) rfl (by rw [hml]; rfl) (argsL := [(.ref t_110), (.int p_)]) (rest := [(.ref a1)]) (lenOf own_pd2 rfl) rfl (by show 2 * 0 + _ ≤ _; exact Nat.le_of_eq rfl) (hb hby own_d3_45) (fun _ _ => ⟨rfl, rfl, (by decide : 1 + 0 ≤ _), (by decide : 3 + 0 ≤ _)⟩)
  dsimp only [Pt.U, Pt.locs, Pt.cells, Pt.slots] at X111 l111 y111 z111 st111 hQ111
  subst y111 z111
  obtain ⟨rfl, N111q, eq111⟩ := hQ111
  have N111 : Fr n0 L111 := by rw [l111]; exact Fr.app N110 N111q
  refine own_st (st111) ?_
  show own_Go p.tables e below _ (T111.setTop (mkF m 48 #[.val (.ref a1), .val (.ref b1), .val (.int (0 : Int32)), .val (.int p_), .val .null, .val (.ref t_110)] [(.int cd_110), (.ref a1)]))
  obtain ⟨T112, h112, X112, e112, W112, st112⟩ := putFN X111 hx hZ hown (hw _ (List.mem_of_getElem? (i := 30) rfl)) Via.refl eq111 (q2.keep Kq110 nin0) (q0.keep Kq110) (Or.inr ⟨(hw _ (List.mem_of_getElem? (i := 31) rfl)), rfl, hnm⟩) (hw _ (List.mem_of_getElem? (i := 5) rfl)) (ty := .byte) (v' := (.int cd_110)) (by decide) (own_nw01 (own_c01 P110_2)) (own_f01 (own_c01 P110_2)) (g := (mkF m 48 #[.val (.ref a1), .val (.ref b1), .val (.int (0 : Int32)), .val (.int p_), .val .null, .val (.ref t_110)] [(.int cd_110), (.ref a1)])) rfl rfl (hb hby own_d3_48)
  have Fw112 : Fld Z h112 a1 "java/lang/String" "coder" "B" (.int cd_110) := (q2.keep Kq110 nin0).same W112
  have N112 := Fr.snoc X112 N111 q4
  have K112 : Keep h0 h112 [a1] := K110.wr W112 (Or.inl (List.mem_of_getElem? (i := 0) rfl))
  refine own_st (st112) ?_
  show own_Go p.tables e below _ (T112.setTop (mkF m 51 #[.val (.ref a1), .val (.ref b1), .val (.int (0 : Int32)), .val (.int p_), .val .null, .val (.ref t_110)] []))
  refine own_st (fun t_ k_ => XS.aloadN X112.here hx rfl (hb hby own_d3_51) rfl rfl k_) ?_
  show own_Go p.tables e below _ (T112.setTop (mkF m 52 #[.val (.ref a1), .val (.ref b1), .val (.int (0 : Int32)), .val (.int p_), .val .null, .val (.ref t_110)] [(.ref a1)]))
  refine own_st (fun t_ k_ => XS.aload X112.here hx rfl (hb hby own_d3_52) rfl rfl k_) ?_
  show own_Go p.tables e below _ (T112.setTop (mkF m 54 #[.val (.ref a1), .val (.ref b1), .val (.int (0 : Int32)), .val (.int p_), .val .null, .val (.ref t_110)] [(.ref t_110), (.ref a1)]))
  obtain ⟨T113, h113, X113, e113, W113, st113⟩ := putF X112 hx hZ hown (host := "") (Or.inl (hw _ (List.mem_of_getElem? (i := 32) rfl))) Via.refl e112 ((q1.keep Kq110 nin0).other W112 (Or.inr (slot_ne (Or.inr (hw _ (List.mem_of_getElem? (i := 33) rfl))) (Or.inr (hw _ (List.mem_of_getElem? (i := 31) rfl))) (by decide) (t := (.array .byte)) (t' := .byte) (by decide) (by decide)))) ((q0.keep Kq110).wr W112) (Or.inr ⟨(hw _ (List.mem_of_getElem? (i := 33) rfl)), rfl, hnm⟩) (hw _ (List.mem_of_getElem? (i := 5) rfl)) (ty := (.array .byte)) (by decide) rfl rfl (g := (mkF m 54 #[.val (.ref a1), .val (.ref b1), .val (.int (0 : Int32)), .val (.int p_), .val .null, .val (.ref t_110)] [(.ref t_110), (.ref a1)])) rfl rfl (hb hby own_d3_54)
  have Fw113 : Fld Z h113 a1 "java/lang/String" "value" "[B" (.ref t_110) := ((q1.keep Kq110 nin0).other W112 (Or.inr (slot_ne (Or.inr (hw _ (List.mem_of_getElem? (i := 33) rfl))) (Or.inr (hw _ (List.mem_of_getElem? (i := 31) rfl))) (by decide) (t := (.array .byte)) (t' := .byte) (by decide) (by decide)))).same W113
  have N113 := Fr.snoc X113 N112 q4
  have K113 : Keep h0 h113 [a1] := K112.wr W113 (Or.inl (List.mem_of_getElem? (i := 0) rfl))
  refine own_st (st113) ?_
  show own_Go p.tables e below _ (T113.setTop (mkF m 57 #[.val (.ref a1), .val (.ref b1), .val (.int (0 : Int32)), .val (.int p_), .val .null, .val (.ref t_110)] []))
  exact own_ret0 X113 hx hnl Bd.returns (hb hby own_d3_57) ⟨t_110, kt_110, cd_110, rfl, N113, (by rw [e113]; exact K113), fr110_0, (by rw [e113]; exact Fw113), (by rw [e113]; exact (Fw112.other W113 (Or.inr (slot_ne (Or.inr (hw _ (List.mem_of_getElem? (i := 31) rfl))) (Or.inr (hw _ (List.mem_of_getElem? (i := 33) rfl))) (by decide) (t := .byte) (t' := (.array .byte)) (by decide) (by decide))))), (by rw [e113]; exact ((P110_1.other W112 (Ne.symm (Nat.ne_of_lt (Nat.lt_of_lt_of_le q0.lt P110_0)))).other W113 (Ne.symm (Nat.ne_of_lt (Nat.lt_of_lt_of_le q0.lt P110_0))))), P110_2⟩ (by decide) (by decide)

theorem own_d2_0 : decode jdk_42_method_3_code 0 = .ok (.aload_n 0, 1) := by decide +kernel
theorem own_d2_1 : decode jdk_42_method_3_code 1 = .ok (.aload_n 1, 1) := by decide +kernel
theorem own_d2_2 : decode jdk_42_method_3_code 2 = .ok (.iconst 0, 1) := by decide +kernel
theorem own_d2_3 : decode jdk_42_method_3_code 3 = .ok (.aload_n 1, 1) := by decide +kernel
theorem own_d2_4 : decode jdk_42_method_3_code 4 = .ok (.arraylength, 1) := by decide +kernel
theorem own_d2_5 : decode jdk_42_method_3_code 5 = .ok (.aconst_null, 1) := by decide +kernel
theorem own_d2_6 : decode jdk_42_method_3_code 6 = .ok (.invokespecial 27, 3) := by decide +kernel
theorem own_d2_9 : decode jdk_42_method_3_code 9 = .ok (.return_, 1) := by decide +kernel
theorem own_pd3 : parseMethodDescriptor "([CIILjava/lang/Void;)V" = some ⟨[(.array .char), .int, .int, (.object "java/lang/Void")], none⟩ := by decide +kernel
theorem own_ef2 (m : MethodId) (x0 : Addr) (x1 : Addr) : entryFrame m #[(.ref x0), (.ref x1)] 2 = mkF m 0 #[.val (.ref x0), .val (.ref x1)] [] := by first | (simp [entryFrame, mkF, argsToLocals, Value.category]; done) | rfl
def own_Q2 (Z : State) (a1 : Addr) (b1 : Addr) (k1 : ClassId) (n1 : Nat) (cs : Nat → Int32) (G1 : Int32) (h0 : Heap) (n0 : Nat) (v : Option Value) (h : Heap) (L : List Loc) : Prop := ∃ (t : Addr) (kt : ClassId) (cd : Int32), v = none ∧ Fr n0 L ∧ Keep h0 h [a1] ∧ h0.size ≤ t ∧ Fld Z h a1 "java/lang/String" "value" "[B" (.ref t) ∧ Fld Z h a1 "java/lang/String" "coder" "B" (.int cd) ∧ own_A Z h t kt .byte (own_bl cd n1) (fun i => .int ((own_by cd cs) i)) ∧ ((cd = 0 ∧ ∀ q : Nat, q < n1 → ¬ (255 : Int32) < cs q) ∨ cd = 1)
set_option maxRecDepth 65536 in
set_option maxHeartbeats 40000000 in
theorem own_rm2 (l : Launch) (Z : State) (a0 : Array Value) (hw : ∀ d ∈ tables_1, d.before a0 Z = true) (ws : List Jvm.Cond) (a1 : Addr) (b1 : Addr) (k1 : ClassId) (n1 : Nat) (cs : Nat → Int32) (G1 : Int32) (h0 : Heap) (n0 : Nat) (Z0 : n0 ≤ h0.size) (q0 : Exa Z h0 a1 "java/lang/String") (q1 : Fld Z h0 a1 "java/lang/String" "value" "[B" .null) (q2 : Fld Z h0 a1 "java/lang/String" "coder" "B" (.int (0 : Int32))) (q3 : own_A Z h0 b1 k1 .char n1 (fun i => .int (cs i))) (q4 : n0 ≤ a1) (hne : (a1 ≠ b1)) (hn : (1 ≤ n1 ∧ n1 ≤ 3)) (hlat : (∀ q : Nat, q < n1 → ¬ (255 : Int32) < cs q)) (q8 : Old Z n0 h0) (q9 : Sta Z Z.heap "java/lang/String" "COMPACT_STRINGS" "Z" (.int G1)) (hG1 : (¬ G1 = (0 : Int32))) :
    MetFree l (⟨"java/lang/String", "<init>", "([C)V"⟩ : MethodName) (head1 (Jvm.Cond.code (⟨"java/lang/String", "<init>", "([C)V"⟩ : MethodName) jdk_42_method_3_code 2 none :: ws) ({ frames := 3, cells := 1, slots := 3, locals := 52 } : Room)) (fun a U => a = #[(.ref a1), (.ref b1)] ∧ Z.Warmed39 U.vm ∧ U.heap = h0) (fun _ _ _ _ _ => True) (fun _ U o U' => ∃ v L, o = .returned v ∧ own_Q2 Z a1 b1 k1 n1 cs G1 h0 n0 v U'.heap L ∧ FrameEnd U o U' L ({ frames := 3, cells := 1, slots := 3, locals := 52 } : Room).cells ({ frames := 3, cells := 1, slots := 3, locals := 52 } : Room).slots) := by
  refine MetFree.of_bodySF (plainFor_of_name own_pn1) hisR ?_
  intro p e s m args below meth c s₁ Bd hml0 hP hK
  obtain ⟨rfl, hZ, hh⟩ := hP
  have hx := Bd.exec
  have hby := Bd.bytes
  have hml : c.maxLocals = 2 := hml0
  have hown : s.vm.findClass "java/lang/String" = some m.cls := findClass_of_methodNamed Bd.named
  have hnm := (name_of_methodNamed Bd.named Bd.method).1
  have hnl : meth.locks = false := Bd.notSynchronized
  have X0 : Stand p l e ({ frames := 3, cells := 1, slots := 3, locals := 52 } : Room) s m #[(.ref a1), (.ref b1)] below meth c s₁ [] 0 0 := Stand.of_body Bd
  have e0 : s₁.heap = h0 := by rw [← hh, Bd.state]; rfl
  have N0 := Fr.nil n0
  show own_Go p.tables e below (own_P below s (own_Q2 Z a1 b1 k1 n1 cs G1 h0 n0) ({ frames := 3, cells := 1, slots := 3, locals := 52 } : Room).cells ({ frames := 3, cells := 1, slots := 3, locals := 52 } : Room).slots) _
  refine own_st (fun t_ k_ => castTop (own_ef2 m a1 b1) k_) ?_
  show own_Go p.tables e below _ (s₁.setTop (mkF m 0 #[.val (.ref a1), .val (.ref b1)] []))
  have hp : (Int32.ofNat n1).toInt = (n1 : Int) ∧ 1 ≤ n1 ∧ n1 ≤ 3 := ⟨own_toN (by omega), hn.1, hn.2⟩
  refine own_st (fun t_ k_ => XS.aloadN X0.here hx rfl (hb hby own_d2_0) rfl rfl k_) ?_
  show own_Go p.tables e below _ (s₁.setTop (mkF m 1 #[.val (.ref a1), .val (.ref b1)] [(.ref a1)]))
  refine own_st (fun t_ k_ => XS.aloadN X0.here hx rfl (hb hby own_d2_1) rfl rfl k_) ?_
  show own_Go p.tables e below _ (s₁.setTop (mkF m 2 #[.val (.ref a1), .val (.ref b1)] [(.ref b1), (.ref a1)]))
  refine own_st (fun t_ k_ => XS.iconst X0.here hx rfl (hb hby own_d2_2) k_) ?_
  show own_Go p.tables e below _ (s₁.setTop (mkF m 3 #[.val (.ref a1), .val (.ref b1)] [(.int (0 : Int32)), (.ref b1), (.ref a1)]))
  refine own_st (fun t_ k_ => XS.aloadN X0.here hx rfl (hb hby own_d2_3) rfl rfl k_) ?_
  show own_Go p.tables e below _ (s₁.setTop (mkF m 4 #[.val (.ref a1), .val (.ref b1)] [(.ref b1), (.int (0 : Int32)), (.ref b1), (.ref a1)]))
  refine own_st (own_len X0 hx hZ e0 q3 (g := (mkF m 4 #[.val (.ref a1), .val (.ref b1)] [(.ref b1), (.int (0 : Int32)), (.ref b1), (.ref a1)])) rfl rfl (hb hby own_d2_4)) ?_
  show own_Go p.tables e below _ (s₁.setTop (mkF m 5 #[.val (.ref a1), .val (.ref b1)] [(.int (Int32.ofNat n1)), (.int (0 : Int32)), (.ref b1), (.ref a1)]))
  refine own_st (fun t_ k_ => XS.aconstNull X0.here hx rfl (hb hby own_d2_5) k_) ?_
  show own_Go p.tables e below _ (s₁.setTop (mkF m 6 #[.val (.ref a1), .val (.ref b1)] [.null, (.int (Int32.ofNat n1)), (.int (0 : Int32)), (.ref b1), (.ref a1)]))
  obtain ⟨_, _, ⟨T114, L114, k114, n114⟩, -, X114, ⟨Lc114, hQ114, l114, y114, z114⟩, st114⟩ := X0.specialBack hx (y := (⟨"java/lang/String", "<init>", "([CIILjava/lang/Void;)V"⟩ : MethodName)) rfl hown (mvT hZ (hw _ (List.mem_of_getElem? (i := 11) rfl))) (mvT hZ (hw _ (List.mem_of_getElem? (i := 12) rfl))) (mvT hZ (hw _ (List.mem_of_getElem? (i := 14) rfl))) (by decide) (backOf (W := 0) (own_rm3 l Z a0 hw [] a1 b1 (Int32.ofNat n1) k1 n1 cs G1 h0 n0 (Nat.le_trans Z0 (Keep.refl h0 [a1]).1) q0 q1 q2 q3 q4 hne ⟨hp.1, hp.2.1, hp.2.2⟩ hlat q8 q9 hG1) hZ (hw _ (List.mem_of_getElem? (i := 14) rfl)) (hw _ (List.mem_of_getElem? (i := 6) rfl)) (by decide) (by decide)) (g := (mkF m 6 #[.val (.ref a1), .val (.ref b1)] [.null, (.int (Int32.ofNat n1)), (.int (0 : Int32)), (.ref b1), (.ref a1)])) rfl (by rw [hml]; rfl) (Steps.refl _) (a := a1) (argsL := [(.ref b1), (.int (0 : Int32)), (.int (Int32.ofNat n1)), .null]) (rest := []) (lenOf own_pd3 rfl) rfl (by show 2 * 0 + _ ≤ _; exact Nat.le_of_eq rfl) (hb hby own_d2_6) (fun _ _ => ⟨rfl, e0, (by decide : 0 + 1 ≤ _), (by decide : 0 + 3 ≤ _)⟩)
  dsimp only [Pt.U, Pt.locs, Pt.cells, Pt.slots] at X114 l114 y114 z114 st114 hQ114
  subst y114 z114
  obtain ⟨t_114, kt_114, cd_114, rfl, N114q, Kq114, P114_0, P114_1, P114_2, P114_3, P114_4⟩ := hQ114
  have N114 : Fr n0 L114 := by rw [l114]; exact Fr.app N0 N114q
  have K114 : Keep h0 T114.heap [a1] := (Keep.refl h0 [a1]).trans Kq114 (allS (P := fun x => x ∈ [a1] ∨ h0.size ≤ x) (Or.inl (List.mem_of_getElem? (i := 0) rfl)) all0)
  have fr114_0 : h0.size ≤ t_114 := Nat.le_trans (Keep.refl h0 [a1]).1 P114_0
  have ge114_0 : n0 ≤ t_114 := Nat.le_trans Z0 fr114_0
  refine own_tr st114 ?_
  show own_Go p.tables e below _ (T114.setTop (mkF m 9 #[.val (.ref a1), .val (.ref b1)] []))
  exact own_ret0 X114 hx hnl Bd.returns (hb hby own_d2_9) ⟨t_114, kt_114, cd_114, rfl, N114, (K114), fr114_0, (P114_1), (P114_2), (P114_3), P114_4⟩ (by decide) (by decide)

theorem own_d3_8 : decode jdk_42_method_149_code 8 = .ok (.aload_n 0, 1) := by decide +kernel
theorem own_d3_9 : decode jdk_42_method_149_code 9 = .ok (.ldc 7, 2) := by decide +kernel
theorem own_d3_11 : decode jdk_42_method_149_code 11 = .ok (.getfield 9, 3) := by decide +kernel
theorem own_d3_14 : decode jdk_42_method_149_code 14 = .ok (.putfield 9, 3) := by decide +kernel
theorem own_d3_17 : decode jdk_42_method_149_code 17 = .ok (.aload_n 0, 1) := by decide +kernel
theorem own_d3_18 : decode jdk_42_method_149_code 18 = .ok (.ldc 7, 2) := by decide +kernel
theorem own_d3_20 : decode jdk_42_method_149_code 20 = .ok (.getfield 15, 3) := by decide +kernel
theorem own_d3_23 : decode jdk_42_method_149_code 23 = .ok (.putfield 15, 3) := by decide +kernel
theorem own_d3_26 : decode jdk_42_method_149_code 26 = .ok (.return_, 1) := by decide +kernel
theorem own_ef3e (m : MethodId) (x0 : Addr) (x1 : Addr) (x2 : Int32) (x3 : Int32) : entryFrame m #[(.ref x0), (.ref x1), (.int x2), (.int x3), .null] 6 = mkF m 0 #[.val (.ref x0), .val (.ref x1), .val (.int x2), .val (.int x3), .val .null, .unset] [] := by first | (simp [entryFrame, mkF, argsToLocals, Value.category]; done) | rfl
def own_Q3e (Z : State) (a1 : Addr) (b1 : Addr) (k1 : ClassId) (cs : Nat → Int32) (h0 : Heap) (n0 : Nat) (v : Option Value) (h : Heap) (L : List Loc) : Prop := ∃ (t : Addr) (kt : ClassId), v = none ∧ Fr n0 L ∧ Keep h0 h [a1] ∧ Fld Z h a1 "java/lang/String" "value" "[B" (.ref t) ∧ Fld Z h a1 "java/lang/String" "coder" "B" (.int (0 : Int32)) ∧ own_A Z h t kt .byte 0 (fun i => .int ((fun q => ([] : List Int32).getD q 0) i))
set_option maxRecDepth 65536 in
set_option maxHeartbeats 40000000 in
theorem own_rm3e (l : Launch) (Z : State) (a0 : Array Value) (hw : ∀ d ∈ tables_1, d.before a0 Z = true) (ws : List Jvm.Cond) (a1 : Addr) (b1 : Addr) (k1 : ClassId) (cs : Nat → Int32) (h0 : Heap) (n0 : Nat) (Z0 : n0 ≤ h0.size) (q0 : Exa Z h0 a1 "java/lang/String") (q1 : Fld Z h0 a1 "java/lang/String" "value" "[B" .null) (q2 : Fld Z h0 a1 "java/lang/String" "coder" "B" (.int (0 : Int32))) (q3 : own_A Z h0 b1 k1 .char 0 (fun i => .int (cs i))) (q4 : n0 ≤ a1) :
    MetFree l (⟨"java/lang/String", "<init>", "([CIILjava/lang/Void;)V"⟩ : MethodName) (head1 (Jvm.Cond.code (⟨"java/lang/String", "<init>", "([CIILjava/lang/Void;)V"⟩ : MethodName) jdk_42_method_149_code 6 none :: ws) ({ frames := 1, cells := 4, slots := 8, locals := 12 } : Room)) (fun a U => a = #[(.ref a1), (.ref b1), (.int (0 : Int32)), (.int (0 : Int32)), .null] ∧ Z.Warmed39 U.vm ∧ U.heap = h0 ∧ CHv Z own_EL U.vm h0 ∧ ∀ x ∈ ([a1] : List Addr), Safe Z own_EL U.vm h0 x) (fun _ _ _ _ _ => True) (fun _ U o U' => ∃ v L, o = .returned v ∧ own_Q3e Z a1 b1 k1 cs h0 n0 v U'.heap L ∧ CHr Z own_EL U.vm U.heap U'.vm U'.heap ∧ ReturnedEndW U o U' L ({ frames := 1, cells := 4, slots := 8, locals := 12 } : Room).cells ({ frames := 1, cells := 4, slots := 8, locals := 12 } : Room).slots) := by
  refine MetFree.of_bodySF (plainFor_of_name own_pn1) hisR ?_
  intro p e s m args below meth c s₁ Bd hml0 hP hK
  obtain ⟨rfl, hZ, hh, hC0, hSf⟩ := hP
  have hx := Bd.exec
  have hby := Bd.bytes
  have hml : c.maxLocals = 6 := hml0
  have hown : s.vm.findClass "java/lang/String" = some m.cls := findClass_of_methodNamed Bd.named
  have hnm := (name_of_methodNamed Bd.named Bd.method).1
  have hnl : meth.locks = false := Bd.notSynchronized
  have X0 : Stand p l e ({ frames := 1, cells := 4, slots := 8, locals := 12 } : Room) s m #[(.ref a1), (.ref b1), (.int (0 : Int32)), (.int (0 : Int32)), .null] below meth c s₁ [] 0 0 := Stand.of_body Bd
  have e0 : s₁.heap = h0 := by rw [← hh, Bd.state]; rfl
  have N0 := Fr.nil n0
  have X0 := (show Stand p l e _ (s.setVm s.vm) m _ below meth c s₁ [] 0 0 from X0)
  have hZ : Z.Warmed39 (s.setVm s.vm).vm := hZ
  have hown : (s.setVm s.vm).vm.findClass "java/lang/String" = some m.cls := hown
  have C0 : CHr Z own_EL s.vm s.heap s.vm h0 := by rw [hh]; exact CHr.refl hC0
  have S0 : s.Since s.vm h0.size := (State.WarmedH.refl s).since _
  have k0 := Nat.le_refl h0.size
  show own_Go p.tables e below (own_PW below s Z own_EL (own_Q3e Z a1 b1 k1 cs h0 n0) ({ frames := 1, cells := 4, slots := 8, locals := 12 } : Room).cells ({ frames := 1, cells := 4, slots := 8, locals := 12 } : Room).slots) _
  refine own_st (fun t_ k_ => castTop (own_ef3e m a1 b1 (0 : Int32) (0 : Int32)) k_) ?_
  show own_Go p.tables e below _ (s₁.setTop (mkF m 0 #[.val (.ref a1), .val (.ref b1), .val (.int (0 : Int32)), .val (.int (0 : Int32)), .val .null, .unset] []))
  refine own_st (fun t_ k_ => XS.aloadN X0.here hx rfl (hb hby own_d3_0) rfl rfl k_) ?_
  show own_Go p.tables e below _ (s₁.setTop (mkF m 1 #[.val (.ref a1), .val (.ref b1), .val (.int (0 : Int32)), .val (.int (0 : Int32)), .val .null, .unset] [(.ref a1)]))
  obtain ⟨T115, X115, e115, st115⟩ := initO X0 hx hZ hown (hw _ (List.mem_of_getElem? (i := 15) rfl)) (hw _ (List.mem_of_getElem? (i := 16) rfl)) (hw _ (List.mem_of_getElem? (i := 17) rfl)) e0 (g := (mkF m 1 #[.val (.ref a1), .val (.ref b1), .val (.int (0 : Int32)), .val (.int (0 : Int32)), .val .null, .unset] [(.ref a1)])) rfl (by rw [hml]; rfl) rfl (hb hby own_d3_1) (by decide) (W := 0) (by show 2 * 0 + _ ≤ _; exact Nat.le_of_eq rfl) (by decide)
  refine own_st (st115) ?_
  show own_Go p.tables e below _ (T115.setTop (mkF m 4 #[.val (.ref a1), .val (.ref b1), .val (.int (0 : Int32)), .val (.int (0 : Int32)), .val .null, .unset] []))
  refine own_st (fun t_ k_ => XS.iloadN X115.here hx rfl (hb hby own_d3_4) rfl k_) ?_
  show own_Go p.tables e below _ (T115.setTop (mkF m 5 #[.val (.ref a1), .val (.ref b1), .val (.int (0 : Int32)), .val (.int (0 : Int32)), .val .null, .unset] [(.int (0 : Int32))]))
  refine own_st (fun t_ k_ => XS.ifNo X115.here hx rfl (hb hby own_d3_5) rfl ((if0 _ _).trans (teq (by decide : (0 : Int32) = (0 : Int32))).2) k_) ?_
  show own_Go p.tables e below _ (T115.setTop (mkF m 8 #[.val (.ref a1), .val (.ref b1), .val (.int (0 : Int32)), .val (.int (0 : Int32)), .val .null, .unset] []))
  refine own_st (fun t_ k_ => XS.aloadN X115.here hx rfl (hb hby own_d3_8) rfl rfl k_) ?_
  show own_Go p.tables e below _ (T115.setTop (mkF m 9 #[.val (.ref a1), .val (.ref b1), .val (.int (0 : Int32)), .val (.int (0 : Int32)), .val .null, .unset] [(.ref a1)]))
  obtain ⟨a116, T116, h116, kn116, b116, kb116, X116, e116, E116, S116, kk116, hZ, hown, xa116, fc116, fv116, A116, la116, lb116, c116, -, ne116, st116⟩ := ldcCH X115 hx hZ hown (hw _ (List.mem_of_getElem? (i := 34) rfl)) (own_wS hw) e115 S0 k0 (own_hEL hw) (List.mem_of_getElem? (i := 0) rfl) C0.1 (vs := []) (z := 0) (by decide +kernel) (by decide) (by decide) (g := (mkF m 9 #[.val (.ref a1), .val (.ref b1), .val (.int (0 : Int32)), .val (.int (0 : Int32)), .val .null, .unset] [(.ref a1)])) rfl (hb hby own_d3_9) (n := 0) (by decide) (by decide) (by decide) (by decide)
  have K116 : Keep h0 h116 [a1] := (Keep.refl h0 [a1]).ext E116
  have C116 := C0.trans c116
  have Ab116 : own_A Z h116 b116 kb116 .byte 0 (fun i => .int ((fun q => ([] : List Int32).getD q 0) i)) := own_A.ofArv A116 (by decide) (by decide) (by decide)
  have ne116_a1 := ne116 _ (c116.safe q0.lt (hSf _ (List.mem_of_getElem? (i := 0) rfl)))
  refine own_st (st116) ?_
  show own_Go p.tables e below _ (T116.setTop (mkF m 11 #[.val (.ref a1), .val (.ref b1), .val (.int (0 : Int32)), .val (.int (0 : Int32)), .val .null, .unset] [(.ref a116), (.ref a1)]))
  obtain ⟨T117, X117, e117, st117⟩ := getF X116 hx hZ hown (host := "") (Or.inl (hw _ (List.mem_of_getElem? (i := 32) rfl))) Via.refl e116 fv116 (g := (mkF m 11 #[.val (.ref a1), .val (.ref b1), .val (.int (0 : Int32)), .val (.int (0 : Int32)), .val .null, .unset] [(.ref a116), (.ref a1)])) rfl rfl (hb hby own_d3_11)
  refine own_st (st117) ?_
  show own_Go p.tables e below _ (T117.setTop (mkF m 14 #[.val (.ref a1), .val (.ref b1), .val (.int (0 : Int32)), .val (.int (0 : Int32)), .val .null, .unset] [(.ref b116), (.ref a1)]))
  obtain ⟨T118, h118, X118, e118, W118, st118⟩ := putF X117 hx hZ hown (host := "") (Or.inl (hw _ (List.mem_of_getElem? (i := 32) rfl))) Via.refl e117 (q1.ext E116) (q0.ext E116) (Or.inr ⟨(hw _ (List.mem_of_getElem? (i := 33) rfl)), rfl, hnm⟩) (hw _ (List.mem_of_getElem? (i := 5) rfl)) (ty := (.array .byte)) (by decide) rfl rfl (g := (mkF m 14 #[.val (.ref a1), .val (.ref b1), .val (.int (0 : Int32)), .val (.int (0 : Int32)), .val .null, .unset] [(.ref b116), (.ref a1)])) rfl rfl (hb hby own_d3_14)
  have Fw118 : Fld Z h118 a1 "java/lang/String" "value" "[B" (.ref b116) := (q1.ext E116).same W118
  have N118 := Fr.snoc X118 N0 q4
  have K118 : Keep h0 h118 [a1] := K116.wr W118 (Or.inl (List.mem_of_getElem? (i := 0) rfl))
  have c118 : CHr Z own_EL _ h116 _ h118 := CHr.wr W118 (c116.safe q0.lt (hSf _ (List.mem_of_getElem? (i := 0) rfl))) C116.1
  have C118 := C116.trans c118
  have kk118 := Nat.le_trans kk116 c118.2.1
  refine own_st (st118) ?_
  show own_Go p.tables e below _ (T118.setTop (mkF m 17 #[.val (.ref a1), .val (.ref b1), .val (.int (0 : Int32)), .val (.int (0 : Int32)), .val .null, .unset] []))
  refine own_st (fun t_ k_ => XS.aloadN X118.here hx rfl (hb hby own_d3_17) rfl rfl k_) ?_
  show own_Go p.tables e below _ (T118.setTop (mkF m 18 #[.val (.ref a1), .val (.ref b1), .val (.int (0 : Int32)), .val (.int (0 : Int32)), .val .null, .unset] [(.ref a1)]))
  obtain ⟨a119, T119, h119, kn119, b119, kb119, X119, e119, E119, S119, kk119, hZ, hown, xa119, fc119, fv119, A119, la119, lb119, c119, -, ne119, st119⟩ := ldcCH X118 hx hZ hown (hw _ (List.mem_of_getElem? (i := 34) rfl)) (own_wS hw) e118 S116 kk118 (own_hEL hw) (List.mem_of_getElem? (i := 0) rfl) C118.1 (vs := []) (z := 0) (by decide +kernel) (by decide) (by decide) (g := (mkF m 18 #[.val (.ref a1), .val (.ref b1), .val (.int (0 : Int32)), .val (.int (0 : Int32)), .val .null, .unset] [(.ref a1)])) rfl (hb hby own_d3_18) (n := 0) (by decide) (by decide) (by decide) (by decide)
  have K119 : Keep h0 h119 [a1] := K118.ext E119
  have C119 := C118.trans c119
  have Ab119 : own_A Z h119 b119 kb119 .byte 0 (fun i => .int ((fun q => ([] : List Int32).getD q 0) i)) := own_A.ofArv A119 (by decide) (by decide) (by decide)
  have ne119_a1 := ne119 _ (c119.safe ((q0.ext E116).wr W118).lt (c118.safe (q0.ext E116).lt (c116.safe q0.lt (hSf _ (List.mem_of_getElem? (i := 0) rfl)))))
  refine own_st (st119) ?_
  show own_Go p.tables e below _ (T119.setTop (mkF m 20 #[.val (.ref a1), .val (.ref b1), .val (.int (0 : Int32)), .val (.int (0 : Int32)), .val .null, .unset] [(.ref a119), (.ref a1)]))
  obtain ⟨T120, X120, e120, st120⟩ := getF X119 hx hZ hown (host := "") (Or.inl (hw _ (List.mem_of_getElem? (i := 30) rfl))) Via.refl e119 fc119 (g := (mkF m 20 #[.val (.ref a1), .val (.ref b1), .val (.int (0 : Int32)), .val (.int (0 : Int32)), .val .null, .unset] [(.ref a119), (.ref a1)])) rfl rfl (hb hby own_d3_20)
  refine own_st (st120) ?_
  show own_Go p.tables e below _ (T120.setTop (mkF m 23 #[.val (.ref a1), .val (.ref b1), .val (.int (0 : Int32)), .val (.int (0 : Int32)), .val .null, .unset] [(.int (0 : Int32)), (.ref a1)]))
  obtain ⟨T121, h121, X121, e121, W121, st121⟩ := putFN X120 hx hZ hown (hw _ (List.mem_of_getElem? (i := 30) rfl)) Via.refl e120 (((q2.ext E116).other W118 (Or.inr (slot_ne (Or.inr (hw _ (List.mem_of_getElem? (i := 31) rfl))) (Or.inr (hw _ (List.mem_of_getElem? (i := 33) rfl))) (by decide) (t := .byte) (t' := (.array .byte)) (by decide) (by decide)))).ext E119) (((q0.ext E116).wr W118).ext E119) (Or.inr ⟨(hw _ (List.mem_of_getElem? (i := 31) rfl)), rfl, hnm⟩) (hw _ (List.mem_of_getElem? (i := 5) rfl)) (ty := .byte) (v' := (.int (0 : Int32))) (by decide) rfl rfl (g := (mkF m 23 #[.val (.ref a1), .val (.ref b1), .val (.int (0 : Int32)), .val (.int (0 : Int32)), .val .null, .unset] [(.int (0 : Int32)), (.ref a1)])) rfl rfl (hb hby own_d3_23)
  have Fw121 : Fld Z h121 a1 "java/lang/String" "coder" "B" (.int (0 : Int32)) := (((q2.ext E116).other W118 (Or.inr (slot_ne (Or.inr (hw _ (List.mem_of_getElem? (i := 31) rfl))) (Or.inr (hw _ (List.mem_of_getElem? (i := 33) rfl))) (by decide) (t := .byte) (t' := (.array .byte)) (by decide) (by decide)))).ext E119).same W121
  have N121 := Fr.snoc X121 N118 q4
  have K121 : Keep h0 h121 [a1] := K119.wr W121 (Or.inl (List.mem_of_getElem? (i := 0) rfl))
  have c121 : CHr Z own_EL _ h119 _ h121 := CHr.wr W121 (c119.safe ((q0.ext E116).wr W118).lt (c118.safe (q0.ext E116).lt (c116.safe q0.lt (hSf _ (List.mem_of_getElem? (i := 0) rfl))))) C119.1
  have C121 := C119.trans c121
  have kk121 := Nat.le_trans kk119 c121.2.1
  refine own_st (st121) ?_
  show own_Go p.tables e below _ (T121.setTop (mkF m 26 #[.val (.ref a1), .val (.ref b1), .val (.int (0 : Int32)), .val (.int (0 : Int32)), .val .null, .unset] []))
  exact own_retW0 X121 hx hnl hZ (own_hEL hw) S119 (by rw [e121]; exact kk121) (by rw [e121]; exact C121) Bd.returns (hb hby own_d3_26) ⟨b116, kb116, rfl, N121, (by rw [e121]; exact K121), (by rw [e121]; exact ((Fw118.ext E119).other W121 (Or.inr (slot_ne (Or.inr (hw _ (List.mem_of_getElem? (i := 33) rfl))) (Or.inr (hw _ (List.mem_of_getElem? (i := 31) rfl))) (by decide) (t := (.array .byte)) (t' := .byte) (by decide) (by decide))))), (by rw [e121]; exact Fw121), (by rw [e121]; exact (((Ab116.other W118 (Ne.symm ne116_a1.2)).ext E119).other W121 (Ne.symm ne116_a1.2)))⟩ (by decide) (by decide)

theorem own_ef2e (m : MethodId) (x0 : Addr) (x1 : Addr) : entryFrame m #[(.ref x0), (.ref x1)] 2 = mkF m 0 #[.val (.ref x0), .val (.ref x1)] [] := by first | (simp [entryFrame, mkF, argsToLocals, Value.category]; done) | rfl
def own_Q2e (Z : State) (a1 : Addr) (b1 : Addr) (k1 : ClassId) (cs : Nat → Int32) (h0 : Heap) (n0 : Nat) (v : Option Value) (h : Heap) (L : List Loc) : Prop := ∃ (t : Addr) (kt : ClassId), v = none ∧ Fr n0 L ∧ Keep h0 h [a1] ∧ Fld Z h a1 "java/lang/String" "value" "[B" (.ref t) ∧ Fld Z h a1 "java/lang/String" "coder" "B" (.int (0 : Int32)) ∧ own_A Z h t kt .byte 0 (fun i => .int ((fun q => ([] : List Int32).getD q 0) i))
set_option maxRecDepth 65536 in
set_option maxHeartbeats 40000000 in
theorem own_rm2e (l : Launch) (Z : State) (a0 : Array Value) (hw : ∀ d ∈ tables_1, d.before a0 Z = true) (ws : List Jvm.Cond) (a1 : Addr) (b1 : Addr) (k1 : ClassId) (cs : Nat → Int32) (h0 : Heap) (n0 : Nat) (Z0 : n0 ≤ h0.size) (q0 : Exa Z h0 a1 "java/lang/String") (q1 : Fld Z h0 a1 "java/lang/String" "value" "[B" .null) (q2 : Fld Z h0 a1 "java/lang/String" "coder" "B" (.int (0 : Int32))) (q3 : own_A Z h0 b1 k1 .char 0 (fun i => .int (cs i))) (q4 : n0 ≤ a1) :
    MetFree l (⟨"java/lang/String", "<init>", "([C)V"⟩ : MethodName) (head1 (Jvm.Cond.code (⟨"java/lang/String", "<init>", "([C)V"⟩ : MethodName) jdk_42_method_3_code 2 none :: ws) ({ frames := 2, cells := 4, slots := 8, locals := 29 } : Room)) (fun a U => a = #[(.ref a1), (.ref b1)] ∧ Z.Warmed39 U.vm ∧ U.heap = h0 ∧ CHv Z own_EL U.vm h0 ∧ ∀ x ∈ ([a1] : List Addr), Safe Z own_EL U.vm h0 x) (fun _ _ _ _ _ => True) (fun _ U o U' => ∃ v L, o = .returned v ∧ own_Q2e Z a1 b1 k1 cs h0 n0 v U'.heap L ∧ CHr Z own_EL U.vm U.heap U'.vm U'.heap ∧ ReturnedEndW U o U' L ({ frames := 2, cells := 4, slots := 8, locals := 29 } : Room).cells ({ frames := 2, cells := 4, slots := 8, locals := 29 } : Room).slots) := by
  refine MetFree.of_bodySF (plainFor_of_name own_pn1) hisR ?_
  intro p e s m args below meth c s₁ Bd hml0 hP hK
  obtain ⟨rfl, hZ, hh, hC0, hSf⟩ := hP
  have hx := Bd.exec
  have hby := Bd.bytes
  have hml : c.maxLocals = 2 := hml0
  have hown : s.vm.findClass "java/lang/String" = some m.cls := findClass_of_methodNamed Bd.named
  have hnm := (name_of_methodNamed Bd.named Bd.method).1
  have hnl : meth.locks = false := Bd.notSynchronized
  have X0 : Stand p l e ({ frames := 2, cells := 4, slots := 8, locals := 29 } : Room) s m #[(.ref a1), (.ref b1)] below meth c s₁ [] 0 0 := Stand.of_body Bd
  have e0 : s₁.heap = h0 := by rw [← hh, Bd.state]; rfl
  have N0 := Fr.nil n0
  have X0 := (show Stand p l e _ (s.setVm s.vm) m _ below meth c s₁ [] 0 0 from X0)
  have hZ : Z.Warmed39 (s.setVm s.vm).vm := hZ
  have hown : (s.setVm s.vm).vm.findClass "java/lang/String" = some m.cls := hown
  have C0 : CHr Z own_EL s.vm s.heap s.vm h0 := by rw [hh]; exact CHr.refl hC0
  have S0 : s.Since s.vm h0.size := (State.WarmedH.refl s).since _
  have k0 := Nat.le_refl h0.size
  show own_Go p.tables e below (own_PW below s Z own_EL (own_Q2e Z a1 b1 k1 cs h0 n0) ({ frames := 2, cells := 4, slots := 8, locals := 29 } : Room).cells ({ frames := 2, cells := 4, slots := 8, locals := 29 } : Room).slots) _
  refine own_st (fun t_ k_ => castTop (own_ef2e m a1 b1) k_) ?_
  show own_Go p.tables e below _ (s₁.setTop (mkF m 0 #[.val (.ref a1), .val (.ref b1)] []))
  refine own_st (fun t_ k_ => XS.aloadN X0.here hx rfl (hb hby own_d2_0) rfl rfl k_) ?_
  show own_Go p.tables e below _ (s₁.setTop (mkF m 1 #[.val (.ref a1), .val (.ref b1)] [(.ref a1)]))
  refine own_st (fun t_ k_ => XS.aloadN X0.here hx rfl (hb hby own_d2_1) rfl rfl k_) ?_
  show own_Go p.tables e below _ (s₁.setTop (mkF m 2 #[.val (.ref a1), .val (.ref b1)] [(.ref b1), (.ref a1)]))
  refine own_st (fun t_ k_ => XS.iconst X0.here hx rfl (hb hby own_d2_2) k_) ?_
  show own_Go p.tables e below _ (s₁.setTop (mkF m 3 #[.val (.ref a1), .val (.ref b1)] [(.int (0 : Int32)), (.ref b1), (.ref a1)]))
  refine own_st (fun t_ k_ => XS.aloadN X0.here hx rfl (hb hby own_d2_3) rfl rfl k_) ?_
  show own_Go p.tables e below _ (s₁.setTop (mkF m 4 #[.val (.ref a1), .val (.ref b1)] [(.ref b1), (.int (0 : Int32)), (.ref b1), (.ref a1)]))
  refine own_st (own_len X0 hx hZ e0 q3 (g := (mkF m 4 #[.val (.ref a1), .val (.ref b1)] [(.ref b1), (.int (0 : Int32)), (.ref b1), (.ref a1)])) rfl rfl (hb hby own_d2_4)) ?_
  show own_Go p.tables e below _ (s₁.setTop (mkF m 5 #[.val (.ref a1), .val (.ref b1)] [(.int (0 : Int32)), (.int (0 : Int32)), (.ref b1), (.ref a1)]))
  refine own_st (fun t_ k_ => XS.aconstNull X0.here hx rfl (hb hby own_d2_5) k_) ?_
  show own_Go p.tables e below _ (s₁.setTop (mkF m 6 #[.val (.ref a1), .val (.ref b1)] [.null, (.int (0 : Int32)), (.int (0 : Int32)), (.ref b1), (.ref a1)]))
  obtain ⟨_, _, ⟨T122, L122, k122, n122⟩, -, X122, Sq122, gq122, ⟨Lc122, hQ122, l122, y122, z122, c122⟩, st122⟩ := X0.specialBackS hx (y := (⟨"java/lang/String", "<init>", "([CIILjava/lang/Void;)V"⟩ : MethodName)) rfl hown (mvT hZ (hw _ (List.mem_of_getElem? (i := 11) rfl))) (mvT hZ (hw _ (List.mem_of_getElem? (i := 12) rfl))) (mvT hZ (hw _ (List.mem_of_getElem? (i := 14) rfl))) (by decide) (own_backSH (W := 0) (own_rm3e l Z a0 hw [] a1 b1 k1 cs h0 n0 (Nat.le_trans Z0 (Keep.refl h0 [a1]).1) q0 q1 q2 q3 q4) hZ (hw _ (List.mem_of_getElem? (i := 14) rfl)) (hw _ (List.mem_of_getElem? (i := 6) rfl)) (by decide) (by decide) (own_hEL hw) C0.1 (own_slS ⟨q0.lt, (hSf _ (List.mem_of_getElem? (i := 0) rfl))⟩ own_sl0)) (g := (mkF m 6 #[.val (.ref a1), .val (.ref b1)] [.null, (.int (0 : Int32)), (.int (0 : Int32)), (.ref b1), (.ref a1)])) rfl (by rw [hml]; rfl) (Steps.refl _) (a := a1) (argsL := [(.ref b1), (.int (0 : Int32)), (.int (0 : Int32)), .null]) (rest := []) (lenOf own_pd3 rfl) rfl (by show 2 * 0 + _ ≤ _; exact Nat.le_of_eq rfl) (hb hby own_d2_6) (fun _ _ => ⟨rfl, e0, (by decide : 0 + 4 ≤ _), (by decide : 0 + 8 ≤ _)⟩)
  dsimp only [Pt.U, Pt.locs, Pt.cells, Pt.slots] at X122 l122 y122 z122 st122 hQ122 Sq122 gq122 c122
  subst y122 z122
  obtain ⟨t_122, kt_122, rfl, N122q, Kq122, P122_0, P122_1, P122_2⟩ := hQ122
  have N122 : Fr n0 L122 := by rw [l122]; exact Fr.app N0 N122q
  have S122 := foldS S0 (by rw [e0]; exact k0) Sq122 gq122
  have X122 := (show Stand p l e _ (s.setVm T122.vm) m _ below meth c T122 L122 _ _ from X122)
  have hZ : Z.Warmed39 (s.setVm T122.vm).vm := State.Warmed39.trans (t := s.setVm s.vm) hZ Sq122.1
  have hown : (s.setVm T122.vm).vm.findClass "java/lang/String" = some m.cls := by rw [show (s.setVm T122.vm).vm = T122.vm from rfl, Sq122.1.alike.findClass]; exact hown
  have kk122 := Nat.le_refl T122.heap.size
  have K122 : Keep h0 T122.heap [a1] := (Keep.refl h0 [a1]).trans Kq122 (allS (P := fun x => x ∈ [a1] ∨ h0.size ≤ x) (Or.inl (List.mem_of_getElem? (i := 0) rfl)) all0)
  have C122 := C0.trans c122
  refine own_tr st122 ?_
  show own_Go p.tables e below _ (T122.setTop (mkF m 9 #[.val (.ref a1), .val (.ref b1)] []))
  exact own_retW0 X122 hx hnl hZ (own_hEL hw) S122 (kk122) (C122) Bd.returns (hb hby own_d2_9) ⟨t_122, kt_122, rfl, N122, (K122), (P122_0), (P122_1), (P122_2)⟩ (by decide) (by decide)


theorem own_c255 (x : Int32) : ¬ (255 : Int32) < ((x &&& (255 : Int32)).toUInt32.toUInt16.toUInt32.toInt32) := by
  have m := c_mask x 255 8 (by decide) (by decide)
  have p8 : ((2 ^ 8 : Nat) : Int) = 256 := by decide
  rw [p8] at m
  have i := c_i2c (x &&& 255)
  have w : (255 : Int32).toInt = 255 := by decide
  rw [Int32.lt_iff_toInt_lt, w]; omega
theorem own_l0 : ∀ q : Nat, ¬ (255 : Int32) < (fun _ => (0 : Int32)) q := fun _ => by show ¬ (255 : Int32) < 0; decide
theorem own_lu {f : Nat → Int32} {i : Nat} {x : Int32} (hf : ∀ q : Nat, ¬ (255 : Int32) < f q) (hx : ¬ (255 : Int32) < x) : ∀ q : Nat, ¬ (255 : Int32) < own_upd f i x q := by
  intro q
  unfold own_upd
  split
  · exact hx
  · exact hf q

theorem own_d1_0 : decode method_3_code 0 = .ok (.iload_n 0, 1) := by decide +kernel
theorem own_d1_1 : decode method_3_code 1 = .ok (.sipush 255, 3) := by decide +kernel
theorem own_d1_4 : decode method_3_code 4 = .ok (.iand, 1) := by decide +kernel
theorem own_d1_5 : decode method_3_code 5 = .ok (.i2c, 1) := by decide +kernel
theorem own_d1_6 : decode method_3_code 6 = .ok (.istore_n 2, 1) := by decide +kernel
theorem own_d1_7 : decode method_3_code 7 = .ok (.iload_n 0, 1) := by decide +kernel
theorem own_d1_8 : decode method_3_code 8 = .ok (.bipush 8, 2) := by decide +kernel
theorem own_d1_10 : decode method_3_code 10 = .ok (.iushr, 1) := by decide +kernel
theorem own_d1_11 : decode method_3_code 11 = .ok (.sipush 255, 3) := by decide +kernel
theorem own_d1_14 : decode method_3_code 14 = .ok (.iand, 1) := by decide +kernel
theorem own_d1_15 : decode method_3_code 15 = .ok (.i2c, 1) := by decide +kernel
theorem own_d1_16 : decode method_3_code 16 = .ok (.istore_n 3, 1) := by decide +kernel
theorem own_d1_17 : decode method_3_code 17 = .ok (.iload_n 0, 1) := by decide +kernel
theorem own_d1_18 : decode method_3_code 18 = .ok (.bipush 16, 2) := by decide +kernel
theorem own_d1_20 : decode method_3_code 20 = .ok (.iushr, 1) := by decide +kernel
theorem own_d1_21 : decode method_3_code 21 = .ok (.sipush 255, 3) := by decide +kernel
theorem own_d1_24 : decode method_3_code 24 = .ok (.iand, 1) := by decide +kernel
theorem own_d1_25 : decode method_3_code 25 = .ok (.i2c, 1) := by decide +kernel
theorem own_d1_26 : decode method_3_code 26 = .ok (.istore 4, 2) := by decide +kernel
theorem own_d1_28 : decode method_3_code 28 = .ok (.iload_n 1, 1) := by decide +kernel
theorem own_d1_29 : decode method_3_code 29 = .ok (.ifCond .ne 14, 3) := by decide +kernel
theorem own_d1_32 : decode method_3_code 32 = .ok (.new 46, 3) := by decide +kernel
theorem own_d1_35 : decode method_3_code 35 = .ok (.dup, 1) := by decide +kernel
theorem own_d1_36 : decode method_3_code 36 = .ok (.iconst 0, 1) := by decide +kernel
theorem own_d1_37 : decode method_3_code 37 = .ok (.newarray .char, 2) := by decide +kernel
theorem own_d1_39 : decode method_3_code 39 = .ok (.invokespecial 51, 3) := by decide +kernel
theorem own_d1_42 : decode method_3_code 42 = .ok (.areturn, 1) := by decide +kernel
theorem own_d1_43 : decode method_3_code 43 = .ok (.iload_n 1, 1) := by decide +kernel
theorem own_d1_44 : decode method_3_code 44 = .ok (.iconst 1, 1) := by decide +kernel
theorem own_d1_45 : decode method_3_code 45 = .ok (.if_icmp .ne 18, 3) := by decide +kernel
theorem own_d1_48 : decode method_3_code 48 = .ok (.new 46, 3) := by decide +kernel
theorem own_d1_51 : decode method_3_code 51 = .ok (.dup, 1) := by decide +kernel
theorem own_d1_52 : decode method_3_code 52 = .ok (.iconst 1, 1) := by decide +kernel
theorem own_d1_53 : decode method_3_code 53 = .ok (.newarray .char, 2) := by decide +kernel
theorem own_d1_55 : decode method_3_code 55 = .ok (.dup, 1) := by decide +kernel
theorem own_d1_56 : decode method_3_code 56 = .ok (.iconst 0, 1) := by decide +kernel
theorem own_d1_57 : decode method_3_code 57 = .ok (.iload_n 2, 1) := by decide +kernel
theorem own_d1_58 : decode method_3_code 58 = .ok (.castore, 1) := by decide +kernel
theorem own_d1_59 : decode method_3_code 59 = .ok (.invokespecial 51, 3) := by decide +kernel
theorem own_d1_62 : decode method_3_code 62 = .ok (.areturn, 1) := by decide +kernel
theorem own_d1_63 : decode method_3_code 63 = .ok (.iload_n 1, 1) := by decide +kernel
theorem own_d1_64 : decode method_3_code 64 = .ok (.iconst 2, 1) := by decide +kernel
theorem own_d1_65 : decode method_3_code 65 = .ok (.if_icmp .ne 22, 3) := by decide +kernel
theorem own_d1_68 : decode method_3_code 68 = .ok (.new 46, 3) := by decide +kernel
theorem own_d1_71 : decode method_3_code 71 = .ok (.dup, 1) := by decide +kernel
theorem own_d1_72 : decode method_3_code 72 = .ok (.iconst 2, 1) := by decide +kernel
theorem own_d1_73 : decode method_3_code 73 = .ok (.newarray .char, 2) := by decide +kernel
theorem own_d1_75 : decode method_3_code 75 = .ok (.dup, 1) := by decide +kernel
theorem own_d1_76 : decode method_3_code 76 = .ok (.iconst 0, 1) := by decide +kernel
theorem own_d1_77 : decode method_3_code 77 = .ok (.iload_n 2, 1) := by decide +kernel
theorem own_d1_78 : decode method_3_code 78 = .ok (.castore, 1) := by decide +kernel
theorem own_d1_79 : decode method_3_code 79 = .ok (.dup, 1) := by decide +kernel
theorem own_d1_80 : decode method_3_code 80 = .ok (.iconst 1, 1) := by decide +kernel
theorem own_d1_81 : decode method_3_code 81 = .ok (.iload_n 3, 1) := by decide +kernel
theorem own_d1_82 : decode method_3_code 82 = .ok (.castore, 1) := by decide +kernel
theorem own_d1_83 : decode method_3_code 83 = .ok (.invokespecial 51, 3) := by decide +kernel
theorem own_d1_86 : decode method_3_code 86 = .ok (.areturn, 1) := by decide +kernel
theorem own_d1_87 : decode method_3_code 87 = .ok (.new 46, 3) := by decide +kernel
theorem own_d1_90 : decode method_3_code 90 = .ok (.dup, 1) := by decide +kernel
theorem own_d1_91 : decode method_3_code 91 = .ok (.iconst 3, 1) := by decide +kernel
theorem own_d1_92 : decode method_3_code 92 = .ok (.newarray .char, 2) := by decide +kernel
theorem own_d1_94 : decode method_3_code 94 = .ok (.dup, 1) := by decide +kernel
theorem own_d1_95 : decode method_3_code 95 = .ok (.iconst 0, 1) := by decide +kernel
theorem own_d1_96 : decode method_3_code 96 = .ok (.iload_n 2, 1) := by decide +kernel
theorem own_d1_97 : decode method_3_code 97 = .ok (.castore, 1) := by decide +kernel
theorem own_d1_98 : decode method_3_code 98 = .ok (.dup, 1) := by decide +kernel
theorem own_d1_99 : decode method_3_code 99 = .ok (.iconst 1, 1) := by decide +kernel
theorem own_d1_100 : decode method_3_code 100 = .ok (.iload_n 3, 1) := by decide +kernel
theorem own_d1_101 : decode method_3_code 101 = .ok (.castore, 1) := by decide +kernel
theorem own_d1_102 : decode method_3_code 102 = .ok (.dup, 1) := by decide +kernel
theorem own_d1_103 : decode method_3_code 103 = .ok (.iconst 2, 1) := by decide +kernel
theorem own_d1_104 : decode method_3_code 104 = .ok (.iload 4, 2) := by decide +kernel
theorem own_d1_106 : decode method_3_code 106 = .ok (.castore, 1) := by decide +kernel
theorem own_d1_107 : decode method_3_code 107 = .ok (.invokespecial 51, 3) := by decide +kernel
theorem own_d1_110 : decode method_3_code 110 = .ok (.areturn, 1) := by decide +kernel
theorem own_pn2 : plainName "com/example/provender/provender/cli/ParameterFlagPinLaw" = true := by first | (simp [plainName, overriddenIn]; done) | decide +kernel
theorem own_pd4 : parseMethodDescriptor "([C)V" = some ⟨[(.array .char)], none⟩ := by decide +kernel
theorem own_ef1 (m : MethodId) (x0 : Int32) (x1 : Int32) : entryFrame m #[(.int x0), (.int x1)] 5 = mkF m 0 #[.val (.int x0), .val (.int x1), .unset, .unset, .unset] [] := by first | (simp [entryFrame, mkF, argsToLocals, Value.category]; done) | rfl
def own_Q1 (Z : State) (p_ : Int32) (n_ : Int32) (G1 : Int32) (h0 : Heap) (n0 : Nat) (v : Option Value) (h : Heap) (L : List Loc) : Prop := ∃ (r : Addr), v = some (.ref r) ∧ Fr n0 L ∧ Keep h0 h [] ∧ h0.size ≤ r ∧ Exa Z h r "java/lang/String"
set_option maxRecDepth 65536 in
set_option maxHeartbeats 40000000 in
theorem own_rm1 (l : Launch) (Z : State) (a0 : Array Value) (hw : ∀ d ∈ tables_1, d.before a0 Z = true) (ws : List Jvm.Cond) (p_ : Int32) (n_ : Int32) (G1 : Int32) (h0 : Heap) (n0 : Nat) (Z0 : n0 ≤ h0.size) (q0 : Old Z n0 h0) (q1 : Sta Z Z.heap "java/lang/String" "COMPACT_STRINGS" "Z" (.int G1)) (hG1 : (¬ G1 = (0 : Int32))) :
    MetFree l (⟨"com/example/provender/provender/cli/ParameterFlagPinLaw", "str", "(II)Ljava/lang/String;"⟩ : MethodName) (head1 (Jvm.Cond.code (⟨"com/example/provender/provender/cli/ParameterFlagPinLaw", "str", "(II)Ljava/lang/String;"⟩ : MethodName) method_3_code 5 (some (.object "java/lang/String")) :: ws) ({ frames := 4, cells := 6, slots := 12, locals := 66 } : Room)) (fun a U => a = #[(.int p_), (.int n_)] ∧ Z.Warmed39 U.vm ∧ U.heap = h0 ∧ CHv Z own_EL U.vm h0 ∧ ∀ x ∈ ([] : List Addr), Safe Z own_EL U.vm h0 x) (fun _ _ _ _ _ => True) (fun _ U o U' => ∃ v L, o = .returned v ∧ own_Q1 Z p_ n_ G1 h0 n0 v U'.heap L ∧ CHr Z own_EL U.vm U.heap U'.vm U'.heap ∧ ReturnedEndW U o U' L ({ frames := 4, cells := 6, slots := 12, locals := 66 } : Room).cells ({ frames := 4, cells := 6, slots := 12, locals := 66 } : Room).slots) := by
  refine MetFree.of_bodySF (plainFor_of_name own_pn2) hisR ?_
  intro p e s m args below meth c s₁ Bd hml0 hP hK
  obtain ⟨rfl, hZ, hh, hC0, hSf⟩ := hP
  have hx := Bd.exec
  have hby := Bd.bytes
  have hml : c.maxLocals = 5 := hml0
  have hown : s.vm.findClass "com/example/provender/provender/cli/ParameterFlagPinLaw" = some m.cls := findClass_of_methodNamed Bd.named
  have hnm := (name_of_methodNamed Bd.named Bd.method).1
  have hnl : meth.locks = false := Bd.notSynchronized
  have X0 : Stand p l e ({ frames := 4, cells := 6, slots := 12, locals := 66 } : Room) s m #[(.int p_), (.int n_)] below meth c s₁ [] 0 0 := Stand.of_body Bd
  have e0 : s₁.heap = h0 := by rw [← hh, Bd.state]; rfl
  have N0 := Fr.nil n0
  have X0 := (show Stand p l e _ (s.setVm s.vm) m _ below meth c s₁ [] 0 0 from X0)
  have hZ : Z.Warmed39 (s.setVm s.vm).vm := hZ
  have hown : (s.setVm s.vm).vm.findClass "com/example/provender/provender/cli/ParameterFlagPinLaw" = some m.cls := hown
  have C0 : CHr Z own_EL s.vm s.heap s.vm h0 := by rw [hh]; exact CHr.refl hC0
  have S0 : s.Since s.vm h0.size := (State.WarmedH.refl s).since _
  have k0 := Nat.le_refl h0.size
  show own_Go p.tables e below (own_PW below s Z own_EL (own_Q1 Z p_ n_ G1 h0 n0) ({ frames := 4, cells := 6, slots := 12, locals := 66 } : Room).cells ({ frames := 4, cells := 6, slots := 12, locals := 66 } : Room).slots) _
  refine own_st (fun t_ k_ => castTop (own_ef1 m p_ n_) k_) ?_
  show own_Go p.tables e below _ (s₁.setTop (mkF m 0 #[.val (.int p_), .val (.int n_), .unset, .unset, .unset] []))
  refine own_st (fun t_ k_ => XS.iloadN X0.here hx rfl (hb hby own_d1_0) rfl k_) ?_
  show own_Go p.tables e below _ (s₁.setTop (mkF m 1 #[.val (.int p_), .val (.int n_), .unset, .unset, .unset] [(.int p_)]))
  refine own_st (fun t_ k_ => XS.sipush X0.here hx rfl (hb hby own_d1_1) k_) ?_
  show own_Go p.tables e below _ (s₁.setTop (mkF m 4 #[.val (.int p_), .val (.int n_), .unset, .unset, .unset] [(.int (255 : Int32)), (.int p_)]))
  refine own_st (fun t_ k_ => XS.iand X0.here hx rfl (hb hby own_d1_4) rfl k_) ?_
  show own_Go p.tables e below _ (s₁.setTop (mkF m 5 #[.val (.int p_), .val (.int n_), .unset, .unset, .unset] [(.int (p_ &&& (255 : Int32)))]))
  refine own_st (fun t_ k_ => XS.i2c X0.here hx rfl (hb hby own_d1_5) rfl k_) ?_
  show own_Go p.tables e below _ (s₁.setTop (mkF m 6 #[.val (.int p_), .val (.int n_), .unset, .unset, .unset] [(.int ((p_ &&& (255 : Int32)).toUInt32.toUInt16.toUInt32.toInt32))]))
  refine own_st (fun t_ k_ => XS.istoreN X0.here hx rfl (hb hby own_d1_6) rfl (l' := #[.val (.int p_), .val (.int n_), .val (.int ((p_ &&& (255 : Int32)).toUInt32.toUInt16.toUInt32.toInt32)), .unset, .unset]) rfl k_) ?_
  show own_Go p.tables e below _ (s₁.setTop (mkF m 7 #[.val (.int p_), .val (.int n_), .val (.int ((p_ &&& (255 : Int32)).toUInt32.toUInt16.toUInt32.toInt32)), .unset, .unset] []))
  refine own_st (fun t_ k_ => XS.iloadN X0.here hx rfl (hb hby own_d1_7) rfl k_) ?_
  show own_Go p.tables e below _ (s₁.setTop (mkF m 8 #[.val (.int p_), .val (.int n_), .val (.int ((p_ &&& (255 : Int32)).toUInt32.toUInt16.toUInt32.toInt32)), .unset, .unset] [(.int p_)]))
  refine own_st (fun t_ k_ => XS.bipush X0.here hx rfl (hb hby own_d1_8) k_) ?_
  show own_Go p.tables e below _ (s₁.setTop (mkF m 10 #[.val (.int p_), .val (.int n_), .val (.int ((p_ &&& (255 : Int32)).toUInt32.toUInt16.toUInt32.toInt32)), .unset, .unset] [(.int (8 : Int32)), (.int p_)]))
  refine own_st (fun t_ k_ => XS.iushr X0.here hx rfl (hb hby own_d1_10) rfl k_) ?_
  show own_Go p.tables e below _ (s₁.setTop (mkF m 11 #[.val (.int p_), .val (.int n_), .val (.int ((p_ &&& (255 : Int32)).toUInt32.toUInt16.toUInt32.toInt32)), .unset, .unset] [(.int ((p_.toUInt32 >>> ((8 : Int32) &&& 31).toUInt32).toInt32))]))
  refine own_st (fun t_ k_ => XS.sipush X0.here hx rfl (hb hby own_d1_11) k_) ?_
  show own_Go p.tables e below _ (s₁.setTop (mkF m 14 #[.val (.int p_), .val (.int n_), .val (.int ((p_ &&& (255 : Int32)).toUInt32.toUInt16.toUInt32.toInt32)), .unset, .unset] [(.int (255 : Int32)), (.int ((p_.toUInt32 >>> ((8 : Int32) &&& 31).toUInt32).toInt32))]))
  refine own_st (fun t_ k_ => XS.iand X0.here hx rfl (hb hby own_d1_14) rfl k_) ?_
  show own_Go p.tables e below _ (s₁.setTop (mkF m 15 #[.val (.int p_), .val (.int n_), .val (.int ((p_ &&& (255 : Int32)).toUInt32.toUInt16.toUInt32.toInt32)), .unset, .unset] [(.int (((p_.toUInt32 >>> ((8 : Int32) &&& 31).toUInt32).toInt32) &&& (255 : Int32)))]))
  refine own_st (fun t_ k_ => XS.i2c X0.here hx rfl (hb hby own_d1_15) rfl k_) ?_
  show own_Go p.tables e below _ (s₁.setTop (mkF m 16 #[.val (.int p_), .val (.int n_), .val (.int ((p_ &&& (255 : Int32)).toUInt32.toUInt16.toUInt32.toInt32)), .unset, .unset] [(.int ((((p_.toUInt32 >>> ((8 : Int32) &&& 31).toUInt32).toInt32) &&& (255 : Int32)).toUInt32.toUInt16.toUInt32.toInt32))]))
  refine own_st (fun t_ k_ => XS.istoreN X0.here hx rfl (hb hby own_d1_16) rfl (l' := #[.val (.int p_), .val (.int n_), .val (.int ((p_ &&& (255 : Int32)).toUInt32.toUInt16.toUInt32.toInt32)), .val (.int ((((p_.toUInt32 >>> ((8 : Int32) &&& 31).toUInt32).toInt32) &&& (255 : Int32)).toUInt32.toUInt16.toUInt32.toInt32)), .unset]) rfl k_) ?_
  show own_Go p.tables e below _ (s₁.setTop (mkF m 17 #[.val (.int p_), .val (.int n_), .val (.int ((p_ &&& (255 : Int32)).toUInt32.toUInt16.toUInt32.toInt32)), .val (.int ((((p_.toUInt32 >>> ((8 : Int32) &&& 31).toUInt32).toInt32) &&& (255 : Int32)).toUInt32.toUInt16.toUInt32.toInt32)), .unset] []))
  refine own_st (fun t_ k_ => XS.iloadN X0.here hx rfl (hb hby own_d1_17) rfl k_) ?_
  show own_Go p.tables e below _ (s₁.setTop (mkF m 18 #[.val (.int p_), .val (.int n_), .val (.int ((p_ &&& (255 : Int32)).toUInt32.toUInt16.toUInt32.toInt32)), .val (.int ((((p_.toUInt32 >>> ((8 : Int32) &&& 31).toUInt32).toInt32) &&& (255 : Int32)).toUInt32.toUInt16.toUInt32.toInt32)), .unset] [(.int p_)]))
  refine own_st (fun t_ k_ => XS.bipush X0.here hx rfl (hb hby own_d1_18) k_) ?_
  show own_Go p.tables e below _ (s₁.setTop (mkF m 20 #[.val (.int p_), .val (.int n_), .val (.int ((p_ &&& (255 : Int32)).toUInt32.toUInt16.toUInt32.toInt32)), .val (.int ((((p_.toUInt32 >>> ((8 : Int32) &&& 31).toUInt32).toInt32) &&& (255 : Int32)).toUInt32.toUInt16.toUInt32.toInt32)), .unset] [(.int (16 : Int32)), (.int p_)]))
  refine own_st (fun t_ k_ => XS.iushr X0.here hx rfl (hb hby own_d1_20) rfl k_) ?_
  show own_Go p.tables e below _ (s₁.setTop (mkF m 21 #[.val (.int p_), .val (.int n_), .val (.int ((p_ &&& (255 : Int32)).toUInt32.toUInt16.toUInt32.toInt32)), .val (.int ((((p_.toUInt32 >>> ((8 : Int32) &&& 31).toUInt32).toInt32) &&& (255 : Int32)).toUInt32.toUInt16.toUInt32.toInt32)), .unset] [(.int ((p_.toUInt32 >>> ((16 : Int32) &&& 31).toUInt32).toInt32))]))
  refine own_st (fun t_ k_ => XS.sipush X0.here hx rfl (hb hby own_d1_21) k_) ?_
  show own_Go p.tables e below _ (s₁.setTop (mkF m 24 #[.val (.int p_), .val (.int n_), .val (.int ((p_ &&& (255 : Int32)).toUInt32.toUInt16.toUInt32.toInt32)), .val (.int ((((p_.toUInt32 >>> ((8 : Int32) &&& 31).toUInt32).toInt32) &&& (255 : Int32)).toUInt32.toUInt16.toUInt32.toInt32)), .unset] [(.int (255 : Int32)), (.int ((p_.toUInt32 >>> ((16 : Int32) &&& 31).toUInt32).toInt32))]))
  refine own_st (fun t_ k_ => XS.iand X0.here hx rfl (hb hby own_d1_24) rfl k_) ?_
  show own_Go p.tables e below _ (s₁.setTop (mkF m 25 #[.val (.int p_), .val (.int n_), .val (.int ((p_ &&& (255 : Int32)).toUInt32.toUInt16.toUInt32.toInt32)), .val (.int ((((p_.toUInt32 >>> ((8 : Int32) &&& 31).toUInt32).toInt32) &&& (255 : Int32)).toUInt32.toUInt16.toUInt32.toInt32)), .unset] [(.int (((p_.toUInt32 >>> ((16 : Int32) &&& 31).toUInt32).toInt32) &&& (255 : Int32)))]))
  refine own_st (fun t_ k_ => XS.i2c X0.here hx rfl (hb hby own_d1_25) rfl k_) ?_
  show own_Go p.tables e below _ (s₁.setTop (mkF m 26 #[.val (.int p_), .val (.int n_), .val (.int ((p_ &&& (255 : Int32)).toUInt32.toUInt16.toUInt32.toInt32)), .val (.int ((((p_.toUInt32 >>> ((8 : Int32) &&& 31).toUInt32).toInt32) &&& (255 : Int32)).toUInt32.toUInt16.toUInt32.toInt32)), .unset] [(.int ((((p_.toUInt32 >>> ((16 : Int32) &&& 31).toUInt32).toInt32) &&& (255 : Int32)).toUInt32.toUInt16.toUInt32.toInt32))]))
  refine own_st (fun t_ k_ => XS.istore X0.here hx rfl (hb hby own_d1_26) rfl (l' := #[.val (.int p_), .val (.int n_), .val (.int ((p_ &&& (255 : Int32)).toUInt32.toUInt16.toUInt32.toInt32)), .val (.int ((((p_.toUInt32 >>> ((8 : Int32) &&& 31).toUInt32).toInt32) &&& (255 : Int32)).toUInt32.toUInt16.toUInt32.toInt32)), .val (.int ((((p_.toUInt32 >>> ((16 : Int32) &&& 31).toUInt32).toInt32) &&& (255 : Int32)).toUInt32.toUInt16.toUInt32.toInt32))]) rfl k_) ?_
  show own_Go p.tables e below _ (s₁.setTop (mkF m 28 #[.val (.int p_), .val (.int n_), .val (.int ((p_ &&& (255 : Int32)).toUInt32.toUInt16.toUInt32.toInt32)), .val (.int ((((p_.toUInt32 >>> ((8 : Int32) &&& 31).toUInt32).toInt32) &&& (255 : Int32)).toUInt32.toUInt16.toUInt32.toInt32)), .val (.int ((((p_.toUInt32 >>> ((16 : Int32) &&& 31).toUInt32).toInt32) &&& (255 : Int32)).toUInt32.toUInt16.toUInt32.toInt32))] []))
  refine own_st (fun t_ k_ => XS.iloadN X0.here hx rfl (hb hby own_d1_28) rfl k_) ?_
  show own_Go p.tables e below _ (s₁.setTop (mkF m 29 #[.val (.int p_), .val (.int n_), .val (.int ((p_ &&& (255 : Int32)).toUInt32.toUInt16.toUInt32.toInt32)), .val (.int ((((p_.toUInt32 >>> ((8 : Int32) &&& 31).toUInt32).toInt32) &&& (255 : Int32)).toUInt32.toUInt16.toUInt32.toInt32)), .val (.int ((((p_.toUInt32 >>> ((16 : Int32) &&& 31).toUInt32).toInt32) &&& (255 : Int32)).toUInt32.toUInt16.toUInt32.toInt32))] [(.int n_)]))
  by_cases c29_123 : n_ = (0 : Int32)
  · skip
    refine own_st (fun t_ k_ => XS.ifNo X0.here hx rfl (hb hby own_d1_29) rfl ((if0 _ _).trans (teq c29_123).2) k_) ?_
    show own_Go p.tables e below _ (s₁.setTop (mkF m 32 #[.val (.int p_), .val (.int n_), .val (.int ((p_ &&& (255 : Int32)).toUInt32.toUInt16.toUInt32.toInt32)), .val (.int ((((p_.toUInt32 >>> ((8 : Int32) &&& 31).toUInt32).toInt32) &&& (255 : Int32)).toUInt32.toUInt16.toUInt32.toInt32)), .val (.int ((((p_.toUInt32 >>> ((16 : Int32) &&& 31).toUInt32).toInt32) &&& (255 : Int32)).toUInt32.toUInt16.toUInt32.toInt32))] []))
    obtain ⟨T124, h124, X124, e124, E124, A124, D124, -, st124⟩ := newO X0 hx hZ hown (hw _ (List.mem_of_getElem? (i := 4) rfl)) (hw _ (List.mem_of_getElem? (i := 5) rfl)) (hw _ (List.mem_of_getElem? (i := 6) rfl)) e0 (g := (mkF m 32 #[.val (.int p_), .val (.int n_), .val (.int ((p_ &&& (255 : Int32)).toUInt32.toUInt16.toUInt32.toInt32)), .val (.int ((((p_.toUInt32 >>> ((8 : Int32) &&& 31).toUInt32).toInt32) &&& (255 : Int32)).toUInt32.toUInt16.toUInt32.toInt32)), .val (.int ((((p_.toUInt32 >>> ((16 : Int32) &&& 31).toUInt32).toInt32) &&& (255 : Int32)).toUInt32.toUInt16.toUInt32.toInt32))] [])) rfl (hb hby own_d1_32) (by decide) (by decide)
    obtain ⟨b124, g124⟩ : ∃ z, z = h0.size := ⟨_, rfl⟩
    rw [← g124] at A124 D124 st124
    have fr124 : h0.size ≤ b124 := Nat.le_trans (Keep.refl h0 []).1 (Nat.le_of_eq g124.symm)
    have ge124 : n0 ≤ b124 := Nat.le_trans Z0 fr124
    have K124 : Keep h0 h124 [] := (Keep.refl h0 []).ext E124
    have c124 : CHr Z own_EL _ h0 _ h124 := CHr.ext E124 C0.1
    have C124 := C0.trans c124
    have kk124 := Nat.le_trans k0 c124.2.1
    have Sf124_b124 : Safe Z own_EL _ h124 b124 := Safe.ext E124 C0.1 (Safe.new (Nat.le_of_eq g124.symm))
    have F124_31 : Fld Z h124 b124 "java/lang/String" "coder" "B" (.int (0 : Int32)) := D124 (Or.inr (hw _ (List.mem_of_getElem? (i := 31) rfl))) (ty := .byte) (by decide)
    have F124_33 : Fld Z h124 b124 "java/lang/String" "value" "[B" .null := D124 (Or.inr (hw _ (List.mem_of_getElem? (i := 33) rfl))) (ty := (.array .byte)) (by decide)
    refine own_st (st124) ?_
    show own_Go p.tables e below _ (T124.setTop (mkF m 35 #[.val (.int p_), .val (.int n_), .val (.int ((p_ &&& (255 : Int32)).toUInt32.toUInt16.toUInt32.toInt32)), .val (.int ((((p_.toUInt32 >>> ((8 : Int32) &&& 31).toUInt32).toInt32) &&& (255 : Int32)).toUInt32.toUInt16.toUInt32.toInt32)), .val (.int ((((p_.toUInt32 >>> ((16 : Int32) &&& 31).toUInt32).toInt32) &&& (255 : Int32)).toUInt32.toUInt16.toUInt32.toInt32))] [(.ref b124)]))
    refine own_st (fun t_ k_ => XS.dup X124.here hx rfl (hb hby own_d1_35) rfl rfl k_) ?_
    show own_Go p.tables e below _ (T124.setTop (mkF m 36 #[.val (.int p_), .val (.int n_), .val (.int ((p_ &&& (255 : Int32)).toUInt32.toUInt16.toUInt32.toInt32)), .val (.int ((((p_.toUInt32 >>> ((8 : Int32) &&& 31).toUInt32).toInt32) &&& (255 : Int32)).toUInt32.toUInt16.toUInt32.toInt32)), .val (.int ((((p_.toUInt32 >>> ((16 : Int32) &&& 31).toUInt32).toInt32) &&& (255 : Int32)).toUInt32.toUInt16.toUInt32.toInt32))] [(.ref b124), (.ref b124)]))
    refine own_st (fun t_ k_ => XS.iconst X124.here hx rfl (hb hby own_d1_36) k_) ?_
    show own_Go p.tables e below _ (T124.setTop (mkF m 37 #[.val (.int p_), .val (.int n_), .val (.int ((p_ &&& (255 : Int32)).toUInt32.toUInt16.toUInt32.toInt32)), .val (.int ((((p_.toUInt32 >>> ((8 : Int32) &&& 31).toUInt32).toInt32) &&& (255 : Int32)).toUInt32.toUInt16.toUInt32.toInt32)), .val (.int ((((p_.toUInt32 >>> ((16 : Int32) &&& 31).toUInt32).toInt32) &&& (255 : Int32)).toUInt32.toUInt16.toUInt32.toInt32))] [(.int (0 : Int32)), (.ref b124), (.ref b124)]))
    obtain ⟨T125, h125, k125, X125, e125, E125, A125, st125⟩ := newP X124 hx hZ (hw _ (List.mem_of_getElem? (i := 7) rfl)) e124 (g := (mkF m 37 #[.val (.int p_), .val (.int n_), .val (.int ((p_ &&& (255 : Int32)).toUInt32.toUInt16.toUInt32.toInt32)), .val (.int ((((p_.toUInt32 >>> ((8 : Int32) &&& 31).toUInt32).toInt32) &&& (255 : Int32)).toUInt32.toUInt16.toUInt32.toInt32)), .val (.int ((((p_.toUInt32 >>> ((16 : Int32) &&& 31).toUInt32).toInt32) &&& (255 : Int32)).toUInt32.toUInt16.toUInt32.toInt32))] [(.int (0 : Int32)), (.ref b124), (.ref b124)])) rfl (hb hby own_d1_37) rfl (by decide) (cap := 0) (by decide) (by decide) (by decide) (by decide)
    obtain ⟨b125, g125⟩ : ∃ z, z = h124.size := ⟨_, rfl⟩
    rw [← g125] at A125 st125
    have fr125 : h0.size ≤ b125 := Nat.le_trans K124.1 (Nat.le_of_eq g125.symm)
    have ge125 : n0 ≤ b125 := Nat.le_trans Z0 fr125
    have K125 : Keep h0 h125 [] := K124.ext E125
    have c125 : CHr Z own_EL _ h124 _ h125 := CHr.ext E125 C124.1
    have C125 := C124.trans c125
    have kk125 := Nat.le_trans kk124 c125.2.1
    have Sf125_b125 : Safe Z own_EL _ h125 b125 := Safe.ext E125 C124.1 (Safe.new (Nat.le_of_eq g125.symm))
    have Ar125 : own_A Z h125 b125 k125 .char 0 (fun i => .int ((fun _ => (0 : Int32)) i)) := own_A.new A125 rfl (by decide)
    refine own_st (st125) ?_
    show own_Go p.tables e below _ (T125.setTop (mkF m 39 #[.val (.int p_), .val (.int n_), .val (.int ((p_ &&& (255 : Int32)).toUInt32.toUInt16.toUInt32.toInt32)), .val (.int ((((p_.toUInt32 >>> ((8 : Int32) &&& 31).toUInt32).toInt32) &&& (255 : Int32)).toUInt32.toUInt16.toUInt32.toInt32)), .val (.int ((((p_.toUInt32 >>> ((16 : Int32) &&& 31).toUInt32).toInt32) &&& (255 : Int32)).toUInt32.toUInt16.toUInt32.toInt32))] [(.ref b125), (.ref b124), (.ref b124)]))
    obtain ⟨_, _, ⟨T126, L126, k126, n126⟩, -, X126, Sq126, gq126, ⟨Lc126, hQ126, l126, y126, z126, c126⟩, st126⟩ := X125.specialBackS hx (y := (⟨"java/lang/String", "<init>", "([C)V"⟩ : MethodName)) rfl hown (mvT hZ (hw _ (List.mem_of_getElem? (i := 8) rfl))) (mvT hZ (hw _ (List.mem_of_getElem? (i := 9) rfl))) (mvT hZ (hw _ (List.mem_of_getElem? (i := 10) rfl))) (by decide) (own_backSH (W := 1) (own_rm2e l Z a0 hw [] b124 b125 k125 (fun _ => (0 : Int32)) h125 n0 (Nat.le_trans Z0 K125.1) (A124.ext E125) (F124_33.ext E125) (F124_31.ext E125) Ar125 ge124) hZ (hw _ (List.mem_of_getElem? (i := 10) rfl)) (hw _ (List.mem_of_getElem? (i := 6) rfl)) (by decide) (by decide) (own_hEL hw) C125.1 (own_slS ⟨(A124.ext E125).lt, (c125.safe A124.lt Sf124_b124)⟩ own_sl0)) (g := (mkF m 39 #[.val (.int p_), .val (.int n_), .val (.int ((p_ &&& (255 : Int32)).toUInt32.toUInt16.toUInt32.toInt32)), .val (.int ((((p_.toUInt32 >>> ((8 : Int32) &&& 31).toUInt32).toInt32) &&& (255 : Int32)).toUInt32.toUInt16.toUInt32.toInt32)), .val (.int ((((p_.toUInt32 >>> ((16 : Int32) &&& 31).toUInt32).toInt32) &&& (255 : Int32)).toUInt32.toUInt16.toUInt32.toInt32))] [(.ref b125), (.ref b124), (.ref b124)])) rfl (by rw [hml]; rfl) (Steps.refl _) (a := b124) (argsL := [(.ref b125)]) (rest := [(.ref b124)]) (lenOf own_pd4 rfl) rfl (by show 2 * 0 + _ ≤ _; exact Nat.le_of_eq rfl) (hb hby own_d1_39) (fun _ _ => ⟨rfl, e125, (by decide : 2 + 4 ≤ _), (by decide : 4 + 8 ≤ _)⟩)
    dsimp only [Pt.U, Pt.locs, Pt.cells, Pt.slots] at X126 l126 y126 z126 st126 hQ126 Sq126 gq126 c126
    subst y126 z126
    obtain ⟨t_126, kt_126, rfl, N126q, Kq126, P126_0, P126_1, P126_2⟩ := hQ126
    have N126 : Fr n0 L126 := by rw [l126]; exact Fr.app N0 N126q
    have S126 := foldS S0 (by rw [e125]; exact kk125) Sq126 gq126
    have X126 := (show Stand p l e _ (s.setVm T126.vm) m _ below meth c T126 L126 _ _ from X126)
    have hZ : Z.Warmed39 (s.setVm T126.vm).vm := State.Warmed39.trans (t := s.setVm s.vm) hZ Sq126.1
    have hown : (s.setVm T126.vm).vm.findClass "com/example/provender/provender/cli/ParameterFlagPinLaw" = some m.cls := by rw [show (s.setVm T126.vm).vm = T126.vm from rfl, Sq126.1.alike.findClass]; exact hown
    have kk126 := Nat.le_refl T126.heap.size
    have K126 : Keep h0 T126.heap [] := K125.trans Kq126 (allS (P := fun x => x ∈ [] ∨ h0.size ≤ x) (Or.inr fr124) all0)
    have C126 := C125.trans c126
    refine own_tr st126 ?_
    show own_Go p.tables e below _ (T126.setTop (mkF m 42 #[.val (.int p_), .val (.int n_), .val (.int ((p_ &&& (255 : Int32)).toUInt32.toUInt16.toUInt32.toInt32)), .val (.int ((((p_.toUInt32 >>> ((8 : Int32) &&& 31).toUInt32).toInt32) &&& (255 : Int32)).toUInt32.toUInt16.toUInt32.toInt32)), .val (.int ((((p_.toUInt32 >>> ((16 : Int32) &&& 31).toUInt32).toInt32) &&& (255 : Int32)).toUInt32.toUInt16.toUInt32.toInt32))] [(.ref b124)]))
    exact own_retW (w := (.ref b124)) X126 hx hnl hZ (own_hEL hw) S126 (kk126) (C126) Bd.returns rfl (Or.inr (Or.inr (Or.inr (Or.inr ⟨rfl, rfl, rfl⟩)))) (hb hby own_d1_42) ⟨b124, rfl, N126, (K126), fr124, (((A124.ext E125).keep Kq126))⟩ (by decide) (by decide)
  · skip
    refine own_st (fun t_ k_ => XS.ifYes X0.here hx rfl (pc0 := 29) (pc' := 43) rfl (hb hby own_d1_29) rfl ((if0 _ _).trans (feq c29_123).2) (by decide) (by decide) k_) ?_
    show own_Go p.tables e below _ (s₁.setTop (mkF m 43 #[.val (.int p_), .val (.int n_), .val (.int ((p_ &&& (255 : Int32)).toUInt32.toUInt16.toUInt32.toInt32)), .val (.int ((((p_.toUInt32 >>> ((8 : Int32) &&& 31).toUInt32).toInt32) &&& (255 : Int32)).toUInt32.toUInt16.toUInt32.toInt32)), .val (.int ((((p_.toUInt32 >>> ((16 : Int32) &&& 31).toUInt32).toInt32) &&& (255 : Int32)).toUInt32.toUInt16.toUInt32.toInt32))] []))
    refine own_st (fun t_ k_ => XS.iloadN X0.here hx rfl (hb hby own_d1_43) rfl k_) ?_
    show own_Go p.tables e below _ (s₁.setTop (mkF m 44 #[.val (.int p_), .val (.int n_), .val (.int ((p_ &&& (255 : Int32)).toUInt32.toUInt16.toUInt32.toInt32)), .val (.int ((((p_.toUInt32 >>> ((8 : Int32) &&& 31).toUInt32).toInt32) &&& (255 : Int32)).toUInt32.toUInt16.toUInt32.toInt32)), .val (.int ((((p_.toUInt32 >>> ((16 : Int32) &&& 31).toUInt32).toInt32) &&& (255 : Int32)).toUInt32.toUInt16.toUInt32.toInt32))] [(.int n_)]))
    refine own_st (fun t_ k_ => XS.iconst X0.here hx rfl (hb hby own_d1_44) k_) ?_
    show own_Go p.tables e below _ (s₁.setTop (mkF m 45 #[.val (.int p_), .val (.int n_), .val (.int ((p_ &&& (255 : Int32)).toUInt32.toUInt16.toUInt32.toInt32)), .val (.int ((((p_.toUInt32 >>> ((8 : Int32) &&& 31).toUInt32).toInt32) &&& (255 : Int32)).toUInt32.toUInt16.toUInt32.toInt32)), .val (.int ((((p_.toUInt32 >>> ((16 : Int32) &&& 31).toUInt32).toInt32) &&& (255 : Int32)).toUInt32.toUInt16.toUInt32.toInt32))] [(.int (1 : Int32)), (.int n_)]))
    by_cases c45_127 : n_ = (1 : Int32)
    · skip
      refine own_st (fun t_ k_ => XS.icmpNo X0.here hx rfl (hb hby own_d1_45) rfl (teq c45_127).2 k_) ?_
      show own_Go p.tables e below _ (s₁.setTop (mkF m 48 #[.val (.int p_), .val (.int n_), .val (.int ((p_ &&& (255 : Int32)).toUInt32.toUInt16.toUInt32.toInt32)), .val (.int ((((p_.toUInt32 >>> ((8 : Int32) &&& 31).toUInt32).toInt32) &&& (255 : Int32)).toUInt32.toUInt16.toUInt32.toInt32)), .val (.int ((((p_.toUInt32 >>> ((16 : Int32) &&& 31).toUInt32).toInt32) &&& (255 : Int32)).toUInt32.toUInt16.toUInt32.toInt32))] []))
      obtain ⟨T128, h128, X128, e128, E128, A128, D128, -, st128⟩ := newO X0 hx hZ hown (hw _ (List.mem_of_getElem? (i := 4) rfl)) (hw _ (List.mem_of_getElem? (i := 5) rfl)) (hw _ (List.mem_of_getElem? (i := 6) rfl)) e0 (g := (mkF m 48 #[.val (.int p_), .val (.int n_), .val (.int ((p_ &&& (255 : Int32)).toUInt32.toUInt16.toUInt32.toInt32)), .val (.int ((((p_.toUInt32 >>> ((8 : Int32) &&& 31).toUInt32).toInt32) &&& (255 : Int32)).toUInt32.toUInt16.toUInt32.toInt32)), .val (.int ((((p_.toUInt32 >>> ((16 : Int32) &&& 31).toUInt32).toInt32) &&& (255 : Int32)).toUInt32.toUInt16.toUInt32.toInt32))] [])) rfl (hb hby own_d1_48) (by decide) (by decide)
      obtain ⟨b128, g128⟩ : ∃ z, z = h0.size := ⟨_, rfl⟩
      rw [← g128] at A128 D128 st128
      have fr128 : h0.size ≤ b128 := Nat.le_trans (Keep.refl h0 []).1 (Nat.le_of_eq g128.symm)
      have ge128 : n0 ≤ b128 := Nat.le_trans Z0 fr128
      have K128 : Keep h0 h128 [] := (Keep.refl h0 []).ext E128
      have c128 : CHr Z own_EL _ h0 _ h128 := CHr.ext E128 C0.1
      have C128 := C0.trans c128
      have kk128 := Nat.le_trans k0 c128.2.1
      have Sf128_b128 : Safe Z own_EL _ h128 b128 := Safe.ext E128 C0.1 (Safe.new (Nat.le_of_eq g128.symm))
      have F128_31 : Fld Z h128 b128 "java/lang/String" "coder" "B" (.int (0 : Int32)) := D128 (Or.inr (hw _ (List.mem_of_getElem? (i := 31) rfl))) (ty := .byte) (by decide)
      have F128_33 : Fld Z h128 b128 "java/lang/String" "value" "[B" .null := D128 (Or.inr (hw _ (List.mem_of_getElem? (i := 33) rfl))) (ty := (.array .byte)) (by decide)
      refine own_st (st128) ?_
      show own_Go p.tables e below _ (T128.setTop (mkF m 51 #[.val (.int p_), .val (.int n_), .val (.int ((p_ &&& (255 : Int32)).toUInt32.toUInt16.toUInt32.toInt32)), .val (.int ((((p_.toUInt32 >>> ((8 : Int32) &&& 31).toUInt32).toInt32) &&& (255 : Int32)).toUInt32.toUInt16.toUInt32.toInt32)), .val (.int ((((p_.toUInt32 >>> ((16 : Int32) &&& 31).toUInt32).toInt32) &&& (255 : Int32)).toUInt32.toUInt16.toUInt32.toInt32))] [(.ref b128)]))
      refine own_st (fun t_ k_ => XS.dup X128.here hx rfl (hb hby own_d1_51) rfl rfl k_) ?_
      show own_Go p.tables e below _ (T128.setTop (mkF m 52 #[.val (.int p_), .val (.int n_), .val (.int ((p_ &&& (255 : Int32)).toUInt32.toUInt16.toUInt32.toInt32)), .val (.int ((((p_.toUInt32 >>> ((8 : Int32) &&& 31).toUInt32).toInt32) &&& (255 : Int32)).toUInt32.toUInt16.toUInt32.toInt32)), .val (.int ((((p_.toUInt32 >>> ((16 : Int32) &&& 31).toUInt32).toInt32) &&& (255 : Int32)).toUInt32.toUInt16.toUInt32.toInt32))] [(.ref b128), (.ref b128)]))
      refine own_st (fun t_ k_ => XS.iconst X128.here hx rfl (hb hby own_d1_52) k_) ?_
      show own_Go p.tables e below _ (T128.setTop (mkF m 53 #[.val (.int p_), .val (.int n_), .val (.int ((p_ &&& (255 : Int32)).toUInt32.toUInt16.toUInt32.toInt32)), .val (.int ((((p_.toUInt32 >>> ((8 : Int32) &&& 31).toUInt32).toInt32) &&& (255 : Int32)).toUInt32.toUInt16.toUInt32.toInt32)), .val (.int ((((p_.toUInt32 >>> ((16 : Int32) &&& 31).toUInt32).toInt32) &&& (255 : Int32)).toUInt32.toUInt16.toUInt32.toInt32))] [(.int (1 : Int32)), (.ref b128), (.ref b128)]))
      obtain ⟨T129, h129, k129, X129, e129, E129, A129, st129⟩ := newP X128 hx hZ (hw _ (List.mem_of_getElem? (i := 7) rfl)) e128 (g := (mkF m 53 #[.val (.int p_), .val (.int n_), .val (.int ((p_ &&& (255 : Int32)).toUInt32.toUInt16.toUInt32.toInt32)), .val (.int ((((p_.toUInt32 >>> ((8 : Int32) &&& 31).toUInt32).toInt32) &&& (255 : Int32)).toUInt32.toUInt16.toUInt32.toInt32)), .val (.int ((((p_.toUInt32 >>> ((16 : Int32) &&& 31).toUInt32).toInt32) &&& (255 : Int32)).toUInt32.toUInt16.toUInt32.toInt32))] [(.int (1 : Int32)), (.ref b128), (.ref b128)])) rfl (hb hby own_d1_53) rfl (by decide) (cap := 1) (by decide) (by decide) (by decide) (by decide)
      obtain ⟨b129, g129⟩ : ∃ z, z = h128.size := ⟨_, rfl⟩
      rw [← g129] at A129 st129
      have fr129 : h0.size ≤ b129 := Nat.le_trans K128.1 (Nat.le_of_eq g129.symm)
      have ge129 : n0 ≤ b129 := Nat.le_trans Z0 fr129
      have K129 : Keep h0 h129 [] := K128.ext E129
      have c129 : CHr Z own_EL _ h128 _ h129 := CHr.ext E129 C128.1
      have C129 := C128.trans c129
      have kk129 := Nat.le_trans kk128 c129.2.1
      have Sf129_b129 : Safe Z own_EL _ h129 b129 := Safe.ext E129 C128.1 (Safe.new (Nat.le_of_eq g129.symm))
      have Ar129 : own_A Z h129 b129 k129 .char 1 (fun i => .int ((fun _ => (0 : Int32)) i)) := own_A.new A129 rfl (by decide)
      refine own_st (st129) ?_
      show own_Go p.tables e below _ (T129.setTop (mkF m 55 #[.val (.int p_), .val (.int n_), .val (.int ((p_ &&& (255 : Int32)).toUInt32.toUInt16.toUInt32.toInt32)), .val (.int ((((p_.toUInt32 >>> ((8 : Int32) &&& 31).toUInt32).toInt32) &&& (255 : Int32)).toUInt32.toUInt16.toUInt32.toInt32)), .val (.int ((((p_.toUInt32 >>> ((16 : Int32) &&& 31).toUInt32).toInt32) &&& (255 : Int32)).toUInt32.toUInt16.toUInt32.toInt32))] [(.ref b129), (.ref b128), (.ref b128)]))
      refine own_st (fun t_ k_ => XS.dup X129.here hx rfl (hb hby own_d1_55) rfl rfl k_) ?_
      show own_Go p.tables e below _ (T129.setTop (mkF m 56 #[.val (.int p_), .val (.int n_), .val (.int ((p_ &&& (255 : Int32)).toUInt32.toUInt16.toUInt32.toInt32)), .val (.int ((((p_.toUInt32 >>> ((8 : Int32) &&& 31).toUInt32).toInt32) &&& (255 : Int32)).toUInt32.toUInt16.toUInt32.toInt32)), .val (.int ((((p_.toUInt32 >>> ((16 : Int32) &&& 31).toUInt32).toInt32) &&& (255 : Int32)).toUInt32.toUInt16.toUInt32.toInt32))] [(.ref b129), (.ref b129), (.ref b128), (.ref b128)]))
      refine own_st (fun t_ k_ => XS.iconst X129.here hx rfl (hb hby own_d1_56) k_) ?_
      show own_Go p.tables e below _ (T129.setTop (mkF m 57 #[.val (.int p_), .val (.int n_), .val (.int ((p_ &&& (255 : Int32)).toUInt32.toUInt16.toUInt32.toInt32)), .val (.int ((((p_.toUInt32 >>> ((8 : Int32) &&& 31).toUInt32).toInt32) &&& (255 : Int32)).toUInt32.toUInt16.toUInt32.toInt32)), .val (.int ((((p_.toUInt32 >>> ((16 : Int32) &&& 31).toUInt32).toInt32) &&& (255 : Int32)).toUInt32.toUInt16.toUInt32.toInt32))] [(.int (0 : Int32)), (.ref b129), (.ref b129), (.ref b128), (.ref b128)]))
      refine own_st (fun t_ k_ => XS.iloadN X129.here hx rfl (hb hby own_d1_57) rfl k_) ?_
      show own_Go p.tables e below _ (T129.setTop (mkF m 58 #[.val (.int p_), .val (.int n_), .val (.int ((p_ &&& (255 : Int32)).toUInt32.toUInt16.toUInt32.toInt32)), .val (.int ((((p_.toUInt32 >>> ((8 : Int32) &&& 31).toUInt32).toInt32) &&& (255 : Int32)).toUInt32.toUInt16.toUInt32.toInt32)), .val (.int ((((p_.toUInt32 >>> ((16 : Int32) &&& 31).toUInt32).toInt32) &&& (255 : Int32)).toUInt32.toUInt16.toUInt32.toInt32))] [(.int ((p_ &&& (255 : Int32)).toUInt32.toUInt16.toUInt32.toInt32)), (.int (0 : Int32)), (.ref b129), (.ref b129), (.ref b128), (.ref b128)]))
      obtain ⟨T130, h130, X130, e130, W130, Aw130, st130⟩ := own_castore X129 hx hZ e129 Ar129 (i := 0) (by decide) (by decide) (own_narcc _) (v' := ((p_ &&& (255 : Int32)).toUInt32.toUInt16.toUInt32.toInt32)) (g := (mkF m 58 #[.val (.int p_), .val (.int n_), .val (.int ((p_ &&& (255 : Int32)).toUInt32.toUInt16.toUInt32.toInt32)), .val (.int ((((p_.toUInt32 >>> ((8 : Int32) &&& 31).toUInt32).toInt32) &&& (255 : Int32)).toUInt32.toUInt16.toUInt32.toInt32)), .val (.int ((((p_.toUInt32 >>> ((16 : Int32) &&& 31).toUInt32).toInt32) &&& (255 : Int32)).toUInt32.toUInt16.toUInt32.toInt32))] [(.int ((p_ &&& (255 : Int32)).toUInt32.toUInt16.toUInt32.toInt32)), (.int (0 : Int32)), (.ref b129), (.ref b129), (.ref b128), (.ref b128)])) rfl rfl (hb hby own_d1_58)
      have N130 := Fr.snoc X130 N0 ge129
      have K130 : Keep h0 h130 [] := K129.wr W130 (Or.inr fr129)
      have c130 : CHr Z own_EL _ h129 _ h130 := CHr.wr W130 (own_safeA hZ.alike Ar129 (by decide)) C129.1
      have C130 := C129.trans c130
      have kk130 := Nat.le_trans kk129 c130.2.1
      refine own_st (st130) ?_
      show own_Go p.tables e below _ (T130.setTop (mkF m 59 #[.val (.int p_), .val (.int n_), .val (.int ((p_ &&& (255 : Int32)).toUInt32.toUInt16.toUInt32.toInt32)), .val (.int ((((p_.toUInt32 >>> ((8 : Int32) &&& 31).toUInt32).toInt32) &&& (255 : Int32)).toUInt32.toUInt16.toUInt32.toInt32)), .val (.int ((((p_.toUInt32 >>> ((16 : Int32) &&& 31).toUInt32).toInt32) &&& (255 : Int32)).toUInt32.toUInt16.toUInt32.toInt32))] [(.ref b129), (.ref b128), (.ref b128)]))
      obtain ⟨_, _, ⟨T131, L131, k131, n131⟩, -, X131, ⟨Lc131, hQ131, l131, y131, z131⟩, st131⟩ := X130.specialBack hx (y := (⟨"java/lang/String", "<init>", "([C)V"⟩ : MethodName)) rfl hown (mvT hZ (hw _ (List.mem_of_getElem? (i := 8) rfl))) (mvT hZ (hw _ (List.mem_of_getElem? (i := 9) rfl))) (mvT hZ (hw _ (List.mem_of_getElem? (i := 10) rfl))) (by decide) (backOf (W := 1) (own_rm2 l Z a0 hw [] b128 b129 k129 1 (own_upd (fun _ => (0 : Int32)) 0 ((p_ &&& (255 : Int32)).toUInt32.toUInt16.toUInt32.toInt32)) G1 h130 n0 (Nat.le_trans Z0 K130.1) ((A128.ext E129).wr W130) ((F128_33.ext E129).other W130 (Or.inl (Nat.ne_of_lt (Nat.lt_of_lt_of_le A128.lt (Nat.le_of_eq g129.symm))))) ((F128_31.ext E129).other W130 (Or.inl (Nat.ne_of_lt (Nat.lt_of_lt_of_le A128.lt (Nat.le_of_eq g129.symm))))) Aw130 ge128 (Nat.ne_of_lt (Nat.lt_of_lt_of_le A128.lt (Nat.le_of_eq g129.symm))) (by decide) (fun q _ => (own_lu own_l0 (own_c255 _)) q) (((q0.ext E128).ext E129).wr W130 ge129) q1 hG1) hZ (hw _ (List.mem_of_getElem? (i := 10) rfl)) (hw _ (List.mem_of_getElem? (i := 6) rfl)) (by decide) (by decide)) (g := (mkF m 59 #[.val (.int p_), .val (.int n_), .val (.int ((p_ &&& (255 : Int32)).toUInt32.toUInt16.toUInt32.toInt32)), .val (.int ((((p_.toUInt32 >>> ((8 : Int32) &&& 31).toUInt32).toInt32) &&& (255 : Int32)).toUInt32.toUInt16.toUInt32.toInt32)), .val (.int ((((p_.toUInt32 >>> ((16 : Int32) &&& 31).toUInt32).toInt32) &&& (255 : Int32)).toUInt32.toUInt16.toUInt32.toInt32))] [(.ref b129), (.ref b128), (.ref b128)])) rfl (by rw [hml]; rfl) (Steps.refl _) (a := b128) (argsL := [(.ref b129)]) (rest := [(.ref b128)]) (lenOf own_pd4 rfl) rfl (by show 2 * 0 + _ ≤ _; exact Nat.le_of_eq rfl) (hb hby own_d1_59) (fun _ _ => ⟨rfl, e130, (by decide : 2 + 1 ≤ _), (by decide : 5 + 3 ≤ _)⟩)
      dsimp only [Pt.U, Pt.locs, Pt.cells, Pt.slots] at X131 l131 y131 z131 st131 hQ131
      subst y131 z131
      obtain ⟨t_131, kt_131, cd_131, rfl, N131q, Kq131, P131_0, P131_1, P131_2, P131_3, P131_4⟩ := hQ131
      have N131 : Fr n0 L131 := by rw [l131]; exact Fr.app N130 N131q
      have K131 : Keep h0 T131.heap [] := K130.trans Kq131 (allS (P := fun x => x ∈ [] ∨ h0.size ≤ x) (Or.inr fr128) all0)
      have c131 : CHr Z own_EL _ h130 _ T131.heap := CHr.keep Kq131 (own_slS (c130.safe (A128.ext E129).lt (c129.safe A128.lt Sf128_b128)) own_sl0) C130.1
      have C131 := C130.trans c131
      have kk131 := Nat.le_trans kk130 c131.2.1
      have fr131_0 : h0.size ≤ t_131 := Nat.le_trans K130.1 P131_0
      have ge131_0 : n0 ≤ t_131 := Nat.le_trans Z0 fr131_0
      have Sf131_t_131 : Safe Z own_EL _ T131.heap t_131 := Safe.keep Kq131 (own_slS (c130.safe (A128.ext E129).lt (c129.safe A128.lt Sf128_b128)) own_sl0) C130.1 (Safe.new P131_0)
      refine own_tr st131 ?_
      show own_Go p.tables e below _ (T131.setTop (mkF m 62 #[.val (.int p_), .val (.int n_), .val (.int ((p_ &&& (255 : Int32)).toUInt32.toUInt16.toUInt32.toInt32)), .val (.int ((((p_.toUInt32 >>> ((8 : Int32) &&& 31).toUInt32).toInt32) &&& (255 : Int32)).toUInt32.toUInt16.toUInt32.toInt32)), .val (.int ((((p_.toUInt32 >>> ((16 : Int32) &&& 31).toUInt32).toInt32) &&& (255 : Int32)).toUInt32.toUInt16.toUInt32.toInt32))] [(.ref b128)]))
      exact own_retW (w := (.ref b128)) X131 hx hnl hZ (own_hEL hw) S0 (kk131) (C131) Bd.returns rfl (Or.inr (Or.inr (Or.inr (Or.inr ⟨rfl, rfl, rfl⟩)))) (hb hby own_d1_62) ⟨b128, rfl, N131, (K131), fr128, ((((A128.ext E129).wr W130).keep Kq131))⟩ (by decide) (by decide)
    · skip
      refine own_st (fun t_ k_ => XS.icmpYes X0.here hx rfl (pc0 := 45) (pc' := 63) rfl (hb hby own_d1_45) rfl (feq c45_127).2 (by decide) (by decide) k_) ?_
      show own_Go p.tables e below _ (s₁.setTop (mkF m 63 #[.val (.int p_), .val (.int n_), .val (.int ((p_ &&& (255 : Int32)).toUInt32.toUInt16.toUInt32.toInt32)), .val (.int ((((p_.toUInt32 >>> ((8 : Int32) &&& 31).toUInt32).toInt32) &&& (255 : Int32)).toUInt32.toUInt16.toUInt32.toInt32)), .val (.int ((((p_.toUInt32 >>> ((16 : Int32) &&& 31).toUInt32).toInt32) &&& (255 : Int32)).toUInt32.toUInt16.toUInt32.toInt32))] []))
      refine own_st (fun t_ k_ => XS.iloadN X0.here hx rfl (hb hby own_d1_63) rfl k_) ?_
      show own_Go p.tables e below _ (s₁.setTop (mkF m 64 #[.val (.int p_), .val (.int n_), .val (.int ((p_ &&& (255 : Int32)).toUInt32.toUInt16.toUInt32.toInt32)), .val (.int ((((p_.toUInt32 >>> ((8 : Int32) &&& 31).toUInt32).toInt32) &&& (255 : Int32)).toUInt32.toUInt16.toUInt32.toInt32)), .val (.int ((((p_.toUInt32 >>> ((16 : Int32) &&& 31).toUInt32).toInt32) &&& (255 : Int32)).toUInt32.toUInt16.toUInt32.toInt32))] [(.int n_)]))
      refine own_st (fun t_ k_ => XS.iconst X0.here hx rfl (hb hby own_d1_64) k_) ?_
      show own_Go p.tables e below _ (s₁.setTop (mkF m 65 #[.val (.int p_), .val (.int n_), .val (.int ((p_ &&& (255 : Int32)).toUInt32.toUInt16.toUInt32.toInt32)), .val (.int ((((p_.toUInt32 >>> ((8 : Int32) &&& 31).toUInt32).toInt32) &&& (255 : Int32)).toUInt32.toUInt16.toUInt32.toInt32)), .val (.int ((((p_.toUInt32 >>> ((16 : Int32) &&& 31).toUInt32).toInt32) &&& (255 : Int32)).toUInt32.toUInt16.toUInt32.toInt32))] [(.int (2 : Int32)), (.int n_)]))
      by_cases c65_132 : n_ = (2 : Int32)
      · skip
        refine own_st (fun t_ k_ => XS.icmpNo X0.here hx rfl (hb hby own_d1_65) rfl (teq c65_132).2 k_) ?_
        show own_Go p.tables e below _ (s₁.setTop (mkF m 68 #[.val (.int p_), .val (.int n_), .val (.int ((p_ &&& (255 : Int32)).toUInt32.toUInt16.toUInt32.toInt32)), .val (.int ((((p_.toUInt32 >>> ((8 : Int32) &&& 31).toUInt32).toInt32) &&& (255 : Int32)).toUInt32.toUInt16.toUInt32.toInt32)), .val (.int ((((p_.toUInt32 >>> ((16 : Int32) &&& 31).toUInt32).toInt32) &&& (255 : Int32)).toUInt32.toUInt16.toUInt32.toInt32))] []))
        obtain ⟨T133, h133, X133, e133, E133, A133, D133, -, st133⟩ := newO X0 hx hZ hown (hw _ (List.mem_of_getElem? (i := 4) rfl)) (hw _ (List.mem_of_getElem? (i := 5) rfl)) (hw _ (List.mem_of_getElem? (i := 6) rfl)) e0 (g := (mkF m 68 #[.val (.int p_), .val (.int n_), .val (.int ((p_ &&& (255 : Int32)).toUInt32.toUInt16.toUInt32.toInt32)), .val (.int ((((p_.toUInt32 >>> ((8 : Int32) &&& 31).toUInt32).toInt32) &&& (255 : Int32)).toUInt32.toUInt16.toUInt32.toInt32)), .val (.int ((((p_.toUInt32 >>> ((16 : Int32) &&& 31).toUInt32).toInt32) &&& (255 : Int32)).toUInt32.toUInt16.toUInt32.toInt32))] [])) rfl (hb hby own_d1_68) (by decide) (by decide)
        obtain ⟨b133, g133⟩ : ∃ z, z = h0.size := ⟨_, rfl⟩
        rw [← g133] at A133 D133 st133
        have fr133 : h0.size ≤ b133 := Nat.le_trans (Keep.refl h0 []).1 (Nat.le_of_eq g133.symm)
        have ge133 : n0 ≤ b133 := Nat.le_trans Z0 fr133
        have K133 : Keep h0 h133 [] := (Keep.refl h0 []).ext E133
        have c133 : CHr Z own_EL _ h0 _ h133 := CHr.ext E133 C0.1
        have C133 := C0.trans c133
        have kk133 := Nat.le_trans k0 c133.2.1
        have Sf133_b133 : Safe Z own_EL _ h133 b133 := Safe.ext E133 C0.1 (Safe.new (Nat.le_of_eq g133.symm))
        have F133_31 : Fld Z h133 b133 "java/lang/String" "coder" "B" (.int (0 : Int32)) := D133 (Or.inr (hw _ (List.mem_of_getElem? (i := 31) rfl))) (ty := .byte) (by decide)
        have F133_33 : Fld Z h133 b133 "java/lang/String" "value" "[B" .null := D133 (Or.inr (hw _ (List.mem_of_getElem? (i := 33) rfl))) (ty := (.array .byte)) (by decide)
        refine own_st (st133) ?_
        show own_Go p.tables e below _ (T133.setTop (mkF m 71 #[.val (.int p_), .val (.int n_), .val (.int ((p_ &&& (255 : Int32)).toUInt32.toUInt16.toUInt32.toInt32)), .val (.int ((((p_.toUInt32 >>> ((8 : Int32) &&& 31).toUInt32).toInt32) &&& (255 : Int32)).toUInt32.toUInt16.toUInt32.toInt32)), .val (.int ((((p_.toUInt32 >>> ((16 : Int32) &&& 31).toUInt32).toInt32) &&& (255 : Int32)).toUInt32.toUInt16.toUInt32.toInt32))] [(.ref b133)]))
        refine own_st (fun t_ k_ => XS.dup X133.here hx rfl (hb hby own_d1_71) rfl rfl k_) ?_
        show own_Go p.tables e below _ (T133.setTop (mkF m 72 #[.val (.int p_), .val (.int n_), .val (.int ((p_ &&& (255 : Int32)).toUInt32.toUInt16.toUInt32.toInt32)), .val (.int ((((p_.toUInt32 >>> ((8 : Int32) &&& 31).toUInt32).toInt32) &&& (255 : Int32)).toUInt32.toUInt16.toUInt32.toInt32)), .val (.int ((((p_.toUInt32 >>> ((16 : Int32) &&& 31).toUInt32).toInt32) &&& (255 : Int32)).toUInt32.toUInt16.toUInt32.toInt32))] [(.ref b133), (.ref b133)]))
        refine own_st (fun t_ k_ => XS.iconst X133.here hx rfl (hb hby own_d1_72) k_) ?_
        show own_Go p.tables e below _ (T133.setTop (mkF m 73 #[.val (.int p_), .val (.int n_), .val (.int ((p_ &&& (255 : Int32)).toUInt32.toUInt16.toUInt32.toInt32)), .val (.int ((((p_.toUInt32 >>> ((8 : Int32) &&& 31).toUInt32).toInt32) &&& (255 : Int32)).toUInt32.toUInt16.toUInt32.toInt32)), .val (.int ((((p_.toUInt32 >>> ((16 : Int32) &&& 31).toUInt32).toInt32) &&& (255 : Int32)).toUInt32.toUInt16.toUInt32.toInt32))] [(.int (2 : Int32)), (.ref b133), (.ref b133)]))
        obtain ⟨T134, h134, k134, X134, e134, E134, A134, st134⟩ := newP X133 hx hZ (hw _ (List.mem_of_getElem? (i := 7) rfl)) e133 (g := (mkF m 73 #[.val (.int p_), .val (.int n_), .val (.int ((p_ &&& (255 : Int32)).toUInt32.toUInt16.toUInt32.toInt32)), .val (.int ((((p_.toUInt32 >>> ((8 : Int32) &&& 31).toUInt32).toInt32) &&& (255 : Int32)).toUInt32.toUInt16.toUInt32.toInt32)), .val (.int ((((p_.toUInt32 >>> ((16 : Int32) &&& 31).toUInt32).toInt32) &&& (255 : Int32)).toUInt32.toUInt16.toUInt32.toInt32))] [(.int (2 : Int32)), (.ref b133), (.ref b133)])) rfl (hb hby own_d1_73) rfl (by decide) (cap := 2) (by decide) (by decide) (by decide) (by decide)
        obtain ⟨b134, g134⟩ : ∃ z, z = h133.size := ⟨_, rfl⟩
        rw [← g134] at A134 st134
        have fr134 : h0.size ≤ b134 := Nat.le_trans K133.1 (Nat.le_of_eq g134.symm)
        have ge134 : n0 ≤ b134 := Nat.le_trans Z0 fr134
        have K134 : Keep h0 h134 [] := K133.ext E134
        have c134 : CHr Z own_EL _ h133 _ h134 := CHr.ext E134 C133.1
        have C134 := C133.trans c134
        have kk134 := Nat.le_trans kk133 c134.2.1
        have Sf134_b134 : Safe Z own_EL _ h134 b134 := Safe.ext E134 C133.1 (Safe.new (Nat.le_of_eq g134.symm))
        have Ar134 : own_A Z h134 b134 k134 .char 2 (fun i => .int ((fun _ => (0 : Int32)) i)) := own_A.new A134 rfl (by decide)
        refine own_st (st134) ?_
        show own_Go p.tables e below _ (T134.setTop (mkF m 75 #[.val (.int p_), .val (.int n_), .val (.int ((p_ &&& (255 : Int32)).toUInt32.toUInt16.toUInt32.toInt32)), .val (.int ((((p_.toUInt32 >>> ((8 : Int32) &&& 31).toUInt32).toInt32) &&& (255 : Int32)).toUInt32.toUInt16.toUInt32.toInt32)), .val (.int ((((p_.toUInt32 >>> ((16 : Int32) &&& 31).toUInt32).toInt32) &&& (255 : Int32)).toUInt32.toUInt16.toUInt32.toInt32))] [(.ref b134), (.ref b133), (.ref b133)]))
        refine own_st (fun t_ k_ => XS.dup X134.here hx rfl (hb hby own_d1_75) rfl rfl k_) ?_
        show own_Go p.tables e below _ (T134.setTop (mkF m 76 #[.val (.int p_), .val (.int n_), .val (.int ((p_ &&& (255 : Int32)).toUInt32.toUInt16.toUInt32.toInt32)), .val (.int ((((p_.toUInt32 >>> ((8 : Int32) &&& 31).toUInt32).toInt32) &&& (255 : Int32)).toUInt32.toUInt16.toUInt32.toInt32)), .val (.int ((((p_.toUInt32 >>> ((16 : Int32) &&& 31).toUInt32).toInt32) &&& (255 : Int32)).toUInt32.toUInt16.toUInt32.toInt32))] [(.ref b134), (.ref b134), (.ref b133), (.ref b133)]))
        refine own_st (fun t_ k_ => XS.iconst X134.here hx rfl (hb hby own_d1_76) k_) ?_
        show own_Go p.tables e below _ (T134.setTop (mkF m 77 #[.val (.int p_), .val (.int n_), .val (.int ((p_ &&& (255 : Int32)).toUInt32.toUInt16.toUInt32.toInt32)), .val (.int ((((p_.toUInt32 >>> ((8 : Int32) &&& 31).toUInt32).toInt32) &&& (255 : Int32)).toUInt32.toUInt16.toUInt32.toInt32)), .val (.int ((((p_.toUInt32 >>> ((16 : Int32) &&& 31).toUInt32).toInt32) &&& (255 : Int32)).toUInt32.toUInt16.toUInt32.toInt32))] [(.int (0 : Int32)), (.ref b134), (.ref b134), (.ref b133), (.ref b133)]))
        refine own_st (fun t_ k_ => XS.iloadN X134.here hx rfl (hb hby own_d1_77) rfl k_) ?_
        show own_Go p.tables e below _ (T134.setTop (mkF m 78 #[.val (.int p_), .val (.int n_), .val (.int ((p_ &&& (255 : Int32)).toUInt32.toUInt16.toUInt32.toInt32)), .val (.int ((((p_.toUInt32 >>> ((8 : Int32) &&& 31).toUInt32).toInt32) &&& (255 : Int32)).toUInt32.toUInt16.toUInt32.toInt32)), .val (.int ((((p_.toUInt32 >>> ((16 : Int32) &&& 31).toUInt32).toInt32) &&& (255 : Int32)).toUInt32.toUInt16.toUInt32.toInt32))] [(.int ((p_ &&& (255 : Int32)).toUInt32.toUInt16.toUInt32.toInt32)), (.int (0 : Int32)), (.ref b134), (.ref b134), (.ref b133), (.ref b133)]))
        obtain ⟨T135, h135, X135, e135, W135, Aw135, st135⟩ := own_castore X134 hx hZ e134 Ar134 (i := 0) (by decide) (by decide) (own_narcc _) (v' := ((p_ &&& (255 : Int32)).toUInt32.toUInt16.toUInt32.toInt32)) (g := (mkF m 78 #[.val (.int p_), .val (.int n_), .val (.int ((p_ &&& (255 : Int32)).toUInt32.toUInt16.toUInt32.toInt32)), .val (.int ((((p_.toUInt32 >>> ((8 : Int32) &&& 31).toUInt32).toInt32) &&& (255 : Int32)).toUInt32.toUInt16.toUInt32.toInt32)), .val (.int ((((p_.toUInt32 >>> ((16 : Int32) &&& 31).toUInt32).toInt32) &&& (255 : Int32)).toUInt32.toUInt16.toUInt32.toInt32))] [(.int ((p_ &&& (255 : Int32)).toUInt32.toUInt16.toUInt32.toInt32)), (.int (0 : Int32)), (.ref b134), (.ref b134), (.ref b133), (.ref b133)])) rfl rfl (hb hby own_d1_78)
        have N135 := Fr.snoc X135 N0 ge134
        have K135 : Keep h0 h135 [] := K134.wr W135 (Or.inr fr134)
        have c135 : CHr Z own_EL _ h134 _ h135 := CHr.wr W135 (own_safeA hZ.alike Ar134 (by decide)) C134.1
        have C135 := C134.trans c135
        have kk135 := Nat.le_trans kk134 c135.2.1
        refine own_st (st135) ?_
        show own_Go p.tables e below _ (T135.setTop (mkF m 79 #[.val (.int p_), .val (.int n_), .val (.int ((p_ &&& (255 : Int32)).toUInt32.toUInt16.toUInt32.toInt32)), .val (.int ((((p_.toUInt32 >>> ((8 : Int32) &&& 31).toUInt32).toInt32) &&& (255 : Int32)).toUInt32.toUInt16.toUInt32.toInt32)), .val (.int ((((p_.toUInt32 >>> ((16 : Int32) &&& 31).toUInt32).toInt32) &&& (255 : Int32)).toUInt32.toUInt16.toUInt32.toInt32))] [(.ref b134), (.ref b133), (.ref b133)]))
        refine own_st (fun t_ k_ => XS.dup X135.here hx rfl (hb hby own_d1_79) rfl rfl k_) ?_
        show own_Go p.tables e below _ (T135.setTop (mkF m 80 #[.val (.int p_), .val (.int n_), .val (.int ((p_ &&& (255 : Int32)).toUInt32.toUInt16.toUInt32.toInt32)), .val (.int ((((p_.toUInt32 >>> ((8 : Int32) &&& 31).toUInt32).toInt32) &&& (255 : Int32)).toUInt32.toUInt16.toUInt32.toInt32)), .val (.int ((((p_.toUInt32 >>> ((16 : Int32) &&& 31).toUInt32).toInt32) &&& (255 : Int32)).toUInt32.toUInt16.toUInt32.toInt32))] [(.ref b134), (.ref b134), (.ref b133), (.ref b133)]))
        refine own_st (fun t_ k_ => XS.iconst X135.here hx rfl (hb hby own_d1_80) k_) ?_
        show own_Go p.tables e below _ (T135.setTop (mkF m 81 #[.val (.int p_), .val (.int n_), .val (.int ((p_ &&& (255 : Int32)).toUInt32.toUInt16.toUInt32.toInt32)), .val (.int ((((p_.toUInt32 >>> ((8 : Int32) &&& 31).toUInt32).toInt32) &&& (255 : Int32)).toUInt32.toUInt16.toUInt32.toInt32)), .val (.int ((((p_.toUInt32 >>> ((16 : Int32) &&& 31).toUInt32).toInt32) &&& (255 : Int32)).toUInt32.toUInt16.toUInt32.toInt32))] [(.int (1 : Int32)), (.ref b134), (.ref b134), (.ref b133), (.ref b133)]))
        refine own_st (fun t_ k_ => XS.iloadN X135.here hx rfl (hb hby own_d1_81) rfl k_) ?_
        show own_Go p.tables e below _ (T135.setTop (mkF m 82 #[.val (.int p_), .val (.int n_), .val (.int ((p_ &&& (255 : Int32)).toUInt32.toUInt16.toUInt32.toInt32)), .val (.int ((((p_.toUInt32 >>> ((8 : Int32) &&& 31).toUInt32).toInt32) &&& (255 : Int32)).toUInt32.toUInt16.toUInt32.toInt32)), .val (.int ((((p_.toUInt32 >>> ((16 : Int32) &&& 31).toUInt32).toInt32) &&& (255 : Int32)).toUInt32.toUInt16.toUInt32.toInt32))] [(.int ((((p_.toUInt32 >>> ((8 : Int32) &&& 31).toUInt32).toInt32) &&& (255 : Int32)).toUInt32.toUInt16.toUInt32.toInt32)), (.int (1 : Int32)), (.ref b134), (.ref b134), (.ref b133), (.ref b133)]))
        obtain ⟨T136, h136, X136, e136, W136, Aw136, st136⟩ := own_castore X135 hx hZ e135 Aw135 (i := 1) (by decide) (by decide) (own_narcc _) (v' := ((((p_.toUInt32 >>> ((8 : Int32) &&& 31).toUInt32).toInt32) &&& (255 : Int32)).toUInt32.toUInt16.toUInt32.toInt32)) (g := (mkF m 82 #[.val (.int p_), .val (.int n_), .val (.int ((p_ &&& (255 : Int32)).toUInt32.toUInt16.toUInt32.toInt32)), .val (.int ((((p_.toUInt32 >>> ((8 : Int32) &&& 31).toUInt32).toInt32) &&& (255 : Int32)).toUInt32.toUInt16.toUInt32.toInt32)), .val (.int ((((p_.toUInt32 >>> ((16 : Int32) &&& 31).toUInt32).toInt32) &&& (255 : Int32)).toUInt32.toUInt16.toUInt32.toInt32))] [(.int ((((p_.toUInt32 >>> ((8 : Int32) &&& 31).toUInt32).toInt32) &&& (255 : Int32)).toUInt32.toUInt16.toUInt32.toInt32)), (.int (1 : Int32)), (.ref b134), (.ref b134), (.ref b133), (.ref b133)])) rfl rfl (hb hby own_d1_82)
        have N136 := Fr.snoc X136 N135 ge134
        have K136 : Keep h0 h136 [] := K135.wr W136 (Or.inr fr134)
        have c136 : CHr Z own_EL _ h135 _ h136 := CHr.wr W136 (own_safeA hZ.alike Aw135 (by decide)) C135.1
        have C136 := C135.trans c136
        have kk136 := Nat.le_trans kk135 c136.2.1
        refine own_st (st136) ?_
        show own_Go p.tables e below _ (T136.setTop (mkF m 83 #[.val (.int p_), .val (.int n_), .val (.int ((p_ &&& (255 : Int32)).toUInt32.toUInt16.toUInt32.toInt32)), .val (.int ((((p_.toUInt32 >>> ((8 : Int32) &&& 31).toUInt32).toInt32) &&& (255 : Int32)).toUInt32.toUInt16.toUInt32.toInt32)), .val (.int ((((p_.toUInt32 >>> ((16 : Int32) &&& 31).toUInt32).toInt32) &&& (255 : Int32)).toUInt32.toUInt16.toUInt32.toInt32))] [(.ref b134), (.ref b133), (.ref b133)]))
        obtain ⟨_, _, ⟨T137, L137, k137, n137⟩, -, X137, ⟨Lc137, hQ137, l137, y137, z137⟩, st137⟩ := X136.specialBack hx (y := (⟨"java/lang/String", "<init>", "([C)V"⟩ : MethodName)) rfl hown (mvT hZ (hw _ (List.mem_of_getElem? (i := 8) rfl))) (mvT hZ (hw _ (List.mem_of_getElem? (i := 9) rfl))) (mvT hZ (hw _ (List.mem_of_getElem? (i := 10) rfl))) (by decide) (backOf (W := 1) (own_rm2 l Z a0 hw [] b133 b134 k134 2 (own_upd (own_upd (fun _ => (0 : Int32)) 0 ((p_ &&& (255 : Int32)).toUInt32.toUInt16.toUInt32.toInt32)) 1 ((((p_.toUInt32 >>> ((8 : Int32) &&& 31).toUInt32).toInt32) &&& (255 : Int32)).toUInt32.toUInt16.toUInt32.toInt32)) G1 h136 n0 (Nat.le_trans Z0 K136.1) (((A133.ext E134).wr W135).wr W136) (((F133_33.ext E134).other W135 (Or.inl (Nat.ne_of_lt (Nat.lt_of_lt_of_le A133.lt (Nat.le_of_eq g134.symm))))).other W136 (Or.inl (Nat.ne_of_lt (Nat.lt_of_lt_of_le A133.lt (Nat.le_of_eq g134.symm))))) (((F133_31.ext E134).other W135 (Or.inl (Nat.ne_of_lt (Nat.lt_of_lt_of_le A133.lt (Nat.le_of_eq g134.symm))))).other W136 (Or.inl (Nat.ne_of_lt (Nat.lt_of_lt_of_le A133.lt (Nat.le_of_eq g134.symm))))) Aw136 ge133 (Nat.ne_of_lt (Nat.lt_of_lt_of_le A133.lt (Nat.le_of_eq g134.symm))) (by decide) (fun q _ => (own_lu (own_lu own_l0 (own_c255 _)) (own_c255 _)) q) ((((q0.ext E133).ext E134).wr W135 ge134).wr W136 ge134) q1 hG1) hZ (hw _ (List.mem_of_getElem? (i := 10) rfl)) (hw _ (List.mem_of_getElem? (i := 6) rfl)) (by decide) (by decide)) (g := (mkF m 83 #[.val (.int p_), .val (.int n_), .val (.int ((p_ &&& (255 : Int32)).toUInt32.toUInt16.toUInt32.toInt32)), .val (.int ((((p_.toUInt32 >>> ((8 : Int32) &&& 31).toUInt32).toInt32) &&& (255 : Int32)).toUInt32.toUInt16.toUInt32.toInt32)), .val (.int ((((p_.toUInt32 >>> ((16 : Int32) &&& 31).toUInt32).toInt32) &&& (255 : Int32)).toUInt32.toUInt16.toUInt32.toInt32))] [(.ref b134), (.ref b133), (.ref b133)])) rfl (by rw [hml]; rfl) (Steps.refl _) (a := b133) (argsL := [(.ref b134)]) (rest := [(.ref b133)]) (lenOf own_pd4 rfl) rfl (by show 2 * 0 + _ ≤ _; exact Nat.le_of_eq rfl) (hb hby own_d1_83) (fun _ _ => ⟨rfl, e136, (by decide : 2 + 1 ≤ _), (by decide : 6 + 3 ≤ _)⟩)
        dsimp only [Pt.U, Pt.locs, Pt.cells, Pt.slots] at X137 l137 y137 z137 st137 hQ137
        subst y137 z137
        obtain ⟨t_137, kt_137, cd_137, rfl, N137q, Kq137, P137_0, P137_1, P137_2, P137_3, P137_4⟩ := hQ137
        have N137 : Fr n0 L137 := by rw [l137]; exact Fr.app N136 N137q
        have K137 : Keep h0 T137.heap [] := K136.trans Kq137 (allS (P := fun x => x ∈ [] ∨ h0.size ≤ x) (Or.inr fr133) all0)
        have c137 : CHr Z own_EL _ h136 _ T137.heap := CHr.keep Kq137 (own_slS (c136.safe ((A133.ext E134).wr W135).lt (c135.safe (A133.ext E134).lt (c134.safe A133.lt Sf133_b133))) own_sl0) C136.1
        have C137 := C136.trans c137
        have kk137 := Nat.le_trans kk136 c137.2.1
        have fr137_0 : h0.size ≤ t_137 := Nat.le_trans K136.1 P137_0
        have ge137_0 : n0 ≤ t_137 := Nat.le_trans Z0 fr137_0
        have Sf137_t_137 : Safe Z own_EL _ T137.heap t_137 := Safe.keep Kq137 (own_slS (c136.safe ((A133.ext E134).wr W135).lt (c135.safe (A133.ext E134).lt (c134.safe A133.lt Sf133_b133))) own_sl0) C136.1 (Safe.new P137_0)
        refine own_tr st137 ?_
        show own_Go p.tables e below _ (T137.setTop (mkF m 86 #[.val (.int p_), .val (.int n_), .val (.int ((p_ &&& (255 : Int32)).toUInt32.toUInt16.toUInt32.toInt32)), .val (.int ((((p_.toUInt32 >>> ((8 : Int32) &&& 31).toUInt32).toInt32) &&& (255 : Int32)).toUInt32.toUInt16.toUInt32.toInt32)), .val (.int ((((p_.toUInt32 >>> ((16 : Int32) &&& 31).toUInt32).toInt32) &&& (255 : Int32)).toUInt32.toUInt16.toUInt32.toInt32))] [(.ref b133)]))
        exact own_retW (w := (.ref b133)) X137 hx hnl hZ (own_hEL hw) S0 (kk137) (C137) Bd.returns rfl (Or.inr (Or.inr (Or.inr (Or.inr ⟨rfl, rfl, rfl⟩)))) (hb hby own_d1_86) ⟨b133, rfl, N137, (K137), fr133, (((((A133.ext E134).wr W135).wr W136).keep Kq137))⟩ (by decide) (by decide)
      · skip
        refine own_st (fun t_ k_ => XS.icmpYes X0.here hx rfl (pc0 := 65) (pc' := 87) rfl (hb hby own_d1_65) rfl (feq c65_132).2 (by decide) (by decide) k_) ?_
        show own_Go p.tables e below _ (s₁.setTop (mkF m 87 #[.val (.int p_), .val (.int n_), .val (.int ((p_ &&& (255 : Int32)).toUInt32.toUInt16.toUInt32.toInt32)), .val (.int ((((p_.toUInt32 >>> ((8 : Int32) &&& 31).toUInt32).toInt32) &&& (255 : Int32)).toUInt32.toUInt16.toUInt32.toInt32)), .val (.int ((((p_.toUInt32 >>> ((16 : Int32) &&& 31).toUInt32).toInt32) &&& (255 : Int32)).toUInt32.toUInt16.toUInt32.toInt32))] []))
        obtain ⟨T138, h138, X138, e138, E138, A138, D138, -, st138⟩ := newO X0 hx hZ hown (hw _ (List.mem_of_getElem? (i := 4) rfl)) (hw _ (List.mem_of_getElem? (i := 5) rfl)) (hw _ (List.mem_of_getElem? (i := 6) rfl)) e0 (g := (mkF m 87 #[.val (.int p_), .val (.int n_), .val (.int ((p_ &&& (255 : Int32)).toUInt32.toUInt16.toUInt32.toInt32)), .val (.int ((((p_.toUInt32 >>> ((8 : Int32) &&& 31).toUInt32).toInt32) &&& (255 : Int32)).toUInt32.toUInt16.toUInt32.toInt32)), .val (.int ((((p_.toUInt32 >>> ((16 : Int32) &&& 31).toUInt32).toInt32) &&& (255 : Int32)).toUInt32.toUInt16.toUInt32.toInt32))] [])) rfl (hb hby own_d1_87) (by decide) (by decide)
        obtain ⟨b138, g138⟩ : ∃ z, z = h0.size := ⟨_, rfl⟩
        rw [← g138] at A138 D138 st138
        have fr138 : h0.size ≤ b138 := Nat.le_trans (Keep.refl h0 []).1 (Nat.le_of_eq g138.symm)
        have ge138 : n0 ≤ b138 := Nat.le_trans Z0 fr138
        have K138 : Keep h0 h138 [] := (Keep.refl h0 []).ext E138
        have c138 : CHr Z own_EL _ h0 _ h138 := CHr.ext E138 C0.1
        have C138 := C0.trans c138
        have kk138 := Nat.le_trans k0 c138.2.1
        have Sf138_b138 : Safe Z own_EL _ h138 b138 := Safe.ext E138 C0.1 (Safe.new (Nat.le_of_eq g138.symm))
        have F138_31 : Fld Z h138 b138 "java/lang/String" "coder" "B" (.int (0 : Int32)) := D138 (Or.inr (hw _ (List.mem_of_getElem? (i := 31) rfl))) (ty := .byte) (by decide)
        have F138_33 : Fld Z h138 b138 "java/lang/String" "value" "[B" .null := D138 (Or.inr (hw _ (List.mem_of_getElem? (i := 33) rfl))) (ty := (.array .byte)) (by decide)
        refine own_st (st138) ?_
        show own_Go p.tables e below _ (T138.setTop (mkF m 90 #[.val (.int p_), .val (.int n_), .val (.int ((p_ &&& (255 : Int32)).toUInt32.toUInt16.toUInt32.toInt32)), .val (.int ((((p_.toUInt32 >>> ((8 : Int32) &&& 31).toUInt32).toInt32) &&& (255 : Int32)).toUInt32.toUInt16.toUInt32.toInt32)), .val (.int ((((p_.toUInt32 >>> ((16 : Int32) &&& 31).toUInt32).toInt32) &&& (255 : Int32)).toUInt32.toUInt16.toUInt32.toInt32))] [(.ref b138)]))
        refine own_st (fun t_ k_ => XS.dup X138.here hx rfl (hb hby own_d1_90) rfl rfl k_) ?_
        show own_Go p.tables e below _ (T138.setTop (mkF m 91 #[.val (.int p_), .val (.int n_), .val (.int ((p_ &&& (255 : Int32)).toUInt32.toUInt16.toUInt32.toInt32)), .val (.int ((((p_.toUInt32 >>> ((8 : Int32) &&& 31).toUInt32).toInt32) &&& (255 : Int32)).toUInt32.toUInt16.toUInt32.toInt32)), .val (.int ((((p_.toUInt32 >>> ((16 : Int32) &&& 31).toUInt32).toInt32) &&& (255 : Int32)).toUInt32.toUInt16.toUInt32.toInt32))] [(.ref b138), (.ref b138)]))
        refine own_st (fun t_ k_ => XS.iconst X138.here hx rfl (hb hby own_d1_91) k_) ?_
        show own_Go p.tables e below _ (T138.setTop (mkF m 92 #[.val (.int p_), .val (.int n_), .val (.int ((p_ &&& (255 : Int32)).toUInt32.toUInt16.toUInt32.toInt32)), .val (.int ((((p_.toUInt32 >>> ((8 : Int32) &&& 31).toUInt32).toInt32) &&& (255 : Int32)).toUInt32.toUInt16.toUInt32.toInt32)), .val (.int ((((p_.toUInt32 >>> ((16 : Int32) &&& 31).toUInt32).toInt32) &&& (255 : Int32)).toUInt32.toUInt16.toUInt32.toInt32))] [(.int (3 : Int32)), (.ref b138), (.ref b138)]))
        obtain ⟨T139, h139, k139, X139, e139, E139, A139, st139⟩ := newP X138 hx hZ (hw _ (List.mem_of_getElem? (i := 7) rfl)) e138 (g := (mkF m 92 #[.val (.int p_), .val (.int n_), .val (.int ((p_ &&& (255 : Int32)).toUInt32.toUInt16.toUInt32.toInt32)), .val (.int ((((p_.toUInt32 >>> ((8 : Int32) &&& 31).toUInt32).toInt32) &&& (255 : Int32)).toUInt32.toUInt16.toUInt32.toInt32)), .val (.int ((((p_.toUInt32 >>> ((16 : Int32) &&& 31).toUInt32).toInt32) &&& (255 : Int32)).toUInt32.toUInt16.toUInt32.toInt32))] [(.int (3 : Int32)), (.ref b138), (.ref b138)])) rfl (hb hby own_d1_92) rfl (by decide) (cap := 3) (by decide) (by decide) (by decide) (by decide)
        obtain ⟨b139, g139⟩ : ∃ z, z = h138.size := ⟨_, rfl⟩
        rw [← g139] at A139 st139
        have fr139 : h0.size ≤ b139 := Nat.le_trans K138.1 (Nat.le_of_eq g139.symm)
        have ge139 : n0 ≤ b139 := Nat.le_trans Z0 fr139
        have K139 : Keep h0 h139 [] := K138.ext E139
        have c139 : CHr Z own_EL _ h138 _ h139 := CHr.ext E139 C138.1
        have C139 := C138.trans c139
        have kk139 := Nat.le_trans kk138 c139.2.1
        have Sf139_b139 : Safe Z own_EL _ h139 b139 := Safe.ext E139 C138.1 (Safe.new (Nat.le_of_eq g139.symm))
        have Ar139 : own_A Z h139 b139 k139 .char 3 (fun i => .int ((fun _ => (0 : Int32)) i)) := own_A.new A139 rfl (by decide)
        refine own_st (st139) ?_
        show own_Go p.tables e below _ (T139.setTop (mkF m 94 #[.val (.int p_), .val (.int n_), .val (.int ((p_ &&& (255 : Int32)).toUInt32.toUInt16.toUInt32.toInt32)), .val (.int ((((p_.toUInt32 >>> ((8 : Int32) &&& 31).toUInt32).toInt32) &&& (255 : Int32)).toUInt32.toUInt16.toUInt32.toInt32)), .val (.int ((((p_.toUInt32 >>> ((16 : Int32) &&& 31).toUInt32).toInt32) &&& (255 : Int32)).toUInt32.toUInt16.toUInt32.toInt32))] [(.ref b139), (.ref b138), (.ref b138)]))
        refine own_st (fun t_ k_ => XS.dup X139.here hx rfl (hb hby own_d1_94) rfl rfl k_) ?_
        show own_Go p.tables e below _ (T139.setTop (mkF m 95 #[.val (.int p_), .val (.int n_), .val (.int ((p_ &&& (255 : Int32)).toUInt32.toUInt16.toUInt32.toInt32)), .val (.int ((((p_.toUInt32 >>> ((8 : Int32) &&& 31).toUInt32).toInt32) &&& (255 : Int32)).toUInt32.toUInt16.toUInt32.toInt32)), .val (.int ((((p_.toUInt32 >>> ((16 : Int32) &&& 31).toUInt32).toInt32) &&& (255 : Int32)).toUInt32.toUInt16.toUInt32.toInt32))] [(.ref b139), (.ref b139), (.ref b138), (.ref b138)]))
        refine own_st (fun t_ k_ => XS.iconst X139.here hx rfl (hb hby own_d1_95) k_) ?_
        show own_Go p.tables e below _ (T139.setTop (mkF m 96 #[.val (.int p_), .val (.int n_), .val (.int ((p_ &&& (255 : Int32)).toUInt32.toUInt16.toUInt32.toInt32)), .val (.int ((((p_.toUInt32 >>> ((8 : Int32) &&& 31).toUInt32).toInt32) &&& (255 : Int32)).toUInt32.toUInt16.toUInt32.toInt32)), .val (.int ((((p_.toUInt32 >>> ((16 : Int32) &&& 31).toUInt32).toInt32) &&& (255 : Int32)).toUInt32.toUInt16.toUInt32.toInt32))] [(.int (0 : Int32)), (.ref b139), (.ref b139), (.ref b138), (.ref b138)]))
        refine own_st (fun t_ k_ => XS.iloadN X139.here hx rfl (hb hby own_d1_96) rfl k_) ?_
        show own_Go p.tables e below _ (T139.setTop (mkF m 97 #[.val (.int p_), .val (.int n_), .val (.int ((p_ &&& (255 : Int32)).toUInt32.toUInt16.toUInt32.toInt32)), .val (.int ((((p_.toUInt32 >>> ((8 : Int32) &&& 31).toUInt32).toInt32) &&& (255 : Int32)).toUInt32.toUInt16.toUInt32.toInt32)), .val (.int ((((p_.toUInt32 >>> ((16 : Int32) &&& 31).toUInt32).toInt32) &&& (255 : Int32)).toUInt32.toUInt16.toUInt32.toInt32))] [(.int ((p_ &&& (255 : Int32)).toUInt32.toUInt16.toUInt32.toInt32)), (.int (0 : Int32)), (.ref b139), (.ref b139), (.ref b138), (.ref b138)]))
        obtain ⟨T140, h140, X140, e140, W140, Aw140, st140⟩ := own_castore X139 hx hZ e139 Ar139 (i := 0) (by decide) (by decide) (own_narcc _) (v' := ((p_ &&& (255 : Int32)).toUInt32.toUInt16.toUInt32.toInt32)) (g := (mkF m 97 #[.val (.int p_), .val (.int n_), .val (.int ((p_ &&& (255 : Int32)).toUInt32.toUInt16.toUInt32.toInt32)), .val (.int ((((p_.toUInt32 >>> ((8 : Int32) &&& 31).toUInt32).toInt32) &&& (255 : Int32)).toUInt32.toUInt16.toUInt32.toInt32)), .val (.int ((((p_.toUInt32 >>> ((16 : Int32) &&& 31).toUInt32).toInt32) &&& (255 : Int32)).toUInt32.toUInt16.toUInt32.toInt32))] [(.int ((p_ &&& (255 : Int32)).toUInt32.toUInt16.toUInt32.toInt32)), (.int (0 : Int32)), (.ref b139), (.ref b139), (.ref b138), (.ref b138)])) rfl rfl (hb hby own_d1_97)
        have N140 := Fr.snoc X140 N0 ge139
        have K140 : Keep h0 h140 [] := K139.wr W140 (Or.inr fr139)
        have c140 : CHr Z own_EL _ h139 _ h140 := CHr.wr W140 (own_safeA hZ.alike Ar139 (by decide)) C139.1
        have C140 := C139.trans c140
        have kk140 := Nat.le_trans kk139 c140.2.1
        refine own_st (st140) ?_
        show own_Go p.tables e below _ (T140.setTop (mkF m 98 #[.val (.int p_), .val (.int n_), .val (.int ((p_ &&& (255 : Int32)).toUInt32.toUInt16.toUInt32.toInt32)), .val (.int ((((p_.toUInt32 >>> ((8 : Int32) &&& 31).toUInt32).toInt32) &&& (255 : Int32)).toUInt32.toUInt16.toUInt32.toInt32)), .val (.int ((((p_.toUInt32 >>> ((16 : Int32) &&& 31).toUInt32).toInt32) &&& (255 : Int32)).toUInt32.toUInt16.toUInt32.toInt32))] [(.ref b139), (.ref b138), (.ref b138)]))
        refine own_st (fun t_ k_ => XS.dup X140.here hx rfl (hb hby own_d1_98) rfl rfl k_) ?_
        show own_Go p.tables e below _ (T140.setTop (mkF m 99 #[.val (.int p_), .val (.int n_), .val (.int ((p_ &&& (255 : Int32)).toUInt32.toUInt16.toUInt32.toInt32)), .val (.int ((((p_.toUInt32 >>> ((8 : Int32) &&& 31).toUInt32).toInt32) &&& (255 : Int32)).toUInt32.toUInt16.toUInt32.toInt32)), .val (.int ((((p_.toUInt32 >>> ((16 : Int32) &&& 31).toUInt32).toInt32) &&& (255 : Int32)).toUInt32.toUInt16.toUInt32.toInt32))] [(.ref b139), (.ref b139), (.ref b138), (.ref b138)]))
        refine own_st (fun t_ k_ => XS.iconst X140.here hx rfl (hb hby own_d1_99) k_) ?_
        show own_Go p.tables e below _ (T140.setTop (mkF m 100 #[.val (.int p_), .val (.int n_), .val (.int ((p_ &&& (255 : Int32)).toUInt32.toUInt16.toUInt32.toInt32)), .val (.int ((((p_.toUInt32 >>> ((8 : Int32) &&& 31).toUInt32).toInt32) &&& (255 : Int32)).toUInt32.toUInt16.toUInt32.toInt32)), .val (.int ((((p_.toUInt32 >>> ((16 : Int32) &&& 31).toUInt32).toInt32) &&& (255 : Int32)).toUInt32.toUInt16.toUInt32.toInt32))] [(.int (1 : Int32)), (.ref b139), (.ref b139), (.ref b138), (.ref b138)]))
        refine own_st (fun t_ k_ => XS.iloadN X140.here hx rfl (hb hby own_d1_100) rfl k_) ?_
        show own_Go p.tables e below _ (T140.setTop (mkF m 101 #[.val (.int p_), .val (.int n_), .val (.int ((p_ &&& (255 : Int32)).toUInt32.toUInt16.toUInt32.toInt32)), .val (.int ((((p_.toUInt32 >>> ((8 : Int32) &&& 31).toUInt32).toInt32) &&& (255 : Int32)).toUInt32.toUInt16.toUInt32.toInt32)), .val (.int ((((p_.toUInt32 >>> ((16 : Int32) &&& 31).toUInt32).toInt32) &&& (255 : Int32)).toUInt32.toUInt16.toUInt32.toInt32))] [(.int ((((p_.toUInt32 >>> ((8 : Int32) &&& 31).toUInt32).toInt32) &&& (255 : Int32)).toUInt32.toUInt16.toUInt32.toInt32)), (.int (1 : Int32)), (.ref b139), (.ref b139), (.ref b138), (.ref b138)]))
        obtain ⟨T141, h141, X141, e141, W141, Aw141, st141⟩ := own_castore X140 hx hZ e140 Aw140 (i := 1) (by decide) (by decide) (own_narcc _) (v' := ((((p_.toUInt32 >>> ((8 : Int32) &&& 31).toUInt32).toInt32) &&& (255 : Int32)).toUInt32.toUInt16.toUInt32.toInt32)) (g := (mkF m 101 #[.val (.int p_), .val (.int n_), .val (.int ((p_ &&& (255 : Int32)).toUInt32.toUInt16.toUInt32.toInt32)), .val (.int ((((p_.toUInt32 >>> ((8 : Int32) &&& 31).toUInt32).toInt32) &&& (255 : Int32)).toUInt32.toUInt16.toUInt32.toInt32)), .val (.int ((((p_.toUInt32 >>> ((16 : Int32) &&& 31).toUInt32).toInt32) &&& (255 : Int32)).toUInt32.toUInt16.toUInt32.toInt32))] [(.int ((((p_.toUInt32 >>> ((8 : Int32) &&& 31).toUInt32).toInt32) &&& (255 : Int32)).toUInt32.toUInt16.toUInt32.toInt32)), (.int (1 : Int32)), (.ref b139), (.ref b139), (.ref b138), (.ref b138)])) rfl rfl (hb hby own_d1_101)
        have N141 := Fr.snoc X141 N140 ge139
        have K141 : Keep h0 h141 [] := K140.wr W141 (Or.inr fr139)
        have c141 : CHr Z own_EL _ h140 _ h141 := CHr.wr W141 (own_safeA hZ.alike Aw140 (by decide)) C140.1
        have C141 := C140.trans c141
        have kk141 := Nat.le_trans kk140 c141.2.1
        refine own_st (st141) ?_
        show own_Go p.tables e below _ (T141.setTop (mkF m 102 #[.val (.int p_), .val (.int n_), .val (.int ((p_ &&& (255 : Int32)).toUInt32.toUInt16.toUInt32.toInt32)), .val (.int ((((p_.toUInt32 >>> ((8 : Int32) &&& 31).toUInt32).toInt32) &&& (255 : Int32)).toUInt32.toUInt16.toUInt32.toInt32)), .val (.int ((((p_.toUInt32 >>> ((16 : Int32) &&& 31).toUInt32).toInt32) &&& (255 : Int32)).toUInt32.toUInt16.toUInt32.toInt32))] [(.ref b139), (.ref b138), (.ref b138)]))
        refine own_st (fun t_ k_ => XS.dup X141.here hx rfl (hb hby own_d1_102) rfl rfl k_) ?_
        show own_Go p.tables e below _ (T141.setTop (mkF m 103 #[.val (.int p_), .val (.int n_), .val (.int ((p_ &&& (255 : Int32)).toUInt32.toUInt16.toUInt32.toInt32)), .val (.int ((((p_.toUInt32 >>> ((8 : Int32) &&& 31).toUInt32).toInt32) &&& (255 : Int32)).toUInt32.toUInt16.toUInt32.toInt32)), .val (.int ((((p_.toUInt32 >>> ((16 : Int32) &&& 31).toUInt32).toInt32) &&& (255 : Int32)).toUInt32.toUInt16.toUInt32.toInt32))] [(.ref b139), (.ref b139), (.ref b138), (.ref b138)]))
        refine own_st (fun t_ k_ => XS.iconst X141.here hx rfl (hb hby own_d1_103) k_) ?_
        show own_Go p.tables e below _ (T141.setTop (mkF m 104 #[.val (.int p_), .val (.int n_), .val (.int ((p_ &&& (255 : Int32)).toUInt32.toUInt16.toUInt32.toInt32)), .val (.int ((((p_.toUInt32 >>> ((8 : Int32) &&& 31).toUInt32).toInt32) &&& (255 : Int32)).toUInt32.toUInt16.toUInt32.toInt32)), .val (.int ((((p_.toUInt32 >>> ((16 : Int32) &&& 31).toUInt32).toInt32) &&& (255 : Int32)).toUInt32.toUInt16.toUInt32.toInt32))] [(.int (2 : Int32)), (.ref b139), (.ref b139), (.ref b138), (.ref b138)]))
        refine own_st (fun t_ k_ => XS.iload X141.here hx rfl (hb hby own_d1_104) rfl k_) ?_
        show own_Go p.tables e below _ (T141.setTop (mkF m 106 #[.val (.int p_), .val (.int n_), .val (.int ((p_ &&& (255 : Int32)).toUInt32.toUInt16.toUInt32.toInt32)), .val (.int ((((p_.toUInt32 >>> ((8 : Int32) &&& 31).toUInt32).toInt32) &&& (255 : Int32)).toUInt32.toUInt16.toUInt32.toInt32)), .val (.int ((((p_.toUInt32 >>> ((16 : Int32) &&& 31).toUInt32).toInt32) &&& (255 : Int32)).toUInt32.toUInt16.toUInt32.toInt32))] [(.int ((((p_.toUInt32 >>> ((16 : Int32) &&& 31).toUInt32).toInt32) &&& (255 : Int32)).toUInt32.toUInt16.toUInt32.toInt32)), (.int (2 : Int32)), (.ref b139), (.ref b139), (.ref b138), (.ref b138)]))
        obtain ⟨T142, h142, X142, e142, W142, Aw142, st142⟩ := own_castore X141 hx hZ e141 Aw141 (i := 2) (by decide) (by decide) (own_narcc _) (v' := ((((p_.toUInt32 >>> ((16 : Int32) &&& 31).toUInt32).toInt32) &&& (255 : Int32)).toUInt32.toUInt16.toUInt32.toInt32)) (g := (mkF m 106 #[.val (.int p_), .val (.int n_), .val (.int ((p_ &&& (255 : Int32)).toUInt32.toUInt16.toUInt32.toInt32)), .val (.int ((((p_.toUInt32 >>> ((8 : Int32) &&& 31).toUInt32).toInt32) &&& (255 : Int32)).toUInt32.toUInt16.toUInt32.toInt32)), .val (.int ((((p_.toUInt32 >>> ((16 : Int32) &&& 31).toUInt32).toInt32) &&& (255 : Int32)).toUInt32.toUInt16.toUInt32.toInt32))] [(.int ((((p_.toUInt32 >>> ((16 : Int32) &&& 31).toUInt32).toInt32) &&& (255 : Int32)).toUInt32.toUInt16.toUInt32.toInt32)), (.int (2 : Int32)), (.ref b139), (.ref b139), (.ref b138), (.ref b138)])) rfl rfl (hb hby own_d1_106)
        have N142 := Fr.snoc X142 N141 ge139
        have K142 : Keep h0 h142 [] := K141.wr W142 (Or.inr fr139)
        have c142 : CHr Z own_EL _ h141 _ h142 := CHr.wr W142 (own_safeA hZ.alike Aw141 (by decide)) C141.1
        have C142 := C141.trans c142
        have kk142 := Nat.le_trans kk141 c142.2.1
        refine own_st (st142) ?_
        show own_Go p.tables e below _ (T142.setTop (mkF m 107 #[.val (.int p_), .val (.int n_), .val (.int ((p_ &&& (255 : Int32)).toUInt32.toUInt16.toUInt32.toInt32)), .val (.int ((((p_.toUInt32 >>> ((8 : Int32) &&& 31).toUInt32).toInt32) &&& (255 : Int32)).toUInt32.toUInt16.toUInt32.toInt32)), .val (.int ((((p_.toUInt32 >>> ((16 : Int32) &&& 31).toUInt32).toInt32) &&& (255 : Int32)).toUInt32.toUInt16.toUInt32.toInt32))] [(.ref b139), (.ref b138), (.ref b138)]))
        obtain ⟨_, _, ⟨T143, L143, k143, n143⟩, -, X143, ⟨Lc143, hQ143, l143, y143, z143⟩, st143⟩ := X142.specialBack hx (y := (⟨"java/lang/String", "<init>", "([C)V"⟩ : MethodName)) rfl hown (mvT hZ (hw _ (List.mem_of_getElem? (i := 8) rfl))) (mvT hZ (hw _ (List.mem_of_getElem? (i := 9) rfl))) (mvT hZ (hw _ (List.mem_of_getElem? (i := 10) rfl))) (by decide) (backOf (W := 1) (own_rm2 l Z a0 hw [] b138 b139 k139 3 (own_upd (own_upd (own_upd (fun _ => (0 : Int32)) 0 ((p_ &&& (255 : Int32)).toUInt32.toUInt16.toUInt32.toInt32)) 1 ((((p_.toUInt32 >>> ((8 : Int32) &&& 31).toUInt32).toInt32) &&& (255 : Int32)).toUInt32.toUInt16.toUInt32.toInt32)) 2 ((((p_.toUInt32 >>> ((16 : Int32) &&& 31).toUInt32).toInt32) &&& (255 : Int32)).toUInt32.toUInt16.toUInt32.toInt32)) G1 h142 n0 (Nat.le_trans Z0 K142.1) ((((A138.ext E139).wr W140).wr W141).wr W142) ((((F138_33.ext E139).other W140 (Or.inl (Nat.ne_of_lt (Nat.lt_of_lt_of_le A138.lt (Nat.le_of_eq g139.symm))))).other W141 (Or.inl (Nat.ne_of_lt (Nat.lt_of_lt_of_le A138.lt (Nat.le_of_eq g139.symm))))).other W142 (Or.inl (Nat.ne_of_lt (Nat.lt_of_lt_of_le A138.lt (Nat.le_of_eq g139.symm))))) ((((F138_31.ext E139).other W140 (Or.inl (Nat.ne_of_lt (Nat.lt_of_lt_of_le A138.lt (Nat.le_of_eq g139.symm))))).other W141 (Or.inl (Nat.ne_of_lt (Nat.lt_of_lt_of_le A138.lt (Nat.le_of_eq g139.symm))))).other W142 (Or.inl (Nat.ne_of_lt (Nat.lt_of_lt_of_le A138.lt (Nat.le_of_eq g139.symm))))) Aw142 ge138 (Nat.ne_of_lt (Nat.lt_of_lt_of_le A138.lt (Nat.le_of_eq g139.symm))) (by decide) (fun q _ => (own_lu (own_lu (own_lu own_l0 (own_c255 _)) (own_c255 _)) (own_c255 _)) q) (((((q0.ext E138).ext E139).wr W140 ge139).wr W141 ge139).wr W142 ge139) q1 hG1) hZ (hw _ (List.mem_of_getElem? (i := 10) rfl)) (hw _ (List.mem_of_getElem? (i := 6) rfl)) (by decide) (by decide)) (g := (mkF m 107 #[.val (.int p_), .val (.int n_), .val (.int ((p_ &&& (255 : Int32)).toUInt32.toUInt16.toUInt32.toInt32)), .val (.int ((((p_.toUInt32 >>> ((8 : Int32) &&& 31).toUInt32).toInt32) &&& (255 : Int32)).toUInt32.toUInt16.toUInt32.toInt32)), .val (.int ((((p_.toUInt32 >>> ((16 : Int32) &&& 31).toUInt32).toInt32) &&& (255 : Int32)).toUInt32.toUInt16.toUInt32.toInt32))] [(.ref b139), (.ref b138), (.ref b138)])) rfl (by rw [hml]; rfl) (Steps.refl _) (a := b138) (argsL := [(.ref b139)]) (rest := [(.ref b138)]) (lenOf own_pd4 rfl) rfl (by show 2 * 0 + _ ≤ _; exact Nat.le_of_eq rfl) (hb hby own_d1_107) (fun _ _ => ⟨rfl, e142, (by decide : 2 + 1 ≤ _), (by decide : 7 + 3 ≤ _)⟩)
        dsimp only [Pt.U, Pt.locs, Pt.cells, Pt.slots] at X143 l143 y143 z143 st143 hQ143
        subst y143 z143
        obtain ⟨t_143, kt_143, cd_143, rfl, N143q, Kq143, P143_0, P143_1, P143_2, P143_3, P143_4⟩ := hQ143
        have N143 : Fr n0 L143 := by rw [l143]; exact Fr.app N142 N143q
        have K143 : Keep h0 T143.heap [] := K142.trans Kq143 (allS (P := fun x => x ∈ [] ∨ h0.size ≤ x) (Or.inr fr138) all0)
        have c143 : CHr Z own_EL _ h142 _ T143.heap := CHr.keep Kq143 (own_slS (c142.safe (((A138.ext E139).wr W140).wr W141).lt (c141.safe ((A138.ext E139).wr W140).lt (c140.safe (A138.ext E139).lt (c139.safe A138.lt Sf138_b138)))) own_sl0) C142.1
        have C143 := C142.trans c143
        have kk143 := Nat.le_trans kk142 c143.2.1
        have fr143_0 : h0.size ≤ t_143 := Nat.le_trans K142.1 P143_0
        have ge143_0 : n0 ≤ t_143 := Nat.le_trans Z0 fr143_0
        have Sf143_t_143 : Safe Z own_EL _ T143.heap t_143 := Safe.keep Kq143 (own_slS (c142.safe (((A138.ext E139).wr W140).wr W141).lt (c141.safe ((A138.ext E139).wr W140).lt (c140.safe (A138.ext E139).lt (c139.safe A138.lt Sf138_b138)))) own_sl0) C142.1 (Safe.new P143_0)
        refine own_tr st143 ?_
        show own_Go p.tables e below _ (T143.setTop (mkF m 110 #[.val (.int p_), .val (.int n_), .val (.int ((p_ &&& (255 : Int32)).toUInt32.toUInt16.toUInt32.toInt32)), .val (.int ((((p_.toUInt32 >>> ((8 : Int32) &&& 31).toUInt32).toInt32) &&& (255 : Int32)).toUInt32.toUInt16.toUInt32.toInt32)), .val (.int ((((p_.toUInt32 >>> ((16 : Int32) &&& 31).toUInt32).toInt32) &&& (255 : Int32)).toUInt32.toUInt16.toUInt32.toInt32))] [(.ref b138)]))
        exact own_retW (w := (.ref b138)) X143 hx hnl hZ (own_hEL hw) S0 (kk143) (C143) Bd.returns rfl (Or.inr (Or.inr (Or.inr (Or.inr ⟨rfl, rfl, rfl⟩)))) (hb hby own_d1_110) ⟨b138, rfl, N143, (K143), fr138, ((((((A138.ext E139).wr W140).wr W141).wr W142).keep Kq143))⟩ (by decide) (by decide)

theorem own_d9_0 : decode prog_5_method_1_code 0 = .ok (.aload_n 0, 1) := by decide +kernel
theorem own_d9_1 : decode prog_5_method_1_code 1 = .ok (.invokespecial 1, 3) := by decide +kernel
theorem own_d9_4 : decode prog_5_method_1_code 4 = .ok (.aload_n 0, 1) := by decide +kernel
theorem own_d9_5 : decode prog_5_method_1_code 5 = .ok (.aload_n 1, 1) := by decide +kernel
theorem own_d9_6 : decode prog_5_method_1_code 6 = .ok (.putfield 7, 3) := by decide +kernel
theorem own_d9_9 : decode prog_5_method_1_code 9 = .ok (.aload_n 0, 1) := by decide +kernel
theorem own_d9_10 : decode prog_5_method_1_code 10 = .ok (.aload_n 2, 1) := by decide +kernel
theorem own_d9_11 : decode prog_5_method_1_code 11 = .ok (.putfield 13, 3) := by decide +kernel
theorem own_d9_14 : decode prog_5_method_1_code 14 = .ok (.aload_n 0, 1) := by decide +kernel
theorem own_d9_15 : decode prog_5_method_1_code 15 = .ok (.aload_n 3, 1) := by decide +kernel
theorem own_d9_16 : decode prog_5_method_1_code 16 = .ok (.putfield 16, 3) := by decide +kernel
theorem own_d9_19 : decode prog_5_method_1_code 19 = .ok (.aload_n 0, 1) := by decide +kernel
theorem own_d9_20 : decode prog_5_method_1_code 20 = .ok (.aload 4, 2) := by decide +kernel
theorem own_d9_22 : decode prog_5_method_1_code 22 = .ok (.putfield 19, 3) := by decide +kernel
theorem own_d9_25 : decode prog_5_method_1_code 25 = .ok (.aload_n 0, 1) := by decide +kernel
theorem own_d9_26 : decode prog_5_method_1_code 26 = .ok (.iload 5, 2) := by decide +kernel
theorem own_d9_28 : decode prog_5_method_1_code 28 = .ok (.putfield 22, 3) := by decide +kernel
theorem own_d9_31 : decode prog_5_method_1_code 31 = .ok (.return_, 1) := by decide +kernel
theorem own_pn3 : plainName "com/example/provender/provender/cli/Parameter" = true := by first | (simp [plainName, overriddenIn]; done) | decide +kernel
theorem own_ef9 (m : MethodId) (x0 : Addr) (x1 : Addr) (x4 : Addr) (x5 : Int32) : entryFrame m #[(.ref x0), (.ref x1), .null, .null, (.ref x4), (.int x5)] 6 = mkF m 0 #[.val (.ref x0), .val (.ref x1), .val .null, .val .null, .val (.ref x4), .val (.int x5)] [] := by first | (simp [entryFrame, mkF, argsToLocals, Value.category]; done) | rfl
def own_Q9 (Z : State) (a1 : Addr) (s1 : Addr) (s2 : Addr) (h0 : Heap) (n0 : Nat) (v : Option Value) (h : Heap) (L : List Loc) : Prop := v = none ∧ Fr n0 L ∧ Keep h0 h [a1] ∧ Fld Z h a1 "com/example/provender/provender/cli/Parameter" "name" "Ljava/lang/String;" (.ref s1) ∧ Fld Z h a1 "com/example/provender/provender/cli/Parameter" "shortName" "Ljava/lang/String;" .null ∧ Fld Z h a1 "com/example/provender/provender/cli/Parameter" "label" "Ljava/lang/String;" .null ∧ Fld Z h a1 "com/example/provender/provender/cli/Parameter" "description" "Ljava/lang/String;" (.ref s2) ∧ Fld Z h a1 "com/example/provender/provender/cli/Parameter" "required" "Z" (.int (0 : Int32))
set_option maxRecDepth 65536 in
set_option maxHeartbeats 40000000 in
theorem own_rm9 (l : Launch) (Z : State) (a0 : Array Value) (hw : ∀ d ∈ tables_1, d.before a0 Z = true) (ws : List Jvm.Cond) (a1 : Addr) (s1 : Addr) (s2 : Addr) (h0 : Heap) (n0 : Nat) (Z0 : n0 ≤ h0.size) (q0 : Exa Z h0 a1 "com/example/provender/provender/cli/Parameter") (q1 : n0 ≤ a1) (q2 : Fld Z h0 a1 "com/example/provender/provender/cli/Parameter" "name" "Ljava/lang/String;" .null) (q3 : Fld Z h0 a1 "com/example/provender/provender/cli/Parameter" "shortName" "Ljava/lang/String;" .null) (q4 : Fld Z h0 a1 "com/example/provender/provender/cli/Parameter" "label" "Ljava/lang/String;" .null) (q5 : Fld Z h0 a1 "com/example/provender/provender/cli/Parameter" "description" "Ljava/lang/String;" .null) (q6 : Fld Z h0 a1 "com/example/provender/provender/cli/Parameter" "required" "Z" (.int (0 : Int32))) :
    MetFree l (⟨"com/example/provender/provender/cli/Parameter", "<init>", "(Ljava/lang/String;Ljava/lang/String;Ljava/lang/String;Ljava/lang/String;Z)V"⟩ : MethodName) (head1 (Jvm.Cond.code (⟨"com/example/provender/provender/cli/Parameter", "<init>", "(Ljava/lang/String;Ljava/lang/String;Ljava/lang/String;Ljava/lang/String;Z)V"⟩ : MethodName) prog_5_method_1_code 6 none :: ws) ({ frames := 1, cells := 0, slots := 0, locals := 12 } : Room)) (fun a U => a = #[(.ref a1), (.ref s1), .null, .null, (.ref s2), (.int (0 : Int32))] ∧ Z.Warmed39 U.vm ∧ U.heap = h0) (fun _ _ _ _ _ => True) (fun _ U o U' => ∃ v L, o = .returned v ∧ own_Q9 Z a1 s1 s2 h0 n0 v U'.heap L ∧ FrameEnd U o U' L ({ frames := 1, cells := 0, slots := 0, locals := 12 } : Room).cells ({ frames := 1, cells := 0, slots := 0, locals := 12 } : Room).slots) := by
  refine MetFree.of_bodySF (plainFor_of_name own_pn3) hisR ?_
  intro p e s m args below meth c s₁ Bd hml0 hP hK
  obtain ⟨rfl, hZ, hh⟩ := hP
  have hx := Bd.exec
  have hby := Bd.bytes
  have hml : c.maxLocals = 6 := hml0
  have hown : s.vm.findClass "com/example/provender/provender/cli/Parameter" = some m.cls := findClass_of_methodNamed Bd.named
  have hnm := (name_of_methodNamed Bd.named Bd.method).1
  have hnl : meth.locks = false := Bd.notSynchronized
  have X0 : Stand p l e ({ frames := 1, cells := 0, slots := 0, locals := 12 } : Room) s m #[(.ref a1), (.ref s1), .null, .null, (.ref s2), (.int (0 : Int32))] below meth c s₁ [] 0 0 := Stand.of_body Bd
  have e0 : s₁.heap = h0 := by rw [← hh, Bd.state]; rfl
  have N0 := Fr.nil n0
  show own_Go p.tables e below (own_P below s (own_Q9 Z a1 s1 s2 h0 n0) ({ frames := 1, cells := 0, slots := 0, locals := 12 } : Room).cells ({ frames := 1, cells := 0, slots := 0, locals := 12 } : Room).slots) _
  refine own_st (fun t_ k_ => castTop (own_ef9 m a1 s1 s2 (0 : Int32)) k_) ?_
  show own_Go p.tables e below _ (s₁.setTop (mkF m 0 #[.val (.ref a1), .val (.ref s1), .val .null, .val .null, .val (.ref s2), .val (.int (0 : Int32))] []))
  refine own_st (fun t_ k_ => XS.aloadN X0.here hx rfl (hb hby own_d9_0) rfl rfl k_) ?_
  show own_Go p.tables e below _ (s₁.setTop (mkF m 1 #[.val (.ref a1), .val (.ref s1), .val .null, .val .null, .val (.ref s2), .val (.int (0 : Int32))] [(.ref a1)]))
  obtain ⟨T144, X144, e144, st144⟩ := initO X0 hx hZ hown (hw _ (List.mem_of_getElem? (i := 46) rfl)) (hw _ (List.mem_of_getElem? (i := 16) rfl)) (hw _ (List.mem_of_getElem? (i := 17) rfl)) e0 (g := (mkF m 1 #[.val (.ref a1), .val (.ref s1), .val .null, .val .null, .val (.ref s2), .val (.int (0 : Int32))] [(.ref a1)])) rfl (by rw [hml]; rfl) rfl (hb hby own_d9_1) (by decide) (W := 0) (by show 2 * 0 + _ ≤ _; exact Nat.le_of_eq rfl) (by decide)
  refine own_st (st144) ?_
  show own_Go p.tables e below _ (T144.setTop (mkF m 4 #[.val (.ref a1), .val (.ref s1), .val .null, .val .null, .val (.ref s2), .val (.int (0 : Int32))] []))
  refine own_st (fun t_ k_ => XS.aloadN X144.here hx rfl (hb hby own_d9_4) rfl rfl k_) ?_
  show own_Go p.tables e below _ (T144.setTop (mkF m 5 #[.val (.ref a1), .val (.ref s1), .val .null, .val .null, .val (.ref s2), .val (.int (0 : Int32))] [(.ref a1)]))
  refine own_st (fun t_ k_ => XS.aloadN X144.here hx rfl (hb hby own_d9_5) rfl rfl k_) ?_
  show own_Go p.tables e below _ (T144.setTop (mkF m 6 #[.val (.ref a1), .val (.ref s1), .val .null, .val .null, .val (.ref s2), .val (.int (0 : Int32))] [(.ref s1), (.ref a1)]))
  obtain ⟨T145, h145, X145, e145, W145, st145⟩ := putF X144 hx hZ hown (host := "") (Or.inl (hw _ (List.mem_of_getElem? (i := 47) rfl))) Via.refl e144 q2 q0 (Or.inr ⟨(hw _ (List.mem_of_getElem? (i := 48) rfl)), rfl, hnm⟩) (hw _ (List.mem_of_getElem? (i := 42) rfl)) (ty := (.object "java/lang/String")) (by decide) rfl rfl (g := (mkF m 6 #[.val (.ref a1), .val (.ref s1), .val .null, .val .null, .val (.ref s2), .val (.int (0 : Int32))] [(.ref s1), (.ref a1)])) rfl rfl (hb hby own_d9_6)
  have Fw145 : Fld Z h145 a1 "com/example/provender/provender/cli/Parameter" "name" "Ljava/lang/String;" (.ref s1) := q2.same W145
  have N145 := Fr.snoc X145 N0 q1
  have K145 : Keep h0 h145 [a1] := (Keep.refl h0 [a1]).wr W145 (Or.inl (List.mem_of_getElem? (i := 0) rfl))
  refine own_st (st145) ?_
  show own_Go p.tables e below _ (T145.setTop (mkF m 9 #[.val (.ref a1), .val (.ref s1), .val .null, .val .null, .val (.ref s2), .val (.int (0 : Int32))] []))
  refine own_st (fun t_ k_ => XS.aloadN X145.here hx rfl (hb hby own_d9_9) rfl rfl k_) ?_
  show own_Go p.tables e below _ (T145.setTop (mkF m 10 #[.val (.ref a1), .val (.ref s1), .val .null, .val .null, .val (.ref s2), .val (.int (0 : Int32))] [(.ref a1)]))
  refine own_st (fun t_ k_ => XS.aloadN X145.here hx rfl (hb hby own_d9_10) rfl rfl k_) ?_
  show own_Go p.tables e below _ (T145.setTop (mkF m 11 #[.val (.ref a1), .val (.ref s1), .val .null, .val .null, .val (.ref s2), .val (.int (0 : Int32))] [.null, (.ref a1)]))
  obtain ⟨T146, h146, X146, e146, W146, st146⟩ := putF X145 hx hZ hown (host := "") (Or.inl (hw _ (List.mem_of_getElem? (i := 49) rfl))) Via.refl e145 (q3.other W145 (Or.inr (slot_ne (Or.inr (hw _ (List.mem_of_getElem? (i := 50) rfl))) (Or.inr (hw _ (List.mem_of_getElem? (i := 48) rfl))) (by decide) (t := (.object "java/lang/String")) (t' := (.object "java/lang/String")) (by decide) (by decide)))) (q0.wr W145) (Or.inr ⟨(hw _ (List.mem_of_getElem? (i := 50) rfl)), rfl, hnm⟩) (hw _ (List.mem_of_getElem? (i := 42) rfl)) (ty := (.object "java/lang/String")) (by decide) rfl rfl (g := (mkF m 11 #[.val (.ref a1), .val (.ref s1), .val .null, .val .null, .val (.ref s2), .val (.int (0 : Int32))] [.null, (.ref a1)])) rfl rfl (hb hby own_d9_11)
  have Fw146 : Fld Z h146 a1 "com/example/provender/provender/cli/Parameter" "shortName" "Ljava/lang/String;" .null := (q3.other W145 (Or.inr (slot_ne (Or.inr (hw _ (List.mem_of_getElem? (i := 50) rfl))) (Or.inr (hw _ (List.mem_of_getElem? (i := 48) rfl))) (by decide) (t := (.object "java/lang/String")) (t' := (.object "java/lang/String")) (by decide) (by decide)))).same W146
  have N146 := Fr.snoc X146 N145 q1
  have K146 : Keep h0 h146 [a1] := K145.wr W146 (Or.inl (List.mem_of_getElem? (i := 0) rfl))
  refine own_st (st146) ?_
  show own_Go p.tables e below _ (T146.setTop (mkF m 14 #[.val (.ref a1), .val (.ref s1), .val .null, .val .null, .val (.ref s2), .val (.int (0 : Int32))] []))
  refine own_st (fun t_ k_ => XS.aloadN X146.here hx rfl (hb hby own_d9_14) rfl rfl k_) ?_
  show own_Go p.tables e below _ (T146.setTop (mkF m 15 #[.val (.ref a1), .val (.ref s1), .val .null, .val .null, .val (.ref s2), .val (.int (0 : Int32))] [(.ref a1)]))
  refine own_st (fun t_ k_ => XS.aloadN X146.here hx rfl (hb hby own_d9_15) rfl rfl k_) ?_
  show own_Go p.tables e below _ (T146.setTop (mkF m 16 #[.val (.ref a1), .val (.ref s1), .val .null, .val .null, .val (.ref s2), .val (.int (0 : Int32))] [.null, (.ref a1)]))
  obtain ⟨T147, h147, X147, e147, W147, st147⟩ := putF X146 hx hZ hown (host := "") (Or.inl (hw _ (List.mem_of_getElem? (i := 51) rfl))) Via.refl e146 ((q4.other W145 (Or.inr (slot_ne (Or.inr (hw _ (List.mem_of_getElem? (i := 52) rfl))) (Or.inr (hw _ (List.mem_of_getElem? (i := 48) rfl))) (by decide) (t := (.object "java/lang/String")) (t' := (.object "java/lang/String")) (by decide) (by decide)))).other W146 (Or.inr (slot_ne (Or.inr (hw _ (List.mem_of_getElem? (i := 52) rfl))) (Or.inr (hw _ (List.mem_of_getElem? (i := 50) rfl))) (by decide) (t := (.object "java/lang/String")) (t' := (.object "java/lang/String")) (by decide) (by decide)))) ((q0.wr W145).wr W146) (Or.inr ⟨(hw _ (List.mem_of_getElem? (i := 52) rfl)), rfl, hnm⟩) (hw _ (List.mem_of_getElem? (i := 42) rfl)) (ty := (.object "java/lang/String")) (by decide) rfl rfl (g := (mkF m 16 #[.val (.ref a1), .val (.ref s1), .val .null, .val .null, .val (.ref s2), .val (.int (0 : Int32))] [.null, (.ref a1)])) rfl rfl (hb hby own_d9_16)
  have Fw147 : Fld Z h147 a1 "com/example/provender/provender/cli/Parameter" "label" "Ljava/lang/String;" .null := ((q4.other W145 (Or.inr (slot_ne (Or.inr (hw _ (List.mem_of_getElem? (i := 52) rfl))) (Or.inr (hw _ (List.mem_of_getElem? (i := 48) rfl))) (by decide) (t := (.object "java/lang/String")) (t' := (.object "java/lang/String")) (by decide) (by decide)))).other W146 (Or.inr (slot_ne (Or.inr (hw _ (List.mem_of_getElem? (i := 52) rfl))) (Or.inr (hw _ (List.mem_of_getElem? (i := 50) rfl))) (by decide) (t := (.object "java/lang/String")) (t' := (.object "java/lang/String")) (by decide) (by decide)))).same W147
  have N147 := Fr.snoc X147 N146 q1
  have K147 : Keep h0 h147 [a1] := K146.wr W147 (Or.inl (List.mem_of_getElem? (i := 0) rfl))
  refine own_st (st147) ?_
  show own_Go p.tables e below _ (T147.setTop (mkF m 19 #[.val (.ref a1), .val (.ref s1), .val .null, .val .null, .val (.ref s2), .val (.int (0 : Int32))] []))
  refine own_st (fun t_ k_ => XS.aloadN X147.here hx rfl (hb hby own_d9_19) rfl rfl k_) ?_
  show own_Go p.tables e below _ (T147.setTop (mkF m 20 #[.val (.ref a1), .val (.ref s1), .val .null, .val .null, .val (.ref s2), .val (.int (0 : Int32))] [(.ref a1)]))
  refine own_st (fun t_ k_ => XS.aload X147.here hx rfl (hb hby own_d9_20) rfl rfl k_) ?_
  show own_Go p.tables e below _ (T147.setTop (mkF m 22 #[.val (.ref a1), .val (.ref s1), .val .null, .val .null, .val (.ref s2), .val (.int (0 : Int32))] [(.ref s2), (.ref a1)]))
  obtain ⟨T148, h148, X148, e148, W148, st148⟩ := putF X147 hx hZ hown (host := "") (Or.inl (hw _ (List.mem_of_getElem? (i := 53) rfl))) Via.refl e147 (((q5.other W145 (Or.inr (slot_ne (Or.inr (hw _ (List.mem_of_getElem? (i := 54) rfl))) (Or.inr (hw _ (List.mem_of_getElem? (i := 48) rfl))) (by decide) (t := (.object "java/lang/String")) (t' := (.object "java/lang/String")) (by decide) (by decide)))).other W146 (Or.inr (slot_ne (Or.inr (hw _ (List.mem_of_getElem? (i := 54) rfl))) (Or.inr (hw _ (List.mem_of_getElem? (i := 50) rfl))) (by decide) (t := (.object "java/lang/String")) (t' := (.object "java/lang/String")) (by decide) (by decide)))).other W147 (Or.inr (slot_ne (Or.inr (hw _ (List.mem_of_getElem? (i := 54) rfl))) (Or.inr (hw _ (List.mem_of_getElem? (i := 52) rfl))) (by decide) (t := (.object "java/lang/String")) (t' := (.object "java/lang/String")) (by decide) (by decide)))) (((q0.wr W145).wr W146).wr W147) (Or.inr ⟨(hw _ (List.mem_of_getElem? (i := 54) rfl)), rfl, hnm⟩) (hw _ (List.mem_of_getElem? (i := 42) rfl)) (ty := (.object "java/lang/String")) (by decide) rfl rfl (g := (mkF m 22 #[.val (.ref a1), .val (.ref s1), .val .null, .val .null, .val (.ref s2), .val (.int (0 : Int32))] [(.ref s2), (.ref a1)])) rfl rfl (hb hby own_d9_22)
  have Fw148 : Fld Z h148 a1 "com/example/provender/provender/cli/Parameter" "description" "Ljava/lang/String;" (.ref s2) := (((q5.other W145 (Or.inr (slot_ne (Or.inr (hw _ (List.mem_of_getElem? (i := 54) rfl))) (Or.inr (hw _ (List.mem_of_getElem? (i := 48) rfl))) (by decide) (t := (.object "java/lang/String")) (t' := (.object "java/lang/String")) (by decide) (by decide)))).other W146 (Or.inr (slot_ne (Or.inr (hw _ (List.mem_of_getElem? (i := 54) rfl))) (Or.inr (hw _ (List.mem_of_getElem? (i := 50) rfl))) (by decide) (t := (.object "java/lang/String")) (t' := (.object "java/lang/String")) (by decide) (by decide)))).other W147 (Or.inr (slot_ne (Or.inr (hw _ (List.mem_of_getElem? (i := 54) rfl))) (Or.inr (hw _ (List.mem_of_getElem? (i := 52) rfl))) (by decide) (t := (.object "java/lang/String")) (t' := (.object "java/lang/String")) (by decide) (by decide)))).same W148
  have N148 := Fr.snoc X148 N147 q1
  have K148 : Keep h0 h148 [a1] := K147.wr W148 (Or.inl (List.mem_of_getElem? (i := 0) rfl))
  refine own_st (st148) ?_
  show own_Go p.tables e below _ (T148.setTop (mkF m 25 #[.val (.ref a1), .val (.ref s1), .val .null, .val .null, .val (.ref s2), .val (.int (0 : Int32))] []))
  refine own_st (fun t_ k_ => XS.aloadN X148.here hx rfl (hb hby own_d9_25) rfl rfl k_) ?_
  show own_Go p.tables e below _ (T148.setTop (mkF m 26 #[.val (.ref a1), .val (.ref s1), .val .null, .val .null, .val (.ref s2), .val (.int (0 : Int32))] [(.ref a1)]))
  refine own_st (fun t_ k_ => XS.iload X148.here hx rfl (hb hby own_d9_26) rfl k_) ?_
  show own_Go p.tables e below _ (T148.setTop (mkF m 28 #[.val (.ref a1), .val (.ref s1), .val .null, .val .null, .val (.ref s2), .val (.int (0 : Int32))] [(.int (0 : Int32)), (.ref a1)]))
  obtain ⟨T149, h149, X149, e149, W149, st149⟩ := putFN X148 hx hZ hown (hw _ (List.mem_of_getElem? (i := 55) rfl)) Via.refl e148 ((((q6.other W145 (Or.inr (slot_ne (Or.inr (hw _ (List.mem_of_getElem? (i := 56) rfl))) (Or.inr (hw _ (List.mem_of_getElem? (i := 48) rfl))) (by decide) (t := .boolean) (t' := (.object "java/lang/String")) (by decide) (by decide)))).other W146 (Or.inr (slot_ne (Or.inr (hw _ (List.mem_of_getElem? (i := 56) rfl))) (Or.inr (hw _ (List.mem_of_getElem? (i := 50) rfl))) (by decide) (t := .boolean) (t' := (.object "java/lang/String")) (by decide) (by decide)))).other W147 (Or.inr (slot_ne (Or.inr (hw _ (List.mem_of_getElem? (i := 56) rfl))) (Or.inr (hw _ (List.mem_of_getElem? (i := 52) rfl))) (by decide) (t := .boolean) (t' := (.object "java/lang/String")) (by decide) (by decide)))).other W148 (Or.inr (slot_ne (Or.inr (hw _ (List.mem_of_getElem? (i := 56) rfl))) (Or.inr (hw _ (List.mem_of_getElem? (i := 54) rfl))) (by decide) (t := .boolean) (t' := (.object "java/lang/String")) (by decide) (by decide)))) ((((q0.wr W145).wr W146).wr W147).wr W148) (Or.inr ⟨(hw _ (List.mem_of_getElem? (i := 56) rfl)), rfl, hnm⟩) (hw _ (List.mem_of_getElem? (i := 42) rfl)) (ty := .boolean) (v' := (.int (0 : Int32))) (by decide) rfl rfl (g := (mkF m 28 #[.val (.ref a1), .val (.ref s1), .val .null, .val .null, .val (.ref s2), .val (.int (0 : Int32))] [(.int (0 : Int32)), (.ref a1)])) rfl rfl (hb hby own_d9_28)
  have Fw149 : Fld Z h149 a1 "com/example/provender/provender/cli/Parameter" "required" "Z" (.int (0 : Int32)) := ((((q6.other W145 (Or.inr (slot_ne (Or.inr (hw _ (List.mem_of_getElem? (i := 56) rfl))) (Or.inr (hw _ (List.mem_of_getElem? (i := 48) rfl))) (by decide) (t := .boolean) (t' := (.object "java/lang/String")) (by decide) (by decide)))).other W146 (Or.inr (slot_ne (Or.inr (hw _ (List.mem_of_getElem? (i := 56) rfl))) (Or.inr (hw _ (List.mem_of_getElem? (i := 50) rfl))) (by decide) (t := .boolean) (t' := (.object "java/lang/String")) (by decide) (by decide)))).other W147 (Or.inr (slot_ne (Or.inr (hw _ (List.mem_of_getElem? (i := 56) rfl))) (Or.inr (hw _ (List.mem_of_getElem? (i := 52) rfl))) (by decide) (t := .boolean) (t' := (.object "java/lang/String")) (by decide) (by decide)))).other W148 (Or.inr (slot_ne (Or.inr (hw _ (List.mem_of_getElem? (i := 56) rfl))) (Or.inr (hw _ (List.mem_of_getElem? (i := 54) rfl))) (by decide) (t := .boolean) (t' := (.object "java/lang/String")) (by decide) (by decide)))).same W149
  have N149 := Fr.snoc X149 N148 q1
  have K149 : Keep h0 h149 [a1] := K148.wr W149 (Or.inl (List.mem_of_getElem? (i := 0) rfl))
  refine own_st (st149) ?_
  show own_Go p.tables e below _ (T149.setTop (mkF m 31 #[.val (.ref a1), .val (.ref s1), .val .null, .val .null, .val (.ref s2), .val (.int (0 : Int32))] []))
  exact own_ret0 X149 hx hnl Bd.returns (hb hby own_d9_31) ⟨rfl, N149, (by rw [e149]; exact K149), (by rw [e149]; exact ((((Fw145.other W146 (Or.inr (slot_ne (Or.inr (hw _ (List.mem_of_getElem? (i := 48) rfl))) (Or.inr (hw _ (List.mem_of_getElem? (i := 50) rfl))) (by decide) (t := (.object "java/lang/String")) (t' := (.object "java/lang/String")) (by decide) (by decide)))).other W147 (Or.inr (slot_ne (Or.inr (hw _ (List.mem_of_getElem? (i := 48) rfl))) (Or.inr (hw _ (List.mem_of_getElem? (i := 52) rfl))) (by decide) (t := (.object "java/lang/String")) (t' := (.object "java/lang/String")) (by decide) (by decide)))).other W148 (Or.inr (slot_ne (Or.inr (hw _ (List.mem_of_getElem? (i := 48) rfl))) (Or.inr (hw _ (List.mem_of_getElem? (i := 54) rfl))) (by decide) (t := (.object "java/lang/String")) (t' := (.object "java/lang/String")) (by decide) (by decide)))).other W149 (Or.inr (slot_ne (Or.inr (hw _ (List.mem_of_getElem? (i := 48) rfl))) (Or.inr (hw _ (List.mem_of_getElem? (i := 56) rfl))) (by decide) (t := (.object "java/lang/String")) (t' := .boolean) (by decide) (by decide))))), (by rw [e149]; exact (((Fw146.other W147 (Or.inr (slot_ne (Or.inr (hw _ (List.mem_of_getElem? (i := 50) rfl))) (Or.inr (hw _ (List.mem_of_getElem? (i := 52) rfl))) (by decide) (t := (.object "java/lang/String")) (t' := (.object "java/lang/String")) (by decide) (by decide)))).other W148 (Or.inr (slot_ne (Or.inr (hw _ (List.mem_of_getElem? (i := 50) rfl))) (Or.inr (hw _ (List.mem_of_getElem? (i := 54) rfl))) (by decide) (t := (.object "java/lang/String")) (t' := (.object "java/lang/String")) (by decide) (by decide)))).other W149 (Or.inr (slot_ne (Or.inr (hw _ (List.mem_of_getElem? (i := 50) rfl))) (Or.inr (hw _ (List.mem_of_getElem? (i := 56) rfl))) (by decide) (t := (.object "java/lang/String")) (t' := .boolean) (by decide) (by decide))))), (by rw [e149]; exact ((Fw147.other W148 (Or.inr (slot_ne (Or.inr (hw _ (List.mem_of_getElem? (i := 52) rfl))) (Or.inr (hw _ (List.mem_of_getElem? (i := 54) rfl))) (by decide) (t := (.object "java/lang/String")) (t' := (.object "java/lang/String")) (by decide) (by decide)))).other W149 (Or.inr (slot_ne (Or.inr (hw _ (List.mem_of_getElem? (i := 52) rfl))) (Or.inr (hw _ (List.mem_of_getElem? (i := 56) rfl))) (by decide) (t := (.object "java/lang/String")) (t' := .boolean) (by decide) (by decide))))), (by rw [e149]; exact (Fw148.other W149 (Or.inr (slot_ne (Or.inr (hw _ (List.mem_of_getElem? (i := 54) rfl))) (Or.inr (hw _ (List.mem_of_getElem? (i := 56) rfl))) (by decide) (t := (.object "java/lang/String")) (t' := .boolean) (by decide) (by decide))))), (by rw [e149]; exact Fw149)⟩ (by decide) (by decide)

theorem own_d8_0 : decode prog_5_method_2_code 0 = .ok (.new 8, 3) := by decide +kernel
theorem own_d8_3 : decode prog_5_method_2_code 3 = .ok (.dup, 1) := by decide +kernel
theorem own_d8_4 : decode prog_5_method_2_code 4 = .ok (.aload_n 0, 1) := by decide +kernel
theorem own_d8_5 : decode prog_5_method_2_code 5 = .ok (.aconst_null, 1) := by decide +kernel
theorem own_d8_6 : decode prog_5_method_2_code 6 = .ok (.aconst_null, 1) := by decide +kernel
theorem own_d8_7 : decode prog_5_method_2_code 7 = .ok (.aload_n 1, 1) := by decide +kernel
theorem own_d8_8 : decode prog_5_method_2_code 8 = .ok (.iconst 0, 1) := by decide +kernel
theorem own_d8_9 : decode prog_5_method_2_code 9 = .ok (.invokespecial 26, 3) := by decide +kernel
theorem own_d8_12 : decode prog_5_method_2_code 12 = .ok (.areturn, 1) := by decide +kernel
theorem own_pd5 : parseMethodDescriptor "(Ljava/lang/String;Ljava/lang/String;Ljava/lang/String;Ljava/lang/String;Z)V" = some ⟨[(.object "java/lang/String"), (.object "java/lang/String"), (.object "java/lang/String"), (.object "java/lang/String"), .boolean], none⟩ := by decide +kernel
theorem own_ef8 (m : MethodId) (x0 : Addr) (x1 : Addr) : entryFrame m #[(.ref x0), (.ref x1)] 2 = mkF m 0 #[.val (.ref x0), .val (.ref x1)] [] := by first | (simp [entryFrame, mkF, argsToLocals, Value.category]; done) | rfl
def own_Q8 (Z : State) (s1 : Addr) (s2 : Addr) (h0 : Heap) (n0 : Nat) (v : Option Value) (h : Heap) (L : List Loc) : Prop := ∃ (a1 : Addr), v = some (.ref a1) ∧ Fr n0 L ∧ Keep h0 h [] ∧ h0.size ≤ a1 ∧ Exa Z h a1 "com/example/provender/provender/cli/Parameter" ∧ Fld Z h a1 "com/example/provender/provender/cli/Parameter" "name" "Ljava/lang/String;" (.ref s1) ∧ Fld Z h a1 "com/example/provender/provender/cli/Parameter" "shortName" "Ljava/lang/String;" .null ∧ Fld Z h a1 "com/example/provender/provender/cli/Parameter" "label" "Ljava/lang/String;" .null ∧ Fld Z h a1 "com/example/provender/provender/cli/Parameter" "description" "Ljava/lang/String;" (.ref s2) ∧ Fld Z h a1 "com/example/provender/provender/cli/Parameter" "required" "Z" (.int (0 : Int32))
set_option maxRecDepth 65536 in
set_option maxHeartbeats 40000000 in
theorem own_rm8 (l : Launch) (Z : State) (a0 : Array Value) (hw : ∀ d ∈ tables_1, d.before a0 Z = true) (ws : List Jvm.Cond) (s1 : Addr) (s2 : Addr) (h0 : Heap) (n0 : Nat) (Z0 : n0 ≤ h0.size)  :
    MetFree l (⟨"com/example/provender/provender/cli/Parameter", "flag", "(Ljava/lang/String;Ljava/lang/String;)Lcom/example/provender/provender/cli/Parameter;"⟩ : MethodName) (head1 (Jvm.Cond.code (⟨"com/example/provender/provender/cli/Parameter", "flag", "(Ljava/lang/String;Ljava/lang/String;)Lcom/example/provender/provender/cli/Parameter;"⟩ : MethodName) prog_5_method_2_code 2 (some (.object "com/example/provender/provender/cli/Parameter")) :: ws) ({ frames := 2, cells := 1, slots := 5, locals := 30 } : Room)) (fun a U => a = #[(.ref s1), (.ref s2)] ∧ Z.Warmed39 U.vm ∧ U.heap = h0) (fun _ _ _ _ _ => True) (fun _ U o U' => ∃ v L, o = .returned v ∧ own_Q8 Z s1 s2 h0 n0 v U'.heap L ∧ FrameEnd U o U' L ({ frames := 2, cells := 1, slots := 5, locals := 30 } : Room).cells ({ frames := 2, cells := 1, slots := 5, locals := 30 } : Room).slots) := by
  refine MetFree.of_bodySF (plainFor_of_name own_pn3) hisR ?_
  intro p e s m args below meth c s₁ Bd hml0 hP hK
  obtain ⟨rfl, hZ, hh⟩ := hP
  have hx := Bd.exec
  have hby := Bd.bytes
  have hml : c.maxLocals = 2 := hml0
  have hown : s.vm.findClass "com/example/provender/provender/cli/Parameter" = some m.cls := findClass_of_methodNamed Bd.named
  have hnm := (name_of_methodNamed Bd.named Bd.method).1
  have hnl : meth.locks = false := Bd.notSynchronized
  have X0 : Stand p l e ({ frames := 2, cells := 1, slots := 5, locals := 30 } : Room) s m #[(.ref s1), (.ref s2)] below meth c s₁ [] 0 0 := Stand.of_body Bd
  have e0 : s₁.heap = h0 := by rw [← hh, Bd.state]; rfl
  have N0 := Fr.nil n0
  show own_Go p.tables e below (own_P below s (own_Q8 Z s1 s2 h0 n0) ({ frames := 2, cells := 1, slots := 5, locals := 30 } : Room).cells ({ frames := 2, cells := 1, slots := 5, locals := 30 } : Room).slots) _
  refine own_st (fun t_ k_ => castTop (own_ef8 m s1 s2) k_) ?_
  show own_Go p.tables e below _ (s₁.setTop (mkF m 0 #[.val (.ref s1), .val (.ref s2)] []))
  obtain ⟨T150, h150, X150, e150, E150, A150, D150, -, st150⟩ := newO X0 hx hZ hown (hw _ (List.mem_of_getElem? (i := 41) rfl)) (hw _ (List.mem_of_getElem? (i := 42) rfl)) (hw _ (List.mem_of_getElem? (i := 39) rfl)) e0 (g := (mkF m 0 #[.val (.ref s1), .val (.ref s2)] [])) rfl (hb hby own_d8_0) (by decide) (by decide)
  obtain ⟨b150, g150⟩ : ∃ z, z = h0.size := ⟨_, rfl⟩
  rw [← g150] at A150 D150 st150
  have fr150 : h0.size ≤ b150 := Nat.le_trans (Keep.refl h0 []).1 (Nat.le_of_eq g150.symm)
  have ge150 : n0 ≤ b150 := Nat.le_trans Z0 fr150
  have K150 : Keep h0 h150 [] := (Keep.refl h0 []).ext E150
  have F150_48 : Fld Z h150 b150 "com/example/provender/provender/cli/Parameter" "name" "Ljava/lang/String;" .null := D150 (Or.inr (hw _ (List.mem_of_getElem? (i := 48) rfl))) (ty := (.object "java/lang/String")) (by decide)
  have F150_50 : Fld Z h150 b150 "com/example/provender/provender/cli/Parameter" "shortName" "Ljava/lang/String;" .null := D150 (Or.inr (hw _ (List.mem_of_getElem? (i := 50) rfl))) (ty := (.object "java/lang/String")) (by decide)
  have F150_52 : Fld Z h150 b150 "com/example/provender/provender/cli/Parameter" "label" "Ljava/lang/String;" .null := D150 (Or.inr (hw _ (List.mem_of_getElem? (i := 52) rfl))) (ty := (.object "java/lang/String")) (by decide)
  have F150_54 : Fld Z h150 b150 "com/example/provender/provender/cli/Parameter" "description" "Ljava/lang/String;" .null := D150 (Or.inr (hw _ (List.mem_of_getElem? (i := 54) rfl))) (ty := (.object "java/lang/String")) (by decide)
  have F150_56 : Fld Z h150 b150 "com/example/provender/provender/cli/Parameter" "required" "Z" (.int (0 : Int32)) := D150 (Or.inr (hw _ (List.mem_of_getElem? (i := 56) rfl))) (ty := .boolean) (by decide)
  refine own_st (st150) ?_
  show own_Go p.tables e below _ (T150.setTop (mkF m 3 #[.val (.ref s1), .val (.ref s2)] [(.ref b150)]))
  refine own_st (fun t_ k_ => XS.dup X150.here hx rfl (hb hby own_d8_3) rfl rfl k_) ?_
  show own_Go p.tables e below _ (T150.setTop (mkF m 4 #[.val (.ref s1), .val (.ref s2)] [(.ref b150), (.ref b150)]))
  refine own_st (fun t_ k_ => XS.aloadN X150.here hx rfl (hb hby own_d8_4) rfl rfl k_) ?_
  show own_Go p.tables e below _ (T150.setTop (mkF m 5 #[.val (.ref s1), .val (.ref s2)] [(.ref s1), (.ref b150), (.ref b150)]))
  refine own_st (fun t_ k_ => XS.aconstNull X150.here hx rfl (hb hby own_d8_5) k_) ?_
  show own_Go p.tables e below _ (T150.setTop (mkF m 6 #[.val (.ref s1), .val (.ref s2)] [.null, (.ref s1), (.ref b150), (.ref b150)]))
  refine own_st (fun t_ k_ => XS.aconstNull X150.here hx rfl (hb hby own_d8_6) k_) ?_
  show own_Go p.tables e below _ (T150.setTop (mkF m 7 #[.val (.ref s1), .val (.ref s2)] [.null, .null, (.ref s1), (.ref b150), (.ref b150)]))
  refine own_st (fun t_ k_ => XS.aloadN X150.here hx rfl (hb hby own_d8_7) rfl rfl k_) ?_
  show own_Go p.tables e below _ (T150.setTop (mkF m 8 #[.val (.ref s1), .val (.ref s2)] [(.ref s2), .null, .null, (.ref s1), (.ref b150), (.ref b150)]))
  refine own_st (fun t_ k_ => XS.iconst X150.here hx rfl (hb hby own_d8_8) k_) ?_
  show own_Go p.tables e below _ (T150.setTop (mkF m 9 #[.val (.ref s1), .val (.ref s2)] [(.int (0 : Int32)), (.ref s2), .null, .null, (.ref s1), (.ref b150), (.ref b150)]))
  obtain ⟨_, _, ⟨T151, L151, k151, n151⟩, -, X151, ⟨Lc151, hQ151, l151, y151, z151⟩, st151⟩ := X150.specialBack hx (y := (⟨"com/example/provender/provender/cli/Parameter", "<init>", "(Ljava/lang/String;Ljava/lang/String;Ljava/lang/String;Ljava/lang/String;Z)V"⟩ : MethodName)) rfl hown (mvT hZ (hw _ (List.mem_of_getElem? (i := 43) rfl))) (mvT hZ (hw _ (List.mem_of_getElem? (i := 44) rfl))) (mvT hZ (hw _ (List.mem_of_getElem? (i := 45) rfl))) (by decide) (backOf (W := 1) (own_rm9 l Z a0 hw [] b150 s1 s2 h150 n0 (Nat.le_trans Z0 K150.1) A150 ge150 F150_48 F150_50 F150_52 F150_54 F150_56) hZ (hw _ (List.mem_of_getElem? (i := 45) rfl)) (hw _ (List.mem_of_getElem? (i := 39) rfl)) (by decide) (by decide)) (g := (mkF m 9 #[.val (.ref s1), .val (.ref s2)] [(.int (0 : Int32)), (.ref s2), .null, .null, (.ref s1), (.ref b150), (.ref b150)])) rfl (by rw [hml]; rfl) (Steps.refl _) (a := b150) (argsL := [(.ref s1), .null, .null, (.ref s2), (.int (0 : Int32))]) (rest := [(.ref b150)]) (lenOf own_pd5 rfl) rfl (by show 2 * 0 + _ ≤ _; exact Nat.le_of_eq rfl) (hb hby own_d8_9) (fun _ _ => ⟨rfl, e150, (by decide : 1 + 0 ≤ _), (by decide : 5 + 0 ≤ _)⟩)
  dsimp only [Pt.U, Pt.locs, Pt.cells, Pt.slots] at X151 l151 y151 z151 st151 hQ151
  subst y151 z151
  obtain ⟨rfl, N151q, Kq151, P151_0, P151_1, P151_2, P151_3, P151_4⟩ := hQ151
  have N151 : Fr n0 L151 := by rw [l151]; exact Fr.app N0 N151q
  have K151 : Keep h0 T151.heap [] := K150.trans Kq151 (allS (P := fun x => x ∈ [] ∨ h0.size ≤ x) (Or.inr fr150) all0)
  refine own_tr st151 ?_
  show own_Go p.tables e below _ (T151.setTop (mkF m 12 #[.val (.ref s1), .val (.ref s2)] [(.ref b150)]))
  exact own_ret (w := (.ref b150)) X151 hx hnl Bd.returns rfl (Or.inr (Or.inr (Or.inr (Or.inr ⟨rfl, rfl, rfl⟩)))) (hb hby own_d8_12) ⟨b150, rfl, N151, (K151), fr150, ((A150.keep Kq151)), (P151_0), (P151_1), (P151_2), (P151_3), (P151_4)⟩ (by decide) (by decide)

theorem own_d10_0 : decode prog_5_method_7_code 0 = .ok (.aload_n 0, 1) := by decide +kernel
theorem own_d10_1 : decode prog_5_method_7_code 1 = .ok (.getfield 7, 3) := by decide +kernel
theorem own_d10_4 : decode prog_5_method_7_code 4 = .ok (.areturn, 1) := by decide +kernel
theorem own_ef10 (m : MethodId) (x0 : Addr) : entryFrame m #[(.ref x0)] 1 = mkF m 0 #[.val (.ref x0)] [] := by first | (simp [entryFrame, mkF, argsToLocals, Value.category]; done) | rfl
def own_Q10 (Z : State) (a1 : Addr) (s1 : Addr) (s2 : Addr) (h0 : Heap) (n0 : Nat) (v : Option Value) (h : Heap) (L : List Loc) : Prop := v = some (.ref s1) ∧ Fr n0 L ∧ h = h0
set_option maxRecDepth 65536 in
set_option maxHeartbeats 40000000 in
theorem own_rm10 (l : Launch) (Z : State) (a0 : Array Value) (hw : ∀ d ∈ tables_1, d.before a0 Z = true) (ws : List Jvm.Cond) (a1 : Addr) (s1 : Addr) (s2 : Addr) (h0 : Heap) (n0 : Nat) (Z0 : n0 ≤ h0.size) (q0 : Exa Z h0 a1 "com/example/provender/provender/cli/Parameter") (q1 : Fld Z h0 a1 "com/example/provender/provender/cli/Parameter" "name" "Ljava/lang/String;" (.ref s1)) (q2 : Fld Z h0 a1 "com/example/provender/provender/cli/Parameter" "shortName" "Ljava/lang/String;" .null) (q3 : Fld Z h0 a1 "com/example/provender/provender/cli/Parameter" "label" "Ljava/lang/String;" .null) (q4 : Fld Z h0 a1 "com/example/provender/provender/cli/Parameter" "description" "Ljava/lang/String;" (.ref s2)) (q5 : Fld Z h0 a1 "com/example/provender/provender/cli/Parameter" "required" "Z" (.int (0 : Int32))) :
    MetFree l (⟨"com/example/provender/provender/cli/Parameter", "name", "()Ljava/lang/String;"⟩ : MethodName) (head1 (Jvm.Cond.code (⟨"com/example/provender/provender/cli/Parameter", "name", "()Ljava/lang/String;"⟩ : MethodName) prog_5_method_7_code 1 (some (.object "java/lang/String")) :: ws) ({ frames := 0, cells := 0, slots := 0, locals := 0 } : Room)) (fun a U => a = #[(.ref a1)] ∧ Z.Warmed39 U.vm ∧ U.heap = h0) (fun _ _ _ _ _ => True) (fun _ U o U' => ∃ v L, o = .returned v ∧ own_Q10 Z a1 s1 s2 h0 n0 v U'.heap L ∧ FrameEnd U o U' L ({ frames := 0, cells := 0, slots := 0, locals := 0 } : Room).cells ({ frames := 0, cells := 0, slots := 0, locals := 0 } : Room).slots) := by
  refine MetFree.of_bodySF (plainFor_of_name own_pn3) hisR ?_
  intro p e s m args below meth c s₁ Bd hml0 hP hK
  obtain ⟨rfl, hZ, hh⟩ := hP
  have hx := Bd.exec
  have hby := Bd.bytes
  have hml : c.maxLocals = 1 := hml0
  have hown : s.vm.findClass "com/example/provender/provender/cli/Parameter" = some m.cls := findClass_of_methodNamed Bd.named
  have hnm := (name_of_methodNamed Bd.named Bd.method).1
  have hnl : meth.locks = false := Bd.notSynchronized
  have X0 : Stand p l e ({ frames := 0, cells := 0, slots := 0, locals := 0 } : Room) s m #[(.ref a1)] below meth c s₁ [] 0 0 := Stand.of_body Bd
  have e0 : s₁.heap = h0 := by rw [← hh, Bd.state]; rfl
  have N0 := Fr.nil n0
  show own_Go p.tables e below (own_P below s (own_Q10 Z a1 s1 s2 h0 n0) ({ frames := 0, cells := 0, slots := 0, locals := 0 } : Room).cells ({ frames := 0, cells := 0, slots := 0, locals := 0 } : Room).slots) _
  refine own_st (fun t_ k_ => castTop (own_ef10 m a1) k_) ?_
  show own_Go p.tables e below _ (s₁.setTop (mkF m 0 #[.val (.ref a1)] []))
  refine own_st (fun t_ k_ => XS.aloadN X0.here hx rfl (hb hby own_d10_0) rfl rfl k_) ?_
  show own_Go p.tables e below _ (s₁.setTop (mkF m 1 #[.val (.ref a1)] [(.ref a1)]))
  obtain ⟨T152, X152, e152, st152⟩ := getF X0 hx hZ hown (host := "") (Or.inl (hw _ (List.mem_of_getElem? (i := 47) rfl))) Via.refl e0 q1 (g := (mkF m 1 #[.val (.ref a1)] [(.ref a1)])) rfl rfl (hb hby own_d10_1)
  refine own_st (st152) ?_
  show own_Go p.tables e below _ (T152.setTop (mkF m 4 #[.val (.ref a1)] [(.ref s1)]))
  exact own_ret (w := (.ref s1)) X152 hx hnl Bd.returns rfl (Or.inr (Or.inr (Or.inr (Or.inr ⟨rfl, rfl, rfl⟩)))) (hb hby own_d10_4) ⟨rfl, N0, e152⟩ (by decide) (by decide)

theorem own_d11_0 : decode prog_5_method_8_code 0 = .ok (.aload_n 0, 1) := by decide +kernel
theorem own_d11_1 : decode prog_5_method_8_code 1 = .ok (.getfield 13, 3) := by decide +kernel
theorem own_d11_4 : decode prog_5_method_8_code 4 = .ok (.areturn, 1) := by decide +kernel
theorem own_ef11 (m : MethodId) (x0 : Addr) : entryFrame m #[(.ref x0)] 1 = mkF m 0 #[.val (.ref x0)] [] := by first | (simp [entryFrame, mkF, argsToLocals, Value.category]; done) | rfl
def own_Q11 (Z : State) (a1 : Addr) (s1 : Addr) (s2 : Addr) (h0 : Heap) (n0 : Nat) (v : Option Value) (h : Heap) (L : List Loc) : Prop := v = some .null ∧ Fr n0 L ∧ h = h0
set_option maxRecDepth 65536 in
set_option maxHeartbeats 40000000 in
theorem own_rm11 (l : Launch) (Z : State) (a0 : Array Value) (hw : ∀ d ∈ tables_1, d.before a0 Z = true) (ws : List Jvm.Cond) (a1 : Addr) (s1 : Addr) (s2 : Addr) (h0 : Heap) (n0 : Nat) (Z0 : n0 ≤ h0.size) (q0 : Exa Z h0 a1 "com/example/provender/provender/cli/Parameter") (q1 : Fld Z h0 a1 "com/example/provender/provender/cli/Parameter" "name" "Ljava/lang/String;" (.ref s1)) (q2 : Fld Z h0 a1 "com/example/provender/provender/cli/Parameter" "shortName" "Ljava/lang/String;" .null) (q3 : Fld Z h0 a1 "com/example/provender/provender/cli/Parameter" "label" "Ljava/lang/String;" .null) (q4 : Fld Z h0 a1 "com/example/provender/provender/cli/Parameter" "description" "Ljava/lang/String;" (.ref s2)) (q5 : Fld Z h0 a1 "com/example/provender/provender/cli/Parameter" "required" "Z" (.int (0 : Int32))) :
    MetFree l (⟨"com/example/provender/provender/cli/Parameter", "shortName", "()Ljava/lang/String;"⟩ : MethodName) (head1 (Jvm.Cond.code (⟨"com/example/provender/provender/cli/Parameter", "shortName", "()Ljava/lang/String;"⟩ : MethodName) prog_5_method_8_code 1 (some (.object "java/lang/String")) :: ws) ({ frames := 0, cells := 0, slots := 0, locals := 0 } : Room)) (fun a U => a = #[(.ref a1)] ∧ Z.Warmed39 U.vm ∧ U.heap = h0) (fun _ _ _ _ _ => True) (fun _ U o U' => ∃ v L, o = .returned v ∧ own_Q11 Z a1 s1 s2 h0 n0 v U'.heap L ∧ FrameEnd U o U' L ({ frames := 0, cells := 0, slots := 0, locals := 0 } : Room).cells ({ frames := 0, cells := 0, slots := 0, locals := 0 } : Room).slots) := by
  refine MetFree.of_bodySF (plainFor_of_name own_pn3) hisR ?_
  intro p e s m args below meth c s₁ Bd hml0 hP hK
  obtain ⟨rfl, hZ, hh⟩ := hP
  have hx := Bd.exec
  have hby := Bd.bytes
  have hml : c.maxLocals = 1 := hml0
  have hown : s.vm.findClass "com/example/provender/provender/cli/Parameter" = some m.cls := findClass_of_methodNamed Bd.named
  have hnm := (name_of_methodNamed Bd.named Bd.method).1
  have hnl : meth.locks = false := Bd.notSynchronized
  have X0 : Stand p l e ({ frames := 0, cells := 0, slots := 0, locals := 0 } : Room) s m #[(.ref a1)] below meth c s₁ [] 0 0 := Stand.of_body Bd
  have e0 : s₁.heap = h0 := by rw [← hh, Bd.state]; rfl
  have N0 := Fr.nil n0
  show own_Go p.tables e below (own_P below s (own_Q11 Z a1 s1 s2 h0 n0) ({ frames := 0, cells := 0, slots := 0, locals := 0 } : Room).cells ({ frames := 0, cells := 0, slots := 0, locals := 0 } : Room).slots) _
  refine own_st (fun t_ k_ => castTop (own_ef11 m a1) k_) ?_
  show own_Go p.tables e below _ (s₁.setTop (mkF m 0 #[.val (.ref a1)] []))
  refine own_st (fun t_ k_ => XS.aloadN X0.here hx rfl (hb hby own_d11_0) rfl rfl k_) ?_
  show own_Go p.tables e below _ (s₁.setTop (mkF m 1 #[.val (.ref a1)] [(.ref a1)]))
  obtain ⟨T153, X153, e153, st153⟩ := getF X0 hx hZ hown (host := "") (Or.inl (hw _ (List.mem_of_getElem? (i := 49) rfl))) Via.refl e0 q2 (g := (mkF m 1 #[.val (.ref a1)] [(.ref a1)])) rfl rfl (hb hby own_d11_1)
  refine own_st (st153) ?_
  show own_Go p.tables e below _ (T153.setTop (mkF m 4 #[.val (.ref a1)] [.null]))
  exact own_ret (w := .null) X153 hx hnl Bd.returns rfl (Or.inr (Or.inr (Or.inr (Or.inr ⟨rfl, rfl, rfl⟩)))) (hb hby own_d11_4) ⟨rfl, N0, e153⟩ (by decide) (by decide)

theorem own_d12_0 : decode prog_5_method_9_code 0 = .ok (.aload_n 0, 1) := by decide +kernel
theorem own_d12_1 : decode prog_5_method_9_code 1 = .ok (.getfield 16, 3) := by decide +kernel
theorem own_d12_4 : decode prog_5_method_9_code 4 = .ok (.areturn, 1) := by decide +kernel
theorem own_ef12 (m : MethodId) (x0 : Addr) : entryFrame m #[(.ref x0)] 1 = mkF m 0 #[.val (.ref x0)] [] := by first | (simp [entryFrame, mkF, argsToLocals, Value.category]; done) | rfl
def own_Q12 (Z : State) (a1 : Addr) (s1 : Addr) (s2 : Addr) (h0 : Heap) (n0 : Nat) (v : Option Value) (h : Heap) (L : List Loc) : Prop := v = some .null ∧ Fr n0 L ∧ h = h0
set_option maxRecDepth 65536 in
set_option maxHeartbeats 40000000 in
theorem own_rm12 (l : Launch) (Z : State) (a0 : Array Value) (hw : ∀ d ∈ tables_1, d.before a0 Z = true) (ws : List Jvm.Cond) (a1 : Addr) (s1 : Addr) (s2 : Addr) (h0 : Heap) (n0 : Nat) (Z0 : n0 ≤ h0.size) (q0 : Exa Z h0 a1 "com/example/provender/provender/cli/Parameter") (q1 : Fld Z h0 a1 "com/example/provender/provender/cli/Parameter" "name" "Ljava/lang/String;" (.ref s1)) (q2 : Fld Z h0 a1 "com/example/provender/provender/cli/Parameter" "shortName" "Ljava/lang/String;" .null) (q3 : Fld Z h0 a1 "com/example/provender/provender/cli/Parameter" "label" "Ljava/lang/String;" .null) (q4 : Fld Z h0 a1 "com/example/provender/provender/cli/Parameter" "description" "Ljava/lang/String;" (.ref s2)) (q5 : Fld Z h0 a1 "com/example/provender/provender/cli/Parameter" "required" "Z" (.int (0 : Int32))) :
    MetFree l (⟨"com/example/provender/provender/cli/Parameter", "label", "()Ljava/lang/String;"⟩ : MethodName) (head1 (Jvm.Cond.code (⟨"com/example/provender/provender/cli/Parameter", "label", "()Ljava/lang/String;"⟩ : MethodName) prog_5_method_9_code 1 (some (.object "java/lang/String")) :: ws) ({ frames := 0, cells := 0, slots := 0, locals := 0 } : Room)) (fun a U => a = #[(.ref a1)] ∧ Z.Warmed39 U.vm ∧ U.heap = h0) (fun _ _ _ _ _ => True) (fun _ U o U' => ∃ v L, o = .returned v ∧ own_Q12 Z a1 s1 s2 h0 n0 v U'.heap L ∧ FrameEnd U o U' L ({ frames := 0, cells := 0, slots := 0, locals := 0 } : Room).cells ({ frames := 0, cells := 0, slots := 0, locals := 0 } : Room).slots) := by
  refine MetFree.of_bodySF (plainFor_of_name own_pn3) hisR ?_
  intro p e s m args below meth c s₁ Bd hml0 hP hK
  obtain ⟨rfl, hZ, hh⟩ := hP
  have hx := Bd.exec
  have hby := Bd.bytes
  have hml : c.maxLocals = 1 := hml0
  have hown : s.vm.findClass "com/example/provender/provender/cli/Parameter" = some m.cls := findClass_of_methodNamed Bd.named
  have hnm := (name_of_methodNamed Bd.named Bd.method).1
  have hnl : meth.locks = false := Bd.notSynchronized
  have X0 : Stand p l e ({ frames := 0, cells := 0, slots := 0, locals := 0 } : Room) s m #[(.ref a1)] below meth c s₁ [] 0 0 := Stand.of_body Bd
  have e0 : s₁.heap = h0 := by rw [← hh, Bd.state]; rfl
  have N0 := Fr.nil n0
  show own_Go p.tables e below (own_P below s (own_Q12 Z a1 s1 s2 h0 n0) ({ frames := 0, cells := 0, slots := 0, locals := 0 } : Room).cells ({ frames := 0, cells := 0, slots := 0, locals := 0 } : Room).slots) _
  refine own_st (fun t_ k_ => castTop (own_ef12 m a1) k_) ?_
  show own_Go p.tables e below _ (s₁.setTop (mkF m 0 #[.val (.ref a1)] []))
  refine own_st (fun t_ k_ => XS.aloadN X0.here hx rfl (hb hby own_d12_0) rfl rfl k_) ?_
  show own_Go p.tables e below _ (s₁.setTop (mkF m 1 #[.val (.ref a1)] [(.ref a1)]))
  obtain ⟨T154, X154, e154, st154⟩ := getF X0 hx hZ hown (host := "") (Or.inl (hw _ (List.mem_of_getElem? (i := 51) rfl))) Via.refl e0 q3 (g := (mkF m 1 #[.val (.ref a1)] [(.ref a1)])) rfl rfl (hb hby own_d12_1)
  refine own_st (st154) ?_
  show own_Go p.tables e below _ (T154.setTop (mkF m 4 #[.val (.ref a1)] [.null]))
  exact own_ret (w := .null) X154 hx hnl Bd.returns rfl (Or.inr (Or.inr (Or.inr (Or.inr ⟨rfl, rfl, rfl⟩)))) (hb hby own_d12_4) ⟨rfl, N0, e154⟩ (by decide) (by decide)

theorem own_d13_0 : decode prog_5_method_10_code 0 = .ok (.aload_n 0, 1) := by decide +kernel
theorem own_d13_1 : decode prog_5_method_10_code 1 = .ok (.getfield 19, 3) := by decide +kernel
theorem own_d13_4 : decode prog_5_method_10_code 4 = .ok (.areturn, 1) := by decide +kernel
theorem own_ef13 (m : MethodId) (x0 : Addr) : entryFrame m #[(.ref x0)] 1 = mkF m 0 #[.val (.ref x0)] [] := by first | (simp [entryFrame, mkF, argsToLocals, Value.category]; done) | rfl
def own_Q13 (Z : State) (a1 : Addr) (s1 : Addr) (s2 : Addr) (h0 : Heap) (n0 : Nat) (v : Option Value) (h : Heap) (L : List Loc) : Prop := v = some (.ref s2) ∧ Fr n0 L ∧ h = h0
set_option maxRecDepth 65536 in
set_option maxHeartbeats 40000000 in
theorem own_rm13 (l : Launch) (Z : State) (a0 : Array Value) (hw : ∀ d ∈ tables_1, d.before a0 Z = true) (ws : List Jvm.Cond) (a1 : Addr) (s1 : Addr) (s2 : Addr) (h0 : Heap) (n0 : Nat) (Z0 : n0 ≤ h0.size) (q0 : Exa Z h0 a1 "com/example/provender/provender/cli/Parameter") (q1 : Fld Z h0 a1 "com/example/provender/provender/cli/Parameter" "name" "Ljava/lang/String;" (.ref s1)) (q2 : Fld Z h0 a1 "com/example/provender/provender/cli/Parameter" "shortName" "Ljava/lang/String;" .null) (q3 : Fld Z h0 a1 "com/example/provender/provender/cli/Parameter" "label" "Ljava/lang/String;" .null) (q4 : Fld Z h0 a1 "com/example/provender/provender/cli/Parameter" "description" "Ljava/lang/String;" (.ref s2)) (q5 : Fld Z h0 a1 "com/example/provender/provender/cli/Parameter" "required" "Z" (.int (0 : Int32))) :
    MetFree l (⟨"com/example/provender/provender/cli/Parameter", "description", "()Ljava/lang/String;"⟩ : MethodName) (head1 (Jvm.Cond.code (⟨"com/example/provender/provender/cli/Parameter", "description", "()Ljava/lang/String;"⟩ : MethodName) prog_5_method_10_code 1 (some (.object "java/lang/String")) :: ws) ({ frames := 0, cells := 0, slots := 0, locals := 0 } : Room)) (fun a U => a = #[(.ref a1)] ∧ Z.Warmed39 U.vm ∧ U.heap = h0) (fun _ _ _ _ _ => True) (fun _ U o U' => ∃ v L, o = .returned v ∧ own_Q13 Z a1 s1 s2 h0 n0 v U'.heap L ∧ FrameEnd U o U' L ({ frames := 0, cells := 0, slots := 0, locals := 0 } : Room).cells ({ frames := 0, cells := 0, slots := 0, locals := 0 } : Room).slots) := by
  refine MetFree.of_bodySF (plainFor_of_name own_pn3) hisR ?_
  intro p e s m args below meth c s₁ Bd hml0 hP hK
  obtain ⟨rfl, hZ, hh⟩ := hP
  have hx := Bd.exec
  have hby := Bd.bytes
  have hml : c.maxLocals = 1 := hml0
  have hown : s.vm.findClass "com/example/provender/provender/cli/Parameter" = some m.cls := findClass_of_methodNamed Bd.named
  have hnm := (name_of_methodNamed Bd.named Bd.method).1
  have hnl : meth.locks = false := Bd.notSynchronized
  have X0 : Stand p l e ({ frames := 0, cells := 0, slots := 0, locals := 0 } : Room) s m #[(.ref a1)] below meth c s₁ [] 0 0 := Stand.of_body Bd
  have e0 : s₁.heap = h0 := by rw [← hh, Bd.state]; rfl
  have N0 := Fr.nil n0
  show own_Go p.tables e below (own_P below s (own_Q13 Z a1 s1 s2 h0 n0) ({ frames := 0, cells := 0, slots := 0, locals := 0 } : Room).cells ({ frames := 0, cells := 0, slots := 0, locals := 0 } : Room).slots) _
  refine own_st (fun t_ k_ => castTop (own_ef13 m a1) k_) ?_
  show own_Go p.tables e below _ (s₁.setTop (mkF m 0 #[.val (.ref a1)] []))
  refine own_st (fun t_ k_ => XS.aloadN X0.here hx rfl (hb hby own_d13_0) rfl rfl k_) ?_
  show own_Go p.tables e below _ (s₁.setTop (mkF m 1 #[.val (.ref a1)] [(.ref a1)]))
  obtain ⟨T155, X155, e155, st155⟩ := getF X0 hx hZ hown (host := "") (Or.inl (hw _ (List.mem_of_getElem? (i := 53) rfl))) Via.refl e0 q4 (g := (mkF m 1 #[.val (.ref a1)] [(.ref a1)])) rfl rfl (hb hby own_d13_1)
  refine own_st (st155) ?_
  show own_Go p.tables e below _ (T155.setTop (mkF m 4 #[.val (.ref a1)] [(.ref s2)]))
  exact own_ret (w := (.ref s2)) X155 hx hnl Bd.returns rfl (Or.inr (Or.inr (Or.inr (Or.inr ⟨rfl, rfl, rfl⟩)))) (hb hby own_d13_4) ⟨rfl, N0, e155⟩ (by decide) (by decide)

theorem own_d14_0 : decode prog_5_method_11_code 0 = .ok (.aload_n 0, 1) := by decide +kernel
theorem own_d14_1 : decode prog_5_method_11_code 1 = .ok (.getfield 22, 3) := by decide +kernel
theorem own_d14_4 : decode prog_5_method_11_code 4 = .ok (.ireturn, 1) := by decide +kernel
theorem own_ef14 (m : MethodId) (x0 : Addr) : entryFrame m #[(.ref x0)] 1 = mkF m 0 #[.val (.ref x0)] [] := by first | (simp [entryFrame, mkF, argsToLocals, Value.category]; done) | rfl
def own_Q14 (Z : State) (a1 : Addr) (s1 : Addr) (s2 : Addr) (h0 : Heap) (n0 : Nat) (v : Option Value) (h : Heap) (L : List Loc) : Prop := v = some (.int (0 : Int32)) ∧ Fr n0 L ∧ h = h0
set_option maxRecDepth 65536 in
set_option maxHeartbeats 40000000 in
theorem own_rm14 (l : Launch) (Z : State) (a0 : Array Value) (hw : ∀ d ∈ tables_1, d.before a0 Z = true) (ws : List Jvm.Cond) (a1 : Addr) (s1 : Addr) (s2 : Addr) (h0 : Heap) (n0 : Nat) (Z0 : n0 ≤ h0.size) (q0 : Exa Z h0 a1 "com/example/provender/provender/cli/Parameter") (q1 : Fld Z h0 a1 "com/example/provender/provender/cli/Parameter" "name" "Ljava/lang/String;" (.ref s1)) (q2 : Fld Z h0 a1 "com/example/provender/provender/cli/Parameter" "shortName" "Ljava/lang/String;" .null) (q3 : Fld Z h0 a1 "com/example/provender/provender/cli/Parameter" "label" "Ljava/lang/String;" .null) (q4 : Fld Z h0 a1 "com/example/provender/provender/cli/Parameter" "description" "Ljava/lang/String;" (.ref s2)) (q5 : Fld Z h0 a1 "com/example/provender/provender/cli/Parameter" "required" "Z" (.int (0 : Int32))) :
    MetFree l (⟨"com/example/provender/provender/cli/Parameter", "required", "()Z"⟩ : MethodName) (head1 (Jvm.Cond.code (⟨"com/example/provender/provender/cli/Parameter", "required", "()Z"⟩ : MethodName) prog_5_method_11_code 1 (some .boolean) :: ws) ({ frames := 0, cells := 0, slots := 0, locals := 0 } : Room)) (fun a U => a = #[(.ref a1)] ∧ Z.Warmed39 U.vm ∧ U.heap = h0) (fun _ _ _ _ _ => True) (fun _ U o U' => ∃ v L, o = .returned v ∧ own_Q14 Z a1 s1 s2 h0 n0 v U'.heap L ∧ FrameEnd U o U' L ({ frames := 0, cells := 0, slots := 0, locals := 0 } : Room).cells ({ frames := 0, cells := 0, slots := 0, locals := 0 } : Room).slots) := by
  refine MetFree.of_bodySF (plainFor_of_name own_pn3) hisR ?_
  intro p e s m args below meth c s₁ Bd hml0 hP hK
  obtain ⟨rfl, hZ, hh⟩ := hP
  have hx := Bd.exec
  have hby := Bd.bytes
  have hml : c.maxLocals = 1 := hml0
  have hown : s.vm.findClass "com/example/provender/provender/cli/Parameter" = some m.cls := findClass_of_methodNamed Bd.named
  have hnm := (name_of_methodNamed Bd.named Bd.method).1
  have hnl : meth.locks = false := Bd.notSynchronized
  have X0 : Stand p l e ({ frames := 0, cells := 0, slots := 0, locals := 0 } : Room) s m #[(.ref a1)] below meth c s₁ [] 0 0 := Stand.of_body Bd
  have e0 : s₁.heap = h0 := by rw [← hh, Bd.state]; rfl
  have N0 := Fr.nil n0
  show own_Go p.tables e below (own_P below s (own_Q14 Z a1 s1 s2 h0 n0) ({ frames := 0, cells := 0, slots := 0, locals := 0 } : Room).cells ({ frames := 0, cells := 0, slots := 0, locals := 0 } : Room).slots) _
  refine own_st (fun t_ k_ => castTop (own_ef14 m a1) k_) ?_
  show own_Go p.tables e below _ (s₁.setTop (mkF m 0 #[.val (.ref a1)] []))
  refine own_st (fun t_ k_ => XS.aloadN X0.here hx rfl (hb hby own_d14_0) rfl rfl k_) ?_
  show own_Go p.tables e below _ (s₁.setTop (mkF m 1 #[.val (.ref a1)] [(.ref a1)]))
  obtain ⟨T156, X156, e156, st156⟩ := getF X0 hx hZ hown (host := "") (Or.inl (hw _ (List.mem_of_getElem? (i := 55) rfl))) Via.refl e0 q5 (g := (mkF m 1 #[.val (.ref a1)] [(.ref a1)])) rfl rfl (hb hby own_d14_1)
  refine own_st (st156) ?_
  show own_Go p.tables e below _ (T156.setTop (mkF m 4 #[.val (.ref a1)] [(.int (0 : Int32))]))
  exact own_ret (w := (.int (0 : Int32))) X156 hx hnl Bd.returns rfl (Or.inl ⟨rfl, by decide, _, rfl⟩) (hb hby own_d14_4) ⟨rfl, N0, e156⟩ (by decide) (by decide)

theorem own_d15_0 : decode prog_5_method_12_code 0 = .ok (.aload_n 0, 1) := by decide +kernel
theorem own_d15_1 : decode prog_5_method_12_code 1 = .ok (.getfield 7, 3) := by decide +kernel
theorem own_d15_4 : decode prog_5_method_12_code 4 = .ok (.ifnonnull 7, 3) := by decide +kernel
theorem own_d15_11 : decode prog_5_method_12_code 11 = .ok (.iconst 0, 1) := by decide +kernel
theorem own_d15_12 : decode prog_5_method_12_code 12 = .ok (.ireturn, 1) := by decide +kernel
theorem own_ef15 (m : MethodId) (x0 : Addr) : entryFrame m #[(.ref x0)] 1 = mkF m 0 #[.val (.ref x0)] [] := by first | (simp [entryFrame, mkF, argsToLocals, Value.category]; done) | rfl
def own_Q15 (Z : State) (a1 : Addr) (s1 : Addr) (s2 : Addr) (h0 : Heap) (n0 : Nat) (v : Option Value) (h : Heap) (L : List Loc) : Prop := v = some (.int (0 : Int32)) ∧ Fr n0 L ∧ h = h0
set_option maxRecDepth 65536 in
set_option maxHeartbeats 40000000 in
theorem own_rm15 (l : Launch) (Z : State) (a0 : Array Value) (hw : ∀ d ∈ tables_1, d.before a0 Z = true) (ws : List Jvm.Cond) (a1 : Addr) (s1 : Addr) (s2 : Addr) (h0 : Heap) (n0 : Nat) (Z0 : n0 ≤ h0.size) (q0 : Exa Z h0 a1 "com/example/provender/provender/cli/Parameter") (q1 : Fld Z h0 a1 "com/example/provender/provender/cli/Parameter" "name" "Ljava/lang/String;" (.ref s1)) (q2 : Fld Z h0 a1 "com/example/provender/provender/cli/Parameter" "shortName" "Ljava/lang/String;" .null) (q3 : Fld Z h0 a1 "com/example/provender/provender/cli/Parameter" "label" "Ljava/lang/String;" .null) (q4 : Fld Z h0 a1 "com/example/provender/provender/cli/Parameter" "description" "Ljava/lang/String;" (.ref s2)) (q5 : Fld Z h0 a1 "com/example/provender/provender/cli/Parameter" "required" "Z" (.int (0 : Int32))) :
    MetFree l (⟨"com/example/provender/provender/cli/Parameter", "isPositional", "()Z"⟩ : MethodName) (head1 (Jvm.Cond.code (⟨"com/example/provender/provender/cli/Parameter", "isPositional", "()Z"⟩ : MethodName) prog_5_method_12_code 1 (some .boolean) :: ws) ({ frames := 0, cells := 0, slots := 0, locals := 0 } : Room)) (fun a U => a = #[(.ref a1)] ∧ Z.Warmed39 U.vm ∧ U.heap = h0) (fun _ _ _ _ _ => True) (fun _ U o U' => ∃ v L, o = .returned v ∧ own_Q15 Z a1 s1 s2 h0 n0 v U'.heap L ∧ FrameEnd U o U' L ({ frames := 0, cells := 0, slots := 0, locals := 0 } : Room).cells ({ frames := 0, cells := 0, slots := 0, locals := 0 } : Room).slots) := by
  refine MetFree.of_bodySF (plainFor_of_name own_pn3) hisR ?_
  intro p e s m args below meth c s₁ Bd hml0 hP hK
  obtain ⟨rfl, hZ, hh⟩ := hP
  have hx := Bd.exec
  have hby := Bd.bytes
  have hml : c.maxLocals = 1 := hml0
  have hown : s.vm.findClass "com/example/provender/provender/cli/Parameter" = some m.cls := findClass_of_methodNamed Bd.named
  have hnm := (name_of_methodNamed Bd.named Bd.method).1
  have hnl : meth.locks = false := Bd.notSynchronized
  have X0 : Stand p l e ({ frames := 0, cells := 0, slots := 0, locals := 0 } : Room) s m #[(.ref a1)] below meth c s₁ [] 0 0 := Stand.of_body Bd
  have e0 : s₁.heap = h0 := by rw [← hh, Bd.state]; rfl
  have N0 := Fr.nil n0
  show own_Go p.tables e below (own_P below s (own_Q15 Z a1 s1 s2 h0 n0) ({ frames := 0, cells := 0, slots := 0, locals := 0 } : Room).cells ({ frames := 0, cells := 0, slots := 0, locals := 0 } : Room).slots) _
  refine own_st (fun t_ k_ => castTop (own_ef15 m a1) k_) ?_
  show own_Go p.tables e below _ (s₁.setTop (mkF m 0 #[.val (.ref a1)] []))
  refine own_st (fun t_ k_ => XS.aloadN X0.here hx rfl (hb hby own_d15_0) rfl rfl k_) ?_
  show own_Go p.tables e below _ (s₁.setTop (mkF m 1 #[.val (.ref a1)] [(.ref a1)]))
  obtain ⟨T157, X157, e157, st157⟩ := getF X0 hx hZ hown (host := "") (Or.inl (hw _ (List.mem_of_getElem? (i := 47) rfl))) Via.refl e0 q1 (g := (mkF m 1 #[.val (.ref a1)] [(.ref a1)])) rfl rfl (hb hby own_d15_1)
  refine own_st (st157) ?_
  show own_Go p.tables e below _ (T157.setTop (mkF m 4 #[.val (.ref a1)] [(.ref s1)]))
  refine own_st (fun t_ k_ => XS.ifnonnullYes X157.here hx rfl (pc0 := 4) (pc' := 11) rfl (hb hby own_d15_4) rfl (by decide) (by decide) k_) ?_
  show own_Go p.tables e below _ (T157.setTop (mkF m 11 #[.val (.ref a1)] []))
  refine own_st (fun t_ k_ => XS.iconst X157.here hx rfl (hb hby own_d15_11) k_) ?_
  show own_Go p.tables e below _ (T157.setTop (mkF m 12 #[.val (.ref a1)] [(.int (0 : Int32))]))
  exact own_ret (w := (.int (0 : Int32))) X157 hx hnl Bd.returns rfl (Or.inl ⟨rfl, by decide, _, rfl⟩) (hb hby own_d15_12) ⟨rfl, N0, e157⟩ (by decide) (by decide)

theorem own_d16_0 : decode prog_5_method_13_code 0 = .ok (.aload_n 0, 1) := by decide +kernel
theorem own_d16_1 : decode prog_5_method_13_code 1 = .ok (.getfield 16, 3) := by decide +kernel
theorem own_d16_4 : decode prog_5_method_13_code 4 = .ok (.ifnonnull 7, 3) := by decide +kernel
theorem own_d16_7 : decode prog_5_method_13_code 7 = .ok (.iconst 1, 1) := by decide +kernel
theorem own_d16_8 : decode prog_5_method_13_code 8 = .ok (.goto 4, 3) := by decide +kernel
theorem own_d16_12 : decode prog_5_method_13_code 12 = .ok (.ireturn, 1) := by decide +kernel
theorem own_ef16 (m : MethodId) (x0 : Addr) : entryFrame m #[(.ref x0)] 1 = mkF m 0 #[.val (.ref x0)] [] := by first | (simp [entryFrame, mkF, argsToLocals, Value.category]; done) | rfl
def own_Q16 (Z : State) (a1 : Addr) (s1 : Addr) (s2 : Addr) (h0 : Heap) (n0 : Nat) (v : Option Value) (h : Heap) (L : List Loc) : Prop := v = some (.int (1 : Int32)) ∧ Fr n0 L ∧ h = h0
set_option maxRecDepth 65536 in
set_option maxHeartbeats 40000000 in
theorem own_rm16 (l : Launch) (Z : State) (a0 : Array Value) (hw : ∀ d ∈ tables_1, d.before a0 Z = true) (ws : List Jvm.Cond) (a1 : Addr) (s1 : Addr) (s2 : Addr) (h0 : Heap) (n0 : Nat) (Z0 : n0 ≤ h0.size) (q0 : Exa Z h0 a1 "com/example/provender/provender/cli/Parameter") (q1 : Fld Z h0 a1 "com/example/provender/provender/cli/Parameter" "name" "Ljava/lang/String;" (.ref s1)) (q2 : Fld Z h0 a1 "com/example/provender/provender/cli/Parameter" "shortName" "Ljava/lang/String;" .null) (q3 : Fld Z h0 a1 "com/example/provender/provender/cli/Parameter" "label" "Ljava/lang/String;" .null) (q4 : Fld Z h0 a1 "com/example/provender/provender/cli/Parameter" "description" "Ljava/lang/String;" (.ref s2)) (q5 : Fld Z h0 a1 "com/example/provender/provender/cli/Parameter" "required" "Z" (.int (0 : Int32))) :
    MetFree l (⟨"com/example/provender/provender/cli/Parameter", "isFlag", "()Z"⟩ : MethodName) (head1 (Jvm.Cond.code (⟨"com/example/provender/provender/cli/Parameter", "isFlag", "()Z"⟩ : MethodName) prog_5_method_13_code 1 (some .boolean) :: ws) ({ frames := 0, cells := 0, slots := 0, locals := 0 } : Room)) (fun a U => a = #[(.ref a1)] ∧ Z.Warmed39 U.vm ∧ U.heap = h0) (fun _ _ _ _ _ => True) (fun _ U o U' => ∃ v L, o = .returned v ∧ own_Q16 Z a1 s1 s2 h0 n0 v U'.heap L ∧ FrameEnd U o U' L ({ frames := 0, cells := 0, slots := 0, locals := 0 } : Room).cells ({ frames := 0, cells := 0, slots := 0, locals := 0 } : Room).slots) := by
  refine MetFree.of_bodySF (plainFor_of_name own_pn3) hisR ?_
  intro p e s m args below meth c s₁ Bd hml0 hP hK
  obtain ⟨rfl, hZ, hh⟩ := hP
  have hx := Bd.exec
  have hby := Bd.bytes
  have hml : c.maxLocals = 1 := hml0
  have hown : s.vm.findClass "com/example/provender/provender/cli/Parameter" = some m.cls := findClass_of_methodNamed Bd.named
  have hnm := (name_of_methodNamed Bd.named Bd.method).1
  have hnl : meth.locks = false := Bd.notSynchronized
  have X0 : Stand p l e ({ frames := 0, cells := 0, slots := 0, locals := 0 } : Room) s m #[(.ref a1)] below meth c s₁ [] 0 0 := Stand.of_body Bd
  have e0 : s₁.heap = h0 := by rw [← hh, Bd.state]; rfl
  have N0 := Fr.nil n0
  show own_Go p.tables e below (own_P below s (own_Q16 Z a1 s1 s2 h0 n0) ({ frames := 0, cells := 0, slots := 0, locals := 0 } : Room).cells ({ frames := 0, cells := 0, slots := 0, locals := 0 } : Room).slots) _
  refine own_st (fun t_ k_ => castTop (own_ef16 m a1) k_) ?_
  show own_Go p.tables e below _ (s₁.setTop (mkF m 0 #[.val (.ref a1)] []))
  refine own_st (fun t_ k_ => XS.aloadN X0.here hx rfl (hb hby own_d16_0) rfl rfl k_) ?_
  show own_Go p.tables e below _ (s₁.setTop (mkF m 1 #[.val (.ref a1)] [(.ref a1)]))
  obtain ⟨T158, X158, e158, st158⟩ := getF X0 hx hZ hown (host := "") (Or.inl (hw _ (List.mem_of_getElem? (i := 51) rfl))) Via.refl e0 q3 (g := (mkF m 1 #[.val (.ref a1)] [(.ref a1)])) rfl rfl (hb hby own_d16_1)
  refine own_st (st158) ?_
  show own_Go p.tables e below _ (T158.setTop (mkF m 4 #[.val (.ref a1)] [.null]))
  refine own_st (fun t_ k_ => XS.ifnonnullNo X158.here hx rfl (hb hby own_d16_4) rfl k_) ?_
  show own_Go p.tables e below _ (T158.setTop (mkF m 7 #[.val (.ref a1)] []))
  refine own_st (fun t_ k_ => XS.iconst X158.here hx rfl (hb hby own_d16_7) k_) ?_
  show own_Go p.tables e below _ (T158.setTop (mkF m 8 #[.val (.ref a1)] [(.int (1 : Int32))]))
  refine own_st (fun t_ k_ => XS.goto X158.here hx rfl (pc0 := 8) (pc' := 12) rfl (hb hby own_d16_8) (by decide) (by decide) k_) ?_
  show own_Go p.tables e below _ (T158.setTop (mkF m 12 #[.val (.ref a1)] [(.int (1 : Int32))]))
  exact own_ret (w := (.int (1 : Int32))) X158 hx hnl Bd.returns rfl (Or.inl ⟨rfl, by decide, _, rfl⟩) (hb hby own_d16_12) ⟨rfl, N0, e158⟩ (by decide) (by decide)

theorem own_d17_0 : decode prog_5_method_14_code 0 = .ok (.aload_n 0, 1) := by decide +kernel
theorem own_d17_1 : decode prog_5_method_14_code 1 = .ok (.invokevirtual 29, 3) := by decide +kernel
theorem own_d17_4 : decode prog_5_method_14_code 4 = .ok (.ifCond .eq 11, 3) := by decide +kernel
theorem own_d17_15 : decode prog_5_method_14_code 15 = .ok (.aload_n 0, 1) := by decide +kernel
theorem own_d17_16 : decode prog_5_method_14_code 16 = .ok (.invokevirtual 33, 3) := by decide +kernel
theorem own_d17_19 : decode prog_5_method_14_code 19 = .ok (.ifCond .eq 11, 3) := by decide +kernel
theorem own_d17_22 : decode prog_5_method_14_code 22 = .ok (.aload_n 0, 1) := by decide +kernel
theorem own_d17_23 : decode prog_5_method_14_code 23 = .ok (.getfield 7, 3) := by decide +kernel
theorem own_d17_26 : decode prog_5_method_14_code 26 = .ok (.astore_n 1, 1) := by decide +kernel
theorem own_d17_27 : decode prog_5_method_14_code 27 = .ok (.goto 17, 3) := by decide +kernel
theorem own_d17_44 : decode prog_5_method_14_code 44 = .ok (.aload_n 1, 1) := by decide +kernel
theorem own_d17_45 : decode prog_5_method_14_code 45 = .ok (.areturn, 1) := by decide +kernel
theorem own_pd6 : parseMethodDescriptor "()Z" = some ⟨[], some .boolean⟩ := by decide +kernel
theorem own_ef17 (m : MethodId) (x0 : Addr) : entryFrame m #[(.ref x0)] 2 = mkF m 0 #[.val (.ref x0), .unset] [] := by first | (simp [entryFrame, mkF, argsToLocals, Value.category]; done) | rfl
def own_Q17 (Z : State) (a1 : Addr) (s1 : Addr) (s2 : Addr) (h0 : Heap) (n0 : Nat) (v : Option Value) (h : Heap) (L : List Loc) : Prop := v = some (.ref s1) ∧ Fr n0 L ∧ h = h0
set_option maxRecDepth 65536 in
set_option maxHeartbeats 40000000 in
theorem own_rm17 (l : Launch) (Z : State) (a0 : Array Value) (hw : ∀ d ∈ tables_1, d.before a0 Z = true) (ws : List Jvm.Cond) (a1 : Addr) (s1 : Addr) (s2 : Addr) (h0 : Heap) (n0 : Nat) (Z0 : n0 ≤ h0.size) (q0 : Exa Z h0 a1 "com/example/provender/provender/cli/Parameter") (q1 : Fld Z h0 a1 "com/example/provender/provender/cli/Parameter" "name" "Ljava/lang/String;" (.ref s1)) (q2 : Fld Z h0 a1 "com/example/provender/provender/cli/Parameter" "shortName" "Ljava/lang/String;" .null) (q3 : Fld Z h0 a1 "com/example/provender/provender/cli/Parameter" "label" "Ljava/lang/String;" .null) (q4 : Fld Z h0 a1 "com/example/provender/provender/cli/Parameter" "description" "Ljava/lang/String;" (.ref s2)) (q5 : Fld Z h0 a1 "com/example/provender/provender/cli/Parameter" "required" "Z" (.int (0 : Int32))) :
    MetFree l (⟨"com/example/provender/provender/cli/Parameter", "form", "()Ljava/lang/String;"⟩ : MethodName) (head1 (Jvm.Cond.code (⟨"com/example/provender/provender/cli/Parameter", "form", "()Ljava/lang/String;"⟩ : MethodName) prog_5_method_14_code 2 (some (.object "java/lang/String")) :: ws) ({ frames := 1, cells := 0, slots := 0, locals := 12 } : Room)) (fun a U => a = #[(.ref a1)] ∧ Z.Warmed39 U.vm ∧ U.heap = h0) (fun _ _ _ _ _ => True) (fun _ U o U' => ∃ v L, o = .returned v ∧ own_Q17 Z a1 s1 s2 h0 n0 v U'.heap L ∧ FrameEnd U o U' L ({ frames := 1, cells := 0, slots := 0, locals := 12 } : Room).cells ({ frames := 1, cells := 0, slots := 0, locals := 12 } : Room).slots) := by
  refine MetFree.of_bodySF (plainFor_of_name own_pn3) hisR ?_
  intro p e s m args below meth c s₁ Bd hml0 hP hK
  obtain ⟨rfl, hZ, hh⟩ := hP
  have hx := Bd.exec
  have hby := Bd.bytes
  have hml : c.maxLocals = 2 := hml0
  have hown : s.vm.findClass "com/example/provender/provender/cli/Parameter" = some m.cls := findClass_of_methodNamed Bd.named
  have hnm := (name_of_methodNamed Bd.named Bd.method).1
  have hnl : meth.locks = false := Bd.notSynchronized
  have X0 : Stand p l e ({ frames := 1, cells := 0, slots := 0, locals := 12 } : Room) s m #[(.ref a1)] below meth c s₁ [] 0 0 := Stand.of_body Bd
  have e0 : s₁.heap = h0 := by rw [← hh, Bd.state]; rfl
  have N0 := Fr.nil n0
  show own_Go p.tables e below (own_P below s (own_Q17 Z a1 s1 s2 h0 n0) ({ frames := 1, cells := 0, slots := 0, locals := 12 } : Room).cells ({ frames := 1, cells := 0, slots := 0, locals := 12 } : Room).slots) _
  refine own_st (fun t_ k_ => castTop (own_ef17 m a1) k_) ?_
  show own_Go p.tables e below _ (s₁.setTop (mkF m 0 #[.val (.ref a1), .unset] []))
  refine own_st (fun t_ k_ => XS.aloadN X0.here hx rfl (hb hby own_d17_0) rfl rfl k_) ?_
  show own_Go p.tables e below _ (s₁.setTop (mkF m 1 #[.val (.ref a1), .unset] [(.ref a1)]))
  obtain ⟨cq159, kq159, q159a, q159b, q159c⟩ := isOf hZ e0 q0
  obtain ⟨_, _, ⟨T159, L159, k159, n159⟩, -, X159, ⟨Lc159, hQ159, l159, y159, z159⟩, st159⟩ := X0.virtualBack hx (y := (⟨"com/example/provender/provender/cli/Parameter", "isPositional", "()Z"⟩ : MethodName)) (z := (⟨"com/example/provender/provender/cli/Parameter", "isPositional", "()Z"⟩ : MethodName)) hown (mvT hZ (hw _ (List.mem_of_getElem? (i := 97) rfl))) (mvT hZ (hw _ (List.mem_of_getElem? (i := 83) rfl))) (notFace_of_selects (args := #[]) (mvT hZ (hw _ (List.mem_of_getElem? (i := 85) rfl)))) (mvT hZ (hw _ (List.mem_of_getElem? (i := 85) rfl))) (mvT hZ (hw _ (List.mem_of_getElem? (i := 84) rfl))) (by decide) (backOf (W := 0) (own_rm15 l Z a0 hw [] a1 s1 s2 h0 n0 (Nat.le_trans Z0 (Keep.refl h0 []).1) q0 q1 q2 q3 q4 q5) hZ (hw _ (List.mem_of_getElem? (i := 86) rfl)) (hw _ (List.mem_of_getElem? (i := 39) rfl)) (by decide) (by decide)) q159a q159c (g := (mkF m 1 #[.val (.ref a1), .unset] [(.ref a1)])) rfl (by rw [hml]; rfl) (Steps.refl _) (argsL := []) (rest := []) (lenOf own_pd6 rfl) rfl (by show 2 * 0 + _ ≤ _; exact Nat.le_of_eq rfl) (hb hby own_d17_1) (fun _ _ => ⟨rfl, e0, (by decide : 0 + 0 ≤ _), (by decide : 0 + 0 ≤ _)⟩)
  dsimp only [Pt.U, Pt.locs, Pt.cells, Pt.slots] at X159 l159 y159 z159 st159 hQ159
  subst y159 z159
  obtain ⟨rfl, N159q, eq159⟩ := hQ159
  have N159 : Fr n0 L159 := by rw [l159]; exact Fr.app N0 N159q
  refine own_tr st159 ?_
  show own_Go p.tables e below _ (T159.setTop (mkF m 4 #[.val (.ref a1), .unset] [(.int (0 : Int32))]))
  refine own_st (fun t_ k_ => XS.ifYes X159.here hx rfl (pc0 := 4) (pc' := 15) rfl (hb hby own_d17_4) rfl ((if0 _ _).trans (teq (by decide : (0 : Int32) = (0 : Int32))).1) (by decide) (by decide) k_) ?_
  show own_Go p.tables e below _ (T159.setTop (mkF m 15 #[.val (.ref a1), .unset] []))
  refine own_st (fun t_ k_ => XS.aloadN X159.here hx rfl (hb hby own_d17_15) rfl rfl k_) ?_
  show own_Go p.tables e below _ (T159.setTop (mkF m 16 #[.val (.ref a1), .unset] [(.ref a1)]))
  obtain ⟨cq160, kq160, q160a, q160b, q160c⟩ := isOf hZ eq159 q0
  obtain ⟨_, _, ⟨T160, L160, k160, n160⟩, -, X160, ⟨Lc160, hQ160, l160, y160, z160⟩, st160⟩ := X159.virtualBack hx (y := (⟨"com/example/provender/provender/cli/Parameter", "isFlag", "()Z"⟩ : MethodName)) (z := (⟨"com/example/provender/provender/cli/Parameter", "isFlag", "()Z"⟩ : MethodName)) hown (mvT hZ (hw _ (List.mem_of_getElem? (i := 98) rfl))) (mvT hZ (hw _ (List.mem_of_getElem? (i := 88) rfl))) (notFace_of_selects (args := #[]) (mvT hZ (hw _ (List.mem_of_getElem? (i := 90) rfl)))) (mvT hZ (hw _ (List.mem_of_getElem? (i := 90) rfl))) (mvT hZ (hw _ (List.mem_of_getElem? (i := 89) rfl))) (by decide) (backOf (W := 0) (own_rm16 l Z a0 hw [] a1 s1 s2 h0 n0 (Nat.le_trans Z0 (Keep.refl h0 []).1) q0 q1 q2 q3 q4 q5) hZ (hw _ (List.mem_of_getElem? (i := 91) rfl)) (hw _ (List.mem_of_getElem? (i := 39) rfl)) (by decide) (by decide)) q160a q160c (g := (mkF m 16 #[.val (.ref a1), .unset] [(.ref a1)])) rfl (by rw [hml]; rfl) (Steps.refl _) (argsL := []) (rest := []) (lenOf own_pd6 rfl) rfl (by show 2 * 0 + _ ≤ _; exact Nat.le_of_eq rfl) (hb hby own_d17_16) (fun _ _ => ⟨rfl, eq159, (by decide : 0 + 0 ≤ _), (by decide : 0 + 0 ≤ _)⟩)
  dsimp only [Pt.U, Pt.locs, Pt.cells, Pt.slots] at X160 l160 y160 z160 st160 hQ160
  subst y160 z160
  obtain ⟨rfl, N160q, eq160⟩ := hQ160
  have N160 : Fr n0 L160 := by rw [l160]; exact Fr.app N159 N160q
  refine own_tr st160 ?_
  show own_Go p.tables e below _ (T160.setTop (mkF m 19 #[.val (.ref a1), .unset] [(.int (1 : Int32))]))
  refine own_st (fun t_ k_ => XS.ifNo X160.here hx rfl (hb hby own_d17_19) rfl ((if0 _ _).trans (feq (by decide : ¬ ((1 : Int32) = (0 : Int32)))).1) k_) ?_
  show own_Go p.tables e below _ (T160.setTop (mkF m 22 #[.val (.ref a1), .unset] []))
  refine own_st (fun t_ k_ => XS.aloadN X160.here hx rfl (hb hby own_d17_22) rfl rfl k_) ?_
  show own_Go p.tables e below _ (T160.setTop (mkF m 23 #[.val (.ref a1), .unset] [(.ref a1)]))
  obtain ⟨T161, X161, e161, st161⟩ := getF X160 hx hZ hown (host := "") (Or.inl (hw _ (List.mem_of_getElem? (i := 47) rfl))) Via.refl eq160 q1 (g := (mkF m 23 #[.val (.ref a1), .unset] [(.ref a1)])) rfl rfl (hb hby own_d17_23)
  refine own_st (st161) ?_
  show own_Go p.tables e below _ (T161.setTop (mkF m 26 #[.val (.ref a1), .unset] [(.ref s1)]))
  refine own_st (fun t_ k_ => XS.astoreN X161.here hx rfl (hb hby own_d17_26) rfl rfl (l' := #[.val (.ref a1), .val (.ref s1)]) rfl k_) ?_
  show own_Go p.tables e below _ (T161.setTop (mkF m 27 #[.val (.ref a1), .val (.ref s1)] []))
  refine own_st (fun t_ k_ => XS.goto X161.here hx rfl (pc0 := 27) (pc' := 44) rfl (hb hby own_d17_27) (by decide) (by decide) k_) ?_
  show own_Go p.tables e below _ (T161.setTop (mkF m 44 #[.val (.ref a1), .val (.ref s1)] []))
  refine own_st (fun t_ k_ => XS.aloadN X161.here hx rfl (hb hby own_d17_44) rfl rfl k_) ?_
  show own_Go p.tables e below _ (T161.setTop (mkF m 45 #[.val (.ref a1), .val (.ref s1)] [(.ref s1)]))
  exact own_ret (w := (.ref s1)) X161 hx hnl Bd.returns rfl (Or.inr (Or.inr (Or.inr (Or.inr ⟨rfl, rfl, rfl⟩)))) (hb hby own_d17_45) ⟨rfl, N160, e161⟩ (by decide) (by decide)

theorem own_d18_0 : decode jdk_42_method_66_code 0 = .ok (.aload_n 0, 1) := by decide +kernel
theorem own_d18_1 : decode jdk_42_method_66_code 1 = .ok (.aload_n 1, 1) := by decide +kernel
theorem own_d18_2 : decode jdk_42_method_66_code 2 = .ok (.if_acmp .ne 5, 3) := by decide +kernel
theorem own_d18_5 : decode jdk_42_method_66_code 5 = .ok (.iconst 1, 1) := by decide +kernel
theorem own_d18_6 : decode jdk_42_method_66_code 6 = .ok (.ireturn, 1) := by decide +kernel
theorem own_ef18 (m : MethodId) (x0 : Addr) (x1 : Addr) : entryFrame m #[(.ref x0), (.ref x1)] 3 = mkF m 0 #[.val (.ref x0), .val (.ref x1), .unset] [] := by first | (simp [entryFrame, mkF, argsToLocals, Value.category]; done) | rfl
def own_Q18 (Z : State) (a1 : Addr) (h0 : Heap) (n0 : Nat) (v : Option Value) (h : Heap) (L : List Loc) : Prop := v = some (.int (1 : Int32)) ∧ Fr n0 L ∧ h = h0
set_option maxRecDepth 65536 in
set_option maxHeartbeats 40000000 in
theorem own_rm18 (l : Launch) (Z : State) (a0 : Array Value) (hw : ∀ d ∈ tables_1, d.before a0 Z = true) (ws : List Jvm.Cond) (a1 : Addr) (h0 : Heap) (n0 : Nat) (Z0 : n0 ≤ h0.size) (q0 : Exa Z h0 a1 "java/lang/String") :
    MetFree l (⟨"java/lang/String", "equals", "(Ljava/lang/Object;)Z"⟩ : MethodName) (head1 (Jvm.Cond.code (⟨"java/lang/String", "equals", "(Ljava/lang/Object;)Z"⟩ : MethodName) jdk_42_method_66_code 3 (some .boolean) :: ws) ({ frames := 0, cells := 0, slots := 0, locals := 0 } : Room)) (fun a U => a = #[(.ref a1), (.ref a1)] ∧ Z.Warmed39 U.vm ∧ U.heap = h0) (fun _ _ _ _ _ => True) (fun _ U o U' => ∃ v L, o = .returned v ∧ own_Q18 Z a1 h0 n0 v U'.heap L ∧ FrameEnd U o U' L ({ frames := 0, cells := 0, slots := 0, locals := 0 } : Room).cells ({ frames := 0, cells := 0, slots := 0, locals := 0 } : Room).slots) := by
  refine MetFree.of_bodySF (plainFor_of_name own_pn1) hisR ?_
  intro p e s m args below meth c s₁ Bd hml0 hP hK
  obtain ⟨rfl, hZ, hh⟩ := hP
  have hx := Bd.exec
  have hby := Bd.bytes
  have hml : c.maxLocals = 3 := hml0
  have hown : s.vm.findClass "java/lang/String" = some m.cls := findClass_of_methodNamed Bd.named
  have hnm := (name_of_methodNamed Bd.named Bd.method).1
  have hnl : meth.locks = false := Bd.notSynchronized
  have X0 : Stand p l e ({ frames := 0, cells := 0, slots := 0, locals := 0 } : Room) s m #[(.ref a1), (.ref a1)] below meth c s₁ [] 0 0 := Stand.of_body Bd
  have e0 : s₁.heap = h0 := by rw [← hh, Bd.state]; rfl
  have N0 := Fr.nil n0
  show own_Go p.tables e below (own_P below s (own_Q18 Z a1 h0 n0) ({ frames := 0, cells := 0, slots := 0, locals := 0 } : Room).cells ({ frames := 0, cells := 0, slots := 0, locals := 0 } : Room).slots) _
  refine own_st (fun t_ k_ => castTop (own_ef18 m a1 a1) k_) ?_
  show own_Go p.tables e below _ (s₁.setTop (mkF m 0 #[.val (.ref a1), .val (.ref a1), .unset] []))
  refine own_st (fun t_ k_ => XS.aloadN X0.here hx rfl (hb hby own_d18_0) rfl rfl k_) ?_
  show own_Go p.tables e below _ (s₁.setTop (mkF m 1 #[.val (.ref a1), .val (.ref a1), .unset] [(.ref a1)]))
  refine own_st (fun t_ k_ => XS.aloadN X0.here hx rfl (hb hby own_d18_1) rfl rfl k_) ?_
  show own_Go p.tables e below _ (s₁.setTop (mkF m 2 #[.val (.ref a1), .val (.ref a1), .unset] [(.ref a1), (.ref a1)]))
  refine own_st (fun t_ k_ => Jvm.RoadKit.acmp (g := (mkF m 2 #[.val (.ref a1), .val (.ref a1), .unset] [(.ref a1), (.ref a1)])) X0 hx rfl rfl rfl (pc0 := 2) (pc' := 5) (same := true) rfl (hb hby own_d18_2) rfl (decide_eq_true rfl) (by decide) (by decide) k_) ?_
  show own_Go p.tables e below _ (s₁.setTop (mkF m 5 #[.val (.ref a1), .val (.ref a1), .unset] []))
  refine own_st (fun t_ k_ => XS.iconst X0.here hx rfl (hb hby own_d18_5) k_) ?_
  show own_Go p.tables e below _ (s₁.setTop (mkF m 6 #[.val (.ref a1), .val (.ref a1), .unset] [(.int (1 : Int32))]))
  exact own_ret (w := (.int (1 : Int32))) X0 hx hnl Bd.returns rfl (Or.inl ⟨rfl, by decide, _, rfl⟩) (hb hby own_d18_6) ⟨rfl, N0, e0⟩ (by decide) (by decide)

theorem own_pd7 : parseMethodDescriptor "(II)Ljava/lang/String;" = some ⟨[.int, .int], some (.object "java/lang/String")⟩ := by decide +kernel
theorem own_pd8 : parseMethodDescriptor "(Ljava/lang/String;Ljava/lang/String;)Lcom/example/provender/provender/cli/Parameter;" = some ⟨[(.object "java/lang/String"), (.object "java/lang/String")], some (.object "com/example/provender/provender/cli/Parameter")⟩ := by decide +kernel
theorem own_pd9 : parseMethodDescriptor "()Ljava/lang/String;" = some ⟨[], some (.object "java/lang/String")⟩ := by decide +kernel
theorem own_pd10 : parseMethodDescriptor "(Ljava/lang/Object;)Z" = some ⟨[(.object "java/lang/Object")], some .boolean⟩ := by decide +kernel
theorem own_ef0 (m : MethodId) (x0 : Int32) (x1 : Int32) (x2 : Int32) : entryFrame m #[(.int x0), (.int x1), (.int x2)] maxLocals = mkF m 0 #[.val (.int x0), .val (.int x1), .val (.int x2), .unset, .unset, .unset, .unset] [] := by first | (simp [entryFrame, mkF, argsToLocals, Value.category, maxLocals]; done) | rfl
def own_Q0 (Z : State) (p0 : Int32) (p1 : Int32) (p2 : Int32) (G1 : Int32) (h0 : Heap) (n0 : Nat) (v : Option Value) (h : Heap) (L : List Loc) : Prop := v = some (.int (1 : Int32)) ∧ Fr n0 L ∧ Keep h0 h []
set_option maxRecDepth 65536 in
set_option maxHeartbeats 40000000 in
theorem own_rm0 (l : Launch) (Z : State) (a0 : Array Value) (hw : ∀ d ∈ tables_1, d.before a0 Z = true) (ws : List Jvm.Cond) (p0 : Int32) (p1 : Int32) (p2 : Int32) (G1 : Int32) (h0 : Heap) (n0 : Nat) (Z0 : n0 ≤ h0.size) (q0 : Old Z n0 h0) (q1 : Sta Z Z.heap "java/lang/String" "COMPACT_STRINGS" "Z" (.int G1)) (hG1 : (¬ G1 = (0 : Int32))) :
    MetFree l x (head1 (Jvm.Cond.code x code maxLocals ret :: ws) room_1) (fun a U => a = #[(.int p0), (.int p1), (.int p2)] ∧ Z.Warmed39 U.vm ∧ U.heap = h0 ∧ CHv Z own_EL U.vm h0 ∧ ∀ x ∈ ([] : List Addr), Safe Z own_EL U.vm h0 x) (fun _ _ _ _ _ => True) (fun _ U o U' => ∃ v L, o = .returned v ∧ own_Q0 Z p0 p1 p2 G1 h0 n0 v U'.heap L ∧ CHr Z own_EL U.vm U.heap U'.vm U'.heap ∧ ReturnedEndW U o U' L room_1.cells room_1.slots) := by
  refine MetFree.of_bodySF (plainFor_of_name own_pn2) hisR ?_
  intro p e s m args below meth c s₁ Bd hml0 hP hK
  obtain ⟨rfl, hZ, hh, hC0, hSf⟩ := hP
  have hx := Bd.exec
  have hby := Bd.bytes
  have hml : c.maxLocals = 7 := hml0
  have hown : s.vm.findClass "com/example/provender/provender/cli/ParameterFlagPinLaw" = some m.cls := findClass_of_methodNamed Bd.named
  have hnm := (name_of_methodNamed Bd.named Bd.method).1
  have hnl : meth.locks = false := Bd.notSynchronized
  have X0 : Stand p l e room_1 s m #[(.int p0), (.int p1), (.int p2)] below meth c s₁ [] 0 0 := Stand.of_body Bd
  have e0 : s₁.heap = h0 := by rw [← hh, Bd.state]; rfl
  have N0 := Fr.nil n0
  have X0 := (show Stand p l e _ (s.setVm s.vm) m _ below meth c s₁ [] 0 0 from X0)
  have hZ : Z.Warmed39 (s.setVm s.vm).vm := hZ
  have hown : (s.setVm s.vm).vm.findClass "com/example/provender/provender/cli/ParameterFlagPinLaw" = some m.cls := hown
  have C0 : CHr Z own_EL s.vm s.heap s.vm h0 := by rw [hh]; exact CHr.refl hC0
  have S0 : s.Since s.vm h0.size := (State.WarmedH.refl s).since _
  have k0 := Nat.le_refl h0.size
  show own_Go p.tables e below (own_PW below s Z own_EL (own_Q0 Z p0 p1 p2 G1 h0 n0) room_1.cells room_1.slots) _
  refine own_st (fun t_ k_ => castTop (own_ef0 m p0 p1 p2) k_) ?_
  show own_Go p.tables e below _ (s₁.setTop (mkF m 0 #[.val (.int p0), .val (.int p1), .val (.int p2), .unset, .unset, .unset, .unset] []))
  refine own_st (fun t_ k_ => XS.iloadN X0.here hx rfl (hb hby at_0) rfl k_) ?_
  show own_Go p.tables e below _ (s₁.setTop (mkF m 1 #[.val (.int p0), .val (.int p1), .val (.int p2), .unset, .unset, .unset, .unset] [(.int p0)]))
  refine own_st (fun t_ k_ => XS.iloadN X0.here hx rfl (hb hby at_1) rfl k_) ?_
  show own_Go p.tables e below _ (s₁.setTop (mkF m 2 #[.val (.int p0), .val (.int p1), .val (.int p2), .unset, .unset, .unset, .unset] [(.int p2), (.int p0)]))
  refine own_st (fun t_ k_ => XS.iconst X0.here hx rfl (hb hby at_2) k_) ?_
  show own_Go p.tables e below _ (s₁.setTop (mkF m 3 #[.val (.int p0), .val (.int p1), .val (.int p2), .unset, .unset, .unset, .unset] [(.int (3 : Int32)), (.int p2), (.int p0)]))
  refine own_st (fun t_ k_ => XS.iand X0.here hx rfl (hb hby at_3) rfl k_) ?_
  show own_Go p.tables e below _ (s₁.setTop (mkF m 4 #[.val (.int p0), .val (.int p1), .val (.int p2), .unset, .unset, .unset, .unset] [(.int (p2 &&& (3 : Int32))), (.int p0)]))
  obtain ⟨_, _, ⟨T162, L162, k162, n162⟩, -, X162, Sq162, gq162, ⟨Lc162, hQ162, l162, y162, z162, c162⟩, st162⟩ := callSS X0 hx (y := (⟨"com/example/provender/provender/cli/ParameterFlagPinLaw", "str", "(II)Ljava/lang/String;"⟩ : MethodName)) hown (mvT hZ (hw _ (List.mem_of_getElem? (i := 0) rfl))) (mvT hZ (hw _ (List.mem_of_getElem? (i := 1) rfl))) (mvT hZ (hw _ (List.mem_of_getElem? (i := 2) rfl))) (mvT hZ (hw _ (List.mem_of_getElem? (i := 3) rfl))) (by decide) (own_backSH (W := 0) (own_rm1 l Z a0 hw [] p0 (p2 &&& (3 : Int32)) G1 h0 n0 (Nat.le_trans Z0 (Keep.refl h0 []).1) q0 q1 hG1) hZ (hw _ (List.mem_of_getElem? (i := 3) rfl)) (hw _ (List.mem_of_getElem? (i := 2) rfl)) (by decide) (by decide) (own_hEL hw) C0.1 own_sl0) (g := (mkF m 4 #[.val (.int p0), .val (.int p1), .val (.int p2), .unset, .unset, .unset, .unset] [(.int (p2 &&& (3 : Int32))), (.int p0)])) rfl (by rw [hml]; rfl) (argsL := [(.int p0), (.int (p2 &&& (3 : Int32)))]) (rest := []) (lenOf own_pd7 rfl) rfl (by show 2 * 0 + _ ≤ _; exact Nat.le_of_eq rfl) (hb hby at_4) (fun _ _ => ⟨rfl, e0, (by decide : 0 + 6 ≤ _), (by decide : 0 + 12 ≤ _)⟩)
  dsimp only [Pt.U, Pt.locs, Pt.cells, Pt.slots] at X162 l162 y162 z162 st162 hQ162 Sq162 gq162 c162
  subst y162 z162
  obtain ⟨r_162, rfl, N162q, Kq162, P162_0, P162_1⟩ := hQ162
  have N162 : Fr n0 L162 := by rw [l162]; exact Fr.app N0 N162q
  have S162 := foldS S0 (by rw [e0]; exact k0) Sq162 gq162
  have X162 := (show Stand p l e _ (s.setVm T162.vm) m _ below meth c T162 L162 _ _ from X162)
  have hZ : Z.Warmed39 (s.setVm T162.vm).vm := State.Warmed39.trans (t := s.setVm s.vm) hZ Sq162.1
  have hown : (s.setVm T162.vm).vm.findClass "com/example/provender/provender/cli/ParameterFlagPinLaw" = some m.cls := by rw [show (s.setVm T162.vm).vm = T162.vm from rfl, Sq162.1.alike.findClass]; exact hown
  have kk162 := Nat.le_refl T162.heap.size
  have K162 : Keep h0 T162.heap [] := (Keep.refl h0 []).trans Kq162 all0
  have C162 := C0.trans c162
  have fr162_0 : h0.size ≤ r_162 := Nat.le_trans (Keep.refl h0 []).1 P162_0
  have ge162_0 : n0 ≤ r_162 := Nat.le_trans Z0 fr162_0
  refine own_tr st162 ?_
  show own_Go p.tables e below _ (T162.setTop (mkF m 7 #[.val (.int p0), .val (.int p1), .val (.int p2), .unset, .unset, .unset, .unset] [(.ref r_162)]))
  refine own_st (fun t_ k_ => XS.astoreN X162.here hx rfl (hb hby at_7) rfl rfl (l' := #[.val (.int p0), .val (.int p1), .val (.int p2), .val (.ref r_162), .unset, .unset, .unset]) rfl k_) ?_
  show own_Go p.tables e below _ (T162.setTop (mkF m 8 #[.val (.int p0), .val (.int p1), .val (.int p2), .val (.ref r_162), .unset, .unset, .unset] []))
  refine own_st (fun t_ k_ => XS.iloadN X162.here hx rfl (hb hby at_8) rfl k_) ?_
  show own_Go p.tables e below _ (T162.setTop (mkF m 9 #[.val (.int p0), .val (.int p1), .val (.int p2), .val (.ref r_162), .unset, .unset, .unset] [(.int p1)]))
  refine own_st (fun t_ k_ => XS.iloadN X162.here hx rfl (hb hby at_9) rfl k_) ?_
  show own_Go p.tables e below _ (T162.setTop (mkF m 10 #[.val (.int p0), .val (.int p1), .val (.int p2), .val (.ref r_162), .unset, .unset, .unset] [(.int p2), (.int p1)]))
  refine own_st (fun t_ k_ => XS.iconst X162.here hx rfl (hb hby at_10) k_) ?_
  show own_Go p.tables e below _ (T162.setTop (mkF m 11 #[.val (.int p0), .val (.int p1), .val (.int p2), .val (.ref r_162), .unset, .unset, .unset] [(.int (2 : Int32)), (.int p2), (.int p1)]))
  refine own_st (fun t_ k_ => XS.iushr X162.here hx rfl (hb hby at_11) rfl k_) ?_
  show own_Go p.tables e below _ (T162.setTop (mkF m 12 #[.val (.int p0), .val (.int p1), .val (.int p2), .val (.ref r_162), .unset, .unset, .unset] [(.int ((p2.toUInt32 >>> ((2 : Int32) &&& 31).toUInt32).toInt32)), (.int p1)]))
  refine own_st (fun t_ k_ => XS.iconst X162.here hx rfl (hb hby at_12) k_) ?_
  show own_Go p.tables e below _ (T162.setTop (mkF m 13 #[.val (.int p0), .val (.int p1), .val (.int p2), .val (.ref r_162), .unset, .unset, .unset] [(.int (3 : Int32)), (.int ((p2.toUInt32 >>> ((2 : Int32) &&& 31).toUInt32).toInt32)), (.int p1)]))
  refine own_st (fun t_ k_ => XS.iand X162.here hx rfl (hb hby at_13) rfl k_) ?_
  show own_Go p.tables e below _ (T162.setTop (mkF m 14 #[.val (.int p0), .val (.int p1), .val (.int p2), .val (.ref r_162), .unset, .unset, .unset] [(.int (((p2.toUInt32 >>> ((2 : Int32) &&& 31).toUInt32).toInt32) &&& (3 : Int32))), (.int p1)]))
  obtain ⟨_, _, ⟨T163, L163, k163, n163⟩, -, X163, Sq163, gq163, ⟨Lc163, hQ163, l163, y163, z163, c163⟩, st163⟩ := callSS X162 hx (y := (⟨"com/example/provender/provender/cli/ParameterFlagPinLaw", "str", "(II)Ljava/lang/String;"⟩ : MethodName)) hown (mvT hZ (hw _ (List.mem_of_getElem? (i := 0) rfl))) (mvT hZ (hw _ (List.mem_of_getElem? (i := 1) rfl))) (mvT hZ (hw _ (List.mem_of_getElem? (i := 2) rfl))) (mvT hZ (hw _ (List.mem_of_getElem? (i := 3) rfl))) (by decide) (own_backSH (W := 0) (own_rm1 l Z a0 hw [] p1 (((p2.toUInt32 >>> ((2 : Int32) &&& 31).toUInt32).toInt32) &&& (3 : Int32)) G1 T162.heap n0 (Nat.le_trans Z0 K162.1) (q0.keep Kq162 all0) q1 hG1) hZ (hw _ (List.mem_of_getElem? (i := 3) rfl)) (hw _ (List.mem_of_getElem? (i := 2) rfl)) (by decide) (by decide) (own_hEL hw) C162.1 own_sl0) (g := (mkF m 14 #[.val (.int p0), .val (.int p1), .val (.int p2), .val (.ref r_162), .unset, .unset, .unset] [(.int (((p2.toUInt32 >>> ((2 : Int32) &&& 31).toUInt32).toInt32) &&& (3 : Int32))), (.int p1)])) rfl (by rw [hml]; rfl) (argsL := [(.int p1), (.int (((p2.toUInt32 >>> ((2 : Int32) &&& 31).toUInt32).toInt32) &&& (3 : Int32)))]) (rest := []) (lenOf own_pd7 rfl) rfl (by show 2 * 0 + _ ≤ _; exact Nat.le_of_eq rfl) (hb hby at_14) (fun _ _ => ⟨rfl, rfl, (by decide : 6 + 6 ≤ _), (by decide : 12 + 12 ≤ _)⟩)
  dsimp only [Pt.U, Pt.locs, Pt.cells, Pt.slots] at X163 l163 y163 z163 st163 hQ163 Sq163 gq163 c163
  subst y163 z163
  obtain ⟨r_163, rfl, N163q, Kq163, P163_0, P163_1⟩ := hQ163
  have N163 : Fr n0 L163 := by rw [l163]; exact Fr.app N162 N163q
  have S163 := foldS S162 (kk162) Sq163 gq163
  have X163 := (show Stand p l e _ (s.setVm T163.vm) m _ below meth c T163 L163 _ _ from X163)
  have hZ : Z.Warmed39 (s.setVm T163.vm).vm := State.Warmed39.trans (t := s.setVm T162.vm) hZ Sq163.1
  have hown : (s.setVm T163.vm).vm.findClass "com/example/provender/provender/cli/ParameterFlagPinLaw" = some m.cls := by rw [show (s.setVm T163.vm).vm = T163.vm from rfl, Sq163.1.alike.findClass]; exact hown
  have kk163 := Nat.le_refl T163.heap.size
  have K163 : Keep h0 T163.heap [] := K162.trans Kq163 all0
  have C163 := C162.trans c163
  have fr163_0 : h0.size ≤ r_163 := Nat.le_trans K162.1 P163_0
  have ge163_0 : n0 ≤ r_163 := Nat.le_trans Z0 fr163_0
  refine own_tr st163 ?_
  show own_Go p.tables e below _ (T163.setTop (mkF m 17 #[.val (.int p0), .val (.int p1), .val (.int p2), .val (.ref r_162), .unset, .unset, .unset] [(.ref r_163)]))
  refine own_st (fun t_ k_ => XS.astore X163.here hx rfl (hb hby at_17) rfl rfl (l' := #[.val (.int p0), .val (.int p1), .val (.int p2), .val (.ref r_162), .val (.ref r_163), .unset, .unset]) rfl k_) ?_
  show own_Go p.tables e below _ (T163.setTop (mkF m 19 #[.val (.int p0), .val (.int p1), .val (.int p2), .val (.ref r_162), .val (.ref r_163), .unset, .unset] []))
  refine own_st (fun t_ k_ => XS.aloadN X163.here hx rfl (hb hby at_19) rfl rfl k_) ?_
  show own_Go p.tables e below _ (T163.setTop (mkF m 20 #[.val (.int p0), .val (.int p1), .val (.int p2), .val (.ref r_162), .val (.ref r_163), .unset, .unset] [(.ref r_162)]))
  refine own_st (fun t_ k_ => XS.aload X163.here hx rfl (hb hby at_20) rfl rfl k_) ?_
  show own_Go p.tables e below _ (T163.setTop (mkF m 22 #[.val (.int p0), .val (.int p1), .val (.int p2), .val (.ref r_162), .val (.ref r_163), .unset, .unset] [(.ref r_163), (.ref r_162)]))
  obtain ⟨_, _, ⟨T164, L164, k164, n164⟩, -, X164, ⟨Lc164, hQ164, l164, y164, z164⟩, st164⟩ := Jvm.LawKit.callS X163 hx (y := (⟨"com/example/provender/provender/cli/Parameter", "flag", "(Ljava/lang/String;Ljava/lang/String;)Lcom/example/provender/provender/cli/Parameter;"⟩ : MethodName)) hown (mvT hZ (hw _ (List.mem_of_getElem? (i := 37) rfl))) (mvT hZ (hw _ (List.mem_of_getElem? (i := 38) rfl))) (mvT hZ (hw _ (List.mem_of_getElem? (i := 39) rfl))) (mvT hZ (hw _ (List.mem_of_getElem? (i := 40) rfl))) (by decide) (backOf (W := 0) (own_rm8 l Z a0 hw [] r_162 r_163 T163.heap n0 (Nat.le_trans Z0 K163.1)) hZ (hw _ (List.mem_of_getElem? (i := 40) rfl)) (hw _ (List.mem_of_getElem? (i := 39) rfl)) (by decide) (by decide)) (g := (mkF m 22 #[.val (.int p0), .val (.int p1), .val (.int p2), .val (.ref r_162), .val (.ref r_163), .unset, .unset] [(.ref r_163), (.ref r_162)])) rfl (by rw [hml]; rfl) (argsL := [(.ref r_162), (.ref r_163)]) (rest := []) (lenOf own_pd8 rfl) rfl (by show 2 * 0 + _ ≤ _; exact Nat.le_of_eq rfl) (hb hby at_22) (fun _ _ => ⟨rfl, rfl, (by decide : 12 + 1 ≤ _), (by decide : 24 + 5 ≤ _)⟩)
  dsimp only [Pt.U, Pt.locs, Pt.cells, Pt.slots] at X164 l164 y164 z164 st164 hQ164
  subst y164 z164
  obtain ⟨a1_164, rfl, N164q, Kq164, P164_0, P164_1, P164_2, P164_3, P164_4, P164_5, P164_6⟩ := hQ164
  have N164 : Fr n0 L164 := by rw [l164]; exact Fr.app N163 N164q
  have K164 : Keep h0 T164.heap [] := K163.trans Kq164 all0
  have c164 : CHr Z own_EL _ T163.heap _ T164.heap := CHr.keep Kq164 own_sl0 C163.1
  have C164 := C163.trans c164
  have kk164 := Nat.le_trans kk163 c164.2.1
  have fr164_0 : h0.size ≤ a1_164 := Nat.le_trans K163.1 P164_0
  have ge164_0 : n0 ≤ a1_164 := Nat.le_trans Z0 fr164_0
  have Sf164_a1_164 : Safe Z own_EL _ T164.heap a1_164 := Safe.keep Kq164 own_sl0 C163.1 (Safe.new P164_0)
  refine own_st (st164) ?_
  show own_Go p.tables e below _ (T164.setTop (mkF m 25 #[.val (.int p0), .val (.int p1), .val (.int p2), .val (.ref r_162), .val (.ref r_163), .unset, .unset] [(.ref a1_164)]))
  refine own_st (fun t_ k_ => XS.astore X164.here hx rfl (hb hby at_25) rfl rfl (l' := #[.val (.int p0), .val (.int p1), .val (.int p2), .val (.ref r_162), .val (.ref r_163), .val (.ref a1_164), .unset]) rfl k_) ?_
  show own_Go p.tables e below _ (T164.setTop (mkF m 27 #[.val (.int p0), .val (.int p1), .val (.int p2), .val (.ref r_162), .val (.ref r_163), .val (.ref a1_164), .unset] []))
  refine own_st (fun t_ k_ => XS.aload X164.here hx rfl (hb hby at_27) rfl rfl k_) ?_
  show own_Go p.tables e below _ (T164.setTop (mkF m 29 #[.val (.int p0), .val (.int p1), .val (.int p2), .val (.ref r_162), .val (.ref r_163), .val (.ref a1_164), .unset] [(.ref a1_164)]))
  obtain ⟨cq165, kq165, q165a, q165b, q165c⟩ := isOf hZ rfl P164_1
  obtain ⟨_, _, ⟨T165, L165, k165, n165⟩, -, X165, ⟨Lc165, hQ165, l165, y165, z165⟩, st165⟩ := X164.virtualBack hx (y := (⟨"com/example/provender/provender/cli/Parameter", "name", "()Ljava/lang/String;"⟩ : MethodName)) (z := (⟨"com/example/provender/provender/cli/Parameter", "name", "()Ljava/lang/String;"⟩ : MethodName)) hown (mvT hZ (hw _ (List.mem_of_getElem? (i := 57) rfl))) (mvT hZ (hw _ (List.mem_of_getElem? (i := 58) rfl))) (notFace_of_selects (args := #[]) (mvT hZ (hw _ (List.mem_of_getElem? (i := 60) rfl)))) (mvT hZ (hw _ (List.mem_of_getElem? (i := 60) rfl))) (mvT hZ (hw _ (List.mem_of_getElem? (i := 59) rfl))) (by decide) (backOf (W := 0) (own_rm10 l Z a0 hw [] a1_164 r_162 r_163 T164.heap n0 (Nat.le_trans Z0 K164.1) P164_1 P164_2 P164_3 P164_4 P164_5 P164_6) hZ (hw _ (List.mem_of_getElem? (i := 61) rfl)) (hw _ (List.mem_of_getElem? (i := 39) rfl)) (by decide) (by decide)) q165a q165c (g := (mkF m 29 #[.val (.int p0), .val (.int p1), .val (.int p2), .val (.ref r_162), .val (.ref r_163), .val (.ref a1_164), .unset] [(.ref a1_164)])) rfl (by rw [hml]; rfl) (Steps.refl _) (argsL := []) (rest := []) (lenOf own_pd9 rfl) rfl (by show 2 * 0 + _ ≤ _; exact Nat.le_of_eq rfl) (hb hby at_29) (fun _ _ => ⟨rfl, rfl, (by decide : 13 + 0 ≤ _), (by decide : 29 + 0 ≤ _)⟩)
  dsimp only [Pt.U, Pt.locs, Pt.cells, Pt.slots] at X165 l165 y165 z165 st165 hQ165
  subst y165 z165
  obtain ⟨rfl, N165q, eq165⟩ := hQ165
  have N165 : Fr n0 L165 := by rw [l165]; exact Fr.app N164 N165q
  refine own_tr st165 ?_
  show own_Go p.tables e below _ (T165.setTop (mkF m 32 #[.val (.int p0), .val (.int p1), .val (.int p2), .val (.ref r_162), .val (.ref r_163), .val (.ref a1_164), .unset] [(.ref r_162)]))
  refine own_st (fun t_ k_ => XS.aloadN X165.here hx rfl (hb hby at_32) rfl rfl k_) ?_
  show own_Go p.tables e below _ (T165.setTop (mkF m 33 #[.val (.int p0), .val (.int p1), .val (.int p2), .val (.ref r_162), .val (.ref r_163), .val (.ref a1_164), .unset] [(.ref r_162), (.ref r_162)]))
  refine own_st (fun t_ k_ => Jvm.RoadKit.acmp (g := (mkF m 33 #[.val (.int p0), .val (.int p1), .val (.int p2), .val (.ref r_162), .val (.ref r_163), .val (.ref a1_164), .unset] [(.ref r_162), (.ref r_162)])) X165 hx rfl rfl rfl (pc0 := 33) (pc' := 36) (same := true) rfl (hb hby at_33) rfl (decide_eq_true rfl) (by decide) (by decide) k_) ?_
  show own_Go p.tables e below _ (T165.setTop (mkF m 36 #[.val (.int p0), .val (.int p1), .val (.int p2), .val (.ref r_162), .val (.ref r_163), .val (.ref a1_164), .unset] []))
  refine own_st (fun t_ k_ => XS.iconst X165.here hx rfl (hb hby at_36) k_) ?_
  show own_Go p.tables e below _ (T165.setTop (mkF m 37 #[.val (.int p0), .val (.int p1), .val (.int p2), .val (.ref r_162), .val (.ref r_163), .val (.ref a1_164), .unset] [(.int (1 : Int32))]))
  refine own_st (fun t_ k_ => XS.goto X165.here hx rfl (pc0 := 37) (pc' := 41) rfl (hb hby at_37) (by decide) (by decide) k_) ?_
  show own_Go p.tables e below _ (T165.setTop (mkF m 41 #[.val (.int p0), .val (.int p1), .val (.int p2), .val (.ref r_162), .val (.ref r_163), .val (.ref a1_164), .unset] [(.int (1 : Int32))]))
  refine own_st (fun t_ k_ => XS.istore X165.here hx rfl (hb hby at_41) rfl (l' := #[.val (.int p0), .val (.int p1), .val (.int p2), .val (.ref r_162), .val (.ref r_163), .val (.ref a1_164), .val (.int (1 : Int32))]) rfl k_) ?_
  show own_Go p.tables e below _ (T165.setTop (mkF m 43 #[.val (.int p0), .val (.int p1), .val (.int p2), .val (.ref r_162), .val (.ref r_163), .val (.ref a1_164), .val (.int (1 : Int32))] []))
  refine own_st (fun t_ k_ => XS.iload X165.here hx rfl (hb hby at_43) rfl k_) ?_
  show own_Go p.tables e below _ (T165.setTop (mkF m 45 #[.val (.int p0), .val (.int p1), .val (.int p2), .val (.ref r_162), .val (.ref r_163), .val (.ref a1_164), .val (.int (1 : Int32))] [(.int (1 : Int32))]))
  refine own_st (fun t_ k_ => XS.ifNo X165.here hx rfl (hb hby at_45) rfl ((if0 _ _).trans (feq (by decide : ¬ ((1 : Int32) = (0 : Int32)))).1) k_) ?_
  show own_Go p.tables e below _ (T165.setTop (mkF m 48 #[.val (.int p0), .val (.int p1), .val (.int p2), .val (.ref r_162), .val (.ref r_163), .val (.ref a1_164), .val (.int (1 : Int32))] []))
  refine own_st (fun t_ k_ => XS.aload X165.here hx rfl (hb hby at_48) rfl rfl k_) ?_
  show own_Go p.tables e below _ (T165.setTop (mkF m 50 #[.val (.int p0), .val (.int p1), .val (.int p2), .val (.ref r_162), .val (.ref r_163), .val (.ref a1_164), .val (.int (1 : Int32))] [(.ref a1_164)]))
  obtain ⟨cq166, kq166, q166a, q166b, q166c⟩ := isOf hZ eq165 P164_1
  obtain ⟨_, _, ⟨T166, L166, k166, n166⟩, -, X166, ⟨Lc166, hQ166, l166, y166, z166⟩, st166⟩ := X165.virtualBack hx (y := (⟨"com/example/provender/provender/cli/Parameter", "shortName", "()Ljava/lang/String;"⟩ : MethodName)) (z := (⟨"com/example/provender/provender/cli/Parameter", "shortName", "()Ljava/lang/String;"⟩ : MethodName)) hown (mvT hZ (hw _ (List.mem_of_getElem? (i := 62) rfl))) (mvT hZ (hw _ (List.mem_of_getElem? (i := 63) rfl))) (notFace_of_selects (args := #[]) (mvT hZ (hw _ (List.mem_of_getElem? (i := 65) rfl)))) (mvT hZ (hw _ (List.mem_of_getElem? (i := 65) rfl))) (mvT hZ (hw _ (List.mem_of_getElem? (i := 64) rfl))) (by decide) (backOf (W := 0) (own_rm11 l Z a0 hw [] a1_164 r_162 r_163 T164.heap n0 (Nat.le_trans Z0 K164.1) P164_1 P164_2 P164_3 P164_4 P164_5 P164_6) hZ (hw _ (List.mem_of_getElem? (i := 66) rfl)) (hw _ (List.mem_of_getElem? (i := 39) rfl)) (by decide) (by decide)) q166a q166c (g := (mkF m 50 #[.val (.int p0), .val (.int p1), .val (.int p2), .val (.ref r_162), .val (.ref r_163), .val (.ref a1_164), .val (.int (1 : Int32))] [(.ref a1_164)])) rfl (by rw [hml]; rfl) (Steps.refl _) (argsL := []) (rest := []) (lenOf own_pd9 rfl) rfl (by show 2 * 0 + _ ≤ _; exact Nat.le_of_eq rfl) (hb hby at_50) (fun _ _ => ⟨rfl, eq165, (by decide : 13 + 0 ≤ _), (by decide : 29 + 0 ≤ _)⟩)
  dsimp only [Pt.U, Pt.locs, Pt.cells, Pt.slots] at X166 l166 y166 z166 st166 hQ166
  subst y166 z166
  obtain ⟨rfl, N166q, eq166⟩ := hQ166
  have N166 : Fr n0 L166 := by rw [l166]; exact Fr.app N165 N166q
  refine own_tr st166 ?_
  show own_Go p.tables e below _ (T166.setTop (mkF m 53 #[.val (.int p0), .val (.int p1), .val (.int p2), .val (.ref r_162), .val (.ref r_163), .val (.ref a1_164), .val (.int (1 : Int32))] [.null]))
  refine own_st (fun t_ k_ => XS.ifnonnullNo X166.here hx rfl (hb hby at_53) rfl k_) ?_
  show own_Go p.tables e below _ (T166.setTop (mkF m 56 #[.val (.int p0), .val (.int p1), .val (.int p2), .val (.ref r_162), .val (.ref r_163), .val (.ref a1_164), .val (.int (1 : Int32))] []))
  refine own_st (fun t_ k_ => XS.iconst X166.here hx rfl (hb hby at_56) k_) ?_
  show own_Go p.tables e below _ (T166.setTop (mkF m 57 #[.val (.int p0), .val (.int p1), .val (.int p2), .val (.ref r_162), .val (.ref r_163), .val (.ref a1_164), .val (.int (1 : Int32))] [(.int (1 : Int32))]))
  refine own_st (fun t_ k_ => XS.goto X166.here hx rfl (pc0 := 57) (pc' := 61) rfl (hb hby at_57) (by decide) (by decide) k_) ?_
  show own_Go p.tables e below _ (T166.setTop (mkF m 61 #[.val (.int p0), .val (.int p1), .val (.int p2), .val (.ref r_162), .val (.ref r_163), .val (.ref a1_164), .val (.int (1 : Int32))] [(.int (1 : Int32))]))
  refine own_st (fun t_ k_ => XS.istore X166.here hx rfl (hb hby at_61) rfl (l' := #[.val (.int p0), .val (.int p1), .val (.int p2), .val (.ref r_162), .val (.ref r_163), .val (.ref a1_164), .val (.int (1 : Int32))]) rfl k_) ?_
  show own_Go p.tables e below _ (T166.setTop (mkF m 63 #[.val (.int p0), .val (.int p1), .val (.int p2), .val (.ref r_162), .val (.ref r_163), .val (.ref a1_164), .val (.int (1 : Int32))] []))
  refine own_st (fun t_ k_ => XS.iload X166.here hx rfl (hb hby at_63) rfl k_) ?_
  show own_Go p.tables e below _ (T166.setTop (mkF m 65 #[.val (.int p0), .val (.int p1), .val (.int p2), .val (.ref r_162), .val (.ref r_163), .val (.ref a1_164), .val (.int (1 : Int32))] [(.int (1 : Int32))]))
  refine own_st (fun t_ k_ => XS.ifNo X166.here hx rfl (hb hby at_65) rfl ((if0 _ _).trans (feq (by decide : ¬ ((1 : Int32) = (0 : Int32)))).1) k_) ?_
  show own_Go p.tables e below _ (T166.setTop (mkF m 68 #[.val (.int p0), .val (.int p1), .val (.int p2), .val (.ref r_162), .val (.ref r_163), .val (.ref a1_164), .val (.int (1 : Int32))] []))
  refine own_st (fun t_ k_ => XS.aload X166.here hx rfl (hb hby at_68) rfl rfl k_) ?_
  show own_Go p.tables e below _ (T166.setTop (mkF m 70 #[.val (.int p0), .val (.int p1), .val (.int p2), .val (.ref r_162), .val (.ref r_163), .val (.ref a1_164), .val (.int (1 : Int32))] [(.ref a1_164)]))
  obtain ⟨cq167, kq167, q167a, q167b, q167c⟩ := isOf hZ eq166 P164_1
  obtain ⟨_, _, ⟨T167, L167, k167, n167⟩, -, X167, ⟨Lc167, hQ167, l167, y167, z167⟩, st167⟩ := X166.virtualBack hx (y := (⟨"com/example/provender/provender/cli/Parameter", "label", "()Ljava/lang/String;"⟩ : MethodName)) (z := (⟨"com/example/provender/provender/cli/Parameter", "label", "()Ljava/lang/String;"⟩ : MethodName)) hown (mvT hZ (hw _ (List.mem_of_getElem? (i := 67) rfl))) (mvT hZ (hw _ (List.mem_of_getElem? (i := 68) rfl))) (notFace_of_selects (args := #[]) (mvT hZ (hw _ (List.mem_of_getElem? (i := 70) rfl)))) (mvT hZ (hw _ (List.mem_of_getElem? (i := 70) rfl))) (mvT hZ (hw _ (List.mem_of_getElem? (i := 69) rfl))) (by decide) (backOf (W := 0) (own_rm12 l Z a0 hw [] a1_164 r_162 r_163 T164.heap n0 (Nat.le_trans Z0 K164.1) P164_1 P164_2 P164_3 P164_4 P164_5 P164_6) hZ (hw _ (List.mem_of_getElem? (i := 71) rfl)) (hw _ (List.mem_of_getElem? (i := 39) rfl)) (by decide) (by decide)) q167a q167c (g := (mkF m 70 #[.val (.int p0), .val (.int p1), .val (.int p2), .val (.ref r_162), .val (.ref r_163), .val (.ref a1_164), .val (.int (1 : Int32))] [(.ref a1_164)])) rfl (by rw [hml]; rfl) (Steps.refl _) (argsL := []) (rest := []) (lenOf own_pd9 rfl) rfl (by show 2 * 0 + _ ≤ _; exact Nat.le_of_eq rfl) (hb hby at_70) (fun _ _ => ⟨rfl, eq166, (by decide : 13 + 0 ≤ _), (by decide : 29 + 0 ≤ _)⟩)
  dsimp only [Pt.U, Pt.locs, Pt.cells, Pt.slots] at X167 l167 y167 z167 st167 hQ167
  subst y167 z167
  obtain ⟨rfl, N167q, eq167⟩ := hQ167
  have N167 : Fr n0 L167 := by rw [l167]; exact Fr.app N166 N167q
  refine own_tr st167 ?_
  show own_Go p.tables e below _ (T167.setTop (mkF m 73 #[.val (.int p0), .val (.int p1), .val (.int p2), .val (.ref r_162), .val (.ref r_163), .val (.ref a1_164), .val (.int (1 : Int32))] [.null]))
  refine own_st (fun t_ k_ => XS.ifnonnullNo X167.here hx rfl (hb hby at_73) rfl k_) ?_
  show own_Go p.tables e below _ (T167.setTop (mkF m 76 #[.val (.int p0), .val (.int p1), .val (.int p2), .val (.ref r_162), .val (.ref r_163), .val (.ref a1_164), .val (.int (1 : Int32))] []))
  refine own_st (fun t_ k_ => XS.iconst X167.here hx rfl (hb hby at_76) k_) ?_
  show own_Go p.tables e below _ (T167.setTop (mkF m 77 #[.val (.int p0), .val (.int p1), .val (.int p2), .val (.ref r_162), .val (.ref r_163), .val (.ref a1_164), .val (.int (1 : Int32))] [(.int (1 : Int32))]))
  refine own_st (fun t_ k_ => XS.goto X167.here hx rfl (pc0 := 77) (pc' := 81) rfl (hb hby at_77) (by decide) (by decide) k_) ?_
  show own_Go p.tables e below _ (T167.setTop (mkF m 81 #[.val (.int p0), .val (.int p1), .val (.int p2), .val (.ref r_162), .val (.ref r_163), .val (.ref a1_164), .val (.int (1 : Int32))] [(.int (1 : Int32))]))
  refine own_st (fun t_ k_ => XS.istore X167.here hx rfl (hb hby at_81) rfl (l' := #[.val (.int p0), .val (.int p1), .val (.int p2), .val (.ref r_162), .val (.ref r_163), .val (.ref a1_164), .val (.int (1 : Int32))]) rfl k_) ?_
  show own_Go p.tables e below _ (T167.setTop (mkF m 83 #[.val (.int p0), .val (.int p1), .val (.int p2), .val (.ref r_162), .val (.ref r_163), .val (.ref a1_164), .val (.int (1 : Int32))] []))
  refine own_st (fun t_ k_ => XS.iload X167.here hx rfl (hb hby at_83) rfl k_) ?_
  show own_Go p.tables e below _ (T167.setTop (mkF m 85 #[.val (.int p0), .val (.int p1), .val (.int p2), .val (.ref r_162), .val (.ref r_163), .val (.ref a1_164), .val (.int (1 : Int32))] [(.int (1 : Int32))]))
  refine own_st (fun t_ k_ => XS.ifNo X167.here hx rfl (hb hby at_85) rfl ((if0 _ _).trans (feq (by decide : ¬ ((1 : Int32) = (0 : Int32)))).1) k_) ?_
  show own_Go p.tables e below _ (T167.setTop (mkF m 88 #[.val (.int p0), .val (.int p1), .val (.int p2), .val (.ref r_162), .val (.ref r_163), .val (.ref a1_164), .val (.int (1 : Int32))] []))
  refine own_st (fun t_ k_ => XS.aload X167.here hx rfl (hb hby at_88) rfl rfl k_) ?_
  show own_Go p.tables e below _ (T167.setTop (mkF m 90 #[.val (.int p0), .val (.int p1), .val (.int p2), .val (.ref r_162), .val (.ref r_163), .val (.ref a1_164), .val (.int (1 : Int32))] [(.ref a1_164)]))
  obtain ⟨cq168, kq168, q168a, q168b, q168c⟩ := isOf hZ eq167 P164_1
  obtain ⟨_, _, ⟨T168, L168, k168, n168⟩, -, X168, ⟨Lc168, hQ168, l168, y168, z168⟩, st168⟩ := X167.virtualBack hx (y := (⟨"com/example/provender/provender/cli/Parameter", "description", "()Ljava/lang/String;"⟩ : MethodName)) (z := (⟨"com/example/provender/provender/cli/Parameter", "description", "()Ljava/lang/String;"⟩ : MethodName)) hown (mvT hZ (hw _ (List.mem_of_getElem? (i := 72) rfl))) (mvT hZ (hw _ (List.mem_of_getElem? (i := 73) rfl))) (notFace_of_selects (args := #[]) (mvT hZ (hw _ (List.mem_of_getElem? (i := 75) rfl)))) (mvT hZ (hw _ (List.mem_of_getElem? (i := 75) rfl))) (mvT hZ (hw _ (List.mem_of_getElem? (i := 74) rfl))) (by decide) (backOf (W := 0) (own_rm13 l Z a0 hw [] a1_164 r_162 r_163 T164.heap n0 (Nat.le_trans Z0 K164.1) P164_1 P164_2 P164_3 P164_4 P164_5 P164_6) hZ (hw _ (List.mem_of_getElem? (i := 76) rfl)) (hw _ (List.mem_of_getElem? (i := 39) rfl)) (by decide) (by decide)) q168a q168c (g := (mkF m 90 #[.val (.int p0), .val (.int p1), .val (.int p2), .val (.ref r_162), .val (.ref r_163), .val (.ref a1_164), .val (.int (1 : Int32))] [(.ref a1_164)])) rfl (by rw [hml]; rfl) (Steps.refl _) (argsL := []) (rest := []) (lenOf own_pd9 rfl) rfl (by show 2 * 0 + _ ≤ _; exact Nat.le_of_eq rfl) (hb hby at_90) (fun _ _ => ⟨rfl, eq167, (by decide : 13 + 0 ≤ _), (by decide : 29 + 0 ≤ _)⟩)
  dsimp only [Pt.U, Pt.locs, Pt.cells, Pt.slots] at X168 l168 y168 z168 st168 hQ168
  subst y168 z168
  obtain ⟨rfl, N168q, eq168⟩ := hQ168
  have N168 : Fr n0 L168 := by rw [l168]; exact Fr.app N167 N168q
  refine own_tr st168 ?_
  show own_Go p.tables e below _ (T168.setTop (mkF m 93 #[.val (.int p0), .val (.int p1), .val (.int p2), .val (.ref r_162), .val (.ref r_163), .val (.ref a1_164), .val (.int (1 : Int32))] [(.ref r_163)]))
  refine own_st (fun t_ k_ => XS.aload X168.here hx rfl (hb hby at_93) rfl rfl k_) ?_
  show own_Go p.tables e below _ (T168.setTop (mkF m 95 #[.val (.int p0), .val (.int p1), .val (.int p2), .val (.ref r_162), .val (.ref r_163), .val (.ref a1_164), .val (.int (1 : Int32))] [(.ref r_163), (.ref r_163)]))
  refine own_st (fun t_ k_ => Jvm.RoadKit.acmp (g := (mkF m 95 #[.val (.int p0), .val (.int p1), .val (.int p2), .val (.ref r_162), .val (.ref r_163), .val (.ref a1_164), .val (.int (1 : Int32))] [(.ref r_163), (.ref r_163)])) X168 hx rfl rfl rfl (pc0 := 95) (pc' := 98) (same := true) rfl (hb hby at_95) rfl (decide_eq_true rfl) (by decide) (by decide) k_) ?_
  show own_Go p.tables e below _ (T168.setTop (mkF m 98 #[.val (.int p0), .val (.int p1), .val (.int p2), .val (.ref r_162), .val (.ref r_163), .val (.ref a1_164), .val (.int (1 : Int32))] []))
  refine own_st (fun t_ k_ => XS.iconst X168.here hx rfl (hb hby at_98) k_) ?_
  show own_Go p.tables e below _ (T168.setTop (mkF m 99 #[.val (.int p0), .val (.int p1), .val (.int p2), .val (.ref r_162), .val (.ref r_163), .val (.ref a1_164), .val (.int (1 : Int32))] [(.int (1 : Int32))]))
  refine own_st (fun t_ k_ => XS.goto X168.here hx rfl (pc0 := 99) (pc' := 103) rfl (hb hby at_99) (by decide) (by decide) k_) ?_
  show own_Go p.tables e below _ (T168.setTop (mkF m 103 #[.val (.int p0), .val (.int p1), .val (.int p2), .val (.ref r_162), .val (.ref r_163), .val (.ref a1_164), .val (.int (1 : Int32))] [(.int (1 : Int32))]))
  refine own_st (fun t_ k_ => XS.istore X168.here hx rfl (hb hby at_103) rfl (l' := #[.val (.int p0), .val (.int p1), .val (.int p2), .val (.ref r_162), .val (.ref r_163), .val (.ref a1_164), .val (.int (1 : Int32))]) rfl k_) ?_
  show own_Go p.tables e below _ (T168.setTop (mkF m 105 #[.val (.int p0), .val (.int p1), .val (.int p2), .val (.ref r_162), .val (.ref r_163), .val (.ref a1_164), .val (.int (1 : Int32))] []))
  refine own_st (fun t_ k_ => XS.iload X168.here hx rfl (hb hby at_105) rfl k_) ?_
  show own_Go p.tables e below _ (T168.setTop (mkF m 107 #[.val (.int p0), .val (.int p1), .val (.int p2), .val (.ref r_162), .val (.ref r_163), .val (.ref a1_164), .val (.int (1 : Int32))] [(.int (1 : Int32))]))
  refine own_st (fun t_ k_ => XS.ifNo X168.here hx rfl (hb hby at_107) rfl ((if0 _ _).trans (feq (by decide : ¬ ((1 : Int32) = (0 : Int32)))).1) k_) ?_
  show own_Go p.tables e below _ (T168.setTop (mkF m 110 #[.val (.int p0), .val (.int p1), .val (.int p2), .val (.ref r_162), .val (.ref r_163), .val (.ref a1_164), .val (.int (1 : Int32))] []))
  refine own_st (fun t_ k_ => XS.aload X168.here hx rfl (hb hby at_110) rfl rfl k_) ?_
  show own_Go p.tables e below _ (T168.setTop (mkF m 112 #[.val (.int p0), .val (.int p1), .val (.int p2), .val (.ref r_162), .val (.ref r_163), .val (.ref a1_164), .val (.int (1 : Int32))] [(.ref a1_164)]))
  obtain ⟨cq169, kq169, q169a, q169b, q169c⟩ := isOf hZ eq168 P164_1
  obtain ⟨_, _, ⟨T169, L169, k169, n169⟩, -, X169, ⟨Lc169, hQ169, l169, y169, z169⟩, st169⟩ := X168.virtualBack hx (y := (⟨"com/example/provender/provender/cli/Parameter", "required", "()Z"⟩ : MethodName)) (z := (⟨"com/example/provender/provender/cli/Parameter", "required", "()Z"⟩ : MethodName)) hown (mvT hZ (hw _ (List.mem_of_getElem? (i := 77) rfl))) (mvT hZ (hw _ (List.mem_of_getElem? (i := 78) rfl))) (notFace_of_selects (args := #[]) (mvT hZ (hw _ (List.mem_of_getElem? (i := 80) rfl)))) (mvT hZ (hw _ (List.mem_of_getElem? (i := 80) rfl))) (mvT hZ (hw _ (List.mem_of_getElem? (i := 79) rfl))) (by decide) (backOf (W := 0) (own_rm14 l Z a0 hw [] a1_164 r_162 r_163 T164.heap n0 (Nat.le_trans Z0 K164.1) P164_1 P164_2 P164_3 P164_4 P164_5 P164_6) hZ (hw _ (List.mem_of_getElem? (i := 81) rfl)) (hw _ (List.mem_of_getElem? (i := 39) rfl)) (by decide) (by decide)) q169a q169c (g := (mkF m 112 #[.val (.int p0), .val (.int p1), .val (.int p2), .val (.ref r_162), .val (.ref r_163), .val (.ref a1_164), .val (.int (1 : Int32))] [(.ref a1_164)])) rfl (by rw [hml]; rfl) (Steps.refl _) (argsL := []) (rest := []) (lenOf own_pd6 rfl) rfl (by show 2 * 0 + _ ≤ _; exact Nat.le_of_eq rfl) (hb hby at_112) (fun _ _ => ⟨rfl, eq168, (by decide : 13 + 0 ≤ _), (by decide : 29 + 0 ≤ _)⟩)
  dsimp only [Pt.U, Pt.locs, Pt.cells, Pt.slots] at X169 l169 y169 z169 st169 hQ169
  subst y169 z169
  obtain ⟨rfl, N169q, eq169⟩ := hQ169
  have N169 : Fr n0 L169 := by rw [l169]; exact Fr.app N168 N169q
  refine own_tr st169 ?_
  show own_Go p.tables e below _ (T169.setTop (mkF m 115 #[.val (.int p0), .val (.int p1), .val (.int p2), .val (.ref r_162), .val (.ref r_163), .val (.ref a1_164), .val (.int (1 : Int32))] [(.int (0 : Int32))]))
  refine own_st (fun t_ k_ => XS.ifNo X169.here hx rfl (hb hby at_115) rfl ((if0 _ _).trans (teq (by decide : (0 : Int32) = (0 : Int32))).2) k_) ?_
  show own_Go p.tables e below _ (T169.setTop (mkF m 118 #[.val (.int p0), .val (.int p1), .val (.int p2), .val (.ref r_162), .val (.ref r_163), .val (.ref a1_164), .val (.int (1 : Int32))] []))
  refine own_st (fun t_ k_ => XS.iconst X169.here hx rfl (hb hby at_118) k_) ?_
  show own_Go p.tables e below _ (T169.setTop (mkF m 119 #[.val (.int p0), .val (.int p1), .val (.int p2), .val (.ref r_162), .val (.ref r_163), .val (.ref a1_164), .val (.int (1 : Int32))] [(.int (1 : Int32))]))
  refine own_st (fun t_ k_ => XS.goto X169.here hx rfl (pc0 := 119) (pc' := 123) rfl (hb hby at_119) (by decide) (by decide) k_) ?_
  show own_Go p.tables e below _ (T169.setTop (mkF m 123 #[.val (.int p0), .val (.int p1), .val (.int p2), .val (.ref r_162), .val (.ref r_163), .val (.ref a1_164), .val (.int (1 : Int32))] [(.int (1 : Int32))]))
  refine own_st (fun t_ k_ => XS.istore X169.here hx rfl (hb hby at_123) rfl (l' := #[.val (.int p0), .val (.int p1), .val (.int p2), .val (.ref r_162), .val (.ref r_163), .val (.ref a1_164), .val (.int (1 : Int32))]) rfl k_) ?_
  show own_Go p.tables e below _ (T169.setTop (mkF m 125 #[.val (.int p0), .val (.int p1), .val (.int p2), .val (.ref r_162), .val (.ref r_163), .val (.ref a1_164), .val (.int (1 : Int32))] []))
  refine own_st (fun t_ k_ => XS.iload X169.here hx rfl (hb hby at_125) rfl k_) ?_
  show own_Go p.tables e below _ (T169.setTop (mkF m 127 #[.val (.int p0), .val (.int p1), .val (.int p2), .val (.ref r_162), .val (.ref r_163), .val (.ref a1_164), .val (.int (1 : Int32))] [(.int (1 : Int32))]))
  refine own_st (fun t_ k_ => XS.ifNo X169.here hx rfl (hb hby at_127) rfl ((if0 _ _).trans (feq (by decide : ¬ ((1 : Int32) = (0 : Int32)))).1) k_) ?_
  show own_Go p.tables e below _ (T169.setTop (mkF m 130 #[.val (.int p0), .val (.int p1), .val (.int p2), .val (.ref r_162), .val (.ref r_163), .val (.ref a1_164), .val (.int (1 : Int32))] []))
  refine own_st (fun t_ k_ => XS.aload X169.here hx rfl (hb hby at_130) rfl rfl k_) ?_
  show own_Go p.tables e below _ (T169.setTop (mkF m 132 #[.val (.int p0), .val (.int p1), .val (.int p2), .val (.ref r_162), .val (.ref r_163), .val (.ref a1_164), .val (.int (1 : Int32))] [(.ref a1_164)]))
  obtain ⟨cq170, kq170, q170a, q170b, q170c⟩ := isOf hZ eq169 P164_1
  obtain ⟨_, _, ⟨T170, L170, k170, n170⟩, -, X170, ⟨Lc170, hQ170, l170, y170, z170⟩, st170⟩ := X169.virtualBack hx (y := (⟨"com/example/provender/provender/cli/Parameter", "isPositional", "()Z"⟩ : MethodName)) (z := (⟨"com/example/provender/provender/cli/Parameter", "isPositional", "()Z"⟩ : MethodName)) hown (mvT hZ (hw _ (List.mem_of_getElem? (i := 82) rfl))) (mvT hZ (hw _ (List.mem_of_getElem? (i := 83) rfl))) (notFace_of_selects (args := #[]) (mvT hZ (hw _ (List.mem_of_getElem? (i := 85) rfl)))) (mvT hZ (hw _ (List.mem_of_getElem? (i := 85) rfl))) (mvT hZ (hw _ (List.mem_of_getElem? (i := 84) rfl))) (by decide) (backOf (W := 0) (own_rm15 l Z a0 hw [] a1_164 r_162 r_163 T164.heap n0 (Nat.le_trans Z0 K164.1) P164_1 P164_2 P164_3 P164_4 P164_5 P164_6) hZ (hw _ (List.mem_of_getElem? (i := 86) rfl)) (hw _ (List.mem_of_getElem? (i := 39) rfl)) (by decide) (by decide)) q170a q170c (g := (mkF m 132 #[.val (.int p0), .val (.int p1), .val (.int p2), .val (.ref r_162), .val (.ref r_163), .val (.ref a1_164), .val (.int (1 : Int32))] [(.ref a1_164)])) rfl (by rw [hml]; rfl) (Steps.refl _) (argsL := []) (rest := []) (lenOf own_pd6 rfl) rfl (by show 2 * 0 + _ ≤ _; exact Nat.le_of_eq rfl) (hb hby at_132) (fun _ _ => ⟨rfl, eq169, (by decide : 13 + 0 ≤ _), (by decide : 29 + 0 ≤ _)⟩)
  dsimp only [Pt.U, Pt.locs, Pt.cells, Pt.slots] at X170 l170 y170 z170 st170 hQ170
  subst y170 z170
  obtain ⟨rfl, N170q, eq170⟩ := hQ170
  have N170 : Fr n0 L170 := by rw [l170]; exact Fr.app N169 N170q
  refine own_tr st170 ?_
  show own_Go p.tables e below _ (T170.setTop (mkF m 135 #[.val (.int p0), .val (.int p1), .val (.int p2), .val (.ref r_162), .val (.ref r_163), .val (.ref a1_164), .val (.int (1 : Int32))] [(.int (0 : Int32))]))
  refine own_st (fun t_ k_ => XS.ifNo X170.here hx rfl (hb hby at_135) rfl ((if0 _ _).trans (teq (by decide : (0 : Int32) = (0 : Int32))).2) k_) ?_
  show own_Go p.tables e below _ (T170.setTop (mkF m 138 #[.val (.int p0), .val (.int p1), .val (.int p2), .val (.ref r_162), .val (.ref r_163), .val (.ref a1_164), .val (.int (1 : Int32))] []))
  refine own_st (fun t_ k_ => XS.iconst X170.here hx rfl (hb hby at_138) k_) ?_
  show own_Go p.tables e below _ (T170.setTop (mkF m 139 #[.val (.int p0), .val (.int p1), .val (.int p2), .val (.ref r_162), .val (.ref r_163), .val (.ref a1_164), .val (.int (1 : Int32))] [(.int (1 : Int32))]))
  refine own_st (fun t_ k_ => XS.goto X170.here hx rfl (pc0 := 139) (pc' := 143) rfl (hb hby at_139) (by decide) (by decide) k_) ?_
  show own_Go p.tables e below _ (T170.setTop (mkF m 143 #[.val (.int p0), .val (.int p1), .val (.int p2), .val (.ref r_162), .val (.ref r_163), .val (.ref a1_164), .val (.int (1 : Int32))] [(.int (1 : Int32))]))
  refine own_st (fun t_ k_ => XS.istore X170.here hx rfl (hb hby at_143) rfl (l' := #[.val (.int p0), .val (.int p1), .val (.int p2), .val (.ref r_162), .val (.ref r_163), .val (.ref a1_164), .val (.int (1 : Int32))]) rfl k_) ?_
  show own_Go p.tables e below _ (T170.setTop (mkF m 145 #[.val (.int p0), .val (.int p1), .val (.int p2), .val (.ref r_162), .val (.ref r_163), .val (.ref a1_164), .val (.int (1 : Int32))] []))
  refine own_st (fun t_ k_ => XS.iload X170.here hx rfl (hb hby at_145) rfl k_) ?_
  show own_Go p.tables e below _ (T170.setTop (mkF m 147 #[.val (.int p0), .val (.int p1), .val (.int p2), .val (.ref r_162), .val (.ref r_163), .val (.ref a1_164), .val (.int (1 : Int32))] [(.int (1 : Int32))]))
  refine own_st (fun t_ k_ => XS.ifNo X170.here hx rfl (hb hby at_147) rfl ((if0 _ _).trans (feq (by decide : ¬ ((1 : Int32) = (0 : Int32)))).1) k_) ?_
  show own_Go p.tables e below _ (T170.setTop (mkF m 150 #[.val (.int p0), .val (.int p1), .val (.int p2), .val (.ref r_162), .val (.ref r_163), .val (.ref a1_164), .val (.int (1 : Int32))] []))
  refine own_st (fun t_ k_ => XS.aload X170.here hx rfl (hb hby at_150) rfl rfl k_) ?_
  show own_Go p.tables e below _ (T170.setTop (mkF m 152 #[.val (.int p0), .val (.int p1), .val (.int p2), .val (.ref r_162), .val (.ref r_163), .val (.ref a1_164), .val (.int (1 : Int32))] [(.ref a1_164)]))
  obtain ⟨cq171, kq171, q171a, q171b, q171c⟩ := isOf hZ eq170 P164_1
  obtain ⟨_, _, ⟨T171, L171, k171, n171⟩, -, X171, ⟨Lc171, hQ171, l171, y171, z171⟩, st171⟩ := X170.virtualBack hx (y := (⟨"com/example/provender/provender/cli/Parameter", "isFlag", "()Z"⟩ : MethodName)) (z := (⟨"com/example/provender/provender/cli/Parameter", "isFlag", "()Z"⟩ : MethodName)) hown (mvT hZ (hw _ (List.mem_of_getElem? (i := 87) rfl))) (mvT hZ (hw _ (List.mem_of_getElem? (i := 88) rfl))) (notFace_of_selects (args := #[]) (mvT hZ (hw _ (List.mem_of_getElem? (i := 90) rfl)))) (mvT hZ (hw _ (List.mem_of_getElem? (i := 90) rfl))) (mvT hZ (hw _ (List.mem_of_getElem? (i := 89) rfl))) (by decide) (backOf (W := 0) (own_rm16 l Z a0 hw [] a1_164 r_162 r_163 T164.heap n0 (Nat.le_trans Z0 K164.1) P164_1 P164_2 P164_3 P164_4 P164_5 P164_6) hZ (hw _ (List.mem_of_getElem? (i := 91) rfl)) (hw _ (List.mem_of_getElem? (i := 39) rfl)) (by decide) (by decide)) q171a q171c (g := (mkF m 152 #[.val (.int p0), .val (.int p1), .val (.int p2), .val (.ref r_162), .val (.ref r_163), .val (.ref a1_164), .val (.int (1 : Int32))] [(.ref a1_164)])) rfl (by rw [hml]; rfl) (Steps.refl _) (argsL := []) (rest := []) (lenOf own_pd6 rfl) rfl (by show 2 * 0 + _ ≤ _; exact Nat.le_of_eq rfl) (hb hby at_152) (fun _ _ => ⟨rfl, eq170, (by decide : 13 + 0 ≤ _), (by decide : 29 + 0 ≤ _)⟩)
  dsimp only [Pt.U, Pt.locs, Pt.cells, Pt.slots] at X171 l171 y171 z171 st171 hQ171
  subst y171 z171
  obtain ⟨rfl, N171q, eq171⟩ := hQ171
  have N171 : Fr n0 L171 := by rw [l171]; exact Fr.app N170 N171q
  refine own_tr st171 ?_
  show own_Go p.tables e below _ (T171.setTop (mkF m 155 #[.val (.int p0), .val (.int p1), .val (.int p2), .val (.ref r_162), .val (.ref r_163), .val (.ref a1_164), .val (.int (1 : Int32))] [(.int (1 : Int32))]))
  refine own_st (fun t_ k_ => XS.ifNo X171.here hx rfl (hb hby at_155) rfl ((if0 _ _).trans (feq (by decide : ¬ ((1 : Int32) = (0 : Int32)))).1) k_) ?_
  show own_Go p.tables e below _ (T171.setTop (mkF m 158 #[.val (.int p0), .val (.int p1), .val (.int p2), .val (.ref r_162), .val (.ref r_163), .val (.ref a1_164), .val (.int (1 : Int32))] []))
  refine own_st (fun t_ k_ => XS.iconst X171.here hx rfl (hb hby at_158) k_) ?_
  show own_Go p.tables e below _ (T171.setTop (mkF m 159 #[.val (.int p0), .val (.int p1), .val (.int p2), .val (.ref r_162), .val (.ref r_163), .val (.ref a1_164), .val (.int (1 : Int32))] [(.int (1 : Int32))]))
  refine own_st (fun t_ k_ => XS.goto X171.here hx rfl (pc0 := 159) (pc' := 163) rfl (hb hby at_159) (by decide) (by decide) k_) ?_
  show own_Go p.tables e below _ (T171.setTop (mkF m 163 #[.val (.int p0), .val (.int p1), .val (.int p2), .val (.ref r_162), .val (.ref r_163), .val (.ref a1_164), .val (.int (1 : Int32))] [(.int (1 : Int32))]))
  refine own_st (fun t_ k_ => XS.istore X171.here hx rfl (hb hby at_163) rfl (l' := #[.val (.int p0), .val (.int p1), .val (.int p2), .val (.ref r_162), .val (.ref r_163), .val (.ref a1_164), .val (.int (1 : Int32))]) rfl k_) ?_
  show own_Go p.tables e below _ (T171.setTop (mkF m 165 #[.val (.int p0), .val (.int p1), .val (.int p2), .val (.ref r_162), .val (.ref r_163), .val (.ref a1_164), .val (.int (1 : Int32))] []))
  refine own_st (fun t_ k_ => XS.iload X171.here hx rfl (hb hby at_165) rfl k_) ?_
  show own_Go p.tables e below _ (T171.setTop (mkF m 167 #[.val (.int p0), .val (.int p1), .val (.int p2), .val (.ref r_162), .val (.ref r_163), .val (.ref a1_164), .val (.int (1 : Int32))] [(.int (1 : Int32))]))
  refine own_st (fun t_ k_ => XS.ifNo X171.here hx rfl (hb hby at_167) rfl ((if0 _ _).trans (feq (by decide : ¬ ((1 : Int32) = (0 : Int32)))).1) k_) ?_
  show own_Go p.tables e below _ (T171.setTop (mkF m 170 #[.val (.int p0), .val (.int p1), .val (.int p2), .val (.ref r_162), .val (.ref r_163), .val (.ref a1_164), .val (.int (1 : Int32))] []))
  refine own_st (fun t_ k_ => XS.aloadN X171.here hx rfl (hb hby at_170) rfl rfl k_) ?_
  show own_Go p.tables e below _ (T171.setTop (mkF m 171 #[.val (.int p0), .val (.int p1), .val (.int p2), .val (.ref r_162), .val (.ref r_163), .val (.ref a1_164), .val (.int (1 : Int32))] [(.ref r_162)]))
  refine own_st (fun t_ k_ => XS.aload X171.here hx rfl (hb hby at_171) rfl rfl k_) ?_
  show own_Go p.tables e below _ (T171.setTop (mkF m 173 #[.val (.int p0), .val (.int p1), .val (.int p2), .val (.ref r_162), .val (.ref r_163), .val (.ref a1_164), .val (.int (1 : Int32))] [(.ref a1_164), (.ref r_162)]))
  obtain ⟨cq172, kq172, q172a, q172b, q172c⟩ := isOf hZ eq171 P164_1
  obtain ⟨_, _, ⟨T172, L172, k172, n172⟩, -, X172, ⟨Lc172, hQ172, l172, y172, z172⟩, st172⟩ := X171.virtualBack hx (y := (⟨"com/example/provender/provender/cli/Parameter", "form", "()Ljava/lang/String;"⟩ : MethodName)) (z := (⟨"com/example/provender/provender/cli/Parameter", "form", "()Ljava/lang/String;"⟩ : MethodName)) hown (mvT hZ (hw _ (List.mem_of_getElem? (i := 92) rfl))) (mvT hZ (hw _ (List.mem_of_getElem? (i := 93) rfl))) (notFace_of_selects (args := #[]) (mvT hZ (hw _ (List.mem_of_getElem? (i := 95) rfl)))) (mvT hZ (hw _ (List.mem_of_getElem? (i := 95) rfl))) (mvT hZ (hw _ (List.mem_of_getElem? (i := 94) rfl))) (by decide) (backOf (W := 1) (own_rm17 l Z a0 hw [] a1_164 r_162 r_163 T164.heap n0 (Nat.le_trans Z0 K164.1) P164_1 P164_2 P164_3 P164_4 P164_5 P164_6) hZ (hw _ (List.mem_of_getElem? (i := 96) rfl)) (hw _ (List.mem_of_getElem? (i := 39) rfl)) (by decide) (by decide)) q172a q172c (g := (mkF m 173 #[.val (.int p0), .val (.int p1), .val (.int p2), .val (.ref r_162), .val (.ref r_163), .val (.ref a1_164), .val (.int (1 : Int32))] [(.ref a1_164), (.ref r_162)])) rfl (by rw [hml]; rfl) (Steps.refl _) (argsL := []) (rest := [(.ref r_162)]) (lenOf own_pd9 rfl) rfl (by show 2 * 0 + _ ≤ _; exact Nat.le_of_eq rfl) (hb hby at_173) (fun _ _ => ⟨rfl, eq171, (by decide : 13 + 0 ≤ _), (by decide : 29 + 0 ≤ _)⟩)
  dsimp only [Pt.U, Pt.locs, Pt.cells, Pt.slots] at X172 l172 y172 z172 st172 hQ172
  subst y172 z172
  obtain ⟨rfl, N172q, eq172⟩ := hQ172
  have N172 : Fr n0 L172 := by rw [l172]; exact Fr.app N171 N172q
  refine own_tr st172 ?_
  show own_Go p.tables e below _ (T172.setTop (mkF m 176 #[.val (.int p0), .val (.int p1), .val (.int p2), .val (.ref r_162), .val (.ref r_163), .val (.ref a1_164), .val (.int (1 : Int32))] [(.ref r_162), (.ref r_162)]))
  obtain ⟨cq173, kq173, q173a, q173b, q173c⟩ := isOf hZ eq172 ((P162_1.keep Kq163).keep Kq164)
  obtain ⟨_, _, ⟨T173, L173, k173, n173⟩, -, X173, ⟨Lc173, hQ173, l173, y173, z173⟩, st173⟩ := X172.virtualBack hx (y := (⟨"java/lang/String", "equals", "(Ljava/lang/Object;)Z"⟩ : MethodName)) (z := (⟨"java/lang/String", "equals", "(Ljava/lang/Object;)Z"⟩ : MethodName)) hown (mvT hZ (hw _ (List.mem_of_getElem? (i := 99) rfl))) (mvT hZ (hw _ (List.mem_of_getElem? (i := 100) rfl))) (notFace_of_selects (args := #[]) (mvT hZ (hw _ (List.mem_of_getElem? (i := 102) rfl)))) (mvT hZ (hw _ (List.mem_of_getElem? (i := 102) rfl))) (mvT hZ (hw _ (List.mem_of_getElem? (i := 101) rfl))) (by decide) (backOf (W := 0) (own_rm18 l Z a0 hw [] r_162 T164.heap n0 (Nat.le_trans Z0 K164.1) ((P162_1.keep Kq163).keep Kq164)) hZ (hw _ (List.mem_of_getElem? (i := 103) rfl)) (hw _ (List.mem_of_getElem? (i := 6) rfl)) (by decide) (by decide)) q173a q173c (g := (mkF m 176 #[.val (.int p0), .val (.int p1), .val (.int p2), .val (.ref r_162), .val (.ref r_163), .val (.ref a1_164), .val (.int (1 : Int32))] [(.ref r_162), (.ref r_162)])) rfl (by rw [hml]; rfl) (Steps.refl _) (argsL := [(.ref r_162)]) (rest := []) (lenOf own_pd10 rfl) rfl (by show 2 * 0 + _ ≤ _; exact Nat.le_of_eq rfl) (hb hby at_176) (fun _ _ => ⟨rfl, eq172, (by decide : 13 + 0 ≤ _), (by decide : 29 + 0 ≤ _)⟩)
  dsimp only [Pt.U, Pt.locs, Pt.cells, Pt.slots] at X173 l173 y173 z173 st173 hQ173
  subst y173 z173
  obtain ⟨rfl, N173q, eq173⟩ := hQ173
  have N173 : Fr n0 L173 := by rw [l173]; exact Fr.app N172 N173q
  refine own_tr st173 ?_
  show own_Go p.tables e below _ (T173.setTop (mkF m 179 #[.val (.int p0), .val (.int p1), .val (.int p2), .val (.ref r_162), .val (.ref r_163), .val (.ref a1_164), .val (.int (1 : Int32))] [(.int (1 : Int32))]))
  refine own_st (fun t_ k_ => XS.ifNo X173.here hx rfl (hb hby at_179) rfl ((if0 _ _).trans (feq (by decide : ¬ ((1 : Int32) = (0 : Int32)))).1) k_) ?_
  show own_Go p.tables e below _ (T173.setTop (mkF m 182 #[.val (.int p0), .val (.int p1), .val (.int p2), .val (.ref r_162), .val (.ref r_163), .val (.ref a1_164), .val (.int (1 : Int32))] []))
  refine own_st (fun t_ k_ => XS.iconst X173.here hx rfl (hb hby at_182) k_) ?_
  show own_Go p.tables e below _ (T173.setTop (mkF m 183 #[.val (.int p0), .val (.int p1), .val (.int p2), .val (.ref r_162), .val (.ref r_163), .val (.ref a1_164), .val (.int (1 : Int32))] [(.int (1 : Int32))]))
  refine own_st (fun t_ k_ => XS.goto X173.here hx rfl (pc0 := 183) (pc' := 187) rfl (hb hby at_183) (by decide) (by decide) k_) ?_
  show own_Go p.tables e below _ (T173.setTop (mkF m 187 #[.val (.int p0), .val (.int p1), .val (.int p2), .val (.ref r_162), .val (.ref r_163), .val (.ref a1_164), .val (.int (1 : Int32))] [(.int (1 : Int32))]))
  refine own_st (fun t_ k_ => XS.istore X173.here hx rfl (hb hby at_187) rfl (l' := #[.val (.int p0), .val (.int p1), .val (.int p2), .val (.ref r_162), .val (.ref r_163), .val (.ref a1_164), .val (.int (1 : Int32))]) rfl k_) ?_
  show own_Go p.tables e below _ (T173.setTop (mkF m 189 #[.val (.int p0), .val (.int p1), .val (.int p2), .val (.ref r_162), .val (.ref r_163), .val (.ref a1_164), .val (.int (1 : Int32))] []))
  refine own_st (fun t_ k_ => XS.iload X173.here hx rfl (hb hby at_189) rfl k_) ?_
  show own_Go p.tables e below _ (T173.setTop (mkF m 191 #[.val (.int p0), .val (.int p1), .val (.int p2), .val (.ref r_162), .val (.ref r_163), .val (.ref a1_164), .val (.int (1 : Int32))] [(.int (1 : Int32))]))
  exact own_retW (w := (.int (1 : Int32))) X173 hx hnl hZ (own_hEL hw) S163 (by rw [eq173]; exact kk164) (by rw [eq173]; exact C164) Bd.returns rfl (Or.inl ⟨rfl, by decide, _, rfl⟩) (hb hby at_191) ⟨rfl, N173, (by rw [eq173]; exact K164)⟩ (by decide) (by decide)

set_option maxRecDepth 65536 in
set_option maxHeartbeats 40000000 in
theorem comes_1 {Post : Tables → Env → Array Value → State → Outcome → State → Prop} (hpost : ∀ tb e args s v u, (limb_1_1.after args s (.returned v) u = true ∧ limb_1_2.after args s (.returned v) u = true ∧ True) → ReturnedEndW s (.returned v) u (Jvm.fieldLocs frame_1_writes args s ++ Jvm.arrayLocs frame_1_arrays args s ++ Jvm.staticLocs frame_1_statics s) 24 1152 → Post tb e args s (.returned v) u) :
    ArmFor flags0 classFile x code maxLocals ret World_1 tables_1 room_1 Calls_1 rest_1 Pre_1 Post := by
  intro l hfl _ _ p e ha hc hk s m args below hf hA hF happ hP
  obtain ⟨hcalls, hrest, hpre⟩ := hP
  obtain ⟨-, -, -, hnamed, -, -, -, hat⟩ := (Spec.applies_iff hf).mp happ
  obtain ⟨hg, hn⟩ := and_e (Cond.before_iff.mp (show (Jvm.Cond.and given_1 narrow_1).before args s = true from hpre))
  obtain ⟨hcount, g0⟩ := and_e hg
  obtain ⟨v0, g1⟩ := and_e g0
  obtain ⟨v1, g2⟩ := and_e g1
  have v2 := g2
  obtain ⟨w0, w1, w2, rfl⟩ : ∃ w0 w1 w2 : Value, args = #[w0, w1, w2] := by
    have hs : args.size = 3 := by simpa [Cond.value, given_1] using hcount
    obtain ⟨L⟩ := args
    match L, hs with
    | [w0, w1, w2], _ => exact ⟨w0, w1, w2, rfl⟩
  have hw := fun d (hd : d ∈ tables_1) => atoms_spec (ws := Jvm.Cond.code x code maxLocals ret :: tables_1) hat d (List.mem_cons_of_mem _ hd)
  have hfit : Fit s := fun {y c} hc i hi => by
    obtain ⟨ha, rfl⟩ := Array.getElem?_eq_some_iff.mp hc
    have q := List.all_eq_true.mp ((Array.all_eq_true_iff_forall_mem.mp hF) _ (Array.getElem_mem ha)) i (List.mem_range.mpr hi)
    simpa [Array.getElem?_eq_getElem hi] using q
  obtain ⟨hsets, hown0⟩ := atoms_of _ (rest_1_c_eq ▸ (show rest_1_c.before _ s = true from hrest))
  have hr0 := Cond.before_iff.mp hown0
  obtain ⟨i0, ei0⟩ := is_v v0
  obtain rfl : w0 = (.int i0) := Option.some.inj ei0
  obtain ⟨i1, ei1⟩ := is_v v1
  obtain rfl : w1 = (.int i1) := Option.some.inj ei1
  obtain ⟨i2, ei2⟩ := is_v v2
  obtain rfl : w2 = (.int i2) := Option.some.inj ei2
  obtain ⟨G1, eG1⟩ := is_v (Cond.before_iff.mp (hsets _ (List.mem_of_getElem? (i := 1) rfl)))
  have SG1 := Sta.start eG1 (Or.inl (hsets _ (List.mem_of_getElem? (i := 0) rfl)))
  have hG1 := own_neq0 eG1 (Cond.before_iff.mp (hsets _ (List.mem_of_getElem? (i := 2) rfl)))
  have hCH : CHv s own_EL s.vm s.heap := CHv.start (own_hEL hw) (fun p hp => hcalls.1 p hp) (hsets _ (List.mem_of_getElem? (i := 2) rfl)) (hw _ (List.mem_of_getElem? (i := 23) rfl)) (hw _ (List.mem_of_getElem? (i := 5) rfl))
  obtain ⟨n, o, h1, h2, h3, _, L, rfl, ⟨rfl, N, -⟩, -, hq⟩ := own_rm0 l s _ hw tables_1 i0 i1 i2 G1 s.heap s.heap.size (Nat.le_refl _) (Old.start s) SG1 hG1 p e ha hc hk s m _ below hf ((Spec.applies_iff_loose hf).mp happ).1 ⟨rfl, State.Warmed39.refl s, rfl, hCH, own_sl0⟩ trivial
  refine ⟨n, _, h1, h2, h3, hpost _ _ _ _ _ _ ⟨Cond.after_iff.mpr rfl, Cond.after_iff.mpr (eq_i res_at (Term.int_eval (1)) rfl), trivial⟩ ⟨hq.1, hq.2.1, hq.2.2.1, (hq.2.2.2.sift fun y hy => Or.inr (N y hy)).mono (by decide) (by decide)⟩⟩
theorem main_1_1 : Claimed_1_1 := comes_1 fun _ _ _ _ _ _ h hF => ⟨h.1, hF⟩
theorem main_1_2 : Claimed_1_2 := comes_1 fun _ _ _ _ _ _ h hF => ⟨h.2.1, hF⟩

end Jvm.Pilot.@@N@@
namespace Jvm.Pilot.@@N@@
open Jvm Jvm.ClassFile Sem Op Lib Jvm.Free Jvm.Stand Jvm.Pilot.@@N@@.Jvm.D
/-! MADE BY PROGRAM (witnessworld.py) out of the Statement's table words and the real class files: 20 classes; the members and pool entries that the words name. The judged class is class 1, her method 1. -/
namespace start1
open Jvm.ClassFile
def u (s : String) : CpInfo := .utf8 (stringToUtf16 s)
/-- a pool by its gaps: so many unusable entries, then the entry; so many at the end -/
def gap : Nat → List CpInfo → List CpInfo
  | 0, r => r
  | n + 1, r => .unusable :: gap n r
def poolList (es : List (Nat × CpInfo)) (last : Nat) : List CpInfo := es.foldr (fun e r => gap e.1 (e.2 :: r)) (gap last [])
def pool (es : List (Nat × CpInfo)) (last : Nat) : Array CpInfo := ⟨poolList es last⟩
def fileOf (pool : Array CpInfo) (this : Nat) (attrs : Array Attribute := #[]) (ms : Array MethodInfo := #[]) (fl : Nat := 33) (sup : Nat := 0) (ifs : Array Nat := #[]) (fds : Array FieldInfo := #[]) : ClassFile where
  minorVersion := 0
  majorVersion := 65
  constantPool := pool
  accessFlags := fl
  thisClass := this
  superClass := sup
  interfaces := ifs
  fields := fds
  methods := ms
  attributes := attrs
def plain (name : String) (sup : Option ClassId) : Class where
  name := name
  kind := .ordinary
  loader := none
  accessFlags := 33
  super := sup
  interfaces := #[]
  cf := none
  fields := #[]
  methods := #[]
  instanceTypes := #[]
  staticTypes := #[]
  resolved := #[]
  callSites := []
  init := .initialized
  statics := none
  mirror := none

def pool0 : Array CpInfo := pool [(5, u "<init>"), (0, u "()V"), (1, .class_ 10), (1, u "java/lang/Object")] 113

def k0c0 : Code := { maxStack := 0, maxLocals := 1, code := object_method_1_code, exceptionTable := #[], attributes := #[] }
def k0m0 : Method := { name := "<init>", desc := "()V", sig := { parameters := [], returnType := none }, accessFlags := 1, code := some k0c0 }
/-- java/lang/Object -/
def k0 : Class := { plain "java/lang/Object" none with
  accessFlags := 33
  interfaces := #[]
  cf := some (fileOf pool0 8 #[] #[{ accessFlags := 1, nameIndex := 5, descriptorIndex := 6, attributes := #[] }] 33 0 #[] #[])
  fields := #[]
  methods := #[k0m0]
  instanceTypes := #[]
  staticTypes := #[]
  resolved := Array.replicate 124 none
  statics := none }

def pool1 : Array CpInfo := pool [(2, .class_ 4), (1, u "java/lang/Object"), (0, u "<init>"), (0, u "()V"), (0, .methodref 8 9), (0, .class_ 10), (0, .nameAndType 11 12), (0, u "com/example/provender/provender/cli/ParameterFlagPinLaw"), (0, u "str"), (0, u "(II)Ljava/lang/String;"), (0, .methodref 14 15), (0, .class_ 16), (0, .nameAndType 17 18), (0, u "com/example/provender/provender/cli/Parameter"), (0, u "flag"), (0, u "(Ljava/lang/String;Ljava/lang/String;)Lcom/example/provender/provender/cli/Parameter;"), (0, .methodref 14 20), (0, .nameAndType 21 22), (0, u "name"), (0, u "()Ljava/lang/String;"), (0, .methodref 14 24), (0, .nameAndType 25 22), (0, u "shortName"), (0, .methodref 14 27), (0, .nameAndType 28 22), (0, u "label"), (0, .methodref 14 30), (0, .nameAndType 31 22), (0, u "description"), (0, .methodref 14 33), (0, .nameAndType 34 35), (0, u "required"), (0, u "()Z"), (0, .methodref 14 37), (0, .nameAndType 38 35), (0, u "isPositional"), (0, .methodref 14 40), (0, .nameAndType 41 35), (0, u "isFlag"), (0, .methodref 14 43), (0, .nameAndType 44 22), (0, u "form"), (0, .methodref 46 47), (0, .class_ 48), (0, .nameAndType 49 50), (0, u "java/lang/String"), (0, u "equals"), (0, u "(Ljava/lang/Object;)Z"), (0, .methodref 46 52), (0, .nameAndType 5 53), (0, u "([C)V"), (2, u "law"), (0, u "(III)Z")] 3

def k1m0 : Method := { name := "<init>", desc := "()V", sig := { parameters := [], returnType := none }, accessFlags := 1, code := none }
def k1c1 : Code := { maxStack := 3, maxLocals := 7, code := code, exceptionTable := #[], attributes := #[] }
def k1m1 : Method := { name := "law", desc := "(III)Z", sig := { parameters := [.int, .int, .int], returnType := some .boolean }, accessFlags := 9, code := some k1c1 }
def k1c2 : Code := { maxStack := 6, maxLocals := 5, code := method_3_code, exceptionTable := #[], attributes := #[] }
def k1m2 : Method := { name := "str", desc := "(II)Ljava/lang/String;", sig := { parameters := [.int, .int], returnType := some (.object "java/lang/String") }, accessFlags := 10, code := some k1c2 }
/-- com/example/provender/provender/cli/ParameterFlagPinLaw -/
def k1 : Class := { plain "com/example/provender/provender/cli/ParameterFlagPinLaw" (some 0) with
  accessFlags := 49
  interfaces := #[]
  cf := some (fileOf pool1 8 #[] #[{ accessFlags := 1, nameIndex := 5, descriptorIndex := 6, attributes := #[] }, { accessFlags := 9, nameIndex := 56, descriptorIndex := 57, attributes := #[] }, { accessFlags := 10, nameIndex := 11, descriptorIndex := 12, attributes := #[] }] 49 2 #[] #[])
  fields := #[]
  methods := #[k1m0, k1m1, k1m2]
  instanceTypes := #[]
  staticTypes := #[]
  resolved := Array.replicate 61 none
  statics := none }

def pool2 : Array CpInfo := pool [(1, .class_ 2), (0, u "java/io/Serializable"), (0, .class_ 4), (0, u "java/lang/Object")] 2

/-- java/io/Serializable -/
def k2 : Class := { plain "java/io/Serializable" (some 0) with
  accessFlags := 1537
  interfaces := #[]
  cf := some (fileOf pool2 1 #[] #[] 1537 3 #[] #[])
  fields := #[]
  methods := #[]
  instanceTypes := #[]
  staticTypes := #[]
  resolved := Array.replicate 7 none
  statics := none }

def pool3 : Array CpInfo := pool [(1, .class_ 2), (0, u "java/lang/Comparable"), (0, .class_ 4), (0, u "java/lang/Object")] 7

/-- java/lang/Comparable -/
def k3 : Class := { plain "java/lang/Comparable" (some 0) with
  accessFlags := 1537
  interfaces := #[]
  cf := some (fileOf pool3 1 #[] #[] 1537 3 #[] #[])
  fields := #[]
  methods := #[]
  instanceTypes := #[]
  staticTypes := #[]
  resolved := Array.replicate 12 none
  statics := none }

def pool4 : Array CpInfo := pool [(2, .class_ 4), (1, u "java/lang/CharSequence"), (42, .class_ 48), (0, u "java/lang/CharSequence$1CodePointIterator"), (10, .class_ 60), (0, u "java/lang/CharSequence$1CharIterator"), (5, .class_ 67), (0, u "java/lang/Object")] 63

/-- java/lang/CharSequence -/
def k4 : Class := { plain "java/lang/CharSequence" (some 0) with
  accessFlags := 1537
  interfaces := #[]
  cf := some (fileOf pool4 2 #[.nestMembers #[47, 59]] #[] 1537 66 #[] #[])
  fields := #[]
  methods := #[]
  instanceTypes := #[]
  staticTypes := #[]
  resolved := Array.replicate 131 none
  statics := none }

def pool5 : Array CpInfo := pool [(1, .class_ 2), (0, u "java/lang/constant/Constable"), (0, .class_ 4), (0, u "java/lang/Object")] 6

/-- java/lang/constant/Constable -/
def k5 : Class := { plain "java/lang/constant/Constable" (some 0) with
  accessFlags := 1537
  interfaces := #[]
  cf := some (fileOf pool5 1 #[] #[] 1537 3 #[] #[])
  fields := #[]
  methods := #[]
  instanceTypes := #[]
  staticTypes := #[]
  resolved := Array.replicate 11 none
  statics := none }

def pool6 : Array CpInfo := pool [(1, .class_ 2), (0, u "java/lang/constant/ConstantDesc"), (0, .class_ 4), (0, u "java/lang/Object")] 32

/-- java/lang/constant/ConstantDesc -/
def k6 : Class := { plain "java/lang/constant/ConstantDesc" (some 0) with
  accessFlags := 1537
  interfaces := #[]
  cf := some (fileOf pool6 1 #[] #[] 1537 3 #[] #[])
  fields := #[]
  methods := #[]
  instanceTypes := #[]
  staticTypes := #[]
  resolved := Array.replicate 37 none
  statics := none }

def pool7 : Array CpInfo := pool [(1, .methodref 2 3), (0, .class_ 4), (0, .nameAndType 5 6), (0, u "java/lang/Object"), (0, u "<init>"), (0, u "()V"), (0, .string 8), (0, u ""), (0, .fieldref 10 11), (0, .class_ 12), (0, .nameAndType 13 14), (0, u "java/lang/String"), (0, u "value"), (0, u "[B"), (0, .fieldref 10 16), (0, .nameAndType 17 18), (0, u "coder"), (0, u "B"), (2, u "hash"), (0, u "I"), (2, u "hashIsZero"), (0, u "Z"), (0, .methodref 10 28), (0, .nameAndType 5 29), (0, u "([CIILjava/lang/Void;)V"), (8, .fieldref 10 39), (0, .nameAndType 40 26), (0, u "COMPACT_STRINGS"), (1, .class_ 44), (1, u "java/lang/StringUTF16"), (0, u "compress"), (1, .methodref 42 48), (0, .nameAndType 49 50), (0, u "coderFromArrayLen"), (0, u "([BI)B"), (126, .methodref 42 178), (0, .nameAndType 45 179), (0, u "([CII)[B"), (363, u "equals"), (29, u "(Ljava/lang/Object;)Z"), (1, .class_ 576), (0, u "java/lang/CharSequence"), (22, u "CASE_INSENSITIVE_ORDER"), (0, u "Ljava/util/Comparator;"), (409, u "([C)V"), (90, u "serialPersistentFields"), (0, u "[Ljava/io/ObjectStreamField;"), (0, .class_ 1104), (0, u "java/lang/String$CaseInsensitiveComparator"), (1, .class_ 1107), (0, u "java/io/Serializable"), (0, .class_ 1109), (0, u "java/lang/Comparable"), (0, .class_ 1111), (0, u "java/lang/constant/Constable"), (0, .class_ 1113), (0, u "java/lang/constant/ConstantDesc"), (2, u "serialVersionUID"), (0, u "J"), (3, u "REPL"), (0, u "C"), (2, u "LATIN1"), (1, u "UTF16")] 323

def k7m0 : Method := { name := "<init>", desc := "()V", sig := { parameters := [], returnType := none }, accessFlags := 1, code := none }
def k7c1 : Code := { maxStack := 5, maxLocals := 2, code := jdk_42_method_3_code, exceptionTable := #[], attributes := #[] }
def k7m1 : Method := { name := "<init>", desc := "([C)V", sig := { parameters := [(.array .char)], returnType := none }, accessFlags := 1, code := some k7c1 }
def k7c2 : Code := { maxStack := 2, maxLocals := 3, code := jdk_42_method_66_code, exceptionTable := #[], attributes := #[] }
def k7m2 : Method := { name := "equals", desc := "(Ljava/lang/Object;)Z", sig := { parameters := [(.object "java/lang/Object")], returnType := some .boolean }, accessFlags := 1, code := some k7c2 }
def k7c3 : Code := { maxStack := 4, maxLocals := 6, code := jdk_42_method_149_code, exceptionTable := #[], attributes := #[] }
def k7m3 : Method := { name := "<init>", desc := "([CIILjava/lang/Void;)V", sig := { parameters := [(.array .char), .int, .int, (.object "java/lang/Void")], returnType := none }, accessFlags := 2, code := some k7c3 }
/-- java/lang/String -/
def k7 : Class := { plain "java/lang/String" (some 0) with
  accessFlags := 49
  interfaces := #[2, 3, 4, 5, 6]
  cf := some (fileOf pool7 10 #[.nestMembers #[1103]] #[{ accessFlags := 1, nameIndex := 5, descriptorIndex := 6, attributes := #[] }, { accessFlags := 1, nameIndex := 5, descriptorIndex := 1010, attributes := #[] }, { accessFlags := 1, nameIndex := 543, descriptorIndex := 573, attributes := #[] }, { accessFlags := 2, nameIndex := 5, descriptorIndex := 29, attributes := #[] }] 49 2 #[1106, 1108, 575, 1110, 1112] #[{ accessFlags := 18, nameIndex := 13, descriptorIndex := 14, attributes := #[] }, { accessFlags := 18, nameIndex := 17, descriptorIndex := 18, attributes := #[] }, { accessFlags := 2, nameIndex := 21, descriptorIndex := 22, attributes := #[] }, { accessFlags := 2, nameIndex := 25, descriptorIndex := 26, attributes := #[] }, { accessFlags := 26, nameIndex := 1116, descriptorIndex := 1117, attributes := #[] }, { accessFlags := 24, nameIndex := 40, descriptorIndex := 26, attributes := #[] }, { accessFlags := 26, nameIndex := 1101, descriptorIndex := 1102, attributes := #[] }, { accessFlags := 26, nameIndex := 1121, descriptorIndex := 1122, attributes := #[] }, { accessFlags := 25, nameIndex := 599, descriptorIndex := 600, attributes := #[] }, { accessFlags := 24, nameIndex := 1125, descriptorIndex := 18, attributes := #[] }, { accessFlags := 24, nameIndex := 1127, descriptorIndex := 18, attributes := #[] }])
  fields := #[{ name := "value", type := (.array .byte), accessFlags := 18, slot := 0, constantValue := 0 }, { name := "coder", type := .byte, accessFlags := 18, slot := 1, constantValue := 0 }, { name := "hash", type := .int, accessFlags := 2, slot := 2, constantValue := 0 }, { name := "hashIsZero", type := .boolean, accessFlags := 2, slot := 3, constantValue := 0 }, { name := "serialVersionUID", type := .long, accessFlags := 26, slot := 0, constantValue := 0 }, { name := "COMPACT_STRINGS", type := .boolean, accessFlags := 24, slot := 1, constantValue := 0 }, { name := "serialPersistentFields", type := (.array (.object "java/io/ObjectStreamField")), accessFlags := 26, slot := 2, constantValue := 0 }, { name := "REPL", type := .char, accessFlags := 26, slot := 3, constantValue := 0 }, { name := "CASE_INSENSITIVE_ORDER", type := (.object "java/util/Comparator"), accessFlags := 25, slot := 4, constantValue := 0 }, { name := "LATIN1", type := .byte, accessFlags := 24, slot := 5, constantValue := 0 }, { name := "UTF16", type := .byte, accessFlags := 24, slot := 6, constantValue := 0 }]
  methods := #[k7m0, k7m1, k7m2, k7m3]
  instanceTypes := #[(.array .byte), .byte, .int, .boolean]
  staticTypes := #[.long, .boolean, (.array (.object "java/io/ObjectStreamField")), .char, (.object "java/util/Comparator"), .byte, .byte]
  resolved := Array.replicate 1451 none
  statics := some 0 }

def pool8 : Array CpInfo := pool [(6, .class_ 8), (1, u "java/lang/Object"), (0, u "<init>"), (0, u "()V"), (1, .class_ 14), (1, u "java/lang/StringUTF16"), (31, u "$assertionsDisabled"), (0, u "Z"), (13, u "HI_BYTE_SHIFT"), (0, u "I"), (2, u "LO_BYTE_SHIFT"), (49, .methodref 12 116), (0, .nameAndType 117 118), (0, u "compress"), (0, u "([CI[BII)I"), (3, u "([CII)[B"), (138, u "coderFromArrayLen"), (0, u "([BI)B"), (106, .class_ 371), (1, u "java/lang/StringUTF16$LinesSpliterator"), (58, u "MAX_LENGTH"), (196, .class_ 628), (0, u "java/lang/StringUTF16$CodePointsSpliterator"), (0, .class_ 630), (0, u "java/lang/StringUTF16$CharsSpliterator")] 4

def k8m0 : Method := { name := "<init>", desc := "()V", sig := { parameters := [], returnType := none }, accessFlags := 0, code := none }
def k8c1 : Code := { maxStack := 2, maxLocals := 2, code := jdk_52_method_15_code, exceptionTable := #[], attributes := #[] }
def k8m1 : Method := { name := "coderFromArrayLen", desc := "([BI)B", sig := { parameters := [(.array .byte), .int], returnType := some .byte }, accessFlags := 8, code := some k8c1 }
def k8c2 : Code := { maxStack := 5, maxLocals := 6, code := jdk_52_method_16_code, exceptionTable := #[], attributes := #[] }
def k8m2 : Method := { name := "compress", desc := "([CII)[B", sig := { parameters := [(.array .char), .int, .int], returnType := some (.array .byte) }, accessFlags := 9, code := some k8c2 }
def k8c3 : Code := { maxStack := 3, maxLocals := 7, code := jdk_52_method_21_code, exceptionTable := #[], attributes := #[] }
def k8m3 : Method := { name := "compress", desc := "([CI[BII)I", sig := { parameters := [(.array .char), .int, (.array .byte), .int, .int], returnType := some .int }, accessFlags := 9, code := some k8c3 }
/-- java/lang/StringUTF16 -/
def k8 : Class := { plain "java/lang/StringUTF16" (some 0) with
  accessFlags := 48
  interfaces := #[]
  cf := some (fileOf pool8 12 #[.nestMembers #[627, 629, 369]] #[{ accessFlags := 0, nameIndex := 9, descriptorIndex := 10, attributes := #[] }, { accessFlags := 8, nameIndex := 261, descriptorIndex := 262, attributes := #[] }, { accessFlags := 9, nameIndex := 117, descriptorIndex := 122, attributes := #[] }, { accessFlags := 9, nameIndex := 117, descriptorIndex := 118, attributes := #[] }] 48 6 #[] #[{ accessFlags := 26, nameIndex := 61, descriptorIndex := 62, attributes := #[] }, { accessFlags := 26, nameIndex := 65, descriptorIndex := 62, attributes := #[] }, { accessFlags := 24, nameIndex := 430, descriptorIndex := 62, attributes := #[] }, { accessFlags := 4120, nameIndex := 46, descriptorIndex := 47, attributes := #[] }])
  fields := #[{ name := "HI_BYTE_SHIFT", type := .int, accessFlags := 26, slot := 0, constantValue := 0 }, { name := "LO_BYTE_SHIFT", type := .int, accessFlags := 26, slot := 1, constantValue := 0 }, { name := "MAX_LENGTH", type := .int, accessFlags := 24, slot := 2, constantValue := 0 }, { name := "$assertionsDisabled", type := .boolean, accessFlags := 4120, slot := 3, constantValue := 0 }]
  methods := #[k8m0, k8m1, k8m2, k8m3]
  instanceTypes := #[]
  staticTypes := #[.int, .int, .int, .boolean]
  resolved := Array.replicate 635 none
  statics := none }

def pool9 : Array CpInfo := pool [(1, .methodref 2 3), (0, .class_ 4), (0, .nameAndType 5 6), (0, u "java/lang/Object"), (0, u "<init>"), (0, u "()V"), (0, .fieldref 8 9), (0, .class_ 10), (0, .nameAndType 11 12), (0, u "com/example/provender/provender/cli/Parameter"), (0, u "name"), (0, u "Ljava/lang/String;"), (0, .fieldref 8 14), (0, .nameAndType 15 12), (0, u "shortName"), (0, .fieldref 8 17), (0, .nameAndType 18 12), (0, u "label"), (0, .fieldref 8 20), (0, .nameAndType 21 12), (0, u "description"), (0, .fieldref 8 23), (0, .nameAndType 24 25), (0, u "required"), (0, u "Z"), (0, .methodref 8 27), (0, .nameAndType 5 28), (0, u "(Ljava/lang/String;Ljava/lang/String;Ljava/lang/String;Ljava/lang/String;Z)V"), (0, .methodref 8 30), (0, .nameAndType 31 32), (0, u "isPositional"), (0, u "()Z"), (0, .methodref 8 34), (0, .nameAndType 35 32), (0, u "isFlag"), (6, u "flag"), (0, u "(Ljava/lang/String;Ljava/lang/String;)Lcom/example/provender/provender/cli/Parameter;"), (4, u "()Ljava/lang/String;"), (1, u "form")] 19

def k9c0 : Code := { maxStack := 2, maxLocals := 6, code := prog_5_method_1_code, exceptionTable := #[], attributes := #[] }
def k9m0 : Method := { name := "<init>", desc := "(Ljava/lang/String;Ljava/lang/String;Ljava/lang/String;Ljava/lang/String;Z)V", sig := { parameters := [(.object "java/lang/String"), (.object "java/lang/String"), (.object "java/lang/String"), (.object "java/lang/String"), .boolean], returnType := none }, accessFlags := 2, code := some k9c0 }
def k9c1 : Code := { maxStack := 7, maxLocals := 2, code := prog_5_method_2_code, exceptionTable := #[], attributes := #[] }
def k9m1 : Method := { name := "flag", desc := "(Ljava/lang/String;Ljava/lang/String;)Lcom/example/provender/provender/cli/Parameter;", sig := { parameters := [(.object "java/lang/String"), (.object "java/lang/String")], returnType := some (.object "com/example/provender/provender/cli/Parameter") }, accessFlags := 8, code := some k9c1 }
def k9c2 : Code := { maxStack := 1, maxLocals := 1, code := prog_5_method_7_code, exceptionTable := #[], attributes := #[] }
def k9m2 : Method := { name := "name", desc := "()Ljava/lang/String;", sig := { parameters := [], returnType := some (.object "java/lang/String") }, accessFlags := 0, code := some k9c2 }
def k9c3 : Code := { maxStack := 1, maxLocals := 1, code := prog_5_method_8_code, exceptionTable := #[], attributes := #[] }
def k9m3 : Method := { name := "shortName", desc := "()Ljava/lang/String;", sig := { parameters := [], returnType := some (.object "java/lang/String") }, accessFlags := 0, code := some k9c3 }
def k9c4 : Code := { maxStack := 1, maxLocals := 1, code := prog_5_method_9_code, exceptionTable := #[], attributes := #[] }
def k9m4 : Method := { name := "label", desc := "()Ljava/lang/String;", sig := { parameters := [], returnType := some (.object "java/lang/String") }, accessFlags := 0, code := some k9c4 }
def k9c5 : Code := { maxStack := 1, maxLocals := 1, code := prog_5_method_10_code, exceptionTable := #[], attributes := #[] }
def k9m5 : Method := { name := "description", desc := "()Ljava/lang/String;", sig := { parameters := [], returnType := some (.object "java/lang/String") }, accessFlags := 0, code := some k9c5 }
def k9c6 : Code := { maxStack := 1, maxLocals := 1, code := prog_5_method_11_code, exceptionTable := #[], attributes := #[] }
def k9m6 : Method := { name := "required", desc := "()Z", sig := { parameters := [], returnType := some .boolean }, accessFlags := 0, code := some k9c6 }
def k9c7 : Code := { maxStack := 1, maxLocals := 1, code := prog_5_method_12_code, exceptionTable := #[], attributes := #[] }
def k9m7 : Method := { name := "isPositional", desc := "()Z", sig := { parameters := [], returnType := some .boolean }, accessFlags := 0, code := some k9c7 }
def k9c8 : Code := { maxStack := 1, maxLocals := 1, code := prog_5_method_13_code, exceptionTable := #[], attributes := #[] }
def k9m8 : Method := { name := "isFlag", desc := "()Z", sig := { parameters := [], returnType := some .boolean }, accessFlags := 0, code := some k9c8 }
def k9c9 : Code := { maxStack := 2, maxLocals := 2, code := prog_5_method_14_code, exceptionTable := #[], attributes := #[] }
def k9m9 : Method := { name := "form", desc := "()Ljava/lang/String;", sig := { parameters := [], returnType := some (.object "java/lang/String") }, accessFlags := 0, code := some k9c9 }
/-- com/example/provender/provender/cli/Parameter -/
def k9 : Class := { plain "com/example/provender/provender/cli/Parameter" (some 0) with
  accessFlags := 48
  interfaces := #[]
  cf := some (fileOf pool9 8 #[] #[{ accessFlags := 2, nameIndex := 5, descriptorIndex := 28, attributes := #[] }, { accessFlags := 8, nameIndex := 42, descriptorIndex := 43, attributes := #[] }, { accessFlags := 0, nameIndex := 11, descriptorIndex := 48, attributes := #[] }, { accessFlags := 0, nameIndex := 15, descriptorIndex := 48, attributes := #[] }, { accessFlags := 0, nameIndex := 18, descriptorIndex := 48, attributes := #[] }, { accessFlags := 0, nameIndex := 21, descriptorIndex := 48, attributes := #[] }, { accessFlags := 0, nameIndex := 24, descriptorIndex := 32, attributes := #[] }, { accessFlags := 0, nameIndex := 31, descriptorIndex := 32, attributes := #[] }, { accessFlags := 0, nameIndex := 35, descriptorIndex := 32, attributes := #[] }, { accessFlags := 0, nameIndex := 50, descriptorIndex := 48, attributes := #[] }] 48 2 #[] #[{ accessFlags := 18, nameIndex := 11, descriptorIndex := 12, attributes := #[] }, { accessFlags := 18, nameIndex := 15, descriptorIndex := 12, attributes := #[] }, { accessFlags := 18, nameIndex := 18, descriptorIndex := 12, attributes := #[] }, { accessFlags := 18, nameIndex := 21, descriptorIndex := 12, attributes := #[] }, { accessFlags := 18, nameIndex := 24, descriptorIndex := 25, attributes := #[] }])
  fields := #[{ name := "name", type := (.object "java/lang/String"), accessFlags := 18, slot := 0, constantValue := 0 }, { name := "shortName", type := (.object "java/lang/String"), accessFlags := 18, slot := 1, constantValue := 0 }, { name := "label", type := (.object "java/lang/String"), accessFlags := 18, slot := 2, constantValue := 0 }, { name := "description", type := (.object "java/lang/String"), accessFlags := 18, slot := 3, constantValue := 0 }, { name := "required", type := .boolean, accessFlags := 18, slot := 4, constantValue := 0 }]
  methods := #[k9m0, k9m1, k9m2, k9m3, k9m4, k9m5, k9m6, k9m7, k9m8, k9m9]
  instanceTypes := #[(.object "java/lang/String"), (.object "java/lang/String"), (.object "java/lang/String"), (.object "java/lang/String"), .boolean]
  staticTypes := #[]
  resolved := Array.replicate 70 none
  statics := none }

def pool10 : Array CpInfo := pool [(4, .class_ 6), (1, u "java/lang/Object"), (0, u "<init>"), (0, u "()V"), (5, .class_ 16), (1, u "java/lang/StringLatin1"), (104, u "$assertionsDisabled"), (0, u "Z"), (98, .class_ 223), (1, u "java/lang/StringLatin1$LinesSpliterator"), (166, .class_ 391), (0, u "java/lang/StringLatin1$CharsSpliterator")] 3

def k10m0 : Method := { name := "<init>", desc := "()V", sig := { parameters := [], returnType := none }, accessFlags := 0, code := none }
/-- java/lang/StringLatin1 -/
def k10 : Class := { plain "java/lang/StringLatin1" (some 0) with
  accessFlags := 48
  interfaces := #[]
  cf := some (fileOf pool10 14 #[.nestMembers #[390, 221]] #[{ accessFlags := 0, nameIndex := 7, descriptorIndex := 8, attributes := #[] }] 48 4 #[] #[{ accessFlags := 4120, nameIndex := 121, descriptorIndex := 122, attributes := #[] }])
  fields := #[{ name := "$assertionsDisabled", type := .boolean, accessFlags := 4120, slot := 0, constantValue := 0 }]
  methods := #[k10m0]
  instanceTypes := #[]
  staticTypes := #[.boolean]
  resolved := Array.replicate 395 none
  statics := none }

def pool11 : Array CpInfo := pool [(2, .class_ 4), (1, u "java/lang/Object"), (0, u "<init>"), (0, u "()V"), (17, .class_ 26), (1, u "jdk/internal/util/Preconditions"), (28, .class_ 56), (0, u "jdk/internal/util/Preconditions$4"), (57, .class_ 115), (0, u "jdk/internal/util/Preconditions$1"), (7, u "SIOOBE_FORMATTER"), (0, u "Ljava/util/function/BiFunction;"), (0, .class_ 126), (0, u "jdk/internal/util/Preconditions$2"), (3, u "AIOOBE_FORMATTER"), (0, .class_ 132), (0, u "jdk/internal/util/Preconditions$3"), (3, u "IOOBE_FORMATTER")] 57

def k11m0 : Method := { name := "<init>", desc := "()V", sig := { parameters := [], returnType := none }, accessFlags := 1, code := none }
/-- jdk/internal/util/Preconditions -/
def k11 : Class := { plain "jdk/internal/util/Preconditions" (some 0) with
  accessFlags := 33
  interfaces := #[]
  cf := some (fileOf pool11 24 #[.nestMembers #[55, 131, 125, 114]] #[{ accessFlags := 1, nameIndex := 5, descriptorIndex := 6, attributes := #[] }] 33 2 #[] #[{ accessFlags := 25, nameIndex := 123, descriptorIndex := 124, attributes := #[] }, { accessFlags := 25, nameIndex := 130, descriptorIndex := 124, attributes := #[] }, { accessFlags := 25, nameIndex := 136, descriptorIndex := 124, attributes := #[] }])
  fields := #[{ name := "SIOOBE_FORMATTER", type := (.object "java/util/function/BiFunction"), accessFlags := 25, slot := 0, constantValue := 0 }, { name := "AIOOBE_FORMATTER", type := (.object "java/util/function/BiFunction"), accessFlags := 25, slot := 1, constantValue := 0 }, { name := "IOOBE_FORMATTER", type := (.object "java/util/function/BiFunction"), accessFlags := 25, slot := 2, constantValue := 0 }]
  methods := #[k11m0]
  instanceTypes := #[]
  staticTypes := #[(.object "java/util/function/BiFunction"), (.object "java/util/function/BiFunction"), (.object "java/util/function/BiFunction")]
  resolved := Array.replicate 194 none
  statics := some 1 }

def pool12 : Array CpInfo := pool [(9, u "<init>"), (6, .class_ 18), (1, u "java/lang/Object"), (0, u "()V"), (1, .class_ 23), (1, u "jdk/internal/util/ArraysSupport"), (0, u "LOG2_ARRAY_LONG_INDEX_SCALE"), (0, u "I"), (2, u "U"), (0, u "Ljdk/internal/misc/Unsafe;"), (8, u "BIG_ENDIAN"), (0, u "Z"), (8, u "LOG2_BYTE_BIT_SIZE"), (4, u "LOG2_ARRAY_INT_INDEX_SCALE"), (54, u "JLA"), (0, u "Ljdk/internal/access/JavaLangAccess;"), (11, u "LOG2_ARRAY_BOOLEAN_INDEX_SCALE"), (9, u "LOG2_ARRAY_BYTE_INDEX_SCALE"), (5, u "LOG2_ARRAY_CHAR_INDEX_SCALE"), (5, u "LOG2_ARRAY_SHORT_INDEX_SCALE"), (18, u "LOG2_ARRAY_FLOAT_INDEX_SCALE"), (24, u "LOG2_ARRAY_DOUBLE_INDEX_SCALE"), (89, u "T_BOOLEAN"), (2, u "T_CHAR"), (1, u "T_FLOAT"), (1, u "T_DOUBLE"), (1, u "T_BYTE"), (1, u "T_SHORT"), (1, u "T_INT"), (1, u "T_LONG"), (1, u "SOFT_MAX_ARRAY_LENGTH")] 83

def k12m0 : Method := { name := "<init>", desc := "()V", sig := { parameters := [], returnType := none }, accessFlags := 2, code := none }
/-- jdk/internal/util/ArraysSupport -/
def k12 : Class := { plain "jdk/internal/util/ArraysSupport" (some 0) with
  accessFlags := 33
  interfaces := #[]
  cf := some (fileOf pool12 21 #[] #[{ accessFlags := 2, nameIndex := 9, descriptorIndex := 19, attributes := #[] }] 33 16 #[] #[{ accessFlags := 24, nameIndex := 28, descriptorIndex := 29, attributes := #[] }, { accessFlags := 26, nameIndex := 38, descriptorIndex := 39, attributes := #[] }, { accessFlags := 25, nameIndex := 121, descriptorIndex := 25, attributes := #[] }, { accessFlags := 25, nameIndex := 131, descriptorIndex := 25, attributes := #[] }, { accessFlags := 25, nameIndex := 137, descriptorIndex := 25, attributes := #[] }, { accessFlags := 25, nameIndex := 143, descriptorIndex := 25, attributes := #[] }, { accessFlags := 25, nameIndex := 53, descriptorIndex := 25, attributes := #[] }, { accessFlags := 25, nameIndex := 24, descriptorIndex := 25, attributes := #[] }, { accessFlags := 25, nameIndex := 162, descriptorIndex := 25, attributes := #[] }, { accessFlags := 25, nameIndex := 187, descriptorIndex := 25, attributes := #[] }, { accessFlags := 26, nameIndex := 48, descriptorIndex := 25, attributes := #[] }, { accessFlags := 25, nameIndex := 277, descriptorIndex := 25, attributes := #[] }, { accessFlags := 25, nameIndex := 280, descriptorIndex := 25, attributes := #[] }, { accessFlags := 25, nameIndex := 282, descriptorIndex := 25, attributes := #[] }, { accessFlags := 25, nameIndex := 284, descriptorIndex := 25, attributes := #[] }, { accessFlags := 25, nameIndex := 286, descriptorIndex := 25, attributes := #[] }, { accessFlags := 25, nameIndex := 288, descriptorIndex := 25, attributes := #[] }, { accessFlags := 25, nameIndex := 290, descriptorIndex := 25, attributes := #[] }, { accessFlags := 25, nameIndex := 292, descriptorIndex := 25, attributes := #[] }, { accessFlags := 26, nameIndex := 108, descriptorIndex := 109, attributes := #[] }, { accessFlags := 25, nameIndex := 294, descriptorIndex := 25, attributes := #[] }])
  fields := #[{ name := "U", type := (.object "jdk/internal/misc/Unsafe"), accessFlags := 24, slot := 0, constantValue := 0 }, { name := "BIG_ENDIAN", type := .boolean, accessFlags := 26, slot := 1, constantValue := 0 }, { name := "LOG2_ARRAY_BOOLEAN_INDEX_SCALE", type := .int, accessFlags := 25, slot := 2, constantValue := 0 }, { name := "LOG2_ARRAY_BYTE_INDEX_SCALE", type := .int, accessFlags := 25, slot := 3, constantValue := 0 }, { name := "LOG2_ARRAY_CHAR_INDEX_SCALE", type := .int, accessFlags := 25, slot := 4, constantValue := 0 }, { name := "LOG2_ARRAY_SHORT_INDEX_SCALE", type := .int, accessFlags := 25, slot := 5, constantValue := 0 }, { name := "LOG2_ARRAY_INT_INDEX_SCALE", type := .int, accessFlags := 25, slot := 6, constantValue := 0 }, { name := "LOG2_ARRAY_LONG_INDEX_SCALE", type := .int, accessFlags := 25, slot := 7, constantValue := 0 }, { name := "LOG2_ARRAY_FLOAT_INDEX_SCALE", type := .int, accessFlags := 25, slot := 8, constantValue := 0 }, { name := "LOG2_ARRAY_DOUBLE_INDEX_SCALE", type := .int, accessFlags := 25, slot := 9, constantValue := 0 }, { name := "LOG2_BYTE_BIT_SIZE", type := .int, accessFlags := 26, slot := 10, constantValue := 0 }, { name := "T_BOOLEAN", type := .int, accessFlags := 25, slot := 11, constantValue := 0 }, { name := "T_CHAR", type := .int, accessFlags := 25, slot := 12, constantValue := 0 }, { name := "T_FLOAT", type := .int, accessFlags := 25, slot := 13, constantValue := 0 }, { name := "T_DOUBLE", type := .int, accessFlags := 25, slot := 14, constantValue := 0 }, { name := "T_BYTE", type := .int, accessFlags := 25, slot := 15, constantValue := 0 }, { name := "T_SHORT", type := .int, accessFlags := 25, slot := 16, constantValue := 0 }, { name := "T_INT", type := .int, accessFlags := 25, slot := 17, constantValue := 0 }, { name := "T_LONG", type := .int, accessFlags := 25, slot := 18, constantValue := 0 }, { name := "JLA", type := (.object "jdk/internal/access/JavaLangAccess"), accessFlags := 26, slot := 19, constantValue := 0 }, { name := "SOFT_MAX_ARRAY_LENGTH", type := .int, accessFlags := 25, slot := 20, constantValue := 0 }]
  methods := #[k12m0]
  instanceTypes := #[]
  staticTypes := #[(.object "jdk/internal/misc/Unsafe"), .boolean, .int, .int, .int, .int, .int, .int, .int, .int, .int, .int, .int, .int, .int, .int, .int, .int, .int, (.object "jdk/internal/access/JavaLangAccess"), .int]
  resolved := Array.replicate 378 none
  statics := none }

def pool13 : Array CpInfo := pool [(1, u "java/lang/Cloneable"), (0, .class_ 1), (0, u "java/lang/Object"), (0, .class_ 3)] 3

/-- java/lang/Cloneable -/
def k13 : Class := { plain "java/lang/Cloneable" (some 0) with
  accessFlags := 1537
  interfaces := #[]
  cf := some (fileOf pool13 2 #[] #[] 1537 4 #[] #[])
  fields := #[]
  methods := #[]
  instanceTypes := #[]
  staticTypes := #[]
  resolved := Array.replicate 8 none
  statics := none }

/-- the primitive byte -/
def k14 : Class := { plain "byte" none with kind := .primitive 'B', accessFlags := 0x411 }
/-- [B -/
def k15 : Class := { plain "[B" (some 0) with kind := .array 14 .byte, interfaces := #[13, 2], accessFlags := 1041 }

/-- the primitive char -/
def k16 : Class := { plain "char" none with kind := .primitive 'C', accessFlags := 0x411 }
/-- [C -/
def k17 : Class := { plain "[C" (some 0) with kind := .array 16 .char, interfaces := #[13, 2], accessFlags := 1041 }

/-- the primitive int -/
def k18 : Class := { plain "int" none with kind := .primitive 'I', accessFlags := 0x411 }
/-- [I -/
def k19 : Class := { plain "[I" (some 0) with kind := .array 18 .int, interfaces := #[13, 2], accessFlags := 1041 }

def heap : Heap := #[{ cls := 7, slots := #[.long 0, .int 1, .null, .int 0, .null, .int 0, .int 0], vm := .statics 7 },
  { cls := 11, slots := #[.null, .null, .null], vm := .statics 11 }]
def classes : Array Class := #[k0, k1, k2, k3, k4, k5, k6, k7, k8, k9, k10, k11, k12, k13, k14, k15, k16, k17, k18, k19]
def interned : List (Array UInt16 × Addr) := []
def slotsUsed : Nat := 10
def theMethod : MethodId := ⟨1, 1⟩
def args0 : Array Value := #[.int 3, .int 5, .int 7]
def aboutOver (below : List Frame) : State where
  vm := { classes := classes, interned := interned.toArray }
  heap := heap
  slotsUsed := slotsUsed
  threads := #[{ frames := .invoking theMethod args0 :: below }]
def below0 : List Frame := [.native { method := ⟨0, 0⟩, args := #[] }]
def about1 : State := aboutOver below0
def p0 : Program := .bare "" "" ""
def e0 : Env := launch0.env 0 0 0
theorem w_frames : about1.frames = Frame.invoking theMethod args0 :: below0 := rfl
set_option maxRecDepth 65536 in
theorem w_args : argsFit about1.vm theMethod args0 = true := by decide +kernel
set_option maxRecDepth 65536 in
theorem w_heap : heapFits about1 = true := by decide +kernel
set_option maxRecDepth 65536 in
theorem w_runnable : about1.curStatus? = some .runnable := by decide +kernel
set_option maxRecDepth 65536 in
theorem w_alone : about1.alone = true := by decide +kernel
set_option maxRecDepth 65536 in
theorem w_named : about1.methodNamed? x = some theMethod := by decide +kernel
set_option maxRecDepth 65536 in
theorem w_hears : about1.hears theMethod below0 = true := by decide +kernel
set_option maxRecDepth 65536 in
theorem w_ripe : about1.ripe theMethod args0 below0 = true := by decide +kernel
theorem w_running : about1.status = .running := rfl
set_option maxRecDepth 65536 in
theorem w_room : about1.hasRoom e0.platform room_1 = true :=
  launch0.hasRoom_least _ room_1 (by decide +kernel) (by decide +kernel) (by decide +kernel) (by decide +kernel) (by decide +kernel) (by decide +kernel)
theorem allAtoms_all (ts : List Jvm.Cond) (a : Array Jvm.Value) (st : Jvm.State) : (allAtoms ts).before a st = ts.all (fun c => c.before a st) := by
  induction ts with
  | nil => rfl
  | cons c t ih =>
    show (Jvm.Cond.and c (allAtoms t)).before a st = _
    rw [Jvm.Cond.before_and, ih, List.all_cons]
def words1 : List Jvm.Cond := Jvm.Cond.code x code maxLocals ret :: tables_1
/-- a 'code' word, met by the world's own term for the bytes: nothing is compared byte by byte -/
theorem code_word {y : MethodName} {bytes : ByteArray} {mx : Nat} {rt : Option FieldType} {a : Array Value} {s : State} {m : MethodId} {meth : Method} {c : Code} (h1 : s.methodNamed? y = some m) (h2 : s.vm.method? m = some meth) (h3 : meth.code = some c) (h4 : c.code = bytes)
    (h5 : (c.maxLocals == mx && c.exceptionTable.isEmpty && decide (c.maxStack ≤ mostOperands) && decide (meth.sig.returnType = rt) && !meth.locks && decide (parseMethodDescriptor y.desc = some meth.sig)) = true) : (Jvm.Cond.code y bytes mx rt).before a s = true := by
  simp only [Bool.and_eq_true, beq_iff_eq, Bool.not_eq_true', decide_eq_true_eq] at h5
  obtain ⟨⟨⟨⟨⟨g1, g2⟩, g3⟩, g4⟩, g5⟩, g6⟩ := h5
  simp [Cond.before, Cond.holds, Cond.value, h1, h2, h3, h4, g1, g2, g3, g4, g5, g6]
def isCode : Jvm.Cond → Bool
  | .code _ _ _ _ => true
  | _ => false
theorem all_split {L : List Jvm.Cond} {P : Jvm.Cond → Bool} (h1 : L.all (fun c => isCode c || P c) = true) (h2 : ∀ c ∈ L.filter isCode, P c = true) : L.all P = true := by
  refine List.all_eq_true.mpr fun c hc => ?_
  have h := List.all_eq_true.mp h1 c hc
  rcases Bool.eq_false_or_eq_true (isCode c) with hi | hi
  · exact h2 c (List.mem_filter.mpr ⟨hc, hi⟩)
  · simpa [hi] using h
set_option maxRecDepth 65536 in
theorem w_c0 : (Jvm.Cond.code x code maxLocals ret).before args0 about1 = true := code_word (m := ⟨1, 1⟩) (meth := k1m1) (c := k1c1) (by decide +kernel) rfl rfl rfl (by decide +kernel)
set_option maxRecDepth 65536 in
theorem w_c1 : (Jvm.Cond.code ({ cls := "com/example/provender/provender/cli/ParameterFlagPinLaw", name := "str", desc := "(II)Ljava/lang/String;" } : Jvm.MethodName) method_3_code (5 : Nat) (Option.some (Jvm.ClassFile.FieldType.object "java/lang/String"))).before args0 about1 = true := code_word (m := ⟨1, 2⟩) (meth := k1m2) (c := k1c2) (by decide +kernel) rfl rfl rfl (by decide +kernel)
set_option maxRecDepth 65536 in
theorem w_c2 : (Jvm.Cond.code ({ cls := "java/lang/String", name := "<init>", desc := "([C)V" } : Jvm.MethodName) jdk_42_method_3_code (2 : Nat) (Option.none : Option Jvm.ClassFile.FieldType)).before args0 about1 = true := code_word (m := ⟨7, 1⟩) (meth := k7m1) (c := k7c1) (by decide +kernel) rfl rfl rfl (by decide +kernel)
set_option maxRecDepth 65536 in
theorem w_c3 : (Jvm.Cond.code ({ cls := "java/lang/String", name := "<init>", desc := "([CIILjava/lang/Void;)V" } : Jvm.MethodName) jdk_42_method_149_code (6 : Nat) (Option.none : Option Jvm.ClassFile.FieldType)).before args0 about1 = true := code_word (m := ⟨7, 3⟩) (meth := k7m3) (c := k7c3) (by decide +kernel) rfl rfl rfl (by decide +kernel)
set_option maxRecDepth 65536 in
theorem w_c4 : (Jvm.Cond.code ({ cls := "java/lang/Object", name := "<init>", desc := "()V" } : Jvm.MethodName) object_method_1_code (1 : Nat) (Option.none : Option Jvm.ClassFile.FieldType)).before args0 about1 = true := code_word (m := ⟨0, 0⟩) (meth := k0m0) (c := k0c0) (by decide +kernel) rfl rfl rfl (by decide +kernel)
set_option maxRecDepth 65536 in
theorem w_c5 : (Jvm.Cond.code ({ cls := "java/lang/StringUTF16", name := "compress", desc := "([CII)[B" } : Jvm.MethodName) jdk_52_method_16_code (6 : Nat) (Option.some (Jvm.ClassFile.FieldType.array Jvm.ClassFile.FieldType.byte))).before args0 about1 = true := code_word (m := ⟨8, 2⟩) (meth := k8m2) (c := k8c2) (by decide +kernel) rfl rfl rfl (by decide +kernel)
set_option maxRecDepth 65536 in
theorem w_c6 : (Jvm.Cond.code ({ cls := "java/lang/StringUTF16", name := "compress", desc := "([CI[BII)I" } : Jvm.MethodName) jdk_52_method_21_code (7 : Nat) (Option.some Jvm.ClassFile.FieldType.int)).before args0 about1 = true := code_word (m := ⟨8, 3⟩) (meth := k8m3) (c := k8c3) (by decide +kernel) rfl rfl rfl (by decide +kernel)
set_option maxRecDepth 65536 in
theorem w_c7 : (Jvm.Cond.code ({ cls := "java/lang/StringUTF16", name := "coderFromArrayLen", desc := "([BI)B" } : Jvm.MethodName) jdk_52_method_15_code (2 : Nat) (Option.some Jvm.ClassFile.FieldType.byte)).before args0 about1 = true := code_word (m := ⟨8, 1⟩) (meth := k8m1) (c := k8c1) (by decide +kernel) rfl rfl rfl (by decide +kernel)
set_option maxRecDepth 65536 in
theorem w_c8 : (Jvm.Cond.code ({ cls := "com/example/provender/provender/cli/Parameter", name := "flag", desc := "(Ljava/lang/String;Ljava/lang/String;)Lcom/example/provender/provender/cli/Parameter;" } : Jvm.MethodName) prog_5_method_2_code (2 : Nat) (Option.some (Jvm.ClassFile.FieldType.object "com/example/provender/provender/cli/Parameter"))).before args0 about1 = true := code_word (m := ⟨9, 1⟩) (meth := k9m1) (c := k9c1) (by decide +kernel) rfl rfl rfl (by decide +kernel)
set_option maxRecDepth 65536 in
theorem w_c9 : (Jvm.Cond.code ({ cls := "com/example/provender/provender/cli/Parameter", name := "<init>", desc := "(Ljava/lang/String;Ljava/lang/String;Ljava/lang/String;Ljava/lang/String;Z)V" } : Jvm.MethodName) prog_5_method_1_code (6 : Nat) (Option.none : Option Jvm.ClassFile.FieldType)).before args0 about1 = true := code_word (m := ⟨9, 0⟩) (meth := k9m0) (c := k9c0) (by decide +kernel) rfl rfl rfl (by decide +kernel)
set_option maxRecDepth 65536 in
theorem w_c10 : (Jvm.Cond.code ({ cls := "com/example/provender/provender/cli/Parameter", name := "name", desc := "()Ljava/lang/String;" } : Jvm.MethodName) prog_5_method_7_code (1 : Nat) (Option.some (Jvm.ClassFile.FieldType.object "java/lang/String"))).before args0 about1 = true := code_word (m := ⟨9, 2⟩) (meth := k9m2) (c := k9c2) (by decide +kernel) rfl rfl rfl (by decide +kernel)
set_option maxRecDepth 65536 in
theorem w_c11 : (Jvm.Cond.code ({ cls := "com/example/provender/provender/cli/Parameter", name := "shortName", desc := "()Ljava/lang/String;" } : Jvm.MethodName) prog_5_method_8_code (1 : Nat) (Option.some (Jvm.ClassFile.FieldType.object "java/lang/String"))).before args0 about1 = true := code_word (m := ⟨9, 3⟩) (meth := k9m3) (c := k9c3) (by decide +kernel) rfl rfl rfl (by decide +kernel)
set_option maxRecDepth 65536 in
theorem w_c12 : (Jvm.Cond.code ({ cls := "com/example/provender/provender/cli/Parameter", name := "label", desc := "()Ljava/lang/String;" } : Jvm.MethodName) prog_5_method_9_code (1 : Nat) (Option.some (Jvm.ClassFile.FieldType.object "java/lang/String"))).before args0 about1 = true := code_word (m := ⟨9, 4⟩) (meth := k9m4) (c := k9c4) (by decide +kernel) rfl rfl rfl (by decide +kernel)
set_option maxRecDepth 65536 in
theorem w_c13 : (Jvm.Cond.code ({ cls := "com/example/provender/provender/cli/Parameter", name := "description", desc := "()Ljava/lang/String;" } : Jvm.MethodName) prog_5_method_10_code (1 : Nat) (Option.some (Jvm.ClassFile.FieldType.object "java/lang/String"))).before args0 about1 = true := code_word (m := ⟨9, 5⟩) (meth := k9m5) (c := k9c5) (by decide +kernel) rfl rfl rfl (by decide +kernel)
set_option maxRecDepth 65536 in
theorem w_c14 : (Jvm.Cond.code ({ cls := "com/example/provender/provender/cli/Parameter", name := "required", desc := "()Z" } : Jvm.MethodName) prog_5_method_11_code (1 : Nat) (Option.some Jvm.ClassFile.FieldType.boolean)).before args0 about1 = true := code_word (m := ⟨9, 6⟩) (meth := k9m6) (c := k9c6) (by decide +kernel) rfl rfl rfl (by decide +kernel)
set_option maxRecDepth 65536 in
theorem w_c15 : (Jvm.Cond.code ({ cls := "com/example/provender/provender/cli/Parameter", name := "isPositional", desc := "()Z" } : Jvm.MethodName) prog_5_method_12_code (1 : Nat) (Option.some Jvm.ClassFile.FieldType.boolean)).before args0 about1 = true := code_word (m := ⟨9, 7⟩) (meth := k9m7) (c := k9c7) (by decide +kernel) rfl rfl rfl (by decide +kernel)
set_option maxRecDepth 65536 in
theorem w_c16 : (Jvm.Cond.code ({ cls := "com/example/provender/provender/cli/Parameter", name := "isFlag", desc := "()Z" } : Jvm.MethodName) prog_5_method_13_code (1 : Nat) (Option.some Jvm.ClassFile.FieldType.boolean)).before args0 about1 = true := code_word (m := ⟨9, 8⟩) (meth := k9m8) (c := k9c8) (by decide +kernel) rfl rfl rfl (by decide +kernel)
set_option maxRecDepth 65536 in
theorem w_c17 : (Jvm.Cond.code ({ cls := "com/example/provender/provender/cli/Parameter", name := "form", desc := "()Ljava/lang/String;" } : Jvm.MethodName) prog_5_method_14_code (2 : Nat) (Option.some (Jvm.ClassFile.FieldType.object "java/lang/String"))).before args0 about1 = true := code_word (m := ⟨9, 9⟩) (meth := k9m9) (c := k9c9) (by decide +kernel) rfl rfl rfl (by decide +kernel)
set_option maxRecDepth 65536 in
theorem w_c18 : (Jvm.Cond.code ({ cls := "java/lang/String", name := "equals", desc := "(Ljava/lang/Object;)Z" } : Jvm.MethodName) jdk_42_method_66_code (3 : Nat) (Option.some Jvm.ClassFile.FieldType.boolean)).before args0 about1 = true := code_word (m := ⟨7, 2⟩) (meth := k7m2) (c := k7c2) (by decide +kernel) rfl rfl rfl (by decide +kernel)
def codes1 : List Jvm.Cond := [Jvm.Cond.code x code maxLocals ret, Jvm.Cond.code ({ cls := "com/example/provender/provender/cli/ParameterFlagPinLaw", name := "str", desc := "(II)Ljava/lang/String;" } : Jvm.MethodName) method_3_code (5 : Nat) (Option.some (Jvm.ClassFile.FieldType.object "java/lang/String")), Jvm.Cond.code ({ cls := "java/lang/String", name := "<init>", desc := "([C)V" } : Jvm.MethodName) jdk_42_method_3_code (2 : Nat) (Option.none : Option Jvm.ClassFile.FieldType), Jvm.Cond.code ({ cls := "java/lang/String", name := "<init>", desc := "([CIILjava/lang/Void;)V" } : Jvm.MethodName) jdk_42_method_149_code (6 : Nat) (Option.none : Option Jvm.ClassFile.FieldType), Jvm.Cond.code ({ cls := "java/lang/Object", name := "<init>", desc := "()V" } : Jvm.MethodName) object_method_1_code (1 : Nat) (Option.none : Option Jvm.ClassFile.FieldType), Jvm.Cond.code ({ cls := "java/lang/StringUTF16", name := "compress", desc := "([CII)[B" } : Jvm.MethodName) jdk_52_method_16_code (6 : Nat) (Option.some (Jvm.ClassFile.FieldType.array Jvm.ClassFile.FieldType.byte)), Jvm.Cond.code ({ cls := "java/lang/StringUTF16", name := "compress", desc := "([CI[BII)I" } : Jvm.MethodName) jdk_52_method_21_code (7 : Nat) (Option.some Jvm.ClassFile.FieldType.int), Jvm.Cond.code ({ cls := "java/lang/StringUTF16", name := "coderFromArrayLen", desc := "([BI)B" } : Jvm.MethodName) jdk_52_method_15_code (2 : Nat) (Option.some Jvm.ClassFile.FieldType.byte), Jvm.Cond.code ({ cls := "com/example/provender/provender/cli/Parameter", name := "flag", desc := "(Ljava/lang/String;Ljava/lang/String;)Lcom/example/provender/provender/cli/Parameter;" } : Jvm.MethodName) prog_5_method_2_code (2 : Nat) (Option.some (Jvm.ClassFile.FieldType.object "com/example/provender/provender/cli/Parameter")), Jvm.Cond.code ({ cls := "com/example/provender/provender/cli/Parameter", name := "<init>", desc := "(Ljava/lang/String;Ljava/lang/String;Ljava/lang/String;Ljava/lang/String;Z)V" } : Jvm.MethodName) prog_5_method_1_code (6 : Nat) (Option.none : Option Jvm.ClassFile.FieldType), Jvm.Cond.code ({ cls := "com/example/provender/provender/cli/Parameter", name := "name", desc := "()Ljava/lang/String;" } : Jvm.MethodName) prog_5_method_7_code (1 : Nat) (Option.some (Jvm.ClassFile.FieldType.object "java/lang/String")), Jvm.Cond.code ({ cls := "com/example/provender/provender/cli/Parameter", name := "shortName", desc := "()Ljava/lang/String;" } : Jvm.MethodName) prog_5_method_8_code (1 : Nat) (Option.some (Jvm.ClassFile.FieldType.object "java/lang/String")), Jvm.Cond.code ({ cls := "com/example/provender/provender/cli/Parameter", name := "label", desc := "()Ljava/lang/String;" } : Jvm.MethodName) prog_5_method_9_code (1 : Nat) (Option.some (Jvm.ClassFile.FieldType.object "java/lang/String")), Jvm.Cond.code ({ cls := "com/example/provender/provender/cli/Parameter", name := "description", desc := "()Ljava/lang/String;" } : Jvm.MethodName) prog_5_method_10_code (1 : Nat) (Option.some (Jvm.ClassFile.FieldType.object "java/lang/String")), Jvm.Cond.code ({ cls := "com/example/provender/provender/cli/Parameter", name := "required", desc := "()Z" } : Jvm.MethodName) prog_5_method_11_code (1 : Nat) (Option.some Jvm.ClassFile.FieldType.boolean), Jvm.Cond.code ({ cls := "com/example/provender/provender/cli/Parameter", name := "isPositional", desc := "()Z" } : Jvm.MethodName) prog_5_method_12_code (1 : Nat) (Option.some Jvm.ClassFile.FieldType.boolean), Jvm.Cond.code ({ cls := "com/example/provender/provender/cli/Parameter", name := "isFlag", desc := "()Z" } : Jvm.MethodName) prog_5_method_13_code (1 : Nat) (Option.some Jvm.ClassFile.FieldType.boolean), Jvm.Cond.code ({ cls := "com/example/provender/provender/cli/Parameter", name := "form", desc := "()Ljava/lang/String;" } : Jvm.MethodName) prog_5_method_14_code (2 : Nat) (Option.some (Jvm.ClassFile.FieldType.object "java/lang/String")), Jvm.Cond.code ({ cls := "java/lang/String", name := "equals", desc := "(Ljava/lang/Object;)Z" } : Jvm.MethodName) jdk_42_method_66_code (3 : Nat) (Option.some Jvm.ClassFile.FieldType.boolean)]
set_option maxRecDepth 65536 in
theorem codes_eq : words1.filter isCode = codes1 := rfl
theorem w_codes : ∀ c ∈ words1.filter isCode, c.before args0 about1 = true := by
  rw [codes_eq]
  intro c hc
  simp only [codes1, List.mem_cons, List.not_mem_nil, or_false] at hc
  rcases hc with rfl | rfl | rfl | rfl | rfl | rfl | rfl | rfl | rfl | rfl | rfl | rfl | rfl | rfl | rfl | rfl | rfl | rfl | rfl
  · exact w_c0
  · exact w_c1
  · exact w_c2
  · exact w_c3
  · exact w_c4
  · exact w_c5
  · exact w_c6
  · exact w_c7
  · exact w_c8
  · exact w_c9
  · exact w_c10
  · exact w_c11
  · exact w_c12
  · exact w_c13
  · exact w_c14
  · exact w_c15
  · exact w_c16
  · exact w_c17
  · exact w_c18
set_option maxRecDepth 65536 in
theorem w_t1 : (words1.take 24).all (fun c => isCode c || c.before args0 about1) = true := by decide +kernel
set_option maxRecDepth 65536 in
theorem w_t2 : ((words1.drop 24).take 24).all (fun c => isCode c || c.before args0 about1) = true := by decide +kernel
set_option maxRecDepth 65536 in
theorem w_t3 : (((words1.drop 24).drop 24).take 24).all (fun c => isCode c || c.before args0 about1) = true := by decide +kernel
set_option maxRecDepth 65536 in
theorem w_t4 : ((((words1.drop 24).drop 24).drop 24).take 24).all (fun c => isCode c || c.before args0 about1) = true := by decide +kernel
set_option maxRecDepth 65536 in
theorem w_t5 : ((((words1.drop 24).drop 24).drop 24).drop 24).all (fun c => isCode c || c.before args0 about1) = true := by decide +kernel
theorem w_tables : (allAtoms (Jvm.Cond.code x code maxLocals ret :: tables_1)).before args0 about1 = true := by
  rw [allAtoms_all]
  show words1.all (fun c => c.before args0 about1) = true
  refine all_split ?_ w_codes
  rw [← List.take_append_drop 24 words1, List.all_append, w_t1, ← List.take_append_drop 24 (words1.drop 24), List.all_append, w_t2, ← List.take_append_drop 24 ((words1.drop 24).drop 24), List.all_append, w_t3, ← List.take_append_drop 24 (((words1.drop 24).drop 24).drop 24), List.all_append, w_t4, w_t5]
  rfl
set_option maxRecDepth 65536 in
theorem w_rest : rest_1_c.before args0 about1 = true := by decide +kernel
set_option maxRecDepth 65536 in
theorem w_case : (Jvm.Cond.and given_1 narrow_1).before args0 about1 = true := by decide +kernel
set_option maxRecDepth 65536 in
theorem w_consts : constsHeld consts_1 about1 := Jvm.Lit.constsHeldB_iff.mp (by decide +kernel)
theorem w_applies : (headSpec (Jvm.Cond.code x code maxLocals ret :: tables_1) room_1).applies x e0.platform about1 = true :=
  (Spec.applies_iff w_frames).mpr ⟨w_running, w_runnable, w_alone, w_named, w_hears, w_ripe, w_room, w_tables⟩
theorem atStart : AtStart classFile x code maxLocals ret World_1 tables_1 room_1 Calls_1 rest_1 Pre_1 launch0 p0 e0 about1 theMethod args0 below0 :=
  ⟨lists_1, trivial, launch0.admits_env _ _ _, launch0.least_env, fairChoices_fair.cas, fairChoices_fair.clock, w_frames, w_args, w_heap, w_applies, ⟨w_consts, trivial⟩, w_rest, w_case⟩
end start1
theorem witness_1 : WitnessClaimed_1 := ⟨start1.p0, start1.e0, start1.about1, start1.theMethod, start1.args0, start1.below0, start1.atStart⟩
end Jvm.Pilot.@@N@@
