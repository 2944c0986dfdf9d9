import JvmDerived
import JvmDerived.Pilot.@@N@@Statement
import JvmDerived.Pilot.@@N@@Code
set_option linter.unusedVariables false
set_option linter.unusedSimpArgs false
namespace Jvm.Pilot.@@N@@
open Jvm Jvm.ClassFile Sem Op Lib Jvm.Free Jvm.Stand Jvm.LawKit Jvm.RoadKit Bundle Jvm.Pilot.@@N@@.Jvm.D

section Own
variable {p : Program} {l : Launch} {e : Env} {R : Room} {s : State} {m : MethodId} {args : Array Value} {below : List Frame} {meth : Method} {c : Code} {T : State} {locs : List Loc} {cells slots : Nat} {Z : State} {h h' : Heap}
def own_Go (tb : Tables) (e : Env) (below : List Frame) (P : State → Outcome → Prop) (A : State) : Prop := ∃ t o, Steps tb e below A t ∧ P t o
def own_P (below : List Frame) (s : State) (Q : Option Value → Heap → List Loc → Prop) (kc ks : Nat) (t : State) (o : Outcome) : Prop := t.status = .running ∧ Ended t below o ∧ ∃ v L, o = .returned v ∧ Q v t.heap L ∧ FrameEnd s o t L kc ks
theorem own_st {tb : Tables} {P : State → Outcome → Prop} {A B : State} (k : ∀ t, Steps tb e below B t → Steps tb e below A t) (h : own_Go tb e below P B) : own_Go tb e below P A := by
  obtain ⟨t, o, h1, h2⟩ := h
  exact ⟨t, o, k t h1, h2⟩
theorem own_tr {tb : Tables} {P : State → Outcome → Prop} {A B : State} (k : Steps tb e below A B) (h : own_Go tb e below P B) : own_Go tb e below P A := by
  obtain ⟨t, o, h1, h2⟩ := h
  exact ⟨t, o, k.trans h1, h2⟩
theorem own_ret (X : Stand p l e R s m args below meth c T locs cells slots) (hx : p.tables.exec = Jvm.exec) (hnl : meth.locks = false) {pc : Nat} {Ls : Array Slot} {w : Value} {t : FieldType} {i : Instr} {rest : List Value} (hret : meth.sig.returnType = some t) (hn : narrow t w = w)
    (hi : (i = .ireturn ∧ (t = .int ∨ t = .boolean ∨ t = .byte ∨ t = .char ∨ t = .short) ∧ ∃ z, w = .int z) ∨ (i = .lreturn ∧ t = .long ∧ ∃ z, w = .long z) ∨ (i = .dreturn ∧ t = .double ∧ ∃ z, w = .double z) ∨ (i = .freturn ∧ t = .float ∧ ∃ z, w = .float z) ∨ (i = .areturn ∧ t.isReference = true ∧ w.isRef = true))
    (hd : decode c.code pc = .ok (i, 1)) {Q : Option Value → Heap → List Loc → Prop} {kc ks : Nat} (hq : Q (some w) T.heap locs) (hc : cells ≤ kc) (hs : slots ≤ ks) : own_Go p.tables e below (own_P below s Q kc ks) (T.setTop (mkF m pc Ls (w :: rest))) := by
  obtain ⟨fs, hr, hrun, hended, hW, hsame⟩ := X.leave (v := some w) (fun h => by rw [hret] at h; cases h) hnl
  exact ⟨_, _, retOut X hx hret hn hi hd hr, hrun, hended, _, _, rfl, hq, ⟨_, rfl⟩, hW, hsame.mono hc hs⟩
theorem own_ret0 (X : Stand p l e R s m args below meth c T locs cells slots) (hx : p.tables.exec = Jvm.exec) (hnl : meth.locks = false) {pc : Nat} {Ls : Array Slot} (hret : meth.sig.returnType = none)
    (hd : decode c.code pc = .ok (.return_, 1)) {Q : Option Value → Heap → List Loc → Prop} {kc ks : Nat} (hq : Q none T.heap locs) (hc : cells ≤ kc) (hs : slots ≤ ks) : own_Go p.tables e below (own_P below s Q kc ks) (T.setTop (mkF m pc Ls [])) := by
  obtain ⟨fs, hr, hrun, hended, hW, hsame⟩ := X.leave (v := none) (fun _ => rfl) hnl
  exact ⟨_, _, X.returnOut hx hret hd hr, hrun, hended, _, _, rfl, hq, ⟨_, rfl⟩, hW, hsame.mono hc hs⟩
theorem own_lrem {g : JFrame} {target : State} (X : Stand p l e R s m args below meth c T locs cells slots) (hx : p.tables.exec = Jvm.exec) (hg : g.method = m) {x y : Int64} {rest : List Value} (hd : decode c.code g.pc = .ok (.lrem, 1)) (hs : g.stack = .long y :: .long x :: rest) (hy : y ≠ 0)
    (hr : Steps p.tables e below (T.setTop { g with pc := g.pc + 1, stack := .long (x % y) :: rest }) target) : Steps p.tables e below (T.setTop g) target := by
  exact XS.lrem X.here hx hg hd hs hy (by rw [lrem_mod]; exact hr)
end Own

section OwnA
variable {p : Program} {l : Launch} {e : Env} {R : Room} {s : State} {m : MethodId} {args : Array Value} {below : List Frame} {meth : Method} {c : Code} {T : State} {locs : List Loc} {cells slots : Nat} {Z : State} {h h' : Heap} {a b : Addr} {k : ClassId} {ty : FieldType} {n : Nat} {f : Nat → Value} {sl : Nat} {v : Value} {ws : List Addr}
def own_A (Z : State) (h : Heap) (a : Addr) (k : ClassId) (ty : FieldType) (n : Nat) (f : Nat → Value) : Prop := ∃ c : Cell, Arr Z h a c ty ∧ c.cls = k ∧ c.slots.size = n ∧ n < 2 ^ 31 ∧ (∀ i, i < n → c.slots[i]? = some (f i)) ∧ ∀ i, i < n → fits ty (f i) = true
def own_upd {α : Type} (f : Nat → α) (i : Nat) (x : α) : Nat → α := fun j => if j = i then x else f j
theorem own_A.lt (F : own_A Z h a k ty n f) : a < h.size := by obtain ⟨c, A, -⟩ := F; exact A.lt
theorem own_A.ext (F : own_A Z h a k ty n f) (E : Ext h h') : own_A Z h' a k ty n f := by obtain ⟨c, A, r⟩ := F; exact ⟨c, A.ext E, r⟩
theorem own_A.other (F : own_A Z h b k ty n f) (W : Wr h h' a sl v) (q : b ≠ a) : own_A Z h' b k ty n f := by obtain ⟨c, A, r⟩ := F; exact ⟨c, A.other W q, r⟩
theorem own_A.keep (F : own_A Z h a k ty n f) (K : Keep h h' ws) (q : a ∉ ws) : own_A Z h' a k ty n f := by obtain ⟨c, A, r⟩ := F; exact ⟨c, ⟨K.2.1 a c A.1 q, A.2⟩, r⟩
theorem own_A.congr (F : own_A Z h a k ty n f) {g : Nat → Value} (q : ∀ i, i < n → g i = f i) : own_A Z h a k ty n g := by
  obtain ⟨c, A, r1, r2, r3, H, G⟩ := F
  exact ⟨c, A, r1, r2, r3, fun i hi => by rw [q i hi]; exact H i hi, fun i hi => by rw [q i hi]; exact G i hi⟩
theorem own_A.small (F : own_A Z h a k ty n f) : n < 2 ^ 31 := by obtain ⟨c, A, r1, r2, r3, -⟩ := F; exact r3
theorem own_A.fit (F : own_A Z h a k ty n f) {i : Nat} (hi : i < n) : fits ty (f i) = true := by obtain ⟨c, A, r1, r2, r3, H, G⟩ := F; exact G i hi
theorem own_A.new {z : Int32} (A : Arr Z h a (newA k ty z) ty) (hz : z = Int32.ofNat n) (q : ¬ z < 0) {g : Nat → Value} (hg : ∀ i, g i = defaultValue ty := by intro i; rfl) (hn : n < 2 ^ 31 := by decide) : own_A Z h a k ty n g := by
  have e : z.toNatClampNeg = n := by rw [hz]; simp [Int32.toNatClampNeg, Int32.toInt_ofNat_of_lt hn]
  refine ⟨_, A, rfl, by rw [sz_new]; exact e, hn, fun i hi => ?_, fun i hi => ?_⟩
  · rw [hg]; simp [newA, e, hi]
  · rw [hg]; cases ty <;> rfl
theorem own_idx {j : Int32} {i n : Nat} (h1 : j.toInt = (i : Int)) (h2 : i < n) : ¬ (j < 0 ∨ n ≤ j.toNatClampNeg) ∧ j.toNatClampNeg = i := by
  have e : j.toNatClampNeg = i := by simp [Int32.toNatClampNeg, h1]
  refine ⟨fun q => ?_, e⟩
  rcases q with q | q
  · rw [Int32.lt_iff_toInt_lt, h1] at q; simp at q; omega
  · rw [e] at q; omega
theorem own_len (X : Stand p l e R s m args below meth c T locs cells slots) (hx : p.tables.exec = Jvm.exec) (hZ : Z.Warmed39 s.vm) (eT : T.heap = h) (F : own_A Z h a k ty n f) {g : JFrame} (hg : g.method = m) {rest : List Value} (hs : g.stack = .ref a :: rest) (hd : decode c.code g.pc = .ok (.arraylength, 1)) (t : State)
    (k : Steps p.tables e below (T.setTop { g with pc := g.pc + 1, stack := .int (Int32.ofNat n) :: rest }) t) : Steps p.tables e below (T.setTop g) t := by
  obtain ⟨cl, A, r1, r2, r3, H, G⟩ := F
  refine X.arraylength hx (cell := cl) (by rw [eT]; exact A.1) (State.isArrayOf_alike hZ.alike A.2.1) hg hs hd t ?_
  rw [r2]; exact k
theorem own_setA (F : own_A Z h a k ty n f) {i : Nat} (hi : i < n) (W : Wr h h' a i v) (hv : fits ty v = true) : own_A Z h' a k ty n (own_upd f i v) := by
  obtain ⟨cl, A, r1, r2, r3, H, G⟩ := F
  refine ⟨_, A.same W, r1, by rw [sz_set]; exact r2, r3, fun j hj => ?_, fun j hj => ?_⟩
  · by_cases q : j = i
    · subst q; simp [own_upd, Cell.setSlot, r2, hj]
    · simp only [own_upd, if_neg q, Cell.setSlot]
      rw [Array.getElem?_setIfInBounds_ne (Ne.symm q)]; exact H j hj
  · by_cases q : j = i
    · simp only [own_upd, if_pos q]; exact hv
    · simp only [own_upd, if_neg q]; exact G j hj
theorem own_updI (f : Nat → Int32) (i : Nat) (x : Int32) : own_upd (fun j => Value.int (f j)) i (.int x) = fun j => .int (own_upd f i x j) := by funext j; simp only [own_upd]; split <;> rfl
theorem own_updJ (f : Nat → Int64) (i : Nat) (x : Int64) : own_upd (fun j => Value.long (f j)) i (.long x) = fun j => .long (own_upd f i x j) := by funext j; simp only [own_upd]; split <;> rfl
theorem own_updD (f : Nat → UInt64) (i : Nat) (x : UInt64) : own_upd (fun j => Value.double (f j)) i (.double x) = fun j => .double (own_upd f i x j) := by funext j; simp only [own_upd]; split <;> rfl
theorem own_iaload (X : Stand p l e R s m args below meth c T locs cells slots) (hx : p.tables.exec = Jvm.exec) (hZ : Z.Warmed39 s.vm) (eT : T.heap = h) {f : Nat → Int32} (F : own_A Z h a k .int n (fun i => .int (f i))) {j : Int32} {i : Nat} (h1 : j.toInt = (i : Int)) (h2 : i < n) {g : JFrame} (hg : g.method = m) {rest : List Value} (hs : g.stack = .int j :: .ref a :: rest) (hd : decode c.code g.pc = .ok (.iaload, 1)) (t : State)
    (k : Steps p.tables e below (T.setTop { g with pc := g.pc + 1, stack := .int (f i) :: rest }) t) : Steps p.tables e below (T.setTop g) t := by
  obtain ⟨cl, A, r1, r2, r3, H, G⟩ := F
  obtain ⟨q1, q2⟩ := own_idx h1 (r2 ▸ h2)
  exact X.iaload hx (j := j) (v := .int (f i)) (by rw [eT]; exact A.1) (State.isArrayOf_alike hZ.alike A.2.1) A.2.2 q1 (by rw [q2]; exact H i h2) hg hs hd t k
theorem own_laload (X : Stand p l e R s m args below meth c T locs cells slots) (hx : p.tables.exec = Jvm.exec) (hZ : Z.Warmed39 s.vm) (eT : T.heap = h) {f : Nat → Int64} (F : own_A Z h a k .long n (fun i => .long (f i))) {j : Int32} {i : Nat} (h1 : j.toInt = (i : Int)) (h2 : i < n) {g : JFrame} (hg : g.method = m) {rest : List Value} (hs : g.stack = .int j :: .ref a :: rest) (hd : decode c.code g.pc = .ok (.laload, 1)) (t : State)
    (k : Steps p.tables e below (T.setTop { g with pc := g.pc + 1, stack := .long (f i) :: rest }) t) : Steps p.tables e below (T.setTop g) t := by
  obtain ⟨cl, A, r1, r2, r3, H, G⟩ := F
  obtain ⟨q1, q2⟩ := own_idx h1 (r2 ▸ h2)
  exact X.laload hx (j := j) (v := .long (f i)) (by rw [eT]; exact A.1) (State.isArrayOf_alike hZ.alike A.2.1) A.2.2 q1 (by rw [q2]; exact H i h2) hg hs hd t k
theorem own_daload (X : Stand p l e R s m args below meth c T locs cells slots) (hx : p.tables.exec = Jvm.exec) (hZ : Z.Warmed39 s.vm) (eT : T.heap = h) {f : Nat → UInt64} (F : own_A Z h a k .double n (fun i => .double (f i))) {j : Int32} {i : Nat} (h1 : j.toInt = (i : Int)) (h2 : i < n) {g : JFrame} (hg : g.method = m) {rest : List Value} (hs : g.stack = .int j :: .ref a :: rest) (hd : decode c.code g.pc = .ok (.daload, 1)) (t : State)
    (k : Steps p.tables e below (T.setTop { g with pc := g.pc + 1, stack := .double (f i) :: rest }) t) : Steps p.tables e below (T.setTop g) t := by
  obtain ⟨cl, A, r1, r2, r3, H, G⟩ := F
  obtain ⟨q1, q2⟩ := own_idx h1 (r2 ▸ h2)
  exact X.daload hx (j := j) (v := .double (f i)) (by rw [eT]; exact A.1) (State.isArrayOf_alike hZ.alike A.2.1) A.2.2 q1 (by rw [q2]; exact H i h2) hg hs hd t k
theorem own_caload (X : Stand p l e R s m args below meth c T locs cells slots) (hx : p.tables.exec = Jvm.exec) (hZ : Z.Warmed39 s.vm) (eT : T.heap = h) {f : Nat → Int32} (F : own_A Z h a k .char n (fun i => .int (f i))) {j : Int32} {i : Nat} (h1 : j.toInt = (i : Int)) (h2 : i < n) {g : JFrame} (hg : g.method = m) {rest : List Value} (hs : g.stack = .int j :: .ref a :: rest) (hd : decode c.code g.pc = .ok (.caload, 1)) (t : State)
    (k : Steps p.tables e below (T.setTop { g with pc := g.pc + 1, stack := .int (f i) :: rest }) t) : Steps p.tables e below (T.setTop g) t := by
  obtain ⟨cl, A, r1, r2, r3, H, G⟩ := F
  obtain ⟨q1, q2⟩ := own_idx h1 (r2 ▸ h2)
  exact X.caload hx (j := j) (v := .int (f i)) (by rw [eT]; exact A.1) (State.isArrayOf_alike hZ.alike A.2.1) A.2.2 q1 (by rw [q2]; exact H i h2) hg hs hd t k
theorem own_saload (X : Stand p l e R s m args below meth c T locs cells slots) (hx : p.tables.exec = Jvm.exec) (hZ : Z.Warmed39 s.vm) (eT : T.heap = h) {f : Nat → Int32} (F : own_A Z h a k .short n (fun i => .int (f i))) {j : Int32} {i : Nat} (h1 : j.toInt = (i : Int)) (h2 : i < n) {g : JFrame} (hg : g.method = m) {rest : List Value} (hs : g.stack = .int j :: .ref a :: rest) (hd : decode c.code g.pc = .ok (.saload, 1)) (t : State)
    (k : Steps p.tables e below (T.setTop { g with pc := g.pc + 1, stack := .int (f i) :: rest }) t) : Steps p.tables e below (T.setTop g) t := by
  obtain ⟨cl, A, r1, r2, r3, H, G⟩ := F
  obtain ⟨q1, q2⟩ := own_idx h1 (r2 ▸ h2)
  exact X.saload hx (j := j) (v := .int (f i)) (by rw [eT]; exact A.1) (State.isArrayOf_alike hZ.alike A.2.1) A.2.2 q1 (by rw [q2]; exact H i h2) hg hs hd t k
theorem own_baload (X : Stand p l e R s m args below meth c T locs cells slots) (hx : p.tables.exec = Jvm.exec) (hZ : Z.Warmed39 s.vm) (eT : T.heap = h) {f : Nat → Int32} (F : own_A Z h a k .byte n (fun i => .int (f i))) {j : Int32} {i : Nat} (h1 : j.toInt = (i : Int)) (h2 : i < n) {g : JFrame} (hg : g.method = m) {rest : List Value} (hs : g.stack = .int j :: .ref a :: rest) (hd : decode c.code g.pc = .ok (.baload, 1)) (t : State)
    (k : Steps p.tables e below (T.setTop { g with pc := g.pc + 1, stack := .int (f i) :: rest }) t) : Steps p.tables e below (T.setTop g) t := by
  obtain ⟨cl, A, r1, r2, r3, H, G⟩ := F
  obtain ⟨q1, q2⟩ := own_idx h1 (r2 ▸ h2)
  exact X.baloadBytes hx (j := j) (v := .int (f i)) (by rw [eT]; exact A.1) (State.isArrayOf_alike hZ.alike A.2.1) A.2.2 q1 (by rw [q2]; exact H i h2) hg hs hd t k
theorem own_zaload (X : Stand p l e R s m args below meth c T locs cells slots) (hx : p.tables.exec = Jvm.exec) (hZ : Z.Warmed39 s.vm) (eT : T.heap = h) {f : Nat → Int32} (F : own_A Z h a k .boolean n (fun i => .int (f i))) {j : Int32} {i : Nat} (h1 : j.toInt = (i : Int)) (h2 : i < n) {g : JFrame} (hg : g.method = m) {rest : List Value} (hs : g.stack = .int j :: .ref a :: rest) (hd : decode c.code g.pc = .ok (.baload, 1)) (t : State)
    (k : Steps p.tables e below (T.setTop { g with pc := g.pc + 1, stack := .int (f i) :: rest }) t) : Steps p.tables e below (T.setTop g) t := by
  obtain ⟨cl, A, r1, r2, r3, H, G⟩ := F
  obtain ⟨q1, q2⟩ := own_idx h1 (r2 ▸ h2)
  exact X.baloadBooleans hx (j := j) (v := .int (f i)) (by rw [eT]; exact A.1) (State.isArrayOf_alike hZ.alike A.2.1) A.2.2 q1 (by rw [q2]; exact H i h2) hg hs hd t k
theorem own_aaload (X : Stand p l e R s m args below meth c T locs cells slots) (hx : p.tables.exec = Jvm.exec) (hZ : Z.Warmed39 s.vm) (eT : T.heap = h) (F : own_A Z h a k ty n f) {j : Int32} {i : Nat} (h1 : j.toInt = (i : Int)) (h2 : i < n) (hty : ty.isReference = true) {g : JFrame} (hg : g.method = m) {rest : List Value} (hs : g.stack = .int j :: .ref a :: rest) (hd : decode c.code g.pc = .ok (.aaload, 1)) (t : State)
    (k : Steps p.tables e below (T.setTop { g with pc := g.pc + 1, stack := f i :: rest }) t) : Steps p.tables e below (T.setTop g) t := by
  obtain ⟨cl, A, r1, r2, r3, H, G⟩ := F
  obtain ⟨q1, q2⟩ := own_idx h1 (r2 ▸ h2)
  exact X.aaload hx (j := j) (v := f i) (by rw [eT]; exact A.1) (State.isArrayOf_alike hZ.alike A.2.1) hty A.2.2 q1 (by rw [q2]; exact H i h2) hg hs hd t k
theorem own_iastore (X : Stand p l e R s m args below meth c T locs cells slots) (hx : p.tables.exec = Jvm.exec) (hZ : Z.Warmed39 s.vm) (eT : T.heap = h) {f : Nat → Int32} (F : own_A Z h a k .int n (fun i => .int (f i))) {j : Int32} {x : Int32} {i : Nat} (h1 : j.toInt = (i : Int)) (h2 : i < n) {g : JFrame} (hg : g.method = m) {rest : List Value} (hs : g.stack = .int x :: .int j :: .ref a :: rest) (hd : decode c.code g.pc = .ok (.iastore, 1)) :
    ∃ T' h', Stand p l e R s m args below meth c T' (locs ++ [⟨a, i⟩]) cells slots ∧ T'.heap = h' ∧ Wr h h' a i (.int x) ∧ own_A Z h' a k .int n (fun q => .int (own_upd f i x q)) ∧ ∀ target, Steps p.tables e below (T'.setTop { g with pc := g.pc + 1, stack := rest }) target → Steps p.tables e below (T.setTop g) target := by
  have F0 := F
  obtain ⟨cl, A, r1, r2, r3, H, G⟩ := F
  obtain ⟨q1, q2⟩ := own_idx h1 (r2 ▸ h2)
  obtain ⟨T', h', X', e', W', st⟩ := stI X hx hZ eT A q1 hg hs hd
  rw [q2] at X' W'
  exact ⟨T', h', X', e', W', by rw [← own_updI]; exact own_setA F0 h2 W' rfl, st⟩
theorem own_lastore (X : Stand p l e R s m args below meth c T locs cells slots) (hx : p.tables.exec = Jvm.exec) (hZ : Z.Warmed39 s.vm) (eT : T.heap = h) {f : Nat → Int64} (F : own_A Z h a k .long n (fun i => .long (f i))) {j : Int32} {x : Int64} {i : Nat} (h1 : j.toInt = (i : Int)) (h2 : i < n) {g : JFrame} (hg : g.method = m) {rest : List Value} (hs : g.stack = .long x :: .int j :: .ref a :: rest) (hd : decode c.code g.pc = .ok (.lastore, 1)) :
    ∃ T' h', Stand p l e R s m args below meth c T' (locs ++ [⟨a, i⟩]) cells slots ∧ T'.heap = h' ∧ Wr h h' a i (.long x) ∧ own_A Z h' a k .long n (fun q => .long (own_upd f i x q)) ∧ ∀ target, Steps p.tables e below (T'.setTop { g with pc := g.pc + 1, stack := rest }) target → Steps p.tables e below (T.setTop g) target := by
  have F0 := F
  obtain ⟨cl, A, r1, r2, r3, H, G⟩ := F
  obtain ⟨q1, q2⟩ := own_idx h1 (r2 ▸ h2)
  obtain ⟨T', h', X', e', W', st⟩ := stJ X hx hZ eT A q1 hg hs hd
  rw [q2] at X' W'
  exact ⟨T', h', X', e', W', by rw [← own_updJ]; exact own_setA F0 h2 W' rfl, st⟩
theorem own_dastore (X : Stand p l e R s m args below meth c T locs cells slots) (hx : p.tables.exec = Jvm.exec) (hZ : Z.Warmed39 s.vm) (eT : T.heap = h) {f : Nat → UInt64} (F : own_A Z h a k .double n (fun i => .double (f i))) {j : Int32} {x : UInt64} {i : Nat} (h1 : j.toInt = (i : Int)) (h2 : i < n) {g : JFrame} (hg : g.method = m) {rest : List Value} (hs : g.stack = .double x :: .int j :: .ref a :: rest) (hd : decode c.code g.pc = .ok (.dastore, 1)) :
    ∃ T' h', Stand p l e R s m args below meth c T' (locs ++ [⟨a, i⟩]) cells slots ∧ T'.heap = h' ∧ Wr h h' a i (.double x) ∧ own_A Z h' a k .double n (fun q => .double (own_upd f i x q)) ∧ ∀ target, Steps p.tables e below (T'.setTop { g with pc := g.pc + 1, stack := rest }) target → Steps p.tables e below (T.setTop g) target := by
  have F0 := F
  obtain ⟨cl, A, r1, r2, r3, H, G⟩ := F
  obtain ⟨q1, q2⟩ := own_idx h1 (r2 ▸ h2)
  obtain ⟨T', h', X', e', W', st⟩ := stD X hx hZ eT A q1 hg hs hd
  rw [q2] at X' W'
  exact ⟨T', h', X', e', W', by rw [← own_updD]; exact own_setA F0 h2 W' rfl, st⟩
theorem own_castore (X : Stand p l e R s m args below meth c T locs cells slots) (hx : p.tables.exec = Jvm.exec) (hZ : Z.Warmed39 s.vm) (eT : T.heap = h) {f : Nat → Int32} (F : own_A Z h a k .char n (fun i => .int (f i))) {j x v' : Int32} {i : Nat} (h1 : j.toInt = (i : Int)) (h2 : i < n) (hv : nar .char x = v') {g : JFrame} (hg : g.method = m) {rest : List Value} (hs : g.stack = .int x :: .int j :: .ref a :: rest) (hd : decode c.code g.pc = .ok (.castore, 1)) :
    ∃ T' h', Stand p l e R s m args below meth c T' (locs ++ [⟨a, i⟩]) cells slots ∧ T'.heap = h' ∧ Wr h h' a i (.int v') ∧ own_A Z h' a k .char n (fun q => .int (own_upd f i v' q)) ∧ ∀ target, Steps p.tables e below (T'.setTop { g with pc := g.pc + 1, stack := rest }) target → Steps p.tables e below (T.setTop g) target := by
  have F0 := F
  obtain ⟨cl, A, r1, r2, r3, H, G⟩ := F
  obtain ⟨q1, q2⟩ := own_idx h1 (r2 ▸ h2)
  obtain ⟨T', h', X', e', W', st⟩ := stC X hx hZ eT A q1 hg hs hd
  rw [q2] at X' W'
  subst hv
  exact ⟨T', h', X', e', W', by rw [← own_updI]; exact own_setA F0 h2 W' (fits_nar_char _), st⟩
theorem own_bastore (X : Stand p l e R s m args below meth c T locs cells slots) (hx : p.tables.exec = Jvm.exec) (hZ : Z.Warmed39 s.vm) (eT : T.heap = h) {f : Nat → Int32} (F : own_A Z h a k .byte n (fun i => .int (f i))) {j x v' : Int32} {i : Nat} (h1 : j.toInt = (i : Int)) (h2 : i < n) (hv : nar .byte x = v') {g : JFrame} (hg : g.method = m) {rest : List Value} (hs : g.stack = .int x :: .int j :: .ref a :: rest) (hd : decode c.code g.pc = .ok (.bastore, 1)) :
    ∃ T' h', Stand p l e R s m args below meth c T' (locs ++ [⟨a, i⟩]) cells slots ∧ T'.heap = h' ∧ Wr h h' a i (.int v') ∧ own_A Z h' a k .byte n (fun q => .int (own_upd f i v' q)) ∧ ∀ target, Steps p.tables e below (T'.setTop { g with pc := g.pc + 1, stack := rest }) target → Steps p.tables e below (T.setTop g) target := by
  have F0 := F
  obtain ⟨cl, A, r1, r2, r3, H, G⟩ := F
  obtain ⟨q1, q2⟩ := own_idx h1 (r2 ▸ h2)
  obtain ⟨T', h', X', e', W', st⟩ := stB X hx hZ eT A q1 hg hs hd
  rw [q2] at X' W'
  subst hv
  exact ⟨T', h', X', e', W', by rw [← own_updI]; exact own_setA F0 h2 W' (fits_nar_byte _), st⟩
theorem own_zastore (X : Stand p l e R s m args below meth c T locs cells slots) (hx : p.tables.exec = Jvm.exec) (hZ : Z.Warmed39 s.vm) (eT : T.heap = h) {f : Nat → Int32} (F : own_A Z h a k .boolean n (fun i => .int (f i))) {j x v' : Int32} {i : Nat} (h1 : j.toInt = (i : Int)) (h2 : i < n) (hv : nar .boolean x = v') {g : JFrame} (hg : g.method = m) {rest : List Value} (hs : g.stack = .int x :: .int j :: .ref a :: rest) (hd : decode c.code g.pc = .ok (.bastore, 1)) :
    ∃ T' h', Stand p l e R s m args below meth c T' (locs ++ [⟨a, i⟩]) cells slots ∧ T'.heap = h' ∧ Wr h h' a i (.int v') ∧ own_A Z h' a k .boolean n (fun q => .int (own_upd f i v' q)) ∧ ∀ target, Steps p.tables e below (T'.setTop { g with pc := g.pc + 1, stack := rest }) target → Steps p.tables e below (T.setTop g) target := by
  have F0 := F
  obtain ⟨cl, A, r1, r2, r3, H, G⟩ := F
  obtain ⟨q1, q2⟩ := own_idx h1 (r2 ▸ h2)
  obtain ⟨T', h', X', e', W', st⟩ := stZ X hx hZ eT A q1 hg hs hd
  rw [q2] at X' W'
  subst hv
  exact ⟨T', h', X', e', W', by rw [← own_updI]; exact own_setA F0 h2 W' (fits_nar_bool _), st⟩
theorem own_sastore (X : Stand p l e R s m args below meth c T locs cells slots) (hx : p.tables.exec = Jvm.exec) (hZ : Z.Warmed39 s.vm) (eT : T.heap = h) {f : Nat → Int32} (F : own_A Z h a k .short n (fun i => .int (f i))) {j x v' : Int32} {i : Nat} (h1 : j.toInt = (i : Int)) (h2 : i < n) (hv : nar .short x = v') {g : JFrame} (hg : g.method = m) {rest : List Value} (hs : g.stack = .int x :: .int j :: .ref a :: rest) (hd : decode c.code g.pc = .ok (.sastore, 1)) :
    ∃ T' h', Stand p l e R s m args below meth c T' (locs ++ [⟨a, i⟩]) cells slots ∧ T'.heap = h' ∧ Wr h h' a i (.int v') ∧ own_A Z h' a k .short n (fun q => .int (own_upd f i v' q)) ∧ ∀ target, Steps p.tables e below (T'.setTop { g with pc := g.pc + 1, stack := rest }) target → Steps p.tables e below (T.setTop g) target := by
  have F0 := F
  obtain ⟨cl, A, r1, r2, r3, H, G⟩ := F
  obtain ⟨q1, q2⟩ := own_idx h1 (r2 ▸ h2)
  obtain ⟨T', h', X', e', W', st⟩ := stS X hx hZ eT A q1 hg hs hd
  rw [q2] at X' W'
  subst hv
  exact ⟨T', h', X', e', W', by rw [← own_updI]; exact own_setA F0 h2 W' (fits_nar_short _), st⟩
theorem own_aastore (X : Stand p l e R s m args below meth c T locs cells slots) (hx : p.tables.exec = Jvm.exec) (hZ : Z.Warmed39 s.vm) (eT : T.heap = h) (F : own_A Z h a k ty n f) {j : Int32} {i : Nat} (h1 : j.toInt = (i : Int)) (h2 : i < n) (hq : ty.isReference = true ∧ Sto Z h a v ∧ fits ty v = true) {g : JFrame} (hg : g.method = m) {rest : List Value} (hs : g.stack = v :: .int j :: .ref a :: rest) (hd : decode c.code g.pc = .ok (.aastore, 1)) :
    ∃ T' h', Stand p l e R s m args below meth c T' (locs ++ [⟨a, i⟩]) cells slots ∧ T'.heap = h' ∧ Wr h h' a i v ∧ own_A Z h' a k ty n (own_upd f i v) ∧ ∀ target, Steps p.tables e below (T'.setTop { g with pc := g.pc + 1, stack := rest }) target → Steps p.tables e below (T.setTop g) target := by
  have F0 := F
  obtain ⟨cl, A, r1, r2, r3, H, G⟩ := F
  obtain ⟨q1, q2⟩ := own_idx h1 (r2 ▸ h2)
  obtain ⟨T', h', X', e', W', st⟩ := stR X hx hZ eT A q1 hq.1 hq.2.1 hg hs hd
  rw [q2] at X' W'
  exact ⟨T', h', X', e', W', own_setA F0 h2 W' hq.2.2, st⟩
end OwnA

section OwnN
theorem own_inc {i : Int32} {k : Nat} (h : i.toInt = (k : Int)) (hk : k < 2147483647) : (i + 1).toInt = ((k + 1 : Nat) : Int) := by
  have e1 : (1 : Int32).toInt = 1 := by decide
  rw [Int32.toInt_add, h, e1, bmod32 (by omega) (by omega)]
  omega
theorem own_lt {i : Int32} {k n : Nat} (h : i.toInt = (k : Int)) (hn : n < 2147483648) : i < Int32.ofNat n ↔ k < n := by
  rw [Int32.lt_iff_toInt_lt, h, Int32.toInt_ofNat_of_lt (by omega)]
  omega
end OwnN

section OwnW
variable {args : Array Value} {first s : State} {o : Option Outcome} {idx : List Nat} {t : Term}
theorem own_eqI {k : Int32} (h : (Cond.eq t (.int k)).value args first o s idx = some true) : t.eval args first o idx s = some (.int k) := by
  simp only [Cond.value, Term.eval] at h; cases ht : t.eval args first o idx s with | none => simp [ht] at h | some x => cases x <;> simp [ht] at h ⊢; exact h
theorem own_eqJ {k : Int64} (h : (Cond.eq t (.long k)).value args first o s idx = some true) : t.eval args first o idx s = some (.long k) := by
  simp only [Cond.value, Term.eval] at h; cases ht : t.eval args first o idx s with | none => simp [ht] at h | some x => cases x <;> simp [ht] at h ⊢; exact h
theorem own_eqD {k : Int64} (h : (Cond.eq t (.op1 .bitsD (.long k))).value args first o s idx = some true) : t.eval args first o idx s = some (.double k.toUInt64) := by
  simp only [Cond.value, Term.eval, Unary.apply, Option.bind_eq_bind, Option.bind_some] at h; cases ht : t.eval args first o idx s with | none => simp [ht] at h | some x => cases x <;> simp [ht] at h ⊢; exact h
theorem own_neq0 {G : Int32} (ev : t.eval args first o idx s = some (.int G)) (h : (Cond.not (.eq t (.int 0))).value args first o s idx = some true) : ¬ G = (0 : Int32) := by
  intro q; subst q; simp [Cond.value, ev, Term.eval] at h
end OwnW

section OwnS
def own_bl (cd : Int32) (n : Nat) : Nat := if cd = 0 then n else n + n
def own_u16 (cs : Nat → Int32) : Nat → Int32 := fun i => if i % 2 = 0 then (cs (i / 2) >>> ((0 : Int32) &&& 31)).toInt8.toInt32 else (cs (i / 2) >>> ((8 : Int32) &&& 31)).toInt8.toInt32
def own_by (cd : Int32) (cs : Nat → Int32) : Nat → Int32 := if cd = 0 then (fun i => (cs i).toInt8.toInt32) else own_u16 cs
def own_cb (cs f : Nat → Int32) (j : Nat) : Nat → Int32 := fun i => if i < j then (cs i).toInt8.toInt32 else f i
theorem own_ltp {i p_ : Int32} {k n : Nat} (h : i.toInt = (k : Int)) (hp : p_.toInt = (n : Int)) : i < p_ ↔ k < n := by
  rw [Int32.lt_iff_toInt_lt, h, hp]; omega
theorem own_asN {i : Int32} {k : Nat} (h : i.toInt = (k : Int)) : i = Int32.ofNat k := Int32.toInt_inj.mp (by
  have := rng32 i
  rw [h, Int32.toInt_ofNat_of_lt (by omega)])
theorem own_i8 (x : Int32) : x.toInt8.toInt32.toInt8.toInt32 = x.toInt8.toInt32 := by
  apply Int32.toInt_inj.mp
  have a := c_i2b x
  have b := c_i2b x.toInt8.toInt32
  omega
theorem own_narb (x : Int32) : nar .byte (x.toInt8.toInt32) = x.toInt8.toInt32 := own_i8 x
theorem own_i16 {c : Int32} (h0 : 0 ≤ c.toInt) (h1 : c.toInt ≤ 65535) : c.toUInt32.toUInt16.toUInt32.toInt32 = c := by
  apply Int32.toInt_inj.mp
  have a := c_i2c c
  omega
theorem own_narc {c : Int32} (h0 : 0 ≤ c.toInt) (h1 : c.toInt ≤ 65535) : nar .char c = c := own_i16 h0 h1
theorem own_nwc {c : Int32} (h0 : 0 ≤ c.toInt) (h1 : c.toInt ≤ 65535) : narrow .char (.int c) = .int c := congrArg Value.int (own_i16 h0 h1)
theorem own_char {c : Int32} (h : fits .char (.int c) = true) : 0 ≤ c.toInt ∧ c.toInt ≤ 65535 := by
  have q := rng_char h
  have z : (0 : Int32).toInt = 0 := by decide
  have w : (65535 : Int32).toInt = 65535 := by decide
  simp only [Int32.lt_iff_toInt_lt] at q
  omega
theorem own_charf {c : Int32} (h0 : 0 ≤ c.toInt) (h1 : c.toInt ≤ 65535) : fits .char (.int c) = true := by
  have z : (0 : Int32).toInt = 0 := by decide
  have w : (65535 : Int32).toInt = 65535 := by decide
  simp only [fits, Bool.and_eq_true, decide_eq_true_eq, Int32.le_iff_toInt_le]
  omega
theorem own_shr0 (x : Int32) : (x >>> ((0 : Int32) &&& 31)).toInt = x.toInt := by
  rw [c_ishr x 0 0 (by decide)]; simp
/-- the two bytes of a char, joined -/
theorem own_join {c x y : Int32} (h0 : 0 ≤ c.toInt) (h1 : c.toInt ≤ 65535) (hx : x = (c >>> ((0 : Int32) &&& 31)).toInt8.toInt32) (hy : y = (c >>> ((8 : Int32) &&& 31)).toInt8.toInt32) :
    ((((x &&& (255 : Int32)) <<< ((0 : Int32) &&& 31)) ||| ((y &&& (255 : Int32)) <<< ((8 : Int32) &&& 31))).toUInt32.toUInt16.toUInt32.toInt32) = c := by
  have e0 := own_shr0 c
  have e8 := c_ishr c 8 8 (by decide)
  have b0 := c_i2b (c >>> ((0 : Int32) &&& 31))
  have b8 := c_i2b (c >>> ((8 : Int32) &&& 31))
  rw [← hx] at b0; rw [← hy] at b8
  have m0 := c_mask x 255 8 (by decide) (by decide)
  have m8 := c_mask y 255 8 (by decide) (by decide)
  have s0 := c_ishl (x &&& 255) 0 0 (by decide)
  have s8 := c_ishl (y &&& 255) 8 8 (by decide)
  have p8 : ((2 ^ 8 : Nat) : Int) = 256 := by decide
  have p0 : ((2 ^ 0 : Nat) : Int) = 1 := by decide
  rw [p8] at e8 m0 m8 s8
  rw [p0] at s0
  have r0 := rng32 ((x &&& 255) <<< ((0 : Int32) &&& 31))
  have r8 := rng32 ((y &&& 255) <<< ((8 : Int32) &&& 31))
  have o := c_or' ((x &&& 255) <<< ((0 : Int32) &&& 31)) ((y &&& 255) <<< ((8 : Int32) &&& 31)) 8 (by decide) 256 (by decide)
  have v0 : ((x &&& 255) <<< ((0 : Int32) &&& 31)).toInt = c.toInt % 256 := by omega
  have v8 : ((y &&& 255) <<< ((8 : Int32) &&& 31)).toInt = (c.toInt / 256) * 256 := by omega
  have ro := rng32 (((x &&& 255) <<< ((0 : Int32) &&& 31)) ||| ((y &&& 255) <<< ((8 : Int32) &&& 31)))
  have o' := o (by omega) (by omega) (by omega)
  apply Int32.toInt_inj.mp
  have i := c_i2c (((x &&& 255) <<< ((0 : Int32) &&& 31)) ||| ((y &&& 255) <<< ((8 : Int32) &&& 31)))
  omega
/-- a byte of a Latin-1 string, widened -/
theorem own_lat {c : Int32} (h0 : 0 ≤ c.toInt) (h1 : ¬ (255 : Int32) < c) : ((c.toInt8.toInt32 &&& (255 : Int32)).toUInt32.toUInt16.toUInt32.toInt32) = c := by
  have w : (255 : Int32).toInt = 255 := by decide
  rw [Int32.lt_iff_toInt_lt, w] at h1
  have b := c_i2b c
  have m0 := c_mask c.toInt8.toInt32 255 8 (by decide) (by decide)
  have p8 : ((2 ^ 8 : Nat) : Int) = 256 := by decide
  rw [p8] at m0
  apply Int32.toInt_inj.mp
  have i := c_i2c (c.toInt8.toInt32 &&& 255)
  omega
theorem own_shl1 {q : Int32} {k : Nat} (h : q.toInt = (k : Int)) (hk : k < 100000) : (q <<< ((1 : Int32) &&& 31)).toInt = ((k + k : Nat) : Int) := by
  have s := c_ishl q 1 1 (by decide)
  have p1 : ((2 ^ 1 : Nat) : Int) = 2 := by decide
  have r := rng32 (q <<< ((1 : Int32) &&& 31))
  rw [p1, h] at s
  omega
theorem own_cdl {cd p_ : Int32} {n : Nat} (hcd : cd = 0 ∨ cd = 1) (hp : p_.toInt = (n : Int)) (hn : 1 ≤ n ∧ n < 100000) : ((((p_ - (Int32.ofNat (own_bl cd n))).toUInt32 >>> ((31 : Int32) &&& 31).toUInt32).toInt32).toInt8.toInt32) = cd := by
  have hz : p_ = Int32.ofNat n := own_asN hp
  apply Int32.toInt_inj.mp
  have e := c_iushr (p_ - Int32.ofNat (own_bl cd n)) 31 31 (by decide) (by decide)
  have p31 : ((2 ^ 31 : Nat) : Int) = 2147483648 := by decide
  rw [p31] at e
  have b := c_i2b (((p_ - (Int32.ofNat (own_bl cd n))).toUInt32 >>> ((31 : Int32) &&& 31).toUInt32).toInt32)
  have s := c_isub p_ (Int32.ofNat (own_bl cd n))
  have r := rng32 (p_ - Int32.ofNat (own_bl cd n))
  rcases hcd with rfl | rfl
  · have l : own_bl 0 n = n := by simp [own_bl]
    rw [l] at e b s r ⊢
    rw [Int32.toInt_ofNat_of_lt (by omega), hp] at s
    have z : (0 : Int32).toInt = 0 := by decide
    omega
  · have l : own_bl 1 n = n + n := by simp [own_bl]
    rw [l] at e b s r ⊢
    rw [Int32.toInt_ofNat_of_lt (by omega), hp] at s
    have z : (1 : Int32).toInt = 1 := by decide
    omega
end OwnS

section OwnT
theorem own_bl0 (n : Nat) : own_bl 0 n = n := by simp [own_bl]
theorem own_bl1 (n : Nat) : own_bl 1 n = n + n := by simp [own_bl]
theorem own_by0 (cs : Nat → Int32) (i : Nat) : own_by 0 cs i = (cs i).toInt8.toInt32 := by simp [own_by]
theorem own_by1 (cs : Nat → Int32) (i : Nat) : own_by 1 cs i = own_u16 cs i := by simp [own_by]
theorem own_cb_up (cs f : Nat → Int32) (k j : Nat) : own_cb cs f (k + 1) j = own_upd (own_cb cs f k) k (cs k).toInt8.toInt32 j := by
  simp only [own_cb, own_upd]
  by_cases e : j = k
  · subst e; simp
  · simp only [e, if_false]
    by_cases q : j < k
    · rw [if_pos q, if_pos (by omega)]
    · rw [if_neg q, if_neg (by omega)]
theorem own_narcc (y : Int32) : nar .char (y.toUInt32.toUInt16.toUInt32.toInt32) = y.toUInt32.toUInt16.toUInt32.toInt32 := by
  have a := c_i2c y
  exact own_narc (by omega) (by omega)
theorem own_nw01 {b : Int32} (h : b = 0 ∨ b = 1) : narrow .byte (.int b) = .int b := by rcases h with rfl | rfl <;> rfl
theorem own_f01 {b : Int32} (h : b = 0 ∨ b = 1) : fits .byte (.int b) = true := by rcases h with rfl | rfl <;> rfl
theorem own_c01 {cd : Int32} {P : Prop} (h : (cd = 0 ∧ P) ∨ cd = 1) : cd = 0 ∨ cd = 1 := h.imp (·.1) id
theorem own_ofN {j n : Nat} {p_ : Int32} (hp : p_.toInt = (n : Int)) (hj : j ≤ n) (e : Int32.ofNat j = p_) : j = n := by
  have q := congrArg Int32.toInt e
  have r := rng32 p_
  rw [hp, Int32.toInt_ofNat_of_lt (by omega)] at q
  omega
theorem own_ofNn {j n : Nat} {p_ : Int32} (hp : p_.toInt = (n : Int)) (hj : j ≤ n) (e : ¬ Int32.ofNat j = p_) : j < n := by
  refine Nat.lt_of_le_of_ne hj fun q => e ?_
  rw [q]; exact (own_asN hp).symm
theorem own_toN {n : Nat} (h : n < 100000) : (Int32.ofNat n).toInt = (n : Int) := Int32.toInt_ofNat_of_lt (by omega)
theorem own_nz {p_ : Int32} {n : Nat} (hp : p_.toInt = (n : Int)) (hn : 1 ≤ n) : ¬ p_ = (0 : Int32) := fun q => by
  have z : (0 : Int32).toInt = 0 := by decide
  rw [q, z] at hp; omega
theorem own_nn {p_ : Int32} {n : Nat} (hp : p_.toInt = (n : Int)) : ¬ p_ < (0 : Int32) := by
  have z : (0 : Int32).toInt = 0 := by decide
  rw [Int32.lt_iff_toInt_lt, hp, z]; omega
theorem own_cl {p_ : Int32} {n c : Nat} (hp : p_.toInt = (n : Int)) (hc : n ≤ c) : p_.toNatClampNeg ≤ c := by
  simp [Int32.toNatClampNeg, hp]; omega
end OwnT

theorem own_d5_0 : decode jdk_52_method_21_code 0 = .ok (.iconst 0, 1) := by decide +kernel
theorem own_d5_1 : decode jdk_52_method_21_code 1 = .ok (.istore 5, 2) := by decide +kernel
theorem own_d5_3 : decode jdk_52_method_21_code 3 = .ok (.iload 5, 2) := by decide +kernel
theorem own_d5_5 : decode jdk_52_method_21_code 5 = .ok (.iload 4, 2) := by decide +kernel
theorem own_d5_7 : decode jdk_52_method_21_code 7 = .ok (.if_icmp .ge 37, 3) := by decide +kernel
theorem own_d5_10 : decode jdk_52_method_21_code 10 = .ok (.aload_n 0, 1) := by decide +kernel
theorem own_d5_11 : decode jdk_52_method_21_code 11 = .ok (.iload_n 1, 1) := by decide +kernel
theorem own_d5_12 : decode jdk_52_method_21_code 12 = .ok (.caload, 1) := by decide +kernel
theorem own_d5_13 : decode jdk_52_method_21_code 13 = .ok (.istore 6, 2) := by decide +kernel
theorem own_d5_15 : decode jdk_52_method_21_code 15 = .ok (.iload 6, 2) := by decide +kernel
theorem own_d5_17 : decode jdk_52_method_21_code 17 = .ok (.sipush 255, 3) := by decide +kernel
theorem own_d5_20 : decode jdk_52_method_21_code 20 = .ok (.if_icmp .le 6, 3) := by decide +kernel
theorem own_d5_23 : decode jdk_52_method_21_code 23 = .ok (.iload 5, 2) := by decide +kernel
theorem own_d5_25 : decode jdk_52_method_21_code 25 = .ok (.ireturn, 1) := by decide +kernel
theorem own_d5_26 : decode jdk_52_method_21_code 26 = .ok (.aload_n 2, 1) := by decide +kernel
theorem own_d5_27 : decode jdk_52_method_21_code 27 = .ok (.iload_n 3, 1) := by decide +kernel
theorem own_d5_28 : decode jdk_52_method_21_code 28 = .ok (.iload 6, 2) := by decide +kernel
theorem own_d5_30 : decode jdk_52_method_21_code 30 = .ok (.i2b, 1) := by decide +kernel
theorem own_d5_31 : decode jdk_52_method_21_code 31 = .ok (.bastore, 1) := by decide +kernel
theorem own_d5_32 : decode jdk_52_method_21_code 32 = .ok (.iinc 1 1, 3) := by decide +kernel
theorem own_d5_35 : decode jdk_52_method_21_code 35 = .ok (.iinc 3 1, 3) := by decide +kernel
theorem own_d5_38 : decode jdk_52_method_21_code 38 = .ok (.iinc 5 1, 3) := by decide +kernel
theorem own_d5_41 : decode jdk_52_method_21_code 41 = .ok (.goto (-38), 3) := by decide +kernel
theorem own_d5_44 : decode jdk_52_method_21_code 44 = .ok (.iload 4, 2) := by decide +kernel
theorem own_d5_46 : decode jdk_52_method_21_code 46 = .ok (.ireturn, 1) := by decide +kernel
theorem own_pn0 : plainName "java/lang/StringUTF16" = true := by first | (simp [plainName, overriddenIn]; done) | decide +kernel
theorem own_ef5 (m : MethodId) (x0 : Addr) (x1 : Int32) (x2 : Addr) (x3 : Int32) (x4 : Int32) : entryFrame m #[(.ref x0), (.int x1), (.ref x2), (.int x3), (.int x4)] 7 = mkF m 0 #[.val (.ref x0), .val (.int x1), .val (.ref x2), .val (.int x3), .val (.int x4), .unset, .unset] [] := by first | (simp [entryFrame, mkF, argsToLocals, Value.category]; done) | rfl
def own_Q5 (Z : State) (a1 : Addr) (a2 : Addr) (p_ : Int32) (k1 : ClassId) (k2 : ClassId) (n1 : Nat) (cs : Nat → Int32) (f2 : Nat → Int32) (h0 : Heap) (n0 : Nat) (v : Option Value) (h : Heap) (L : List Loc) : Prop := ∃ (j : Nat), v = some (.int (Int32.ofNat j)) ∧ Fr n0 L ∧ Keep h0 h [a2] ∧ own_A Z h a2 k2 .byte n1 (fun i => .int ((own_cb cs f2 j) i)) ∧ (j ≤ n1 ∧ (∀ q : Nat, q < j → ¬ (255 : Int32) < cs q) ∧ (j < n1 → (255 : Int32) < cs j))
set_option maxRecDepth 65536 in
set_option maxHeartbeats 40000000 in
theorem own_rm5 (l : Launch) (Z : State) (a0 : Array Value) (hw : ∀ d ∈ tables_1, d.before a0 Z = true) (ws : List Jvm.Cond) (a1 : Addr) (a2 : Addr) (p_ : Int32) (k1 : ClassId) (k2 : ClassId) (n1 : Nat) (cs : Nat → Int32) (f2 : Nat → Int32) (h0 : Heap) (n0 : Nat) (Z0 : n0 ≤ h0.size) (q0 : own_A Z h0 a1 k1 .char n1 (fun i => .int (cs i))) (q1 : own_A Z h0 a2 k2 .byte n1 (fun i => .int (f2 i))) (q2 : n0 ≤ a2) (hne : (a1 ≠ a2)) (hp : (p_.toInt = (n1 : Int) ∧ n1 ≤ 4000)) :
    MetFree l (⟨"java/lang/StringUTF16", "compress", "([CI[BII)I"⟩ : MethodName) (head1 (Jvm.Cond.code (⟨"java/lang/StringUTF16", "compress", "([CI[BII)I"⟩ : MethodName) jdk_52_method_21_code 7 (some .int) :: ws) ({ frames := 0, cells := 0, slots := 0, locals := 0 } : Room)) (fun a U => a = #[(.ref a1), (.int (0 : Int32)), (.ref a2), (.int (0 : Int32)), (.int p_)] ∧ Z.Warmed39 U.vm ∧ U.heap = h0) (fun _ _ _ _ _ => True) (fun _ U o U' => ∃ v L, o = .returned v ∧ own_Q5 Z a1 a2 p_ k1 k2 n1 cs f2 h0 n0 v U'.heap L ∧ FrameEnd U o U' L ({ frames := 0, cells := 0, slots := 0, locals := 0 } : Room).cells ({ frames := 0, cells := 0, slots := 0, locals := 0 } : Room).slots) := by
  refine MetFree.of_bodySF (plainFor_of_name own_pn0) hisR ?_
  intro p e s m args below meth c s₁ Bd hml0 hP hK
  obtain ⟨rfl, hZ, hh⟩ := hP
  have hx := Bd.exec
  have hby := Bd.bytes
  have hml : c.maxLocals = 7 := hml0
  have hown : s.vm.findClass "java/lang/StringUTF16" = some m.cls := findClass_of_methodNamed Bd.named
  have hnm := (name_of_methodNamed Bd.named Bd.method).1
  have hnl : meth.locks = false := Bd.notSynchronized
  have X0 : Stand p l e ({ frames := 0, cells := 0, slots := 0, locals := 0 } : Room) s m #[(.ref a1), (.int (0 : Int32)), (.ref a2), (.int (0 : Int32)), (.int p_)] below meth c s₁ [] 0 0 := Stand.of_body Bd
  have e0 : s₁.heap = h0 := by rw [← hh, Bd.state]; rfl
  have N0 := Fr.nil n0
  show own_Go p.tables e below (own_P below s (own_Q5 Z a1 a2 p_ k1 k2 n1 cs f2 h0 n0) ({ frames := 0, cells := 0, slots := 0, locals := 0 } : Room).cells ({ frames := 0, cells := 0, slots := 0, locals := 0 } : Room).slots) _
  refine own_st (fun t_ k_ => castTop (own_ef5 m a1 (0 : Int32) a2 (0 : Int32) p_) k_) ?_
  show own_Go p.tables e below _ (s₁.setTop (mkF m 0 #[.val (.ref a1), .val (.int (0 : Int32)), .val (.ref a2), .val (.int (0 : Int32)), .val (.int p_), .unset, .unset] []))
  refine own_st (fun t_ k_ => XS.iconst X0.here hx rfl (hb hby own_d5_0) k_) ?_
  show own_Go p.tables e below _ (s₁.setTop (mkF m 1 #[.val (.ref a1), .val (.int (0 : Int32)), .val (.ref a2), .val (.int (0 : Int32)), .val (.int p_), .unset, .unset] [(.int (0 : Int32))]))
  refine own_st (fun t_ k_ => XS.istore X0.here hx rfl (hb hby own_d5_1) rfl (l' := #[.val (.ref a1), .val (.int (0 : Int32)), .val (.ref a2), .val (.int (0 : Int32)), .val (.int p_), .val (.int (0 : Int32)), .unset]) rfl k_) ?_
  show own_Go p.tables e below _ (s₁.setTop (mkF m 3 #[.val (.ref a1), .val (.int (0 : Int32)), .val (.ref a2), .val (.int (0 : Int32)), .val (.int p_), .val (.int (0 : Int32)), .unset] []))
  have qb0 : own_A Z h0 a2 k2 .byte n1 (fun i => .int ((own_cb cs f2 0) i)) := q1.congr (fun q _ => by simp [own_cb])
  have loop101 : ∀ (mm : Nat) (k : Nat) (i : Int32) (s6 : Slot) (T101 : State) (Lo101 : List Loc) (h101 : Heap), n1 - k = mm → Stand p l e ({ frames := 0, cells := 0, slots := 0, locals := 0 } : Room) s m #[(.ref a1), (.int (0 : Int32)), (.ref a2), (.int (0 : Int32)), (.int p_)] below meth c T101 Lo101 0 0 → T101.heap = h101 → Fr n0 Lo101 → Keep h0 h101 [a2] → own_A Z h101 a1 k1 .char n1 (fun i => .int (cs i)) → own_A Z h101 a2 k2 .byte n1 (fun i => .int ((own_cb cs f2 k) i)) → (i.toInt = (k : Int)) → (k ≤ n1) → (One s6) → (∀ q : Nat, q < k → ¬ (255 : Int32) < cs q) → own_Go p.tables e below (own_P below s (own_Q5 Z a1 a2 p_ k1 k2 n1 cs f2 h0 n0) ({ frames := 0, cells := 0, slots := 0, locals := 0 } : Room).cells ({ frames := 0, cells := 0, slots := 0, locals := 0 } : Room).slots) (T101.setTop (mkF m 3 #[.val (.ref a1), .val (.int i), .val (.ref a2), .val (.int i), .val (.int p_), .val (.int i), s6] [])) := by
    intro mm
    induction mm using Nat.strongRecOn with
    | _ mm ih101 =>
      intro k i s6 T101 Lo101 h101 hm101 X101 e101 N101 K101 fa101_0 fa101_1 hi hk hs6 hall
      show own_Go p.tables e below _ (T101.setTop (mkF m 3 #[.val (.ref a1), .val (.int i), .val (.ref a2), .val (.int i), .val (.int p_), .val (.int i), s6] []))
      refine own_st (fun t_ k_ => XS.iload X101.here hx rfl (hb hby own_d5_3) rfl k_) ?_
      show own_Go p.tables e below _ (T101.setTop (mkF m 5 #[.val (.ref a1), .val (.int i), .val (.ref a2), .val (.int i), .val (.int p_), .val (.int i), s6] [(.int i)]))
      refine own_st (fun t_ k_ => XS.iload X101.here hx rfl (hb hby own_d5_5) rfl k_) ?_
      show own_Go p.tables e below _ (T101.setTop (mkF m 7 #[.val (.ref a1), .val (.int i), .val (.ref a2), .val (.int i), .val (.int p_), .val (.int i), s6] [(.int p_), (.int i)]))
      by_cases c7_102 : i < p_
      · skip
        have hkn : k < n1 := (own_ltp hi hp.1).mp c7_102
        refine own_st (fun t_ k_ => XS.icmpNo X101.here hx rfl (hb hby own_d5_7) rfl (tlt c7_102).2.1 k_) ?_
        show own_Go p.tables e below _ (T101.setTop (mkF m 10 #[.val (.ref a1), .val (.int i), .val (.ref a2), .val (.int i), .val (.int p_), .val (.int i), s6] []))
        refine own_st (fun t_ k_ => XS.aloadN X101.here hx rfl (hb hby own_d5_10) rfl rfl k_) ?_
        show own_Go p.tables e below _ (T101.setTop (mkF m 11 #[.val (.ref a1), .val (.int i), .val (.ref a2), .val (.int i), .val (.int p_), .val (.int i), s6] [(.ref a1)]))
        refine own_st (fun t_ k_ => XS.iloadN X101.here hx rfl (hb hby own_d5_11) rfl k_) ?_
        show own_Go p.tables e below _ (T101.setTop (mkF m 12 #[.val (.ref a1), .val (.int i), .val (.ref a2), .val (.int i), .val (.int p_), .val (.int i), s6] [(.int i), (.ref a1)]))
        refine own_st (own_caload X101 hx hZ e101 fa101_0 (i := k) hi hkn (g := (mkF m 12 #[.val (.ref a1), .val (.int i), .val (.ref a2), .val (.int i), .val (.int p_), .val (.int i), s6] [(.int i), (.ref a1)])) rfl rfl (hb hby own_d5_12)) ?_
        show own_Go p.tables e below _ (T101.setTop (mkF m 13 #[.val (.ref a1), .val (.int i), .val (.ref a2), .val (.int i), .val (.int p_), .val (.int i), s6] [(.int (cs k))]))
        refine own_st (fun t_ k_ => XS.istoreS X101.here hx rfl (hb hby own_d5_13) rfl rfl hs6 k_) ?_
        show own_Go p.tables e below _ (T101.setTop (mkF m 15 #[.val (.ref a1), .val (.int i), .val (.ref a2), .val (.int i), .val (.int p_), .val (.int i), .val (.int (cs k))] []))
        refine own_st (fun t_ k_ => XS.iload X101.here hx rfl (hb hby own_d5_15) rfl k_) ?_
        show own_Go p.tables e below _ (T101.setTop (mkF m 17 #[.val (.ref a1), .val (.int i), .val (.ref a2), .val (.int i), .val (.int p_), .val (.int i), .val (.int (cs k))] [(.int (cs k))]))
        refine own_st (fun t_ k_ => XS.sipush X101.here hx rfl (hb hby own_d5_17) k_) ?_
        show own_Go p.tables e below _ (T101.setTop (mkF m 20 #[.val (.ref a1), .val (.int i), .val (.ref a2), .val (.int i), .val (.int p_), .val (.int i), .val (.int (cs k))] [(.int (255 : Int32)), (.int (cs k))]))
        by_cases c20_103 : (255 : Int32) < (cs k)
        · skip
          have hle := c20_103
          refine own_st (fun t_ k_ => XS.icmpNo X101.here hx rfl (hb hby own_d5_20) rfl (tlt c20_103).2.2.2 k_) ?_
          show own_Go p.tables e below _ (T101.setTop (mkF m 23 #[.val (.ref a1), .val (.int i), .val (.ref a2), .val (.int i), .val (.int p_), .val (.int i), .val (.int (cs k))] []))
          refine own_st (fun t_ k_ => XS.iload X101.here hx rfl (hb hby own_d5_23) rfl k_) ?_
          show own_Go p.tables e below _ (T101.setTop (mkF m 25 #[.val (.ref a1), .val (.int i), .val (.ref a2), .val (.int i), .val (.int p_), .val (.int i), .val (.int (cs k))] [(.int i)]))
          exact own_ret (w := (.int i)) X101 hx hnl Bd.returns rfl (Or.inl ⟨rfl, by decide, _, rfl⟩) (hb hby own_d5_25) ⟨k, (by rw [own_asN hi]), N101, (by rw [e101]; exact K101), (by rw [e101]; exact fa101_1), ⟨hk, hall, fun _ => hle⟩⟩ (by decide) (by decide)
        · skip
          have hle := c20_103
          refine own_st (fun t_ k_ => XS.icmpYes X101.here hx rfl (pc0 := 20) (pc' := 26) rfl (hb hby own_d5_20) rfl (flt c20_103).2.2.2 (by decide) (by decide) k_) ?_
          show own_Go p.tables e below _ (T101.setTop (mkF m 26 #[.val (.ref a1), .val (.int i), .val (.ref a2), .val (.int i), .val (.int p_), .val (.int i), .val (.int (cs k))] []))
          refine own_st (fun t_ k_ => XS.aloadN X101.here hx rfl (hb hby own_d5_26) rfl rfl k_) ?_
          show own_Go p.tables e below _ (T101.setTop (mkF m 27 #[.val (.ref a1), .val (.int i), .val (.ref a2), .val (.int i), .val (.int p_), .val (.int i), .val (.int (cs k))] [(.ref a2)]))
          refine own_st (fun t_ k_ => XS.iloadN X101.here hx rfl (hb hby own_d5_27) rfl k_) ?_
          show own_Go p.tables e below _ (T101.setTop (mkF m 28 #[.val (.ref a1), .val (.int i), .val (.ref a2), .val (.int i), .val (.int p_), .val (.int i), .val (.int (cs k))] [(.int i), (.ref a2)]))
          refine own_st (fun t_ k_ => XS.iload X101.here hx rfl (hb hby own_d5_28) rfl k_) ?_
          show own_Go p.tables e below _ (T101.setTop (mkF m 30 #[.val (.ref a1), .val (.int i), .val (.ref a2), .val (.int i), .val (.int p_), .val (.int i), .val (.int (cs k))] [(.int (cs k)), (.int i), (.ref a2)]))
          refine own_st (fun t_ k_ => XS.i2b X101.here hx rfl (hb hby own_d5_30) rfl k_) ?_
          show own_Go p.tables e below _ (T101.setTop (mkF m 31 #[.val (.ref a1), .val (.int i), .val (.ref a2), .val (.int i), .val (.int p_), .val (.int i), .val (.int (cs k))] [(.int ((cs k).toInt8.toInt32)), (.int i), (.ref a2)]))
          obtain ⟨T104, h104, X104, e104, W104, Aw104, st104⟩ := own_bastore X101 hx hZ e101 fa101_1 (i := k) hi hkn (own_narb _) (v' := ((cs k).toInt8.toInt32)) (g := (mkF m 31 #[.val (.ref a1), .val (.int i), .val (.ref a2), .val (.int i), .val (.int p_), .val (.int i), .val (.int (cs k))] [(.int ((cs k).toInt8.toInt32)), (.int i), (.ref a2)])) rfl rfl (hb hby own_d5_31)
          have N104 := Fr.snoc X104 N101 q2
          have K104 : Keep h0 h104 [a2] := K101.wr W104 (Or.inl (List.mem_of_getElem? (i := 0) rfl))
          refine own_st (st104) ?_
          show own_Go p.tables e below _ (T104.setTop (mkF m 32 #[.val (.ref a1), .val (.int i), .val (.ref a2), .val (.int i), .val (.int p_), .val (.int i), .val (.int (cs k))] []))
          have Ac105 : own_A Z h104 a2 k2 .byte n1 (fun i => .int ((own_cb cs f2 (k + 1)) i)) := Aw104.congr (fun q _ => by rw [own_cb_up])
          refine own_st (fun t_ k_ => XS.iinc X104.here hx rfl (hb hby own_d5_32) rfl (l' := #[.val (.ref a1), .val (.int (i + (1 : Int32))), .val (.ref a2), .val (.int i), .val (.int p_), .val (.int i), .val (.int (cs k))]) rfl k_) ?_
          show own_Go p.tables e below _ (T104.setTop (mkF m 35 #[.val (.ref a1), .val (.int (i + (1 : Int32))), .val (.ref a2), .val (.int i), .val (.int p_), .val (.int i), .val (.int (cs k))] []))
          refine own_st (fun t_ k_ => XS.iinc X104.here hx rfl (hb hby own_d5_35) rfl (l' := #[.val (.ref a1), .val (.int (i + (1 : Int32))), .val (.ref a2), .val (.int (i + (1 : Int32))), .val (.int p_), .val (.int i), .val (.int (cs k))]) rfl k_) ?_
          show own_Go p.tables e below _ (T104.setTop (mkF m 38 #[.val (.ref a1), .val (.int (i + (1 : Int32))), .val (.ref a2), .val (.int (i + (1 : Int32))), .val (.int p_), .val (.int i), .val (.int (cs k))] []))
          refine own_st (fun t_ k_ => XS.iinc X104.here hx rfl (hb hby own_d5_38) rfl (l' := #[.val (.ref a1), .val (.int (i + (1 : Int32))), .val (.ref a2), .val (.int (i + (1 : Int32))), .val (.int p_), .val (.int (i + (1 : Int32))), .val (.int (cs k))]) rfl k_) ?_
          show own_Go p.tables e below _ (T104.setTop (mkF m 41 #[.val (.ref a1), .val (.int (i + (1 : Int32))), .val (.ref a2), .val (.int (i + (1 : Int32))), .val (.int p_), .val (.int (i + (1 : Int32))), .val (.int (cs k))] []))
          refine own_st (fun t_ k_ => XS.goto X104.here hx rfl (pc0 := 41) (pc' := 3) rfl (hb hby own_d5_41) (by decide) (by decide) k_) ?_
          show own_Go p.tables e below _ (T104.setTop (mkF m 3 #[.val (.ref a1), .val (.int (i + (1 : Int32))), .val (.ref a2), .val (.int (i + (1 : Int32))), .val (.int p_), .val (.int (i + (1 : Int32))), .val (.int (cs k))] []))
          exact ih101 _ (by omega) (k + 1) (i + (1 : Int32)) (.val (.int (cs k))) T104 _ h104 rfl X104 e104 N104 K104 ((fa101_0.other W104 hne)) (Ac105) (own_inc hi (by omega)) (by omega) (One.val rfl) (fun q hq => by by_cases e_ : q = k; exact e_ ▸ hle; exact hall q (by omega))
      · skip
        have hkn : k = n1 := by have q := mt (own_ltp hi hp.1).mpr c7_102; omega
        have Af : own_A Z h101 a2 k2 .byte n1 (fun i => .int ((own_cb cs f2 n1) i)) := fa101_1.congr (fun q _ => by rw [hkn])
        refine own_st (fun t_ k_ => XS.icmpYes X101.here hx rfl (pc0 := 7) (pc' := 44) rfl (hb hby own_d5_7) rfl (flt c7_102).2.1 (by decide) (by decide) k_) ?_
        show own_Go p.tables e below _ (T101.setTop (mkF m 44 #[.val (.ref a1), .val (.int i), .val (.ref a2), .val (.int i), .val (.int p_), .val (.int i), s6] []))
        refine own_st (fun t_ k_ => XS.iload X101.here hx rfl (hb hby own_d5_44) rfl k_) ?_
        show own_Go p.tables e below _ (T101.setTop (mkF m 46 #[.val (.ref a1), .val (.int i), .val (.ref a2), .val (.int i), .val (.int p_), .val (.int i), s6] [(.int p_)]))
        exact own_ret (w := (.int p_)) X101 hx hnl Bd.returns rfl (Or.inl ⟨rfl, by decide, _, rfl⟩) (hb hby own_d5_46) ⟨n1, (by rw [own_asN hp.1]), N101, (by rw [e101]; exact K101), (by rw [e101]; exact Af), ⟨Nat.le_refl _, fun q hq => hall q (by omega), fun h_ => absurd h_ (Nat.lt_irrefl _)⟩⟩ (by decide) (by decide)
  exact loop101 _ 0 (0 : Int32) .unset s₁ _ h0 rfl X0 e0 N0 (Keep.refl h0 [a2]) (q0) (qb0) (by decide) (Nat.zero_le _) One.u (fun q hq => absurd hq (Nat.not_lt_zero _))

theorem own_d6_0 : decode jdk_52_method_15_code 0 = .ok (.iload_n 1, 1) := by decide +kernel
theorem own_d6_1 : decode jdk_52_method_15_code 1 = .ok (.aload_n 0, 1) := by decide +kernel
theorem own_d6_2 : decode jdk_52_method_15_code 2 = .ok (.arraylength, 1) := by decide +kernel
theorem own_d6_3 : decode jdk_52_method_15_code 3 = .ok (.isub, 1) := by decide +kernel
theorem own_d6_4 : decode jdk_52_method_15_code 4 = .ok (.bipush 31, 2) := by decide +kernel
theorem own_d6_6 : decode jdk_52_method_15_code 6 = .ok (.iushr, 1) := by decide +kernel
theorem own_d6_7 : decode jdk_52_method_15_code 7 = .ok (.i2b, 1) := by decide +kernel
theorem own_d6_8 : decode jdk_52_method_15_code 8 = .ok (.ireturn, 1) := by decide +kernel
theorem own_ef6 (m : MethodId) (x0 : Addr) (x1 : Int32) : entryFrame m #[(.ref x0), (.int x1)] 2 = mkF m 0 #[.val (.ref x0), .val (.int x1)] [] := by first | (simp [entryFrame, mkF, argsToLocals, Value.category]; done) | rfl
def own_Q6 (Z : State) (t : Addr) (p_ : Int32) (kt : ClassId) (cd : Int32) (n1 : Nat) (gb : Nat → Int32) (h0 : Heap) (n0 : Nat) (v : Option Value) (h : Heap) (L : List Loc) : Prop := v = some (.int cd) ∧ Fr n0 L ∧ h = h0
set_option maxRecDepth 65536 in
set_option maxHeartbeats 40000000 in
theorem own_rm6 (l : Launch) (Z : State) (a0 : Array Value) (hw : ∀ d ∈ tables_1, d.before a0 Z = true) (ws : List Jvm.Cond) (t : Addr) (p_ : Int32) (kt : ClassId) (cd : Int32) (n1 : Nat) (gb : Nat → Int32) (h0 : Heap) (n0 : Nat) (Z0 : n0 ≤ h0.size) (q0 : own_A Z h0 t kt .byte (own_bl cd n1) (fun i => .int (gb i))) (hcd : (cd = 0 ∨ cd = 1)) (hp : (p_.toInt = (n1 : Int) ∧ 1 ≤ n1 ∧ n1 < 100000)) :
    MetFree l (⟨"java/lang/StringUTF16", "coderFromArrayLen", "([BI)B"⟩ : MethodName) (head1 (Jvm.Cond.code (⟨"java/lang/StringUTF16", "coderFromArrayLen", "([BI)B"⟩ : MethodName) jdk_52_method_15_code 2 (some .byte) :: ws) ({ frames := 0, cells := 0, slots := 0, locals := 0 } : Room)) (fun a U => a = #[(.ref t), (.int p_)] ∧ Z.Warmed39 U.vm ∧ U.heap = h0) (fun _ _ _ _ _ => True) (fun _ U o U' => ∃ v L, o = .returned v ∧ own_Q6 Z t p_ kt cd n1 gb h0 n0 v U'.heap L ∧ FrameEnd U o U' L ({ frames := 0, cells := 0, slots := 0, locals := 0 } : Room).cells ({ frames := 0, cells := 0, slots := 0, locals := 0 } : Room).slots) := by
  refine MetFree.of_bodySF (plainFor_of_name own_pn0) hisR ?_
  intro p e s m args below meth c s₁ Bd hml0 hP hK
  obtain ⟨rfl, hZ, hh⟩ := hP
  have hx := Bd.exec
  have hby := Bd.bytes
  have hml : c.maxLocals = 2 := hml0
  have hown : s.vm.findClass "java/lang/StringUTF16" = some m.cls := findClass_of_methodNamed Bd.named
  have hnm := (name_of_methodNamed Bd.named Bd.method).1
  have hnl : meth.locks = false := Bd.notSynchronized
  have X0 : Stand p l e ({ frames := 0, cells := 0, slots := 0, locals := 0 } : Room) s m #[(.ref t), (.int p_)] below meth c s₁ [] 0 0 := Stand.of_body Bd
  have e0 : s₁.heap = h0 := by rw [← hh, Bd.state]; rfl
  have N0 := Fr.nil n0
  show own_Go p.tables e below (own_P below s (own_Q6 Z t p_ kt cd n1 gb h0 n0) ({ frames := 0, cells := 0, slots := 0, locals := 0 } : Room).cells ({ frames := 0, cells := 0, slots := 0, locals := 0 } : Room).slots) _
  refine own_st (fun t_ k_ => castTop (own_ef6 m t p_) k_) ?_
  show own_Go p.tables e below _ (s₁.setTop (mkF m 0 #[.val (.ref t), .val (.int p_)] []))
  refine own_st (fun t_ k_ => XS.iloadN X0.here hx rfl (hb hby own_d6_0) rfl k_) ?_
  show own_Go p.tables e below _ (s₁.setTop (mkF m 1 #[.val (.ref t), .val (.int p_)] [(.int p_)]))
  refine own_st (fun t_ k_ => XS.aloadN X0.here hx rfl (hb hby own_d6_1) rfl rfl k_) ?_
  show own_Go p.tables e below _ (s₁.setTop (mkF m 2 #[.val (.ref t), .val (.int p_)] [(.ref t), (.int p_)]))
  refine own_st (own_len X0 hx hZ e0 q0 (g := (mkF m 2 #[.val (.ref t), .val (.int p_)] [(.ref t), (.int p_)])) rfl rfl (hb hby own_d6_2)) ?_
  show own_Go p.tables e below _ (s₁.setTop (mkF m 3 #[.val (.ref t), .val (.int p_)] [(.int (Int32.ofNat (own_bl cd n1))), (.int p_)]))
  refine own_st (fun t_ k_ => XS.isub X0.here hx rfl (hb hby own_d6_3) rfl k_) ?_
  show own_Go p.tables e below _ (s₁.setTop (mkF m 4 #[.val (.ref t), .val (.int p_)] [(.int (p_ - (Int32.ofNat (own_bl cd n1))))]))
  refine own_st (fun t_ k_ => XS.bipush X0.here hx rfl (hb hby own_d6_4) k_) ?_
  show own_Go p.tables e below _ (s₁.setTop (mkF m 6 #[.val (.ref t), .val (.int p_)] [(.int (31 : Int32)), (.int (p_ - (Int32.ofNat (own_bl cd n1))))]))
  refine own_st (fun t_ k_ => XS.iushr X0.here hx rfl (hb hby own_d6_6) rfl k_) ?_
  show own_Go p.tables e below _ (s₁.setTop (mkF m 7 #[.val (.ref t), .val (.int p_)] [(.int (((p_ - (Int32.ofNat (own_bl cd n1))).toUInt32 >>> ((31 : Int32) &&& 31).toUInt32).toInt32))]))
  refine own_st (fun t_ k_ => XS.i2b X0.here hx rfl (hb hby own_d6_7) rfl k_) ?_
  show own_Go p.tables e below _ (s₁.setTop (mkF m 8 #[.val (.ref t), .val (.int p_)] [(.int ((((p_ - (Int32.ofNat (own_bl cd n1))).toUInt32 >>> ((31 : Int32) &&& 31).toUInt32).toInt32).toInt8.toInt32))]))
  rw [show ((((p_ - (Int32.ofNat (own_bl cd n1))).toUInt32 >>> ((31 : Int32) &&& 31).toUInt32).toInt32).toInt8.toInt32) = cd from own_cdl hcd hp.1 hp.2]
  show own_Go p.tables e below _ (s₁.setTop (mkF m 8 #[.val (.ref t), .val (.int p_)] [(.int cd)]))
  exact own_ret (w := (.int cd)) X0 hx hnl Bd.returns (own_nw01 hcd) (Or.inl ⟨rfl, by decide, _, rfl⟩) (hb hby own_d6_8) ⟨rfl, N0, e0⟩ (by decide) (by decide)

theorem own_d4_0 : decode jdk_52_method_16_code 0 = .ok (.iload_n 2, 1) := by decide +kernel
theorem own_d4_1 : decode jdk_52_method_16_code 1 = .ok (.newarray .byte, 2) := by decide +kernel
theorem own_d4_3 : decode jdk_52_method_16_code 3 = .ok (.astore_n 3, 1) := by decide +kernel
theorem own_d4_4 : decode jdk_52_method_16_code 4 = .ok (.aload_n 0, 1) := by decide +kernel
theorem own_d4_5 : decode jdk_52_method_16_code 5 = .ok (.iload_n 1, 1) := by decide +kernel
theorem own_d4_6 : decode jdk_52_method_16_code 6 = .ok (.aload_n 3, 1) := by decide +kernel
theorem own_d4_7 : decode jdk_52_method_16_code 7 = .ok (.iconst 0, 1) := by decide +kernel
theorem own_d4_8 : decode jdk_52_method_16_code 8 = .ok (.iload_n 2, 1) := by decide +kernel
theorem own_d4_9 : decode jdk_52_method_16_code 9 = .ok (.invokestatic 115, 3) := by decide +kernel
theorem own_d4_12 : decode jdk_52_method_16_code 12 = .ok (.istore 4, 2) := by decide +kernel
theorem own_d4_14 : decode jdk_52_method_16_code 14 = .ok (.iload 4, 2) := by decide +kernel
theorem own_d4_16 : decode jdk_52_method_16_code 16 = .ok (.iload_n 2, 1) := by decide +kernel
theorem own_d4_17 : decode jdk_52_method_16_code 17 = .ok (.if_icmp .eq 40, 3) := by decide +kernel
theorem own_d4_57 : decode jdk_52_method_16_code 57 = .ok (.aload_n 3, 1) := by decide +kernel
theorem own_d4_58 : decode jdk_52_method_16_code 58 = .ok (.areturn, 1) := by decide +kernel
theorem own_pd0 : parseMethodDescriptor "([CI[BII)I" = some ⟨[(.array .char), .int, (.array .byte), .int, .int], some .int⟩ := by decide +kernel
theorem own_ef4 (m : MethodId) (x0 : Addr) (x1 : Int32) (x2 : Int32) : entryFrame m #[(.ref x0), (.int x1), (.int x2)] 6 = mkF m 0 #[.val (.ref x0), .val (.int x1), .val (.int x2), .unset, .unset, .unset] [] := by first | (simp [entryFrame, mkF, argsToLocals, Value.category]; done) | rfl
def own_Q4 (Z : State) (a1 : Addr) (p_ : Int32) (k1 : ClassId) (n1 : Nat) (cs : Nat → Int32) (h0 : Heap) (n0 : Nat) (v : Option Value) (h : Heap) (L : List Loc) : Prop := ∃ (t : Addr) (kt : ClassId) (cd : Int32), v = some (.ref t) ∧ Fr n0 L ∧ Keep h0 h [] ∧ h0.size ≤ t ∧ own_A Z h t kt .byte (own_bl cd n1) (fun i => .int ((own_by cd cs) i)) ∧ ((cd = 0 ∧ ∀ q : Nat, q < n1 → ¬ (255 : Int32) < cs q) ∨ cd = 1)
set_option maxRecDepth 65536 in
set_option maxHeartbeats 40000000 in
theorem own_rm4 (l : Launch) (Z : State) (a0 : Array Value) (hw : ∀ d ∈ tables_1, d.before a0 Z = true) (ws : List Jvm.Cond) (a1 : Addr) (p_ : Int32) (k1 : ClassId) (n1 : Nat) (cs : Nat → Int32) (h0 : Heap) (n0 : Nat) (Z0 : n0 ≤ h0.size) (q0 : own_A Z h0 a1 k1 .char n1 (fun i => .int (cs i))) (hp : (p_.toInt = (n1 : Int) ∧ 1 ≤ n1 ∧ n1 ≤ 2)) (hlat : (∀ q : Nat, q < n1 → ¬ (255 : Int32) < cs q)) :
    MetFree l (⟨"java/lang/StringUTF16", "compress", "([CII)[B"⟩ : MethodName) (head1 (Jvm.Cond.code (⟨"java/lang/StringUTF16", "compress", "([CII)[B"⟩ : MethodName) jdk_52_method_16_code 6 (some (.array .byte)) :: ws) ({ frames := 1, cells := 1, slots := 2, locals := 18 } : Room)) (fun a U => a = #[(.ref a1), (.int (0 : Int32)), (.int p_)] ∧ Z.Warmed39 U.vm ∧ U.heap = h0) (fun _ _ _ _ _ => True) (fun _ U o U' => ∃ v L, o = .returned v ∧ own_Q4 Z a1 p_ k1 n1 cs h0 n0 v U'.heap L ∧ FrameEnd U o U' L ({ frames := 1, cells := 1, slots := 2, locals := 18 } : Room).cells ({ frames := 1, cells := 1, slots := 2, locals := 18 } : Room).slots) := by
  refine MetFree.of_bodySF (plainFor_of_name own_pn0) hisR ?_
  intro p e s m args below meth c s₁ Bd hml0 hP hK
  obtain ⟨rfl, hZ, hh⟩ := hP
  have hx := Bd.exec
  have hby := Bd.bytes
  have hml : c.maxLocals = 6 := hml0
  have hown : s.vm.findClass "java/lang/StringUTF16" = some m.cls := findClass_of_methodNamed Bd.named
  have hnm := (name_of_methodNamed Bd.named Bd.method).1
  have hnl : meth.locks = false := Bd.notSynchronized
  have X0 : Stand p l e ({ frames := 1, cells := 1, slots := 2, locals := 18 } : Room) s m #[(.ref a1), (.int (0 : Int32)), (.int p_)] below meth c s₁ [] 0 0 := Stand.of_body Bd
  have e0 : s₁.heap = h0 := by rw [← hh, Bd.state]; rfl
  have N0 := Fr.nil n0
  show own_Go p.tables e below (own_P below s (own_Q4 Z a1 p_ k1 n1 cs h0 n0) ({ frames := 1, cells := 1, slots := 2, locals := 18 } : Room).cells ({ frames := 1, cells := 1, slots := 2, locals := 18 } : Room).slots) _
  refine own_st (fun t_ k_ => castTop (own_ef4 m a1 (0 : Int32) p_) k_) ?_
  show own_Go p.tables e below _ (s₁.setTop (mkF m 0 #[.val (.ref a1), .val (.int (0 : Int32)), .val (.int p_), .unset, .unset, .unset] []))
  refine own_st (fun t_ k_ => XS.iloadN X0.here hx rfl (hb hby own_d4_0) rfl k_) ?_
  show own_Go p.tables e below _ (s₁.setTop (mkF m 1 #[.val (.ref a1), .val (.int (0 : Int32)), .val (.int p_), .unset, .unset, .unset] [(.int p_)]))
  obtain ⟨T106, h106, k106, X106, e106, E106, A106, st106⟩ := newP X0 hx hZ (hw _ (List.mem_of_getElem? (i := 20) rfl)) e0 (g := (mkF m 1 #[.val (.ref a1), .val (.int (0 : Int32)), .val (.int p_), .unset, .unset, .unset] [(.int p_)])) rfl (hb hby own_d4_1) rfl (own_nn hp.1) (cap := 2) (own_cl hp.1 hp.2.2) (by decide) (by decide) (by decide)
  obtain ⟨b106, g106⟩ : ∃ z, z = h0.size := ⟨_, rfl⟩
  rw [← g106] at A106 st106
  have fr106 : h0.size ≤ b106 := Nat.le_trans (Keep.refl h0 []).1 (Nat.le_of_eq g106.symm)
  have ge106 : n0 ≤ b106 := Nat.le_trans Z0 fr106
  have K106 : Keep h0 h106 [] := (Keep.refl h0 []).ext E106
  have Ar106 : own_A Z h106 b106 k106 .byte n1 (fun i => .int ((fun _ => (0 : Int32)) i)) := own_A.new A106 (own_asN hp.1) (own_nn hp.1) (hn := by omega)
  refine own_st (st106) ?_
  show own_Go p.tables e below _ (T106.setTop (mkF m 3 #[.val (.ref a1), .val (.int (0 : Int32)), .val (.int p_), .unset, .unset, .unset] [(.ref b106)]))
  refine own_st (fun t_ k_ => XS.astoreN X106.here hx rfl (hb hby own_d4_3) rfl rfl (l' := #[.val (.ref a1), .val (.int (0 : Int32)), .val (.int p_), .val (.ref b106), .unset, .unset]) rfl k_) ?_
  show own_Go p.tables e below _ (T106.setTop (mkF m 4 #[.val (.ref a1), .val (.int (0 : Int32)), .val (.int p_), .val (.ref b106), .unset, .unset] []))
  refine own_st (fun t_ k_ => XS.aloadN X106.here hx rfl (hb hby own_d4_4) rfl rfl k_) ?_
  show own_Go p.tables e below _ (T106.setTop (mkF m 5 #[.val (.ref a1), .val (.int (0 : Int32)), .val (.int p_), .val (.ref b106), .unset, .unset] [(.ref a1)]))
  refine own_st (fun t_ k_ => XS.iloadN X106.here hx rfl (hb hby own_d4_5) rfl k_) ?_
  show own_Go p.tables e below _ (T106.setTop (mkF m 6 #[.val (.ref a1), .val (.int (0 : Int32)), .val (.int p_), .val (.ref b106), .unset, .unset] [(.int (0 : Int32)), (.ref a1)]))
  refine own_st (fun t_ k_ => XS.aloadN X106.here hx rfl (hb hby own_d4_6) rfl rfl k_) ?_
  show own_Go p.tables e below _ (T106.setTop (mkF m 7 #[.val (.ref a1), .val (.int (0 : Int32)), .val (.int p_), .val (.ref b106), .unset, .unset] [(.ref b106), (.int (0 : Int32)), (.ref a1)]))
  refine own_st (fun t_ k_ => XS.iconst X106.here hx rfl (hb hby own_d4_7) k_) ?_
  show own_Go p.tables e below _ (T106.setTop (mkF m 8 #[.val (.ref a1), .val (.int (0 : Int32)), .val (.int p_), .val (.ref b106), .unset, .unset] [(.int (0 : Int32)), (.ref b106), (.int (0 : Int32)), (.ref a1)]))
  refine own_st (fun t_ k_ => XS.iloadN X106.here hx rfl (hb hby own_d4_8) rfl k_) ?_
  show own_Go p.tables e below _ (T106.setTop (mkF m 9 #[.val (.ref a1), .val (.int (0 : Int32)), .val (.int p_), .val (.ref b106), .unset, .unset] [(.int p_), (.int (0 : Int32)), (.ref b106), (.int (0 : Int32)), (.ref a1)]))
  obtain ⟨_, _, ⟨T107, L107, k107, n107⟩, -, X107, ⟨Lc107, hQ107, l107, y107, z107⟩, st107⟩ := Jvm.LawKit.callS X106 hx (y := (⟨"java/lang/StringUTF16", "compress", "([CI[BII)I"⟩ : MethodName)) hown (mvT hZ (hw _ (List.mem_of_getElem? (i := 21) rfl))) (mvT hZ (hw _ (List.mem_of_getElem? (i := 22) rfl))) (mvT hZ (hw _ (List.mem_of_getElem? (i := 18) rfl))) (mvT hZ (hw _ (List.mem_of_getElem? (i := 23) rfl))) (by decide) (backOf (W := 0) (own_rm5 l Z a0 hw [] a1 b106 p_ k1 k106 n1 cs (fun _ => (0 : Int32)) h106 n0 (Nat.le_trans Z0 K106.1) (q0.ext E106) Ar106 ge106 (Nat.ne_of_lt (Nat.lt_of_lt_of_le q0.lt (Nat.le_of_eq g106.symm))) ⟨hp.1, (by omega)⟩) hZ (hw _ (List.mem_of_getElem? (i := 23) rfl)) (hw _ (List.mem_of_getElem? (i := 18) rfl)) (by decide) (by decide)) (g := (mkF m 9 #[.val (.ref a1), .val (.int (0 : Int32)), .val (.int p_), .val (.ref b106), .unset, .unset] [(.int p_), (.int (0 : Int32)), (.ref b106), (.int (0 : Int32)), (.ref a1)])) rfl (by rw [hml]; rfl) (argsL := [(.ref a1), (.int (0 : Int32)), (.ref b106), (.int (0 : Int32)), (.int p_)]) (rest := []) (lenOf own_pd0 rfl) rfl (by show 2 * 0 + _ ≤ _; exact Nat.le_of_eq rfl) (hb hby own_d4_9) (fun _ _ => ⟨rfl, e106, (by decide : 1 + 0 ≤ _), (by decide : 2 + 0 ≤ _)⟩)
  dsimp only [Pt.U, Pt.locs, Pt.cells, Pt.slots] at X107 l107 y107 z107 st107 hQ107
  subst l107 y107 z107
  obtain ⟨j_107, rfl, N107q, Kq107, P107_0, P107_1⟩ := hQ107
  have N107 := Fr.app N0 N107q
  have K107 : Keep h0 T107.heap [] := K106.trans Kq107 (allS (P := fun x => x ∈ [] ∨ h0.size ≤ x) (Or.inr fr106) all0)
  refine own_st (st107) ?_
  show own_Go p.tables e below _ (T107.setTop (mkF m 12 #[.val (.ref a1), .val (.int (0 : Int32)), .val (.int p_), .val (.ref b106), .unset, .unset] [(.int (Int32.ofNat j_107))]))
  have hj := P107_1
  refine own_st (fun t_ k_ => XS.istore X107.here hx rfl (hb hby own_d4_12) rfl (l' := #[.val (.ref a1), .val (.int (0 : Int32)), .val (.int p_), .val (.ref b106), .val (.int (Int32.ofNat j_107)), .unset]) rfl k_) ?_
  show own_Go p.tables e below _ (T107.setTop (mkF m 14 #[.val (.ref a1), .val (.int (0 : Int32)), .val (.int p_), .val (.ref b106), .val (.int (Int32.ofNat j_107)), .unset] []))
  refine own_st (fun t_ k_ => XS.iload X107.here hx rfl (hb hby own_d4_14) rfl k_) ?_
  show own_Go p.tables e below _ (T107.setTop (mkF m 16 #[.val (.ref a1), .val (.int (0 : Int32)), .val (.int p_), .val (.ref b106), .val (.int (Int32.ofNat j_107)), .unset] [(.int (Int32.ofNat j_107))]))
  refine own_st (fun t_ k_ => XS.iloadN X107.here hx rfl (hb hby own_d4_16) rfl k_) ?_
  show own_Go p.tables e below _ (T107.setTop (mkF m 17 #[.val (.ref a1), .val (.int (0 : Int32)), .val (.int p_), .val (.ref b106), .val (.int (Int32.ofNat j_107)), .unset] [(.int p_), (.int (Int32.ofNat j_107))]))
  refine own_st (fun t_ k_ => XS.icmpYes X107.here hx rfl (pc0 := 17) (pc' := 57) rfl (hb hby own_d4_17) rfl (teq (by have e_ : j_107 = n1 := (by rcases Nat.lt_or_eq_of_le hj.1 with q_ | q_; exact absurd (hj.2.2 q_) (hlat _ q_); exact q_); rw [e_]; exact (own_asN hp.1).symm : (Int32.ofNat j_107) = p_)).1 (by decide) (by decide) k_) ?_
  show own_Go p.tables e below _ (T107.setTop (mkF m 57 #[.val (.ref a1), .val (.int (0 : Int32)), .val (.int p_), .val (.ref b106), .val (.int (Int32.ofNat j_107)), .unset] []))
  have ej : j_107 = n1 := (by rcases Nat.lt_or_eq_of_le hj.1 with q_ | q_; exact absurd (hj.2.2 q_) (hlat _ q_); exact q_)
  have Al : own_A Z T107.heap b106 k106 .byte (own_bl (0 : Int32) n1) (fun i => .int ((own_by (0 : Int32) cs) i)) := by rw [own_bl0]; exact (P107_0).congr (fun q hq => by rw [own_by0]; simp only [own_cb]; rw [if_pos (by omega)])
  refine own_st (fun t_ k_ => XS.aloadN X107.here hx rfl (hb hby own_d4_57) rfl rfl k_) ?_
  show own_Go p.tables e below _ (T107.setTop (mkF m 58 #[.val (.ref a1), .val (.int (0 : Int32)), .val (.int p_), .val (.ref b106), .val (.int (Int32.ofNat j_107)), .unset] [(.ref b106)]))
  exact own_ret (w := (.ref b106)) X107 hx hnl Bd.returns rfl (Or.inr (Or.inr (Or.inr (Or.inr ⟨rfl, rfl, rfl⟩)))) (hb hby own_d4_58) ⟨b106, k106, (0 : Int32), rfl, N107, (K107), fr106, (Al), (Or.inl ⟨rfl, fun q hq => hj.2.1 q (by omega)⟩)⟩ (by decide) (by decide)

theorem own_d2_0 : decode jdk_42_method_149_code 0 = .ok (.aload_n 0, 1) := by decide +kernel
theorem own_d2_1 : decode jdk_42_method_149_code 1 = .ok (.invokespecial 1, 3) := by decide +kernel
theorem own_d2_4 : decode jdk_42_method_149_code 4 = .ok (.iload_n 3, 1) := by decide +kernel
theorem own_d2_5 : decode jdk_42_method_149_code 5 = .ok (.ifCond .ne 22, 3) := by decide +kernel
theorem own_d2_27 : decode jdk_42_method_149_code 27 = .ok (.getstatic 38, 3) := by decide +kernel
theorem own_d2_30 : decode jdk_42_method_149_code 30 = .ok (.ifCond .eq 28, 3) := by decide +kernel
theorem own_d2_33 : decode jdk_42_method_149_code 33 = .ok (.aload_n 1, 1) := by decide +kernel
theorem own_d2_34 : decode jdk_42_method_149_code 34 = .ok (.iload_n 2, 1) := by decide +kernel
theorem own_d2_35 : decode jdk_42_method_149_code 35 = .ok (.iload_n 3, 1) := by decide +kernel
theorem own_d2_36 : decode jdk_42_method_149_code 36 = .ok (.invokestatic 177, 3) := by decide +kernel
theorem own_d2_39 : decode jdk_42_method_149_code 39 = .ok (.astore 5, 2) := by decide +kernel
theorem own_d2_41 : decode jdk_42_method_149_code 41 = .ok (.aload_n 0, 1) := by decide +kernel
theorem own_d2_42 : decode jdk_42_method_149_code 42 = .ok (.aload 5, 2) := by decide +kernel
theorem own_d2_44 : decode jdk_42_method_149_code 44 = .ok (.iload_n 3, 1) := by decide +kernel
theorem own_d2_45 : decode jdk_42_method_149_code 45 = .ok (.invokestatic 47, 3) := by decide +kernel
theorem own_d2_48 : decode jdk_42_method_149_code 48 = .ok (.putfield 15, 3) := by decide +kernel
theorem own_d2_51 : decode jdk_42_method_149_code 51 = .ok (.aload_n 0, 1) := by decide +kernel
theorem own_d2_52 : decode jdk_42_method_149_code 52 = .ok (.aload 5, 2) := by decide +kernel
theorem own_d2_54 : decode jdk_42_method_149_code 54 = .ok (.putfield 9, 3) := by decide +kernel
theorem own_d2_57 : decode jdk_42_method_149_code 57 = .ok (.return_, 1) := by decide +kernel
theorem own_pn1 : plainName "java/lang/String" = true := by first | (simp [plainName, overriddenIn]; done) | decide +kernel
theorem own_pd1 : parseMethodDescriptor "([CII)[B" = some ⟨[(.array .char), .int, .int], some (.array .byte)⟩ := by decide +kernel
theorem own_pd2 : parseMethodDescriptor "([BI)B" = some ⟨[(.array .byte), .int], some .byte⟩ := by decide +kernel
theorem own_ef2 (m : MethodId) (x0 : Addr) (x1 : Addr) (x2 : Int32) (x3 : Int32) : entryFrame m #[(.ref x0), (.ref x1), (.int x2), (.int x3), .null] 6 = mkF m 0 #[.val (.ref x0), .val (.ref x1), .val (.int x2), .val (.int x3), .val .null, .unset] [] := by first | (simp [entryFrame, mkF, argsToLocals, Value.category]; done) | rfl
def own_Q2 (Z : State) (a1 : Addr) (b1 : Addr) (p_ : Int32) (k1 : ClassId) (n1 : Nat) (cs : Nat → Int32) (G1 : Int32) (h0 : Heap) (n0 : Nat) (v : Option Value) (h : Heap) (L : List Loc) : Prop := ∃ (t : Addr) (kt : ClassId) (cd : Int32), v = none ∧ Fr n0 L ∧ Keep h0 h [a1] ∧ h0.size ≤ t ∧ Fld Z h a1 "java/lang/String" "value" "[B" (.ref t) ∧ Fld Z h a1 "java/lang/String" "coder" "B" (.int cd) ∧ own_A Z h t kt .byte (own_bl cd n1) (fun i => .int ((own_by cd cs) i)) ∧ ((cd = 0 ∧ ∀ q : Nat, q < n1 → ¬ (255 : Int32) < cs q) ∨ cd = 1)
set_option maxRecDepth 65536 in
set_option maxHeartbeats 40000000 in
theorem own_rm2 (l : Launch) (Z : State) (a0 : Array Value) (hw : ∀ d ∈ tables_1, d.before a0 Z = true) (ws : List Jvm.Cond) (a1 : Addr) (b1 : Addr) (p_ : Int32) (k1 : ClassId) (n1 : Nat) (cs : Nat → Int32) (G1 : Int32) (h0 : Heap) (n0 : Nat) (Z0 : n0 ≤ h0.size) (q0 : Exa Z h0 a1 "java/lang/String") (q1 : Fld Z h0 a1 "java/lang/String" "value" "[B" .null) (q2 : Fld Z h0 a1 "java/lang/String" "coder" "B" (.int (0 : Int32))) (q3 : own_A Z h0 b1 k1 .char n1 (fun i => .int (cs i))) (q4 : n0 ≤ a1) (hne : (a1 ≠ b1)) (hp : (p_.toInt = (n1 : Int) ∧ 1 ≤ n1 ∧ n1 ≤ 2)) (hlat : (∀ q : Nat, q < n1 → ¬ (255 : Int32) < cs q)) (q8 : Old Z n0 h0) (q9 : Sta Z Z.heap "java/lang/String" "COMPACT_STRINGS" "Z" (.int G1)) (hG1 : (¬ G1 = (0 : Int32))) :
    MetFree l (⟨"java/lang/String", "<init>", "([CIILjava/lang/Void;)V"⟩ : MethodName) (head1 (Jvm.Cond.code (⟨"java/lang/String", "<init>", "([CIILjava/lang/Void;)V"⟩ : MethodName) jdk_42_method_149_code 6 none :: ws) ({ frames := 2, cells := 1, slots := 2, locals := 35 } : Room)) (fun a U => a = #[(.ref a1), (.ref b1), (.int (0 : Int32)), (.int p_), .null] ∧ Z.Warmed39 U.vm ∧ U.heap = h0) (fun _ _ _ _ _ => True) (fun _ U o U' => ∃ v L, o = .returned v ∧ own_Q2 Z a1 b1 p_ k1 n1 cs G1 h0 n0 v U'.heap L ∧ FrameEnd U o U' L ({ frames := 2, cells := 1, slots := 2, locals := 35 } : Room).cells ({ frames := 2, cells := 1, slots := 2, locals := 35 } : Room).slots) := by
  refine MetFree.of_bodySF (plainFor_of_name own_pn1) hisR ?_
  intro p e s m args below meth c s₁ Bd hml0 hP hK
  obtain ⟨rfl, hZ, hh⟩ := hP
  have hx := Bd.exec
  have hby := Bd.bytes
  have hml : c.maxLocals = 6 := hml0
  have hown : s.vm.findClass "java/lang/String" = some m.cls := findClass_of_methodNamed Bd.named
  have hnm := (name_of_methodNamed Bd.named Bd.method).1
  have hnl : meth.locks = false := Bd.notSynchronized
  have X0 : Stand p l e ({ frames := 2, cells := 1, slots := 2, locals := 35 } : Room) s m #[(.ref a1), (.ref b1), (.int (0 : Int32)), (.int p_), .null] below meth c s₁ [] 0 0 := Stand.of_body Bd
  have e0 : s₁.heap = h0 := by rw [← hh, Bd.state]; rfl
  have N0 := Fr.nil n0
  show own_Go p.tables e below (own_P below s (own_Q2 Z a1 b1 p_ k1 n1 cs G1 h0 n0) ({ frames := 2, cells := 1, slots := 2, locals := 35 } : Room).cells ({ frames := 2, cells := 1, slots := 2, locals := 35 } : Room).slots) _
  refine own_st (fun t_ k_ => castTop (own_ef2 m a1 b1 (0 : Int32) p_) k_) ?_
  show own_Go p.tables e below _ (s₁.setTop (mkF m 0 #[.val (.ref a1), .val (.ref b1), .val (.int (0 : Int32)), .val (.int p_), .val .null, .unset] []))
  refine own_st (fun t_ k_ => XS.aloadN X0.here hx rfl (hb hby own_d2_0) rfl rfl k_) ?_
  show own_Go p.tables e below _ (s₁.setTop (mkF m 1 #[.val (.ref a1), .val (.ref b1), .val (.int (0 : Int32)), .val (.int p_), .val .null, .unset] [(.ref a1)]))
  obtain ⟨T108, X108, e108, st108⟩ := initO X0 hx hZ hown (hw _ (List.mem_of_getElem? (i := 12) rfl)) (hw _ (List.mem_of_getElem? (i := 13) rfl)) (hw _ (List.mem_of_getElem? (i := 14) rfl)) e0 (g := (mkF m 1 #[.val (.ref a1), .val (.ref b1), .val (.int (0 : Int32)), .val (.int p_), .val .null, .unset] [(.ref a1)])) rfl (by rw [hml]; rfl) rfl (hb hby own_d2_1) (by decide) (W := 0) (by show 2 * 0 + _ ≤ _; exact Nat.le_of_eq rfl) (by decide)
  refine own_st (st108) ?_
  show own_Go p.tables e below _ (T108.setTop (mkF m 4 #[.val (.ref a1), .val (.ref b1), .val (.int (0 : Int32)), .val (.int p_), .val .null, .unset] []))
  refine own_st (fun t_ k_ => XS.iloadN X108.here hx rfl (hb hby own_d2_4) rfl k_) ?_
  show own_Go p.tables e below _ (T108.setTop (mkF m 5 #[.val (.ref a1), .val (.ref b1), .val (.int (0 : Int32)), .val (.int p_), .val .null, .unset] [(.int p_)]))
  refine own_st (fun t_ k_ => XS.ifYes X108.here hx rfl (pc0 := 5) (pc' := 27) rfl (hb hby own_d2_5) rfl ((if0 _ _).trans (feq (own_nz hp.1 hp.2.1)).2) (by decide) (by decide) k_) ?_
  show own_Go p.tables e below _ (T108.setTop (mkF m 27 #[.val (.ref a1), .val (.ref b1), .val (.int (0 : Int32)), .val (.int p_), .val .null, .unset] []))
  obtain ⟨T109, X109, e109, st109⟩ := getS2 X108 hx hZ hown (host := "") (Or.inl (hw _ (List.mem_of_getElem? (i := 15) rfl))) Via.refl e108 (q9.ext q8.2) (g := (mkF m 27 #[.val (.ref a1), .val (.ref b1), .val (.int (0 : Int32)), .val (.int p_), .val .null, .unset] [])) rfl (hb hby own_d2_27)
  refine own_st (st109) ?_
  show own_Go p.tables e below _ (T109.setTop (mkF m 30 #[.val (.ref a1), .val (.ref b1), .val (.int (0 : Int32)), .val (.int p_), .val .null, .unset] [(.int G1)]))
  refine own_st (fun t_ k_ => XS.ifNo X109.here hx rfl (hb hby own_d2_30) rfl ((if0 _ _).trans (feq hG1).1) k_) ?_
  show own_Go p.tables e below _ (T109.setTop (mkF m 33 #[.val (.ref a1), .val (.ref b1), .val (.int (0 : Int32)), .val (.int p_), .val .null, .unset] []))
  refine own_st (fun t_ k_ => XS.aloadN X109.here hx rfl (hb hby own_d2_33) rfl rfl k_) ?_
  show own_Go p.tables e below _ (T109.setTop (mkF m 34 #[.val (.ref a1), .val (.ref b1), .val (.int (0 : Int32)), .val (.int p_), .val .null, .unset] [(.ref b1)]))
  refine own_st (fun t_ k_ => XS.iloadN X109.here hx rfl (hb hby own_d2_34) rfl k_) ?_
  show own_Go p.tables e below _ (T109.setTop (mkF m 35 #[.val (.ref a1), .val (.ref b1), .val (.int (0 : Int32)), .val (.int p_), .val .null, .unset] [(.int (0 : Int32)), (.ref b1)]))
  refine own_st (fun t_ k_ => XS.iloadN X109.here hx rfl (hb hby own_d2_35) rfl k_) ?_
  show own_Go p.tables e below _ (T109.setTop (mkF m 36 #[.val (.ref a1), .val (.ref b1), .val (.int (0 : Int32)), .val (.int p_), .val .null, .unset] [(.int p_), (.int (0 : Int32)), (.ref b1)]))
  obtain ⟨_, _, ⟨T110, L110, k110, n110⟩, -, X110, ⟨Lc110, hQ110, l110, y110, z110⟩, st110⟩ := Jvm.LawKit.callS X109 hx (y := (⟨"java/lang/StringUTF16", "compress", "([CII)[B"⟩ : MethodName)) hown (mvT hZ (hw _ (List.mem_of_getElem? (i := 16) rfl))) (mvT hZ (hw _ (List.mem_of_getElem? (i := 17) rfl))) (mvT hZ (hw _ (List.mem_of_getElem? (i := 18) rfl))) (mvT hZ (hw _ (List.mem_of_getElem? (i := 19) rfl))) (by decide) (backOf (W := 0) (own_rm4 l Z a0 hw [] b1 p_ k1 n1 cs h0 n0 (Nat.le_trans Z0 (Keep.refl h0 [a1]).1) q3 ⟨hp.1, hp.2.1, hp.2.2⟩ hlat) hZ (hw _ (List.mem_of_getElem? (i := 19) rfl)) (hw _ (List.mem_of_getElem? (i := 18) rfl)) (by decide) (by decide)) (g := (mkF m 36 #[.val (.ref a1), .val (.ref b1), .val (.int (0 : Int32)), .val (.int p_), .val .null, .unset] [(.int p_), (.int (0 : Int32)), (.ref b1)])) rfl (by rw [hml]; rfl) (argsL := [(.ref b1), (.int (0 : Int32)), (.int p_)]) (rest := []) (lenOf own_pd1 rfl) rfl (by show 2 * 0 + _ ≤ _; exact Nat.le_of_eq rfl) (hb hby own_d2_36) (fun _ _ => ⟨rfl, e109, (by decide : 0 + 1 ≤ _), (by decide : 0 + 2 ≤ _)⟩)
  dsimp only [Pt.U, Pt.locs, Pt.cells, Pt.slots] at X110 l110 y110 z110 st110 hQ110
  subst l110 y110 z110
  obtain ⟨t_110, kt_110, cd_110, rfl, N110q, Kq110, P110_0, P110_1, P110_2⟩ := hQ110
  have N110 := Fr.app N0 N110q
  have K110 : Keep h0 T110.heap [a1] := (Keep.refl h0 [a1]).trans Kq110 all0
  have fr110_0 : h0.size ≤ t_110 := Nat.le_trans (Keep.refl h0 [a1]).1 P110_0
  have ge110_0 : n0 ≤ t_110 := Nat.le_trans Z0 fr110_0
  refine own_st (st110) ?_
  show own_Go p.tables e below _ (T110.setTop (mkF m 39 #[.val (.ref a1), .val (.ref b1), .val (.int (0 : Int32)), .val (.int p_), .val .null, .unset] [(.ref t_110)]))
  refine own_st (fun t_ k_ => XS.astore X110.here hx rfl (hb hby own_d2_39) rfl rfl (l' := #[.val (.ref a1), .val (.ref b1), .val (.int (0 : Int32)), .val (.int p_), .val .null, .val (.ref t_110)]) rfl k_) ?_
  show own_Go p.tables e below _ (T110.setTop (mkF m 41 #[.val (.ref a1), .val (.ref b1), .val (.int (0 : Int32)), .val (.int p_), .val .null, .val (.ref t_110)] []))
  refine own_st (fun t_ k_ => XS.aloadN X110.here hx rfl (hb hby own_d2_41) rfl rfl k_) ?_
  show own_Go p.tables e below _ (T110.setTop (mkF m 42 #[.val (.ref a1), .val (.ref b1), .val (.int (0 : Int32)), .val (.int p_), .val .null, .val (.ref t_110)] [(.ref a1)]))
  refine own_st (fun t_ k_ => XS.aload X110.here hx rfl (hb hby own_d2_42) rfl rfl k_) ?_
  show own_Go p.tables e below _ (T110.setTop (mkF m 44 #[.val (.ref a1), .val (.ref b1), .val (.int (0 : Int32)), .val (.int p_), .val .null, .val (.ref t_110)] [(.ref t_110), (.ref a1)]))
  refine own_st (fun t_ k_ => XS.iloadN X110.here hx rfl (hb hby own_d2_44) rfl k_) ?_
  show own_Go p.tables e below _ (T110.setTop (mkF m 45 #[.val (.ref a1), .val (.ref b1), .val (.int (0 : Int32)), .val (.int p_), .val .null, .val (.ref t_110)] [(.int p_), (.ref t_110), (.ref a1)]))
  obtain ⟨_, _, ⟨T111, L111, k111, n111⟩, -, X111, ⟨Lc111, hQ111, l111, y111, z111⟩, st111⟩ := Jvm.LawKit.callS X110 hx (y := (⟨"java/lang/StringUTF16", "coderFromArrayLen", "([BI)B"⟩ : MethodName)) hown (mvT hZ (hw _ (List.mem_of_getElem? (i := 24) rfl))) (mvT hZ (hw _ (List.mem_of_getElem? (i := 25) rfl))) (mvT hZ (hw _ (List.mem_of_getElem? (i := 18) rfl))) (mvT hZ (hw _ (List.mem_of_getElem? (i := 26) rfl))) (by decide) (backOf (W := 1) (own_rm6 l Z a0 hw [] t_110 p_ kt_110 cd_110 n1 (own_by cd_110 cs) T110.heap n0 (Nat.le_trans Z0 K110.1) P110_1 (own_c01 P110_2) ⟨hp.1, hp.2.1, (by omega)⟩) hZ (hw _ (List.mem_of_getElem? (i := 26) rfl)) (hw _ (List.mem_of_getElem? (i := 18) rfl)) (by decide) (by decide)) (g := (mkF m 45 #[.val (.ref a1), .val (.ref b1), .val (.int (0 : Int32)), .val (.int p_), .val .null, .val (.ref t_110)] [(.int p_), (.ref t_110), (.ref a1)])) rfl (by rw [hml]; rfl) (argsL := [(.ref t_110), (.int p_)]) (rest := [(.ref a1)]) (lenOf own_pd2 rfl) rfl (by show 2 * 0 + _ ≤ _; exact Nat.le_of_eq rfl) (hb hby own_d2_45) (fun _ _ => ⟨rfl, rfl, (by decide : 1 + 0 ≤ _), (by decide : 2 + 0 ≤ _)⟩)
  dsimp only [Pt.U, Pt.locs, Pt.cells, Pt.slots] at X111 l111 y111 z111 st111 hQ111
  subst l111 y111 z111
  obtain ⟨rfl, N111q, eq111⟩ := hQ111
  have N111 := Fr.app N110 N111q
  refine own_st (st111) ?_
  show own_Go p.tables e below _ (T111.setTop (mkF m 48 #[.val (.ref a1), .val (.ref b1), .val (.int (0 : Int32)), .val (.int p_), .val .null, .val (.ref t_110)] [(.int cd_110), (.ref a1)]))
  obtain ⟨T112, h112, X112, e112, W112, st112⟩ := putFN X111 hx hZ hown (hw _ (List.mem_of_getElem? (i := 27) rfl)) Via.refl eq111 (q2.keep Kq110 nin0) (q0.keep Kq110) (Or.inr ⟨(hw _ (List.mem_of_getElem? (i := 28) rfl)), rfl, hnm⟩) (hw _ (List.mem_of_getElem? (i := 3) rfl)) (ty := .byte) (v' := (.int cd_110)) (by decide) (own_nw01 (own_c01 P110_2)) (own_f01 (own_c01 P110_2)) (g := (mkF m 48 #[.val (.ref a1), .val (.ref b1), .val (.int (0 : Int32)), .val (.int p_), .val .null, .val (.ref t_110)] [(.int cd_110), (.ref a1)])) rfl rfl (hb hby own_d2_48)
  have Fw112 : Fld Z h112 a1 "java/lang/String" "coder" "B" (.int cd_110) := (q2.keep Kq110 nin0).same W112
  have N112 := Fr.snoc X112 N111 q4
  have K112 : Keep h0 h112 [a1] := K110.wr W112 (Or.inl (List.mem_of_getElem? (i := 0) rfl))
  refine own_st (st112) ?_
  show own_Go p.tables e below _ (T112.setTop (mkF m 51 #[.val (.ref a1), .val (.ref b1), .val (.int (0 : Int32)), .val (.int p_), .val .null, .val (.ref t_110)] []))
  refine own_st (fun t_ k_ => XS.aloadN X112.here hx rfl (hb hby own_d2_51) rfl rfl k_) ?_
  show own_Go p.tables e below _ (T112.setTop (mkF m 52 #[.val (.ref a1), .val (.ref b1), .val (.int (0 : Int32)), .val (.int p_), .val .null, .val (.ref t_110)] [(.ref a1)]))
  refine own_st (fun t_ k_ => XS.aload X112.here hx rfl (hb hby own_d2_52) rfl rfl k_) ?_
  show own_Go p.tables e below _ (T112.setTop (mkF m 54 #[.val (.ref a1), .val (.ref b1), .val (.int (0 : Int32)), .val (.int p_), .val .null, .val (.ref t_110)] [(.ref t_110), (.ref a1)]))
  obtain ⟨T113, h113, X113, e113, W113, st113⟩ := putF X112 hx hZ hown (host := "") (Or.inl (hw _ (List.mem_of_getElem? (i := 29) rfl))) Via.refl e112 ((q1.keep Kq110 nin0).other W112 (Or.inr (slot_ne (Or.inr (hw _ (List.mem_of_getElem? (i := 30) rfl))) (Or.inr (hw _ (List.mem_of_getElem? (i := 28) rfl))) (by decide) (t := (.array .byte)) (t' := .byte) (by decide) (by decide)))) ((q0.keep Kq110).wr W112) (Or.inr ⟨(hw _ (List.mem_of_getElem? (i := 30) rfl)), rfl, hnm⟩) (hw _ (List.mem_of_getElem? (i := 3) rfl)) (ty := (.array .byte)) (by decide) rfl rfl (g := (mkF m 54 #[.val (.ref a1), .val (.ref b1), .val (.int (0 : Int32)), .val (.int p_), .val .null, .val (.ref t_110)] [(.ref t_110), (.ref a1)])) rfl rfl (hb hby own_d2_54)
  have Fw113 : Fld Z h113 a1 "java/lang/String" "value" "[B" (.ref t_110) := ((q1.keep Kq110 nin0).other W112 (Or.inr (slot_ne (Or.inr (hw _ (List.mem_of_getElem? (i := 30) rfl))) (Or.inr (hw _ (List.mem_of_getElem? (i := 28) rfl))) (by decide) (t := (.array .byte)) (t' := .byte) (by decide) (by decide)))).same W113
  have N113 := Fr.snoc X113 N112 q4
  have K113 : Keep h0 h113 [a1] := K112.wr W113 (Or.inl (List.mem_of_getElem? (i := 0) rfl))
  refine own_st (st113) ?_
  show own_Go p.tables e below _ (T113.setTop (mkF m 57 #[.val (.ref a1), .val (.ref b1), .val (.int (0 : Int32)), .val (.int p_), .val .null, .val (.ref t_110)] []))
  exact own_ret0 X113 hx hnl Bd.returns (hb hby own_d2_57) ⟨t_110, kt_110, cd_110, rfl, N113, (by rw [e113]; exact K113), fr110_0, (by rw [e113]; exact Fw113), (by rw [e113]; exact (Fw112.other W113 (Or.inr (slot_ne (Or.inr (hw _ (List.mem_of_getElem? (i := 28) rfl))) (Or.inr (hw _ (List.mem_of_getElem? (i := 30) rfl))) (by decide) (t := .byte) (t' := (.array .byte)) (by decide) (by decide))))), (by rw [e113]; exact ((P110_1.other W112 (Ne.symm (Nat.ne_of_lt (Nat.lt_of_lt_of_le q0.lt P110_0)))).other W113 (Ne.symm (Nat.ne_of_lt (Nat.lt_of_lt_of_le q0.lt P110_0))))), P110_2⟩ (by decide) (by decide)

theorem own_d1_0 : decode jdk_42_method_3_code 0 = .ok (.aload_n 0, 1) := by decide +kernel
theorem own_d1_1 : decode jdk_42_method_3_code 1 = .ok (.aload_n 1, 1) := by decide +kernel
theorem own_d1_2 : decode jdk_42_method_3_code 2 = .ok (.iconst 0, 1) := by decide +kernel
theorem own_d1_3 : decode jdk_42_method_3_code 3 = .ok (.aload_n 1, 1) := by decide +kernel
theorem own_d1_4 : decode jdk_42_method_3_code 4 = .ok (.arraylength, 1) := by decide +kernel
theorem own_d1_5 : decode jdk_42_method_3_code 5 = .ok (.aconst_null, 1) := by decide +kernel
theorem own_d1_6 : decode jdk_42_method_3_code 6 = .ok (.invokespecial 27, 3) := by decide +kernel
theorem own_d1_9 : decode jdk_42_method_3_code 9 = .ok (.return_, 1) := by decide +kernel
theorem own_pd3 : parseMethodDescriptor "([CIILjava/lang/Void;)V" = some ⟨[(.array .char), .int, .int, (.object "java/lang/Void")], none⟩ := by decide +kernel
theorem own_ef1 (m : MethodId) (x0 : Addr) (x1 : Addr) : entryFrame m #[(.ref x0), (.ref x1)] 2 = mkF m 0 #[.val (.ref x0), .val (.ref x1)] [] := by first | (simp [entryFrame, mkF, argsToLocals, Value.category]; done) | rfl
def own_Q1 (Z : State) (a1 : Addr) (b1 : Addr) (k1 : ClassId) (n1 : Nat) (cs : Nat → Int32) (G1 : Int32) (h0 : Heap) (n0 : Nat) (v : Option Value) (h : Heap) (L : List Loc) : Prop := ∃ (t : Addr) (kt : ClassId) (cd : Int32), v = none ∧ Fr n0 L ∧ Keep h0 h [a1] ∧ h0.size ≤ t ∧ Fld Z h a1 "java/lang/String" "value" "[B" (.ref t) ∧ Fld Z h a1 "java/lang/String" "coder" "B" (.int cd) ∧ own_A Z h t kt .byte (own_bl cd n1) (fun i => .int ((own_by cd cs) i)) ∧ ((cd = 0 ∧ ∀ q : Nat, q < n1 → ¬ (255 : Int32) < cs q) ∨ cd = 1)
set_option maxRecDepth 65536 in
set_option maxHeartbeats 40000000 in
theorem own_rm1 (l : Launch) (Z : State) (a0 : Array Value) (hw : ∀ d ∈ tables_1, d.before a0 Z = true) (ws : List Jvm.Cond) (a1 : Addr) (b1 : Addr) (k1 : ClassId) (n1 : Nat) (cs : Nat → Int32) (G1 : Int32) (h0 : Heap) (n0 : Nat) (Z0 : n0 ≤ h0.size) (q0 : Exa Z h0 a1 "java/lang/String") (q1 : Fld Z h0 a1 "java/lang/String" "value" "[B" .null) (q2 : Fld Z h0 a1 "java/lang/String" "coder" "B" (.int (0 : Int32))) (q3 : own_A Z h0 b1 k1 .char n1 (fun i => .int (cs i))) (q4 : n0 ≤ a1) (hne : (a1 ≠ b1)) (hn : (1 ≤ n1 ∧ n1 ≤ 2)) (hlat : (∀ q : Nat, q < n1 → ¬ (255 : Int32) < cs q)) (q8 : Old Z n0 h0) (q9 : Sta Z Z.heap "java/lang/String" "COMPACT_STRINGS" "Z" (.int G1)) (hG1 : (¬ G1 = (0 : Int32))) :
    MetFree l (⟨"java/lang/String", "<init>", "([C)V"⟩ : MethodName) (head1 (Jvm.Cond.code (⟨"java/lang/String", "<init>", "([C)V"⟩ : MethodName) jdk_42_method_3_code 2 none :: ws) ({ frames := 3, cells := 1, slots := 2, locals := 52 } : Room)) (fun a U => a = #[(.ref a1), (.ref b1)] ∧ Z.Warmed39 U.vm ∧ U.heap = h0) (fun _ _ _ _ _ => True) (fun _ U o U' => ∃ v L, o = .returned v ∧ own_Q1 Z a1 b1 k1 n1 cs G1 h0 n0 v U'.heap L ∧ FrameEnd U o U' L ({ frames := 3, cells := 1, slots := 2, locals := 52 } : Room).cells ({ frames := 3, cells := 1, slots := 2, locals := 52 } : Room).slots) := by
  refine MetFree.of_bodySF (plainFor_of_name own_pn1) hisR ?_
  intro p e s m args below meth c s₁ Bd hml0 hP hK
  obtain ⟨rfl, hZ, hh⟩ := hP
  have hx := Bd.exec
  have hby := Bd.bytes
  have hml : c.maxLocals = 2 := hml0
  have hown : s.vm.findClass "java/lang/String" = some m.cls := findClass_of_methodNamed Bd.named
  have hnm := (name_of_methodNamed Bd.named Bd.method).1
  have hnl : meth.locks = false := Bd.notSynchronized
  have X0 : Stand p l e ({ frames := 3, cells := 1, slots := 2, locals := 52 } : Room) s m #[(.ref a1), (.ref b1)] below meth c s₁ [] 0 0 := Stand.of_body Bd
  have e0 : s₁.heap = h0 := by rw [← hh, Bd.state]; rfl
  have N0 := Fr.nil n0
  show own_Go p.tables e below (own_P below s (own_Q1 Z a1 b1 k1 n1 cs G1 h0 n0) ({ frames := 3, cells := 1, slots := 2, locals := 52 } : Room).cells ({ frames := 3, cells := 1, slots := 2, locals := 52 } : Room).slots) _
  refine own_st (fun t_ k_ => castTop (own_ef1 m a1 b1) k_) ?_
  show own_Go p.tables e below _ (s₁.setTop (mkF m 0 #[.val (.ref a1), .val (.ref b1)] []))
  have hp : (Int32.ofNat n1).toInt = (n1 : Int) ∧ 1 ≤ n1 ∧ n1 ≤ 2 := ⟨own_toN (by omega), hn.1, hn.2⟩
  refine own_st (fun t_ k_ => XS.aloadN X0.here hx rfl (hb hby own_d1_0) rfl rfl k_) ?_
  show own_Go p.tables e below _ (s₁.setTop (mkF m 1 #[.val (.ref a1), .val (.ref b1)] [(.ref a1)]))
  refine own_st (fun t_ k_ => XS.aloadN X0.here hx rfl (hb hby own_d1_1) rfl rfl k_) ?_
  show own_Go p.tables e below _ (s₁.setTop (mkF m 2 #[.val (.ref a1), .val (.ref b1)] [(.ref b1), (.ref a1)]))
  refine own_st (fun t_ k_ => XS.iconst X0.here hx rfl (hb hby own_d1_2) k_) ?_
  show own_Go p.tables e below _ (s₁.setTop (mkF m 3 #[.val (.ref a1), .val (.ref b1)] [(.int (0 : Int32)), (.ref b1), (.ref a1)]))
  refine own_st (fun t_ k_ => XS.aloadN X0.here hx rfl (hb hby own_d1_3) rfl rfl k_) ?_
  show own_Go p.tables e below _ (s₁.setTop (mkF m 4 #[.val (.ref a1), .val (.ref b1)] [(.ref b1), (.int (0 : Int32)), (.ref b1), (.ref a1)]))
  refine own_st (own_len X0 hx hZ e0 q3 (g := (mkF m 4 #[.val (.ref a1), .val (.ref b1)] [(.ref b1), (.int (0 : Int32)), (.ref b1), (.ref a1)])) rfl rfl (hb hby own_d1_4)) ?_
  show own_Go p.tables e below _ (s₁.setTop (mkF m 5 #[.val (.ref a1), .val (.ref b1)] [(.int (Int32.ofNat n1)), (.int (0 : Int32)), (.ref b1), (.ref a1)]))
  refine own_st (fun t_ k_ => XS.aconstNull X0.here hx rfl (hb hby own_d1_5) k_) ?_
  show own_Go p.tables e below _ (s₁.setTop (mkF m 6 #[.val (.ref a1), .val (.ref b1)] [.null, (.int (Int32.ofNat n1)), (.int (0 : Int32)), (.ref b1), (.ref a1)]))
  obtain ⟨_, _, ⟨T114, L114, k114, n114⟩, -, X114, ⟨Lc114, hQ114, l114, y114, z114⟩, st114⟩ := X0.specialBack hx (y := (⟨"java/lang/String", "<init>", "([CIILjava/lang/Void;)V"⟩ : MethodName)) rfl hown (mvT hZ (hw _ (List.mem_of_getElem? (i := 8) rfl))) (mvT hZ (hw _ (List.mem_of_getElem? (i := 9) rfl))) (mvT hZ (hw _ (List.mem_of_getElem? (i := 11) rfl))) (by decide) (backOf (W := 0) (own_rm2 l Z a0 hw [] a1 b1 (Int32.ofNat n1) k1 n1 cs G1 h0 n0 (Nat.le_trans Z0 (Keep.refl h0 [a1]).1) q0 q1 q2 q3 q4 hne ⟨hp.1, hp.2.1, hp.2.2⟩ hlat q8 q9 hG1) hZ (hw _ (List.mem_of_getElem? (i := 11) rfl)) (hw _ (List.mem_of_getElem? (i := 4) rfl)) (by decide) (by decide)) (g := (mkF m 6 #[.val (.ref a1), .val (.ref b1)] [.null, (.int (Int32.ofNat n1)), (.int (0 : Int32)), (.ref b1), (.ref a1)])) rfl (by rw [hml]; rfl) (Steps.refl _) (a := a1) (argsL := [(.ref b1), (.int (0 : Int32)), (.int (Int32.ofNat n1)), .null]) (rest := []) (lenOf own_pd3 rfl) rfl (by show 2 * 0 + _ ≤ _; exact Nat.le_of_eq rfl) (hb hby own_d1_6) (fun _ _ => ⟨rfl, e0, (by decide : 0 + 1 ≤ _), (by decide : 0 + 2 ≤ _)⟩)
  dsimp only [Pt.U, Pt.locs, Pt.cells, Pt.slots] at X114 l114 y114 z114 st114 hQ114
  subst l114 y114 z114
  obtain ⟨t_114, kt_114, cd_114, rfl, N114q, Kq114, P114_0, P114_1, P114_2, P114_3, P114_4⟩ := hQ114
  have N114 := Fr.app N0 N114q
  have K114 : Keep h0 T114.heap [a1] := (Keep.refl h0 [a1]).trans Kq114 (allS (P := fun x => x ∈ [a1] ∨ h0.size ≤ x) (Or.inl (List.mem_of_getElem? (i := 0) rfl)) all0)
  have fr114_0 : h0.size ≤ t_114 := Nat.le_trans (Keep.refl h0 [a1]).1 P114_0
  have ge114_0 : n0 ≤ t_114 := Nat.le_trans Z0 fr114_0
  refine own_tr st114 ?_
  show own_Go p.tables e below _ (T114.setTop (mkF m 9 #[.val (.ref a1), .val (.ref b1)] []))
  exact own_ret0 X114 hx hnl Bd.returns (hb hby own_d1_9) ⟨t_114, kt_114, cd_114, rfl, N114, (K114), fr114_0, (P114_1), (P114_2), (P114_3), P114_4⟩ (by decide) (by decide)


def own_kd (K : Nat → Addr) (q : Int32) : Value := if 0 ≤ q.toInt ∧ q.toInt < 18 then .ref (K q.toInt.toNat) else .null
theorem own_sw (q : Int32) : q.toInt = 0 ∨ q.toInt = 1 ∨ q.toInt = 2 ∨ q.toInt = 3 ∨ q.toInt = 4 ∨ q.toInt = 5 ∨ q.toInt = 6 ∨ q.toInt = 7 ∨ q.toInt = 8 ∨ q.toInt = 9 ∨ q.toInt = 10 ∨ q.toInt = 11 ∨ q.toInt = 12 ∨ q.toInt = 13 ∨ q.toInt = 14 ∨ q.toInt = 15 ∨ q.toInt = 16 ∨ q.toInt = 17 ∨ (q.toInt < 0 ∨ q.toInt > 17) := by omega
def own_is (a b : Addr) : Int32 := if a = b then 1 else 0
def own_K (l : List Addr) (n : Nat) : Addr := l.getD n 0
theorem own_kin {K : Nat → Addr} {q : Int32} {n : Nat} (h : q.toInt = (n : Int)) (hn : n < 18) : own_kd K q = .ref (K n) := by
  unfold own_kd; rw [if_pos (by omega), h]; simp
theorem own_kout {K : Nat → Addr} {q : Int32} {n : Nat} (h : q.toInt = (n : Int)) (hn : ¬ n < 18) : own_kd K q = .null := by
  unfold own_kd; rw [if_neg (by omega)]
theorem own_mk (x : Int32) : 0 ≤ (x &&& 2147483647).toInt := by
  rw [c_mask x 2147483647 31 (by decide) (by decide)]
  exact Int.emod_nonneg _ (by decide)
theorem own_remN {x y : Int32} {n : Nat} (h : 0 ≤ x.toInt) (hy : y.toInt = (n : Int)) (hn : 0 < n) : ∃ k : Nat, k < n ∧ (x % y).toInt = (k : Int) := by
  have q := (c_irem x y n hy).1 h
  have b1 := Int.emod_nonneg x.toInt (show (n : Int) ≠ 0 by omega)
  have b2 := Int.emod_lt_of_pos x.toInt (show (0 : Int) < n by omega)
  exact ⟨(x.toInt % n).toNat, by omega, by rw [q]; omega⟩
theorem own_c255 (x : Int32) : ¬ (255 : Int32) < ((x &&& (255 : Int32)).toUInt32.toUInt16.toUInt32.toInt32) := by
  have m := c_mask x 255 8 (by decide) (by decide)
  have p8 : ((2 ^ 8 : Nat) : Int) = 256 := by decide
  rw [p8] at m
  have i := c_i2c (x &&& 255)
  have w : (255 : Int32).toInt = 255 := by decide
  rw [Int32.lt_iff_toInt_lt, w]; omega
theorem own_lat2 {c0 c1 : Int32} (h0 : ¬ (255 : Int32) < c0) (h1 : ¬ (255 : Int32) < c1) : ∀ q : Nat, q < 2 → ¬ (255 : Int32) < own_upd (own_upd (fun _ => (0 : Int32)) 0 c0) 1 c1 q
  | 0, _ => h0
  | 1, _ => h1
  | k + 2, h => by omega
theorem own_nwz {b : Int32} (h : b = 0 ∨ b = 1) : narrow .boolean (.int b) = .int b := by rcases h with rfl | rfl <;> rfl
theorem own_fz {b : Int32} (h : b = 0 ∨ b = 1) : fits .boolean (.int b) = true := by rcases h with rfl | rfl <;> rfl
theorem own_Kinj {Z : State} {h : Heap} {K : Nat → Addr} (hO : ∀ a : Nat, a < 18 → Fld Z h (K a) "java/lang/Enum" "ordinal" "I" (.int (Int32.ofNat a))) {a b : Nat} (ha : a < 18) (hb : b < 18) : K a = K b ↔ a = b := by
  refine ⟨fun e => ?_, fun e => by rw [e]⟩
  refine Decidable.byContradiction fun q => Fld.ne (hO a ha) (hO b hb) (fun w => q ?_) e
  have z := congrArg Int32.toInt (Value.int.inj w)
  rw [Int32.toInt_ofNat_of_lt (by omega), Int32.toInt_ofNat_of_lt (by omega)] at z
  omega

theorem own_d9_0 : decode jdk_30_method_1_code 0 = .ok (.aload_n 0, 1) := by decide +kernel
theorem own_d9_1 : decode jdk_30_method_1_code 1 = .ok (.invokespecial 1, 3) := by decide +kernel
theorem own_d9_4 : decode jdk_30_method_1_code 4 = .ok (.return_, 1) := by decide +kernel
theorem own_pn2 : plainName "java/lang/Record" = true := by first | (simp [plainName, overriddenIn]; done) | decide +kernel
theorem own_ef9 (m : MethodId) (x0 : Addr) : entryFrame m #[(.ref x0)] 1 = mkF m 0 #[.val (.ref x0)] [] := by first | (simp [entryFrame, mkF, argsToLocals, Value.category]; done) | rfl
def own_Q9 (Z : State) (a1 : Addr) (h0 : Heap) (n0 : Nat) (v : Option Value) (h : Heap) (L : List Loc) : Prop := v = none ∧ Fr n0 L ∧ h = h0
set_option maxRecDepth 65536 in
set_option maxHeartbeats 40000000 in
theorem own_rm9 (l : Launch) (Z : State) (a0 : Array Value) (hw : ∀ d ∈ tables_1, d.before a0 Z = true) (ws : List Jvm.Cond) (a1 : Addr) (h0 : Heap) (n0 : Nat) (Z0 : n0 ≤ h0.size)  :
    MetFree l (⟨"java/lang/Record", "<init>", "()V"⟩ : MethodName) (head1 (Jvm.Cond.code (⟨"java/lang/Record", "<init>", "()V"⟩ : MethodName) jdk_30_method_1_code 1 none :: ws) ({ frames := 1, cells := 0, slots := 0, locals := 12 } : Room)) (fun a U => a = #[(.ref a1)] ∧ Z.Warmed39 U.vm ∧ U.heap = h0) (fun _ _ _ _ _ => True) (fun _ U o U' => ∃ v L, o = .returned v ∧ own_Q9 Z a1 h0 n0 v U'.heap L ∧ FrameEnd U o U' L ({ frames := 1, cells := 0, slots := 0, locals := 12 } : Room).cells ({ frames := 1, cells := 0, slots := 0, locals := 12 } : Room).slots) := by
  refine MetFree.of_bodySF (plainFor_of_name own_pn2) hisR ?_
  intro p e s m args below meth c s₁ Bd hml0 hP hK
  obtain ⟨rfl, hZ, hh⟩ := hP
  have hx := Bd.exec
  have hby := Bd.bytes
  have hml : c.maxLocals = 1 := hml0
  have hown : s.vm.findClass "java/lang/Record" = some m.cls := findClass_of_methodNamed Bd.named
  have hnm := (name_of_methodNamed Bd.named Bd.method).1
  have hnl : meth.locks = false := Bd.notSynchronized
  have X0 : Stand p l e ({ frames := 1, cells := 0, slots := 0, locals := 12 } : Room) s m #[(.ref a1)] below meth c s₁ [] 0 0 := Stand.of_body Bd
  have e0 : s₁.heap = h0 := by rw [← hh, Bd.state]; rfl
  have N0 := Fr.nil n0
  show own_Go p.tables e below (own_P below s (own_Q9 Z a1 h0 n0) ({ frames := 1, cells := 0, slots := 0, locals := 12 } : Room).cells ({ frames := 1, cells := 0, slots := 0, locals := 12 } : Room).slots) _
  refine own_st (fun t_ k_ => castTop (own_ef9 m a1) k_) ?_
  show own_Go p.tables e below _ (s₁.setTop (mkF m 0 #[.val (.ref a1)] []))
  refine own_st (fun t_ k_ => XS.aloadN X0.here hx rfl (hb hby own_d9_0) rfl rfl k_) ?_
  show own_Go p.tables e below _ (s₁.setTop (mkF m 1 #[.val (.ref a1)] [(.ref a1)]))
  obtain ⟨T115, X115, e115, st115⟩ := initO X0 hx hZ hown (hw _ (List.mem_of_getElem? (i := 49) rfl)) (hw _ (List.mem_of_getElem? (i := 13) rfl)) (hw _ (List.mem_of_getElem? (i := 14) rfl)) e0 (g := (mkF m 1 #[.val (.ref a1)] [(.ref a1)])) rfl (by rw [hml]; rfl) rfl (hb hby own_d9_1) (by decide) (W := 0) (by show 2 * 0 + _ ≤ _; exact Nat.le_of_eq rfl) (by decide)
  refine own_st (st115) ?_
  show own_Go p.tables e below _ (T115.setTop (mkF m 4 #[.val (.ref a1)] []))
  exact own_ret0 X115 hx hnl Bd.returns (hb hby own_d9_4) ⟨rfl, N0, e115⟩ (by decide) (by decide)

theorem own_d7_0 : decode method_2_code 0 = .ok (.iload_n 0, 1) := by decide +kernel
theorem own_d7_1 : decode method_2_code 1 = .ok (.tableswitch 159 0 17 #[87, 91, 95, 99, 103, 107, 111, 115, 119, 123, 127, 131, 135, 139, 143, 147, 151, 155], 87) := by decide +kernel
theorem own_d7_88 : decode method_2_code 88 = .ok (.getstatic 7, 3) := by decide +kernel
theorem own_d7_91 : decode method_2_code 91 = .ok (.areturn, 1) := by decide +kernel
theorem own_d7_92 : decode method_2_code 92 = .ok (.getstatic 13, 3) := by decide +kernel
theorem own_d7_95 : decode method_2_code 95 = .ok (.areturn, 1) := by decide +kernel
theorem own_d7_96 : decode method_2_code 96 = .ok (.getstatic 16, 3) := by decide +kernel
theorem own_d7_99 : decode method_2_code 99 = .ok (.areturn, 1) := by decide +kernel
theorem own_d7_100 : decode method_2_code 100 = .ok (.getstatic 19, 3) := by decide +kernel
theorem own_d7_103 : decode method_2_code 103 = .ok (.areturn, 1) := by decide +kernel
theorem own_d7_104 : decode method_2_code 104 = .ok (.getstatic 22, 3) := by decide +kernel
theorem own_d7_107 : decode method_2_code 107 = .ok (.areturn, 1) := by decide +kernel
theorem own_d7_108 : decode method_2_code 108 = .ok (.getstatic 25, 3) := by decide +kernel
theorem own_d7_111 : decode method_2_code 111 = .ok (.areturn, 1) := by decide +kernel
theorem own_d7_112 : decode method_2_code 112 = .ok (.getstatic 28, 3) := by decide +kernel
theorem own_d7_115 : decode method_2_code 115 = .ok (.areturn, 1) := by decide +kernel
theorem own_d7_116 : decode method_2_code 116 = .ok (.getstatic 31, 3) := by decide +kernel
theorem own_d7_119 : decode method_2_code 119 = .ok (.areturn, 1) := by decide +kernel
theorem own_d7_120 : decode method_2_code 120 = .ok (.getstatic 34, 3) := by decide +kernel
theorem own_d7_123 : decode method_2_code 123 = .ok (.areturn, 1) := by decide +kernel
theorem own_d7_124 : decode method_2_code 124 = .ok (.getstatic 37, 3) := by decide +kernel
theorem own_d7_127 : decode method_2_code 127 = .ok (.areturn, 1) := by decide +kernel
theorem own_d7_128 : decode method_2_code 128 = .ok (.getstatic 40, 3) := by decide +kernel
theorem own_d7_131 : decode method_2_code 131 = .ok (.areturn, 1) := by decide +kernel
theorem own_d7_132 : decode method_2_code 132 = .ok (.getstatic 43, 3) := by decide +kernel
theorem own_d7_135 : decode method_2_code 135 = .ok (.areturn, 1) := by decide +kernel
theorem own_d7_136 : decode method_2_code 136 = .ok (.getstatic 46, 3) := by decide +kernel
theorem own_d7_139 : decode method_2_code 139 = .ok (.areturn, 1) := by decide +kernel
theorem own_d7_140 : decode method_2_code 140 = .ok (.getstatic 49, 3) := by decide +kernel
theorem own_d7_143 : decode method_2_code 143 = .ok (.areturn, 1) := by decide +kernel
theorem own_d7_144 : decode method_2_code 144 = .ok (.getstatic 52, 3) := by decide +kernel
theorem own_d7_147 : decode method_2_code 147 = .ok (.areturn, 1) := by decide +kernel
theorem own_d7_148 : decode method_2_code 148 = .ok (.getstatic 55, 3) := by decide +kernel
theorem own_d7_151 : decode method_2_code 151 = .ok (.areturn, 1) := by decide +kernel
theorem own_d7_152 : decode method_2_code 152 = .ok (.getstatic 58, 3) := by decide +kernel
theorem own_d7_155 : decode method_2_code 155 = .ok (.areturn, 1) := by decide +kernel
theorem own_d7_156 : decode method_2_code 156 = .ok (.getstatic 61, 3) := by decide +kernel
theorem own_d7_159 : decode method_2_code 159 = .ok (.areturn, 1) := by decide +kernel
theorem own_d7_160 : decode method_2_code 160 = .ok (.aconst_null, 1) := by decide +kernel
theorem own_d7_161 : decode method_2_code 161 = .ok (.areturn, 1) := by decide +kernel
theorem own_pn3 : plainName "com/example/cima/cima/io/TokenIsPinLaw" = true := by first | (simp [plainName, overriddenIn]; done) | decide +kernel
theorem own_ef7 (m : MethodId) (x0 : Int32) : entryFrame m #[(.int x0)] 1 = mkF m 0 #[.val (.int x0)] [] := by first | (simp [entryFrame, mkF, argsToLocals, Value.category]; done) | rfl
def own_Q7 (Z : State) (q_ : Int32) (K : Nat → Addr) (h0 : Heap) (n0 : Nat) (v : Option Value) (h : Heap) (L : List Loc) : Prop := v = some (own_kd K q_) ∧ Fr n0 L ∧ h = h0
set_option maxRecDepth 65536 in
set_option maxHeartbeats 40000000 in
theorem own_rm7 (l : Launch) (Z : State) (a0 : Array Value) (hw : ∀ d ∈ tables_1, d.before a0 Z = true) (ws : List Jvm.Cond) (q_ : Int32) (K : Nat → Addr) (h0 : Heap) (n0 : Nat) (Z0 : n0 ≤ h0.size) (q0 : Old Z n0 h0) (q1 : Sta Z Z.heap "com/example/cima/cima/io/Token$Kind" "NAME" "Lcom/example/cima/cima/io/Token$Kind;" (.ref (K 0))) (q2 : Sta Z Z.heap "com/example/cima/cima/io/Token$Kind" "VARIABLE" "Lcom/example/cima/cima/io/Token$Kind;" (.ref (K 1))) (q3 : Sta Z Z.heap "com/example/cima/cima/io/Token$Kind" "NUMBER" "Lcom/example/cima/cima/io/Token$Kind;" (.ref (K 2))) (q4 : Sta Z Z.heap "com/example/cima/cima/io/Token$Kind" "STRING" "Lcom/example/cima/cima/io/Token$Kind;" (.ref (K 3))) (q5 : Sta Z Z.heap "com/example/cima/cima/io/Token$Kind" "LEFT_PARENTHESIS" "Lcom/example/cima/cima/io/Token$Kind;" (.ref (K 4))) (q6 : Sta Z Z.heap "com/example/cima/cima/io/Token$Kind" "RIGHT_PARENTHESIS" "Lcom/example/cima/cima/io/Token$Kind;" (.ref (K 5))) (q7 : Sta Z Z.heap "com/example/cima/cima/io/Token$Kind" "LEFT_BRACKET" "Lcom/example/cima/cima/io/Token$Kind;" (.ref (K 6))) (q8 : Sta Z Z.heap "com/example/cima/cima/io/Token$Kind" "RIGHT_BRACKET" "Lcom/example/cima/cima/io/Token$Kind;" (.ref (K 7))) (q9 : Sta Z Z.heap "com/example/cima/cima/io/Token$Kind" "COMMA" "Lcom/example/cima/cima/io/Token$Kind;" (.ref (K 8))) (q10 : Sta Z Z.heap "com/example/cima/cima/io/Token$Kind" "FULL_STOP" "Lcom/example/cima/cima/io/Token$Kind;" (.ref (K 9))) (q11 : Sta Z Z.heap "com/example/cima/cima/io/Token$Kind" "ARROW" "Lcom/example/cima/cima/io/Token$Kind;" (.ref (K 10))) (q12 : Sta Z Z.heap "com/example/cima/cima/io/Token$Kind" "COMPARISON" "Lcom/example/cima/cima/io/Token$Kind;" (.ref (K 11))) (q13 : Sta Z Z.heap "com/example/cima/cima/io/Token$Kind" "PLUS" "Lcom/example/cima/cima/io/Token$Kind;" (.ref (K 12))) (q14 : Sta Z Z.heap "com/example/cima/cima/io/Token$Kind" "MINUS" "Lcom/example/cima/cima/io/Token$Kind;" (.ref (K 13))) (q15 : Sta Z Z.heap "com/example/cima/cima/io/Token$Kind" "TIMES" "Lcom/example/cima/cima/io/Token$Kind;" (.ref (K 14))) (q16 : Sta Z Z.heap "com/example/cima/cima/io/Token$Kind" "DIVIDE" "Lcom/example/cima/cima/io/Token$Kind;" (.ref (K 15))) (q17 : Sta Z Z.heap "com/example/cima/cima/io/Token$Kind" "END_OF_FILE" "Lcom/example/cima/cima/io/Token$Kind;" (.ref (K 16))) (q18 : Sta Z Z.heap "com/example/cima/cima/io/Token$Kind" "ERROR" "Lcom/example/cima/cima/io/Token$Kind;" (.ref (K 17))) :
    MetFree l (⟨"com/example/cima/cima/io/TokenIsPinLaw", "kindAt", "(I)Lcom/example/cima/cima/io/Token$Kind;"⟩ : MethodName) (head1 (Jvm.Cond.code (⟨"com/example/cima/cima/io/TokenIsPinLaw", "kindAt", "(I)Lcom/example/cima/cima/io/Token$Kind;"⟩ : MethodName) method_2_code 1 (some (.object "com/example/cima/cima/io/Token$Kind")) :: ws) ({ frames := 0, cells := 0, slots := 0, locals := 0 } : Room)) (fun a U => a = #[(.int q_)] ∧ Z.Warmed39 U.vm ∧ U.heap = h0) (fun _ _ _ _ _ => True) (fun _ U o U' => ∃ v L, o = .returned v ∧ own_Q7 Z q_ K h0 n0 v U'.heap L ∧ FrameEnd U o U' L ({ frames := 0, cells := 0, slots := 0, locals := 0 } : Room).cells ({ frames := 0, cells := 0, slots := 0, locals := 0 } : Room).slots) := by
  refine MetFree.of_bodySF (plainFor_of_name own_pn3) hisR ?_
  intro p e s m args below meth c s₁ Bd hml0 hP hK
  obtain ⟨rfl, hZ, hh⟩ := hP
  have hx := Bd.exec
  have hby := Bd.bytes
  have hml : c.maxLocals = 1 := hml0
  have hown : s.vm.findClass "com/example/cima/cima/io/TokenIsPinLaw" = some m.cls := findClass_of_methodNamed Bd.named
  have hnm := (name_of_methodNamed Bd.named Bd.method).1
  have hnl : meth.locks = false := Bd.notSynchronized
  have X0 : Stand p l e ({ frames := 0, cells := 0, slots := 0, locals := 0 } : Room) s m #[(.int q_)] below meth c s₁ [] 0 0 := Stand.of_body Bd
  have e0 : s₁.heap = h0 := by rw [← hh, Bd.state]; rfl
  have N0 := Fr.nil n0
  show own_Go p.tables e below (own_P below s (own_Q7 Z q_ K h0 n0) ({ frames := 0, cells := 0, slots := 0, locals := 0 } : Room).cells ({ frames := 0, cells := 0, slots := 0, locals := 0 } : Room).slots) _
  refine own_st (fun t_ k_ => castTop (own_ef7 m q_) k_) ?_
  show own_Go p.tables e below _ (s₁.setTop (mkF m 0 #[.val (.int q_)] []))
  refine own_st (fun t_ k_ => XS.iloadN X0.here hx rfl (hb hby own_d7_0) rfl k_) ?_
  show own_Go p.tables e below _ (s₁.setTop (mkF m 1 #[.val (.int q_)] [(.int q_)]))
  rcases own_sw q_ with c116_0 | c116_1 | c116_2 | c116_3 | c116_4 | c116_5 | c116_6 | c116_7 | c116_8 | c116_9 | c116_10 | c116_11 | c116_12 | c116_13 | c116_14 | c116_15 | c116_16 | c116_17 | c116_18
  · skip
    refine own_st (fun t_ k_ => XS.tswIn X0.here hx rfl (pc0 := 1) (pc' := 88) rfl (hb hby own_d7_1) rfl (by rw [c116_0]; decide) (by rw [c116_0]; rfl) (by decide) (by decide) k_) ?_
    show own_Go p.tables e below _ (s₁.setTop (mkF m 88 #[.val (.int q_)] []))
    obtain ⟨T117, X117, e117, st117⟩ := getS2 X0 hx hZ hown (host := "") (Or.inl (hw _ (List.mem_of_getElem? (i := 38) rfl))) Via.refl e0 (q1.ext q0.2) (g := (mkF m 88 #[.val (.int q_)] [])) rfl (hb hby own_d7_88)
    refine own_st (st117) ?_
    show own_Go p.tables e below _ (T117.setTop (mkF m 91 #[.val (.int q_)] [(.ref (K 0))]))
    exact own_ret (w := (.ref (K 0))) X117 hx hnl Bd.returns rfl (Or.inr (Or.inr (Or.inr (Or.inr ⟨rfl, rfl, rfl⟩)))) (hb hby own_d7_91) ⟨(congrArg some (own_kin (n := 0) c116_0 (by decide)).symm), N0, e117⟩ (by decide) (by decide)
  · skip
    refine own_st (fun t_ k_ => XS.tswIn X0.here hx rfl (pc0 := 1) (pc' := 92) rfl (hb hby own_d7_1) rfl (by rw [c116_1]; decide) (by rw [c116_1]; rfl) (by decide) (by decide) k_) ?_
    show own_Go p.tables e below _ (s₁.setTop (mkF m 92 #[.val (.int q_)] []))
    obtain ⟨T118, X118, e118, st118⟩ := getS2 X0 hx hZ hown (host := "") (Or.inl (hw _ (List.mem_of_getElem? (i := 81) rfl))) Via.refl e0 (q2.ext q0.2) (g := (mkF m 92 #[.val (.int q_)] [])) rfl (hb hby own_d7_92)
    refine own_st (st118) ?_
    show own_Go p.tables e below _ (T118.setTop (mkF m 95 #[.val (.int q_)] [(.ref (K 1))]))
    exact own_ret (w := (.ref (K 1))) X118 hx hnl Bd.returns rfl (Or.inr (Or.inr (Or.inr (Or.inr ⟨rfl, rfl, rfl⟩)))) (hb hby own_d7_95) ⟨(congrArg some (own_kin (n := 1) c116_1 (by decide)).symm), N0, e118⟩ (by decide) (by decide)
  · skip
    refine own_st (fun t_ k_ => XS.tswIn X0.here hx rfl (pc0 := 1) (pc' := 96) rfl (hb hby own_d7_1) rfl (by rw [c116_2]; decide) (by rw [c116_2]; rfl) (by decide) (by decide) k_) ?_
    show own_Go p.tables e below _ (s₁.setTop (mkF m 96 #[.val (.int q_)] []))
    obtain ⟨T119, X119, e119, st119⟩ := getS2 X0 hx hZ hown (host := "") (Or.inl (hw _ (List.mem_of_getElem? (i := 79) rfl))) Via.refl e0 (q3.ext q0.2) (g := (mkF m 96 #[.val (.int q_)] [])) rfl (hb hby own_d7_96)
    refine own_st (st119) ?_
    show own_Go p.tables e below _ (T119.setTop (mkF m 99 #[.val (.int q_)] [(.ref (K 2))]))
    exact own_ret (w := (.ref (K 2))) X119 hx hnl Bd.returns rfl (Or.inr (Or.inr (Or.inr (Or.inr ⟨rfl, rfl, rfl⟩)))) (hb hby own_d7_99) ⟨(congrArg some (own_kin (n := 2) c116_2 (by decide)).symm), N0, e119⟩ (by decide) (by decide)
  · skip
    refine own_st (fun t_ k_ => XS.tswIn X0.here hx rfl (pc0 := 1) (pc' := 100) rfl (hb hby own_d7_1) rfl (by rw [c116_3]; decide) (by rw [c116_3]; rfl) (by decide) (by decide) k_) ?_
    show own_Go p.tables e below _ (s₁.setTop (mkF m 100 #[.val (.int q_)] []))
    obtain ⟨T120, X120, e120, st120⟩ := getS2 X0 hx hZ hown (host := "") (Or.inl (hw _ (List.mem_of_getElem? (i := 58) rfl))) Via.refl e0 (q4.ext q0.2) (g := (mkF m 100 #[.val (.int q_)] [])) rfl (hb hby own_d7_100)
    refine own_st (st120) ?_
    show own_Go p.tables e below _ (T120.setTop (mkF m 103 #[.val (.int q_)] [(.ref (K 3))]))
    exact own_ret (w := (.ref (K 3))) X120 hx hnl Bd.returns rfl (Or.inr (Or.inr (Or.inr (Or.inr ⟨rfl, rfl, rfl⟩)))) (hb hby own_d7_103) ⟨(congrArg some (own_kin (n := 3) c116_3 (by decide)).symm), N0, e120⟩ (by decide) (by decide)
  · skip
    refine own_st (fun t_ k_ => XS.tswIn X0.here hx rfl (pc0 := 1) (pc' := 104) rfl (hb hby own_d7_1) rfl (by rw [c116_4]; decide) (by rw [c116_4]; rfl) (by decide) (by decide) k_) ?_
    show own_Go p.tables e below _ (s₁.setTop (mkF m 104 #[.val (.int q_)] []))
    obtain ⟨T121, X121, e121, st121⟩ := getS2 X0 hx hZ hown (host := "") (Or.inl (hw _ (List.mem_of_getElem? (i := 65) rfl))) Via.refl e0 (q5.ext q0.2) (g := (mkF m 104 #[.val (.int q_)] [])) rfl (hb hby own_d7_104)
    refine own_st (st121) ?_
    show own_Go p.tables e below _ (T121.setTop (mkF m 107 #[.val (.int q_)] [(.ref (K 4))]))
    exact own_ret (w := (.ref (K 4))) X121 hx hnl Bd.returns rfl (Or.inr (Or.inr (Or.inr (Or.inr ⟨rfl, rfl, rfl⟩)))) (hb hby own_d7_107) ⟨(congrArg some (own_kin (n := 4) c116_4 (by decide)).symm), N0, e121⟩ (by decide) (by decide)
  · skip
    refine own_st (fun t_ k_ => XS.tswIn X0.here hx rfl (pc0 := 1) (pc' := 108) rfl (hb hby own_d7_1) rfl (by rw [c116_5]; decide) (by rw [c116_5]; rfl) (by decide) (by decide) k_) ?_
    show own_Go p.tables e below _ (s₁.setTop (mkF m 108 #[.val (.int q_)] []))
    obtain ⟨T122, X122, e122, st122⟩ := getS2 X0 hx hZ hown (host := "") (Or.inl (hw _ (List.mem_of_getElem? (i := 93) rfl))) Via.refl e0 (q6.ext q0.2) (g := (mkF m 108 #[.val (.int q_)] [])) rfl (hb hby own_d7_108)
    refine own_st (st122) ?_
    show own_Go p.tables e below _ (T122.setTop (mkF m 111 #[.val (.int q_)] [(.ref (K 5))]))
    exact own_ret (w := (.ref (K 5))) X122 hx hnl Bd.returns rfl (Or.inr (Or.inr (Or.inr (Or.inr ⟨rfl, rfl, rfl⟩)))) (hb hby own_d7_111) ⟨(congrArg some (own_kin (n := 5) c116_5 (by decide)).symm), N0, e122⟩ (by decide) (by decide)
  · skip
    refine own_st (fun t_ k_ => XS.tswIn X0.here hx rfl (pc0 := 1) (pc' := 112) rfl (hb hby own_d7_1) rfl (by rw [c116_6]; decide) (by rw [c116_6]; rfl) (by decide) (by decide) k_) ?_
    show own_Go p.tables e below _ (s₁.setTop (mkF m 112 #[.val (.int q_)] []))
    obtain ⟨T123, X123, e123, st123⟩ := getS2 X0 hx hZ hown (host := "") (Or.inl (hw _ (List.mem_of_getElem? (i := 85) rfl))) Via.refl e0 (q7.ext q0.2) (g := (mkF m 112 #[.val (.int q_)] [])) rfl (hb hby own_d7_112)
    refine own_st (st123) ?_
    show own_Go p.tables e below _ (T123.setTop (mkF m 115 #[.val (.int q_)] [(.ref (K 6))]))
    exact own_ret (w := (.ref (K 6))) X123 hx hnl Bd.returns rfl (Or.inr (Or.inr (Or.inr (Or.inr ⟨rfl, rfl, rfl⟩)))) (hb hby own_d7_115) ⟨(congrArg some (own_kin (n := 6) c116_6 (by decide)).symm), N0, e123⟩ (by decide) (by decide)
  · skip
    refine own_st (fun t_ k_ => XS.tswIn X0.here hx rfl (pc0 := 1) (pc' := 116) rfl (hb hby own_d7_1) rfl (by rw [c116_7]; decide) (by rw [c116_7]; rfl) (by decide) (by decide) k_) ?_
    show own_Go p.tables e below _ (s₁.setTop (mkF m 116 #[.val (.int q_)] []))
    obtain ⟨T124, X124, e124, st124⟩ := getS2 X0 hx hZ hown (host := "") (Or.inl (hw _ (List.mem_of_getElem? (i := 73) rfl))) Via.refl e0 (q8.ext q0.2) (g := (mkF m 116 #[.val (.int q_)] [])) rfl (hb hby own_d7_116)
    refine own_st (st124) ?_
    show own_Go p.tables e below _ (T124.setTop (mkF m 119 #[.val (.int q_)] [(.ref (K 7))]))
    exact own_ret (w := (.ref (K 7))) X124 hx hnl Bd.returns rfl (Or.inr (Or.inr (Or.inr (Or.inr ⟨rfl, rfl, rfl⟩)))) (hb hby own_d7_119) ⟨(congrArg some (own_kin (n := 7) c116_7 (by decide)).symm), N0, e124⟩ (by decide) (by decide)
  · skip
    refine own_st (fun t_ k_ => XS.tswIn X0.here hx rfl (pc0 := 1) (pc' := 120) rfl (hb hby own_d7_1) rfl (by rw [c116_8]; decide) (by rw [c116_8]; rfl) (by decide) (by decide) k_) ?_
    show own_Go p.tables e below _ (s₁.setTop (mkF m 120 #[.val (.int q_)] []))
    obtain ⟨T125, X125, e125, st125⟩ := getS2 X0 hx hZ hown (host := "") (Or.inl (hw _ (List.mem_of_getElem? (i := 67) rfl))) Via.refl e0 (q9.ext q0.2) (g := (mkF m 120 #[.val (.int q_)] [])) rfl (hb hby own_d7_120)
    refine own_st (st125) ?_
    show own_Go p.tables e below _ (T125.setTop (mkF m 123 #[.val (.int q_)] [(.ref (K 8))]))
    exact own_ret (w := (.ref (K 8))) X125 hx hnl Bd.returns rfl (Or.inr (Or.inr (Or.inr (Or.inr ⟨rfl, rfl, rfl⟩)))) (hb hby own_d7_123) ⟨(congrArg some (own_kin (n := 8) c116_8 (by decide)).symm), N0, e125⟩ (by decide) (by decide)
  · skip
    refine own_st (fun t_ k_ => XS.tswIn X0.here hx rfl (pc0 := 1) (pc' := 124) rfl (hb hby own_d7_1) rfl (by rw [c116_9]; decide) (by rw [c116_9]; rfl) (by decide) (by decide) k_) ?_
    show own_Go p.tables e below _ (s₁.setTop (mkF m 124 #[.val (.int q_)] []))
    obtain ⟨T126, X126, e126, st126⟩ := getS2 X0 hx hZ hown (host := "") (Or.inl (hw _ (List.mem_of_getElem? (i := 87) rfl))) Via.refl e0 (q10.ext q0.2) (g := (mkF m 124 #[.val (.int q_)] [])) rfl (hb hby own_d7_124)
    refine own_st (st126) ?_
    show own_Go p.tables e below _ (T126.setTop (mkF m 127 #[.val (.int q_)] [(.ref (K 9))]))
    exact own_ret (w := (.ref (K 9))) X126 hx hnl Bd.returns rfl (Or.inr (Or.inr (Or.inr (Or.inr ⟨rfl, rfl, rfl⟩)))) (hb hby own_d7_127) ⟨(congrArg some (own_kin (n := 9) c116_9 (by decide)).symm), N0, e126⟩ (by decide) (by decide)
  · skip
    refine own_st (fun t_ k_ => XS.tswIn X0.here hx rfl (pc0 := 1) (pc' := 128) rfl (hb hby own_d7_1) rfl (by rw [c116_10]; decide) (by rw [c116_10]; rfl) (by decide) (by decide) k_) ?_
    show own_Go p.tables e below _ (s₁.setTop (mkF m 128 #[.val (.int q_)] []))
    obtain ⟨T127, X127, e127, st127⟩ := getS2 X0 hx hZ hown (host := "") (Or.inl (hw _ (List.mem_of_getElem? (i := 77) rfl))) Via.refl e0 (q11.ext q0.2) (g := (mkF m 128 #[.val (.int q_)] [])) rfl (hb hby own_d7_128)
    refine own_st (st127) ?_
    show own_Go p.tables e below _ (T127.setTop (mkF m 131 #[.val (.int q_)] [(.ref (K 10))]))
    exact own_ret (w := (.ref (K 10))) X127 hx hnl Bd.returns rfl (Or.inr (Or.inr (Or.inr (Or.inr ⟨rfl, rfl, rfl⟩)))) (hb hby own_d7_131) ⟨(congrArg some (own_kin (n := 10) c116_10 (by decide)).symm), N0, e127⟩ (by decide) (by decide)
  · skip
    refine own_st (fun t_ k_ => XS.tswIn X0.here hx rfl (pc0 := 1) (pc' := 132) rfl (hb hby own_d7_1) rfl (by rw [c116_11]; decide) (by rw [c116_11]; rfl) (by decide) (by decide) k_) ?_
    show own_Go p.tables e below _ (s₁.setTop (mkF m 132 #[.val (.int q_)] []))
    obtain ⟨T128, X128, e128, st128⟩ := getS2 X0 hx hZ hown (host := "") (Or.inl (hw _ (List.mem_of_getElem? (i := 91) rfl))) Via.refl e0 (q12.ext q0.2) (g := (mkF m 132 #[.val (.int q_)] [])) rfl (hb hby own_d7_132)
    refine own_st (st128) ?_
    show own_Go p.tables e below _ (T128.setTop (mkF m 135 #[.val (.int q_)] [(.ref (K 11))]))
    exact own_ret (w := (.ref (K 11))) X128 hx hnl Bd.returns rfl (Or.inr (Or.inr (Or.inr (Or.inr ⟨rfl, rfl, rfl⟩)))) (hb hby own_d7_135) ⟨(congrArg some (own_kin (n := 11) c116_11 (by decide)).symm), N0, e128⟩ (by decide) (by decide)
  · skip
    refine own_st (fun t_ k_ => XS.tswIn X0.here hx rfl (pc0 := 1) (pc' := 136) rfl (hb hby own_d7_1) rfl (by rw [c116_12]; decide) (by rw [c116_12]; rfl) (by decide) (by decide) k_) ?_
    show own_Go p.tables e below _ (s₁.setTop (mkF m 136 #[.val (.int q_)] []))
    obtain ⟨T129, X129, e129, st129⟩ := getS2 X0 hx hZ hown (host := "") (Or.inl (hw _ (List.mem_of_getElem? (i := 95) rfl))) Via.refl e0 (q13.ext q0.2) (g := (mkF m 136 #[.val (.int q_)] [])) rfl (hb hby own_d7_136)
    refine own_st (st129) ?_
    show own_Go p.tables e below _ (T129.setTop (mkF m 139 #[.val (.int q_)] [(.ref (K 12))]))
    exact own_ret (w := (.ref (K 12))) X129 hx hnl Bd.returns rfl (Or.inr (Or.inr (Or.inr (Or.inr ⟨rfl, rfl, rfl⟩)))) (hb hby own_d7_139) ⟨(congrArg some (own_kin (n := 12) c116_12 (by decide)).symm), N0, e129⟩ (by decide) (by decide)
  · skip
    refine own_st (fun t_ k_ => XS.tswIn X0.here hx rfl (pc0 := 1) (pc' := 140) rfl (hb hby own_d7_1) rfl (by rw [c116_13]; decide) (by rw [c116_13]; rfl) (by decide) (by decide) k_) ?_
    show own_Go p.tables e below _ (s₁.setTop (mkF m 140 #[.val (.int q_)] []))
    obtain ⟨T130, X130, e130, st130⟩ := getS2 X0 hx hZ hown (host := "") (Or.inl (hw _ (List.mem_of_getElem? (i := 83) rfl))) Via.refl e0 (q14.ext q0.2) (g := (mkF m 140 #[.val (.int q_)] [])) rfl (hb hby own_d7_140)
    refine own_st (st130) ?_
    show own_Go p.tables e below _ (T130.setTop (mkF m 143 #[.val (.int q_)] [(.ref (K 13))]))
    exact own_ret (w := (.ref (K 13))) X130 hx hnl Bd.returns rfl (Or.inr (Or.inr (Or.inr (Or.inr ⟨rfl, rfl, rfl⟩)))) (hb hby own_d7_143) ⟨(congrArg some (own_kin (n := 13) c116_13 (by decide)).symm), N0, e130⟩ (by decide) (by decide)
  · skip
    refine own_st (fun t_ k_ => XS.tswIn X0.here hx rfl (pc0 := 1) (pc' := 144) rfl (hb hby own_d7_1) rfl (by rw [c116_14]; decide) (by rw [c116_14]; rfl) (by decide) (by decide) k_) ?_
    show own_Go p.tables e below _ (s₁.setTop (mkF m 144 #[.val (.int q_)] []))
    obtain ⟨T131, X131, e131, st131⟩ := getS2 X0 hx hZ hown (host := "") (Or.inl (hw _ (List.mem_of_getElem? (i := 89) rfl))) Via.refl e0 (q15.ext q0.2) (g := (mkF m 144 #[.val (.int q_)] [])) rfl (hb hby own_d7_144)
    refine own_st (st131) ?_
    show own_Go p.tables e below _ (T131.setTop (mkF m 147 #[.val (.int q_)] [(.ref (K 14))]))
    exact own_ret (w := (.ref (K 14))) X131 hx hnl Bd.returns rfl (Or.inr (Or.inr (Or.inr (Or.inr ⟨rfl, rfl, rfl⟩)))) (hb hby own_d7_147) ⟨(congrArg some (own_kin (n := 14) c116_14 (by decide)).symm), N0, e131⟩ (by decide) (by decide)
  · skip
    refine own_st (fun t_ k_ => XS.tswIn X0.here hx rfl (pc0 := 1) (pc' := 148) rfl (hb hby own_d7_1) rfl (by rw [c116_15]; decide) (by rw [c116_15]; rfl) (by decide) (by decide) k_) ?_
    show own_Go p.tables e below _ (s₁.setTop (mkF m 148 #[.val (.int q_)] []))
    obtain ⟨T132, X132, e132, st132⟩ := getS2 X0 hx hZ hown (host := "") (Or.inl (hw _ (List.mem_of_getElem? (i := 71) rfl))) Via.refl e0 (q16.ext q0.2) (g := (mkF m 148 #[.val (.int q_)] [])) rfl (hb hby own_d7_148)
    refine own_st (st132) ?_
    show own_Go p.tables e below _ (T132.setTop (mkF m 151 #[.val (.int q_)] [(.ref (K 15))]))
    exact own_ret (w := (.ref (K 15))) X132 hx hnl Bd.returns rfl (Or.inr (Or.inr (Or.inr (Or.inr ⟨rfl, rfl, rfl⟩)))) (hb hby own_d7_151) ⟨(congrArg some (own_kin (n := 15) c116_15 (by decide)).symm), N0, e132⟩ (by decide) (by decide)
  · skip
    refine own_st (fun t_ k_ => XS.tswIn X0.here hx rfl (pc0 := 1) (pc' := 152) rfl (hb hby own_d7_1) rfl (by rw [c116_16]; decide) (by rw [c116_16]; rfl) (by decide) (by decide) k_) ?_
    show own_Go p.tables e below _ (s₁.setTop (mkF m 152 #[.val (.int q_)] []))
    obtain ⟨T133, X133, e133, st133⟩ := getS2 X0 hx hZ hown (host := "") (Or.inl (hw _ (List.mem_of_getElem? (i := 75) rfl))) Via.refl e0 (q17.ext q0.2) (g := (mkF m 152 #[.val (.int q_)] [])) rfl (hb hby own_d7_152)
    refine own_st (st133) ?_
    show own_Go p.tables e below _ (T133.setTop (mkF m 155 #[.val (.int q_)] [(.ref (K 16))]))
    exact own_ret (w := (.ref (K 16))) X133 hx hnl Bd.returns rfl (Or.inr (Or.inr (Or.inr (Or.inr ⟨rfl, rfl, rfl⟩)))) (hb hby own_d7_155) ⟨(congrArg some (own_kin (n := 16) c116_16 (by decide)).symm), N0, e133⟩ (by decide) (by decide)
  · skip
    refine own_st (fun t_ k_ => XS.tswIn X0.here hx rfl (pc0 := 1) (pc' := 156) rfl (hb hby own_d7_1) rfl (by rw [c116_17]; decide) (by rw [c116_17]; rfl) (by decide) (by decide) k_) ?_
    show own_Go p.tables e below _ (s₁.setTop (mkF m 156 #[.val (.int q_)] []))
    obtain ⟨T134, X134, e134, st134⟩ := getS2 X0 hx hZ hown (host := "") (Or.inl (hw _ (List.mem_of_getElem? (i := 69) rfl))) Via.refl e0 (q18.ext q0.2) (g := (mkF m 156 #[.val (.int q_)] [])) rfl (hb hby own_d7_156)
    refine own_st (st134) ?_
    show own_Go p.tables e below _ (T134.setTop (mkF m 159 #[.val (.int q_)] [(.ref (K 17))]))
    exact own_ret (w := (.ref (K 17))) X134 hx hnl Bd.returns rfl (Or.inr (Or.inr (Or.inr (Or.inr ⟨rfl, rfl, rfl⟩)))) (hb hby own_d7_159) ⟨(congrArg some (own_kin (n := 17) c116_17 (by decide)).symm), N0, e134⟩ (by decide) (by decide)
  · skip
    refine own_st (fun t_ k_ => XS.tswOut X0.here hx rfl (pc0 := 1) (pc' := 160) rfl (hb hby own_d7_1) rfl c116_18 (by decide) (by decide) k_) ?_
    show own_Go p.tables e below _ (s₁.setTop (mkF m 160 #[.val (.int q_)] []))
    refine own_st (fun t_ k_ => XS.aconstNull X0.here hx rfl (hb hby own_d7_160) k_) ?_
    show own_Go p.tables e below _ (s₁.setTop (mkF m 161 #[.val (.int q_)] [.null]))
    exact own_ret (w := .null) X0 hx hnl Bd.returns rfl (Or.inr (Or.inr (Or.inr (Or.inr ⟨rfl, rfl, rfl⟩)))) (hb hby own_d7_161) ⟨(congrArg some (show own_kd K q_ = .null by unfold own_kd; rw [if_neg (by omega)]).symm), N0, e0⟩ (by decide) (by decide)

theorem own_d8_0 : decode prog_36_method_1_code 0 = .ok (.aload_n 0, 1) := by decide +kernel
theorem own_d8_1 : decode prog_36_method_1_code 1 = .ok (.invokespecial 1, 3) := by decide +kernel
theorem own_d8_4 : decode prog_36_method_1_code 4 = .ok (.aload_n 0, 1) := by decide +kernel
theorem own_d8_5 : decode prog_36_method_1_code 5 = .ok (.aload_n 1, 1) := by decide +kernel
theorem own_d8_6 : decode prog_36_method_1_code 6 = .ok (.putfield 7, 3) := by decide +kernel
theorem own_d8_9 : decode prog_36_method_1_code 9 = .ok (.aload_n 0, 1) := by decide +kernel
theorem own_d8_10 : decode prog_36_method_1_code 10 = .ok (.aload_n 2, 1) := by decide +kernel
theorem own_d8_11 : decode prog_36_method_1_code 11 = .ok (.putfield 13, 3) := by decide +kernel
theorem own_d8_14 : decode prog_36_method_1_code 14 = .ok (.aload_n 0, 1) := by decide +kernel
theorem own_d8_15 : decode prog_36_method_1_code 15 = .ok (.iload_n 3, 1) := by decide +kernel
theorem own_d8_16 : decode prog_36_method_1_code 16 = .ok (.putfield 17, 3) := by decide +kernel
theorem own_d8_19 : decode prog_36_method_1_code 19 = .ok (.aload_n 0, 1) := by decide +kernel
theorem own_d8_20 : decode prog_36_method_1_code 20 = .ok (.iload 4, 2) := by decide +kernel
theorem own_d8_22 : decode prog_36_method_1_code 22 = .ok (.putfield 21, 3) := by decide +kernel
theorem own_d8_25 : decode prog_36_method_1_code 25 = .ok (.return_, 1) := by decide +kernel
theorem own_pn4 : plainName "com/example/cima/cima/io/Token" = true := by first | (simp [plainName, overriddenIn]; done) | decide +kernel
theorem own_pd4 : parseMethodDescriptor "()V" = some ⟨[], none⟩ := by decide +kernel
theorem own_ef8 (m : MethodId) (x0 : Addr) (x1 : Addr) (x2 : Addr) (x3 : Int32) (x4 : Int32) : entryFrame m #[(.ref x0), (.ref x1), (.ref x2), (.int x3), (.int x4)] 5 = mkF m 0 #[.val (.ref x0), .val (.ref x1), .val (.ref x2), .val (.int x3), .val (.int x4)] [] := by first | (simp [entryFrame, mkF, argsToLocals, Value.category]; done) | rfl
def own_Q8 (Z : State) (a1 : Addr) (k2 : Addr) (s3 : Addr) (p4 : Int32) (p5 : Int32) (h0 : Heap) (n0 : Nat) (v : Option Value) (h : Heap) (L : List Loc) : Prop := v = none ∧ Fr n0 L ∧ Keep h0 h [a1] ∧ Fld Z h a1 "com/example/cima/cima/io/Token" "kind" "Lcom/example/cima/cima/io/Token$Kind;" (.ref k2)
set_option maxRecDepth 65536 in
set_option maxHeartbeats 40000000 in
theorem own_rm8 (l : Launch) (Z : State) (a0 : Array Value) (hw : ∀ d ∈ tables_1, d.before a0 Z = true) (ws : List Jvm.Cond) (a1 : Addr) (k2 : Addr) (s3 : Addr) (p4 : Int32) (p5 : Int32) (h0 : Heap) (n0 : Nat) (Z0 : n0 ≤ h0.size) (q0 : Exa Z h0 a1 "com/example/cima/cima/io/Token") (q1 : Fld Z h0 a1 "com/example/cima/cima/io/Token" "kind" "Lcom/example/cima/cima/io/Token$Kind;" .null) (q2 : Fld Z h0 a1 "com/example/cima/cima/io/Token" "text" "Ljava/lang/String;" .null) (q3 : Fld Z h0 a1 "com/example/cima/cima/io/Token" "line" "I" (.int (0 : Int32))) (q4 : Fld Z h0 a1 "com/example/cima/cima/io/Token" "spaced" "Z" (.int (0 : Int32))) (q5 : n0 ≤ a1) (hz : (p5 = 0 ∨ p5 = 1)) :
    MetFree l (⟨"com/example/cima/cima/io/Token", "<init>", "(Lcom/example/cima/cima/io/Token$Kind;Ljava/lang/String;IZ)V"⟩ : MethodName) (head1 (Jvm.Cond.code (⟨"com/example/cima/cima/io/Token", "<init>", "(Lcom/example/cima/cima/io/Token$Kind;Ljava/lang/String;IZ)V"⟩ : MethodName) prog_36_method_1_code 5 none :: ws) ({ frames := 2, cells := 0, slots := 0, locals := 24 } : Room)) (fun a U => a = #[(.ref a1), (.ref k2), (.ref s3), (.int p4), (.int p5)] ∧ Z.Warmed39 U.vm ∧ U.heap = h0) (fun _ _ _ _ _ => True) (fun _ U o U' => ∃ v L, o = .returned v ∧ own_Q8 Z a1 k2 s3 p4 p5 h0 n0 v U'.heap L ∧ FrameEnd U o U' L ({ frames := 2, cells := 0, slots := 0, locals := 24 } : Room).cells ({ frames := 2, cells := 0, slots := 0, locals := 24 } : Room).slots) := by
  refine MetFree.of_bodySF (plainFor_of_name own_pn4) hisR ?_
  intro p e s m args below meth c s₁ Bd hml0 hP hK
  obtain ⟨rfl, hZ, hh⟩ := hP
  have hx := Bd.exec
  have hby := Bd.bytes
  have hml : c.maxLocals = 5 := hml0
  have hown : s.vm.findClass "com/example/cima/cima/io/Token" = some m.cls := findClass_of_methodNamed Bd.named
  have hnm := (name_of_methodNamed Bd.named Bd.method).1
  have hnl : meth.locks = false := Bd.notSynchronized
  have X0 : Stand p l e ({ frames := 2, cells := 0, slots := 0, locals := 24 } : Room) s m #[(.ref a1), (.ref k2), (.ref s3), (.int p4), (.int p5)] below meth c s₁ [] 0 0 := Stand.of_body Bd
  have e0 : s₁.heap = h0 := by rw [← hh, Bd.state]; rfl
  have N0 := Fr.nil n0
  show own_Go p.tables e below (own_P below s (own_Q8 Z a1 k2 s3 p4 p5 h0 n0) ({ frames := 2, cells := 0, slots := 0, locals := 24 } : Room).cells ({ frames := 2, cells := 0, slots := 0, locals := 24 } : Room).slots) _
  refine own_st (fun t_ k_ => castTop (own_ef8 m a1 k2 s3 p4 p5) k_) ?_
  show own_Go p.tables e below _ (s₁.setTop (mkF m 0 #[.val (.ref a1), .val (.ref k2), .val (.ref s3), .val (.int p4), .val (.int p5)] []))
  refine own_st (fun t_ k_ => XS.aloadN X0.here hx rfl (hb hby own_d8_0) rfl rfl k_) ?_
  show own_Go p.tables e below _ (s₁.setTop (mkF m 1 #[.val (.ref a1), .val (.ref k2), .val (.ref s3), .val (.int p4), .val (.int p5)] [(.ref a1)]))
  obtain ⟨_, _, ⟨T135, L135, k135, n135⟩, -, X135, ⟨Lc135, hQ135, l135, y135, z135⟩, st135⟩ := X0.specialBack hx (y := (⟨"java/lang/Record", "<init>", "()V"⟩ : MethodName)) rfl hown (mvT hZ (hw _ (List.mem_of_getElem? (i := 44) rfl))) (mvT hZ (hw _ (List.mem_of_getElem? (i := 45) rfl))) (mvT hZ (hw _ (List.mem_of_getElem? (i := 48) rfl))) (by decide) (backOf (W := 0) (own_rm9 l Z a0 hw [] a1 h0 n0 (Nat.le_trans Z0 (Keep.refl h0 [a1]).1)) hZ (hw _ (List.mem_of_getElem? (i := 48) rfl)) (hw _ (List.mem_of_getElem? (i := 47) rfl)) (by decide) (by decide)) (g := (mkF m 1 #[.val (.ref a1), .val (.ref k2), .val (.ref s3), .val (.int p4), .val (.int p5)] [(.ref a1)])) rfl (by rw [hml]; rfl) (Steps.refl _) (a := a1) (argsL := []) (rest := []) (lenOf own_pd4 rfl) rfl (by show 2 * 0 + _ ≤ _; exact Nat.le_of_eq rfl) (hb hby own_d8_1) (fun _ _ => ⟨rfl, e0, (by decide : 0 + 0 ≤ _), (by decide : 0 + 0 ≤ _)⟩)
  dsimp only [Pt.U, Pt.locs, Pt.cells, Pt.slots] at X135 l135 y135 z135 st135 hQ135
  subst l135 y135 z135
  obtain ⟨rfl, N135q, eq135⟩ := hQ135
  have N135 := Fr.app N0 N135q
  refine own_tr st135 ?_
  show own_Go p.tables e below _ (T135.setTop (mkF m 4 #[.val (.ref a1), .val (.ref k2), .val (.ref s3), .val (.int p4), .val (.int p5)] []))
  refine own_st (fun t_ k_ => XS.aloadN X135.here hx rfl (hb hby own_d8_4) rfl rfl k_) ?_
  show own_Go p.tables e below _ (T135.setTop (mkF m 5 #[.val (.ref a1), .val (.ref k2), .val (.ref s3), .val (.int p4), .val (.int p5)] [(.ref a1)]))
  refine own_st (fun t_ k_ => XS.aloadN X135.here hx rfl (hb hby own_d8_5) rfl rfl k_) ?_
  show own_Go p.tables e below _ (T135.setTop (mkF m 6 #[.val (.ref a1), .val (.ref k2), .val (.ref s3), .val (.int p4), .val (.int p5)] [(.ref k2), (.ref a1)]))
  obtain ⟨T136, h136, X136, e136, W136, st136⟩ := putF X135 hx hZ hown (host := "") (Or.inl (hw _ (List.mem_of_getElem? (i := 50) rfl))) Via.refl eq135 q1 q0 (Or.inr ⟨(hw _ (List.mem_of_getElem? (i := 51) rfl)), rfl, hnm⟩) (hw _ (List.mem_of_getElem? (i := 32) rfl)) (ty := (.object "com/example/cima/cima/io/Token$Kind")) (by decide) rfl rfl (g := (mkF m 6 #[.val (.ref a1), .val (.ref k2), .val (.ref s3), .val (.int p4), .val (.int p5)] [(.ref k2), (.ref a1)])) rfl rfl (hb hby own_d8_6)
  have Fw136 : Fld Z h136 a1 "com/example/cima/cima/io/Token" "kind" "Lcom/example/cima/cima/io/Token$Kind;" (.ref k2) := q1.same W136
  have N136 := Fr.snoc X136 N135 q5
  have K136 : Keep h0 h136 [a1] := (Keep.refl h0 [a1]).wr W136 (Or.inl (List.mem_of_getElem? (i := 0) rfl))
  refine own_st (st136) ?_
  show own_Go p.tables e below _ (T136.setTop (mkF m 9 #[.val (.ref a1), .val (.ref k2), .val (.ref s3), .val (.int p4), .val (.int p5)] []))
  refine own_st (fun t_ k_ => XS.aloadN X136.here hx rfl (hb hby own_d8_9) rfl rfl k_) ?_
  show own_Go p.tables e below _ (T136.setTop (mkF m 10 #[.val (.ref a1), .val (.ref k2), .val (.ref s3), .val (.int p4), .val (.int p5)] [(.ref a1)]))
  refine own_st (fun t_ k_ => XS.aloadN X136.here hx rfl (hb hby own_d8_10) rfl rfl k_) ?_
  show own_Go p.tables e below _ (T136.setTop (mkF m 11 #[.val (.ref a1), .val (.ref k2), .val (.ref s3), .val (.int p4), .val (.int p5)] [(.ref s3), (.ref a1)]))
  obtain ⟨T137, h137, X137, e137, W137, st137⟩ := putF X136 hx hZ hown (host := "") (Or.inl (hw _ (List.mem_of_getElem? (i := 52) rfl))) Via.refl e136 (q2.other W136 (Or.inr (slot_ne (Or.inr (hw _ (List.mem_of_getElem? (i := 53) rfl))) (Or.inr (hw _ (List.mem_of_getElem? (i := 51) rfl))) (by decide) (t := (.object "java/lang/String")) (t' := (.object "com/example/cima/cima/io/Token$Kind")) (by decide) (by decide)))) (q0.wr W136) (Or.inr ⟨(hw _ (List.mem_of_getElem? (i := 53) rfl)), rfl, hnm⟩) (hw _ (List.mem_of_getElem? (i := 32) rfl)) (ty := (.object "java/lang/String")) (by decide) rfl rfl (g := (mkF m 11 #[.val (.ref a1), .val (.ref k2), .val (.ref s3), .val (.int p4), .val (.int p5)] [(.ref s3), (.ref a1)])) rfl rfl (hb hby own_d8_11)
  have Fw137 : Fld Z h137 a1 "com/example/cima/cima/io/Token" "text" "Ljava/lang/String;" (.ref s3) := (q2.other W136 (Or.inr (slot_ne (Or.inr (hw _ (List.mem_of_getElem? (i := 53) rfl))) (Or.inr (hw _ (List.mem_of_getElem? (i := 51) rfl))) (by decide) (t := (.object "java/lang/String")) (t' := (.object "com/example/cima/cima/io/Token$Kind")) (by decide) (by decide)))).same W137
  have N137 := Fr.snoc X137 N136 q5
  have K137 : Keep h0 h137 [a1] := K136.wr W137 (Or.inl (List.mem_of_getElem? (i := 0) rfl))
  refine own_st (st137) ?_
  show own_Go p.tables e below _ (T137.setTop (mkF m 14 #[.val (.ref a1), .val (.ref k2), .val (.ref s3), .val (.int p4), .val (.int p5)] []))
  refine own_st (fun t_ k_ => XS.aloadN X137.here hx rfl (hb hby own_d8_14) rfl rfl k_) ?_
  show own_Go p.tables e below _ (T137.setTop (mkF m 15 #[.val (.ref a1), .val (.ref k2), .val (.ref s3), .val (.int p4), .val (.int p5)] [(.ref a1)]))
  refine own_st (fun t_ k_ => XS.iloadN X137.here hx rfl (hb hby own_d8_15) rfl k_) ?_
  show own_Go p.tables e below _ (T137.setTop (mkF m 16 #[.val (.ref a1), .val (.ref k2), .val (.ref s3), .val (.int p4), .val (.int p5)] [(.int p4), (.ref a1)]))
  obtain ⟨T138, h138, X138, e138, W138, st138⟩ := putF X137 hx hZ hown (host := "") (Or.inl (hw _ (List.mem_of_getElem? (i := 54) rfl))) Via.refl e137 ((q3.other W136 (Or.inr (slot_ne (Or.inr (hw _ (List.mem_of_getElem? (i := 55) rfl))) (Or.inr (hw _ (List.mem_of_getElem? (i := 51) rfl))) (by decide) (t := .int) (t' := (.object "com/example/cima/cima/io/Token$Kind")) (by decide) (by decide)))).other W137 (Or.inr (slot_ne (Or.inr (hw _ (List.mem_of_getElem? (i := 55) rfl))) (Or.inr (hw _ (List.mem_of_getElem? (i := 53) rfl))) (by decide) (t := .int) (t' := (.object "java/lang/String")) (by decide) (by decide)))) ((q0.wr W136).wr W137) (Or.inr ⟨(hw _ (List.mem_of_getElem? (i := 55) rfl)), rfl, hnm⟩) (hw _ (List.mem_of_getElem? (i := 32) rfl)) (ty := .int) (by decide) rfl rfl (g := (mkF m 16 #[.val (.ref a1), .val (.ref k2), .val (.ref s3), .val (.int p4), .val (.int p5)] [(.int p4), (.ref a1)])) rfl rfl (hb hby own_d8_16)
  have Fw138 : Fld Z h138 a1 "com/example/cima/cima/io/Token" "line" "I" (.int p4) := ((q3.other W136 (Or.inr (slot_ne (Or.inr (hw _ (List.mem_of_getElem? (i := 55) rfl))) (Or.inr (hw _ (List.mem_of_getElem? (i := 51) rfl))) (by decide) (t := .int) (t' := (.object "com/example/cima/cima/io/Token$Kind")) (by decide) (by decide)))).other W137 (Or.inr (slot_ne (Or.inr (hw _ (List.mem_of_getElem? (i := 55) rfl))) (Or.inr (hw _ (List.mem_of_getElem? (i := 53) rfl))) (by decide) (t := .int) (t' := (.object "java/lang/String")) (by decide) (by decide)))).same W138
  have N138 := Fr.snoc X138 N137 q5
  have K138 : Keep h0 h138 [a1] := K137.wr W138 (Or.inl (List.mem_of_getElem? (i := 0) rfl))
  refine own_st (st138) ?_
  show own_Go p.tables e below _ (T138.setTop (mkF m 19 #[.val (.ref a1), .val (.ref k2), .val (.ref s3), .val (.int p4), .val (.int p5)] []))
  refine own_st (fun t_ k_ => XS.aloadN X138.here hx rfl (hb hby own_d8_19) rfl rfl k_) ?_
  show own_Go p.tables e below _ (T138.setTop (mkF m 20 #[.val (.ref a1), .val (.ref k2), .val (.ref s3), .val (.int p4), .val (.int p5)] [(.ref a1)]))
  refine own_st (fun t_ k_ => XS.iload X138.here hx rfl (hb hby own_d8_20) rfl k_) ?_
  show own_Go p.tables e below _ (T138.setTop (mkF m 22 #[.val (.ref a1), .val (.ref k2), .val (.ref s3), .val (.int p4), .val (.int p5)] [(.int p5), (.ref a1)]))
  obtain ⟨T139, h139, X139, e139, W139, st139⟩ := putFN X138 hx hZ hown (hw _ (List.mem_of_getElem? (i := 56) rfl)) Via.refl e138 (((q4.other W136 (Or.inr (slot_ne (Or.inr (hw _ (List.mem_of_getElem? (i := 57) rfl))) (Or.inr (hw _ (List.mem_of_getElem? (i := 51) rfl))) (by decide) (t := .boolean) (t' := (.object "com/example/cima/cima/io/Token$Kind")) (by decide) (by decide)))).other W137 (Or.inr (slot_ne (Or.inr (hw _ (List.mem_of_getElem? (i := 57) rfl))) (Or.inr (hw _ (List.mem_of_getElem? (i := 53) rfl))) (by decide) (t := .boolean) (t' := (.object "java/lang/String")) (by decide) (by decide)))).other W138 (Or.inr (slot_ne (Or.inr (hw _ (List.mem_of_getElem? (i := 57) rfl))) (Or.inr (hw _ (List.mem_of_getElem? (i := 55) rfl))) (by decide) (t := .boolean) (t' := .int) (by decide) (by decide)))) (((q0.wr W136).wr W137).wr W138) (Or.inr ⟨(hw _ (List.mem_of_getElem? (i := 57) rfl)), rfl, hnm⟩) (hw _ (List.mem_of_getElem? (i := 32) rfl)) (ty := .boolean) (v' := (.int p5)) (by decide) (own_nwz hz) (own_fz hz) (g := (mkF m 22 #[.val (.ref a1), .val (.ref k2), .val (.ref s3), .val (.int p4), .val (.int p5)] [(.int p5), (.ref a1)])) rfl rfl (hb hby own_d8_22)
  have Fw139 : Fld Z h139 a1 "com/example/cima/cima/io/Token" "spaced" "Z" (.int p5) := (((q4.other W136 (Or.inr (slot_ne (Or.inr (hw _ (List.mem_of_getElem? (i := 57) rfl))) (Or.inr (hw _ (List.mem_of_getElem? (i := 51) rfl))) (by decide) (t := .boolean) (t' := (.object "com/example/cima/cima/io/Token$Kind")) (by decide) (by decide)))).other W137 (Or.inr (slot_ne (Or.inr (hw _ (List.mem_of_getElem? (i := 57) rfl))) (Or.inr (hw _ (List.mem_of_getElem? (i := 53) rfl))) (by decide) (t := .boolean) (t' := (.object "java/lang/String")) (by decide) (by decide)))).other W138 (Or.inr (slot_ne (Or.inr (hw _ (List.mem_of_getElem? (i := 57) rfl))) (Or.inr (hw _ (List.mem_of_getElem? (i := 55) rfl))) (by decide) (t := .boolean) (t' := .int) (by decide) (by decide)))).same W139
  have N139 := Fr.snoc X139 N138 q5
  have K139 : Keep h0 h139 [a1] := K138.wr W139 (Or.inl (List.mem_of_getElem? (i := 0) rfl))
  refine own_st (st139) ?_
  show own_Go p.tables e below _ (T139.setTop (mkF m 25 #[.val (.ref a1), .val (.ref k2), .val (.ref s3), .val (.int p4), .val (.int p5)] []))
  exact own_ret0 X139 hx hnl Bd.returns (hb hby own_d8_25) ⟨rfl, N139, (by rw [e139]; exact K139), (by rw [e139]; exact (((Fw136.other W137 (Or.inr (slot_ne (Or.inr (hw _ (List.mem_of_getElem? (i := 51) rfl))) (Or.inr (hw _ (List.mem_of_getElem? (i := 53) rfl))) (by decide) (t := (.object "com/example/cima/cima/io/Token$Kind")) (t' := (.object "java/lang/String")) (by decide) (by decide)))).other W138 (Or.inr (slot_ne (Or.inr (hw _ (List.mem_of_getElem? (i := 51) rfl))) (Or.inr (hw _ (List.mem_of_getElem? (i := 55) rfl))) (by decide) (t := (.object "com/example/cima/cima/io/Token$Kind")) (t' := .int) (by decide) (by decide)))).other W139 (Or.inr (slot_ne (Or.inr (hw _ (List.mem_of_getElem? (i := 51) rfl))) (Or.inr (hw _ (List.mem_of_getElem? (i := 57) rfl))) (by decide) (t := (.object "com/example/cima/cima/io/Token$Kind")) (t' := .boolean) (by decide) (by decide)))))⟩ (by decide) (by decide)

theorem own_d10_0 : decode prog_36_method_2_code 0 = .ok (.aload_n 0, 1) := by decide +kernel
theorem own_d10_1 : decode prog_36_method_2_code 1 = .ok (.getfield 7, 3) := by decide +kernel
theorem own_d10_4 : decode prog_36_method_2_code 4 = .ok (.aload_n 1, 1) := by decide +kernel
theorem own_d10_5 : decode prog_36_method_2_code 5 = .ok (.if_acmp .ne 7, 3) := by decide +kernel
theorem own_d10_8 : decode prog_36_method_2_code 8 = .ok (.iconst 1, 1) := by decide +kernel
theorem own_d10_9 : decode prog_36_method_2_code 9 = .ok (.goto 4, 3) := by decide +kernel
theorem own_d10_12 : decode prog_36_method_2_code 12 = .ok (.iconst 0, 1) := by decide +kernel
theorem own_d10_13 : decode prog_36_method_2_code 13 = .ok (.ireturn, 1) := by decide +kernel
theorem own_efisR (m : MethodId) (x0 : Addr) (x1 : Addr) : entryFrame m #[(.ref x0), (.ref x1)] 2 = mkF m 0 #[.val (.ref x0), .val (.ref x1)] [] := by first | (simp [entryFrame, mkF, argsToLocals, Value.category]; done) | rfl
def own_QisR (Z : State) (a1 : Addr) (k2 : Addr) (kk : Addr) (h0 : Heap) (n0 : Nat) (v : Option Value) (h : Heap) (L : List Loc) : Prop := v = some (.int (own_is kk k2)) ∧ Fr n0 L ∧ h = h0
set_option maxRecDepth 65536 in
set_option maxHeartbeats 40000000 in
theorem own_rmisR (l : Launch) (Z : State) (a0 : Array Value) (hw : ∀ d ∈ tables_1, d.before a0 Z = true) (ws : List Jvm.Cond) (a1 : Addr) (k2 : Addr) (kk : Addr) (h0 : Heap) (n0 : Nat) (Z0 : n0 ≤ h0.size) (q0 : Fld Z h0 a1 "com/example/cima/cima/io/Token" "kind" "Lcom/example/cima/cima/io/Token$Kind;" (.ref kk)) :
    MetFree l (⟨"com/example/cima/cima/io/Token", "is", "(Lcom/example/cima/cima/io/Token$Kind;)Z"⟩ : MethodName) (head1 (Jvm.Cond.code (⟨"com/example/cima/cima/io/Token", "is", "(Lcom/example/cima/cima/io/Token$Kind;)Z"⟩ : MethodName) prog_36_method_2_code 2 (some .boolean) :: ws) ({ frames := 0, cells := 0, slots := 0, locals := 0 } : Room)) (fun a U => a = #[(.ref a1), (.ref k2)] ∧ Z.Warmed39 U.vm ∧ U.heap = h0) (fun _ _ _ _ _ => True) (fun _ U o U' => ∃ v L, o = .returned v ∧ own_QisR Z a1 k2 kk h0 n0 v U'.heap L ∧ FrameEnd U o U' L ({ frames := 0, cells := 0, slots := 0, locals := 0 } : Room).cells ({ frames := 0, cells := 0, slots := 0, locals := 0 } : Room).slots) := by
  refine MetFree.of_bodySF (plainFor_of_name own_pn4) hisR ?_
  intro p e s m args below meth c s₁ Bd hml0 hP hK
  obtain ⟨rfl, hZ, hh⟩ := hP
  have hx := Bd.exec
  have hby := Bd.bytes
  have hml : c.maxLocals = 2 := hml0
  have hown : s.vm.findClass "com/example/cima/cima/io/Token" = some m.cls := findClass_of_methodNamed Bd.named
  have hnm := (name_of_methodNamed Bd.named Bd.method).1
  have hnl : meth.locks = false := Bd.notSynchronized
  have X0 : Stand p l e ({ frames := 0, cells := 0, slots := 0, locals := 0 } : Room) s m #[(.ref a1), (.ref k2)] below meth c s₁ [] 0 0 := Stand.of_body Bd
  have e0 : s₁.heap = h0 := by rw [← hh, Bd.state]; rfl
  have N0 := Fr.nil n0
  show own_Go p.tables e below (own_P below s (own_QisR Z a1 k2 kk h0 n0) ({ frames := 0, cells := 0, slots := 0, locals := 0 } : Room).cells ({ frames := 0, cells := 0, slots := 0, locals := 0 } : Room).slots) _
  refine own_st (fun t_ k_ => castTop (own_efisR m a1 k2) k_) ?_
  show own_Go p.tables e below _ (s₁.setTop (mkF m 0 #[.val (.ref a1), .val (.ref k2)] []))
  refine own_st (fun t_ k_ => XS.aloadN X0.here hx rfl (hb hby own_d10_0) rfl rfl k_) ?_
  show own_Go p.tables e below _ (s₁.setTop (mkF m 1 #[.val (.ref a1), .val (.ref k2)] [(.ref a1)]))
  obtain ⟨T140, X140, e140, st140⟩ := getF X0 hx hZ hown (host := "") (Or.inl (hw _ (List.mem_of_getElem? (i := 50) rfl))) Via.refl e0 q0 (g := (mkF m 1 #[.val (.ref a1), .val (.ref k2)] [(.ref a1)])) rfl rfl (hb hby own_d10_1)
  refine own_st (st140) ?_
  show own_Go p.tables e below _ (T140.setTop (mkF m 4 #[.val (.ref a1), .val (.ref k2)] [(.ref kk)]))
  refine own_st (fun t_ k_ => XS.aloadN X140.here hx rfl (hb hby own_d10_4) rfl rfl k_) ?_
  show own_Go p.tables e below _ (T140.setTop (mkF m 5 #[.val (.ref a1), .val (.ref k2)] [(.ref k2), (.ref kk)]))
  by_cases c5_141 : ((.ref kk) : Value) = (.ref k2)
  · skip
    refine own_st (fun t_ k_ => Jvm.RoadKit.acmp (g := (mkF m 5 #[.val (.ref a1), .val (.ref k2)] [(.ref k2), (.ref kk)])) X140 hx rfl rfl rfl (pc0 := 5) (pc' := 8) (same := true) rfl (hb hby own_d10_5) rfl (decide_eq_true c5_141) (by decide) (by decide) k_) ?_
    show own_Go p.tables e below _ (T140.setTop (mkF m 8 #[.val (.ref a1), .val (.ref k2)] []))
    refine own_st (fun t_ k_ => XS.iconst X140.here hx rfl (hb hby own_d10_8) k_) ?_
    show own_Go p.tables e below _ (T140.setTop (mkF m 9 #[.val (.ref a1), .val (.ref k2)] [(.int (1 : Int32))]))
    refine own_st (fun t_ k_ => XS.goto X140.here hx rfl (pc0 := 9) (pc' := 13) rfl (hb hby own_d10_9) (by decide) (by decide) k_) ?_
    show own_Go p.tables e below _ (T140.setTop (mkF m 13 #[.val (.ref a1), .val (.ref k2)] [(.int (1 : Int32))]))
    exact own_ret (w := (.int (1 : Int32))) X140 hx hnl Bd.returns rfl (Or.inl ⟨rfl, by decide, _, rfl⟩) (hb hby own_d10_13) ⟨(by simp [own_is, Value.ref.inj c5_141]), N0, e140⟩ (by decide) (by decide)
  · skip
    refine own_st (fun t_ k_ => Jvm.RoadKit.acmp (g := (mkF m 5 #[.val (.ref a1), .val (.ref k2)] [(.ref k2), (.ref kk)])) X140 hx rfl rfl rfl (pc0 := 5) (pc' := 12) (same := false) rfl (hb hby own_d10_5) rfl (decide_eq_false c5_141) (by decide) (by decide) k_) ?_
    show own_Go p.tables e below _ (T140.setTop (mkF m 12 #[.val (.ref a1), .val (.ref k2)] []))
    refine own_st (fun t_ k_ => XS.iconst X140.here hx rfl (hb hby own_d10_12) k_) ?_
    show own_Go p.tables e below _ (T140.setTop (mkF m 13 #[.val (.ref a1), .val (.ref k2)] [(.int (0 : Int32))]))
    exact own_ret (w := (.int (0 : Int32))) X140 hx hnl Bd.returns rfl (Or.inl ⟨rfl, by decide, _, rfl⟩) (hb hby own_d10_13) ⟨(by simp [own_is, show ¬ kk = k2 from fun q => c5_141 (congrArg Value.ref q)]), N0, e140⟩ (by decide) (by decide)

theorem own_efisN (m : MethodId) (x0 : Addr) : entryFrame m #[(.ref x0), .null] 2 = mkF m 0 #[.val (.ref x0), .val .null] [] := by first | (simp [entryFrame, mkF, argsToLocals, Value.category]; done) | rfl
def own_QisN (Z : State) (a1 : Addr) (kk : Addr) (h0 : Heap) (n0 : Nat) (v : Option Value) (h : Heap) (L : List Loc) : Prop := v = some (.int (0 : Int32)) ∧ Fr n0 L ∧ h = h0
set_option maxRecDepth 65536 in
set_option maxHeartbeats 40000000 in
theorem own_rmisN (l : Launch) (Z : State) (a0 : Array Value) (hw : ∀ d ∈ tables_1, d.before a0 Z = true) (ws : List Jvm.Cond) (a1 : Addr) (kk : Addr) (h0 : Heap) (n0 : Nat) (Z0 : n0 ≤ h0.size) (q0 : Fld Z h0 a1 "com/example/cima/cima/io/Token" "kind" "Lcom/example/cima/cima/io/Token$Kind;" (.ref kk)) :
    MetFree l (⟨"com/example/cima/cima/io/Token", "is", "(Lcom/example/cima/cima/io/Token$Kind;)Z"⟩ : MethodName) (head1 (Jvm.Cond.code (⟨"com/example/cima/cima/io/Token", "is", "(Lcom/example/cima/cima/io/Token$Kind;)Z"⟩ : MethodName) prog_36_method_2_code 2 (some .boolean) :: ws) ({ frames := 0, cells := 0, slots := 0, locals := 0 } : Room)) (fun a U => a = #[(.ref a1), .null] ∧ Z.Warmed39 U.vm ∧ U.heap = h0) (fun _ _ _ _ _ => True) (fun _ U o U' => ∃ v L, o = .returned v ∧ own_QisN Z a1 kk h0 n0 v U'.heap L ∧ FrameEnd U o U' L ({ frames := 0, cells := 0, slots := 0, locals := 0 } : Room).cells ({ frames := 0, cells := 0, slots := 0, locals := 0 } : Room).slots) := by
  refine MetFree.of_bodySF (plainFor_of_name own_pn4) hisR ?_
  intro p e s m args below meth c s₁ Bd hml0 hP hK
  obtain ⟨rfl, hZ, hh⟩ := hP
  have hx := Bd.exec
  have hby := Bd.bytes
  have hml : c.maxLocals = 2 := hml0
  have hown : s.vm.findClass "com/example/cima/cima/io/Token" = some m.cls := findClass_of_methodNamed Bd.named
  have hnm := (name_of_methodNamed Bd.named Bd.method).1
  have hnl : meth.locks = false := Bd.notSynchronized
  have X0 : Stand p l e ({ frames := 0, cells := 0, slots := 0, locals := 0 } : Room) s m #[(.ref a1), .null] below meth c s₁ [] 0 0 := Stand.of_body Bd
  have e0 : s₁.heap = h0 := by rw [← hh, Bd.state]; rfl
  have N0 := Fr.nil n0
  show own_Go p.tables e below (own_P below s (own_QisN Z a1 kk h0 n0) ({ frames := 0, cells := 0, slots := 0, locals := 0 } : Room).cells ({ frames := 0, cells := 0, slots := 0, locals := 0 } : Room).slots) _
  refine own_st (fun t_ k_ => castTop (own_efisN m a1) k_) ?_
  show own_Go p.tables e below _ (s₁.setTop (mkF m 0 #[.val (.ref a1), .val .null] []))
  refine own_st (fun t_ k_ => XS.aloadN X0.here hx rfl (hb hby own_d10_0) rfl rfl k_) ?_
  show own_Go p.tables e below _ (s₁.setTop (mkF m 1 #[.val (.ref a1), .val .null] [(.ref a1)]))
  obtain ⟨T142, X142, e142, st142⟩ := getF X0 hx hZ hown (host := "") (Or.inl (hw _ (List.mem_of_getElem? (i := 50) rfl))) Via.refl e0 q0 (g := (mkF m 1 #[.val (.ref a1), .val .null] [(.ref a1)])) rfl rfl (hb hby own_d10_1)
  refine own_st (st142) ?_
  show own_Go p.tables e below _ (T142.setTop (mkF m 4 #[.val (.ref a1), .val .null] [(.ref kk)]))
  refine own_st (fun t_ k_ => XS.aloadN X142.here hx rfl (hb hby own_d10_4) rfl rfl k_) ?_
  show own_Go p.tables e below _ (T142.setTop (mkF m 5 #[.val (.ref a1), .val .null] [.null, (.ref kk)]))
  refine own_st (fun t_ k_ => Jvm.RoadKit.acmp (g := (mkF m 5 #[.val (.ref a1), .val .null] [.null, (.ref kk)])) X142 hx rfl rfl rfl (pc0 := 5) (pc' := 12) (same := false) rfl (hb hby own_d10_5) rfl (decide_eq_false nofun) (by decide) (by decide) k_) ?_
  show own_Go p.tables e below _ (T142.setTop (mkF m 12 #[.val (.ref a1), .val .null] []))
  refine own_st (fun t_ k_ => XS.iconst X142.here hx rfl (hb hby own_d10_12) k_) ?_
  show own_Go p.tables e below _ (T142.setTop (mkF m 13 #[.val (.ref a1), .val .null] [(.int (0 : Int32))]))
  exact own_ret (w := (.int (0 : Int32))) X142 hx hnl Bd.returns rfl (Or.inl ⟨rfl, by decide, _, rfl⟩) (hb hby own_d10_13) ⟨rfl, N0, e142⟩ (by decide) (by decide)

theorem own_pd5 : parseMethodDescriptor "([C)V" = some ⟨[(.array .char)], none⟩ := by decide +kernel
theorem own_pd6 : parseMethodDescriptor "(I)Lcom/example/cima/cima/io/Token$Kind;" = some ⟨[.int], some (.object "com/example/cima/cima/io/Token$Kind")⟩ := by decide +kernel
theorem own_pd7 : parseMethodDescriptor "(Lcom/example/cima/cima/io/Token$Kind;Ljava/lang/String;IZ)V" = some ⟨[(.object "com/example/cima/cima/io/Token$Kind"), (.object "java/lang/String"), .int, .boolean], none⟩ := by decide +kernel
theorem own_pd8 : parseMethodDescriptor "(Lcom/example/cima/cima/io/Token$Kind;)Z" = some ⟨[(.object "com/example/cima/cima/io/Token$Kind")], some .boolean⟩ := by decide +kernel
theorem own_ef0 (m : MethodId) (x0 : Int32) (x1 : Int32) (x2 : Int32) (x3 : Int32) (x4 : Int32) : entryFrame m #[(.int x0), (.int x1), (.int x2), (.int x3), (.int x4)] maxLocals = mkF m 0 #[.val (.int x0), .val (.int x1), .val (.int x2), .val (.int x3), .val (.int x4), .unset, .unset, .unset, .unset, .unset, .unset] [] := by first | (simp [entryFrame, mkF, argsToLocals, Value.category, maxLocals]; done) | rfl
def own_Q0 (Z : State) (p0 : Int32) (p1 : Int32) (p2 : Int32) (p3 : Int32) (p4 : Int32) (K : Nat → Addr) (G1 : Int32) (h0 : Heap) (n0 : Nat) (v : Option Value) (h : Heap) (L : List Loc) : Prop := v = some (.int (1 : Int32)) ∧ Fr n0 L ∧ Keep h0 h []
set_option maxRecDepth 65536 in
set_option maxHeartbeats 40000000 in
theorem own_rm0 (l : Launch) (Z : State) (a0 : Array Value) (hw : ∀ d ∈ tables_1, d.before a0 Z = true) (ws : List Jvm.Cond) (p0 : Int32) (p1 : Int32) (p2 : Int32) (p3 : Int32) (p4 : Int32) (K : Nat → Addr) (G1 : Int32) (h0 : Heap) (n0 : Nat) (Z0 : n0 ≤ h0.size) (q0 : Old Z n0 h0) (q1 : Sta Z Z.heap "com/example/cima/cima/io/Token$Kind" "NAME" "Lcom/example/cima/cima/io/Token$Kind;" (.ref (K 0))) (q2 : Sta Z Z.heap "com/example/cima/cima/io/Token$Kind" "VARIABLE" "Lcom/example/cima/cima/io/Token$Kind;" (.ref (K 1))) (q3 : Sta Z Z.heap "com/example/cima/cima/io/Token$Kind" "NUMBER" "Lcom/example/cima/cima/io/Token$Kind;" (.ref (K 2))) (q4 : Sta Z Z.heap "com/example/cima/cima/io/Token$Kind" "STRING" "Lcom/example/cima/cima/io/Token$Kind;" (.ref (K 3))) (q5 : Sta Z Z.heap "com/example/cima/cima/io/Token$Kind" "LEFT_PARENTHESIS" "Lcom/example/cima/cima/io/Token$Kind;" (.ref (K 4))) (q6 : Sta Z Z.heap "com/example/cima/cima/io/Token$Kind" "RIGHT_PARENTHESIS" "Lcom/example/cima/cima/io/Token$Kind;" (.ref (K 5))) (q7 : Sta Z Z.heap "com/example/cima/cima/io/Token$Kind" "LEFT_BRACKET" "Lcom/example/cima/cima/io/Token$Kind;" (.ref (K 6))) (q8 : Sta Z Z.heap "com/example/cima/cima/io/Token$Kind" "RIGHT_BRACKET" "Lcom/example/cima/cima/io/Token$Kind;" (.ref (K 7))) (q9 : Sta Z Z.heap "com/example/cima/cima/io/Token$Kind" "COMMA" "Lcom/example/cima/cima/io/Token$Kind;" (.ref (K 8))) (q10 : Sta Z Z.heap "com/example/cima/cima/io/Token$Kind" "FULL_STOP" "Lcom/example/cima/cima/io/Token$Kind;" (.ref (K 9))) (q11 : Sta Z Z.heap "com/example/cima/cima/io/Token$Kind" "ARROW" "Lcom/example/cima/cima/io/Token$Kind;" (.ref (K 10))) (q12 : Sta Z Z.heap "com/example/cima/cima/io/Token$Kind" "COMPARISON" "Lcom/example/cima/cima/io/Token$Kind;" (.ref (K 11))) (q13 : Sta Z Z.heap "com/example/cima/cima/io/Token$Kind" "PLUS" "Lcom/example/cima/cima/io/Token$Kind;" (.ref (K 12))) (q14 : Sta Z Z.heap "com/example/cima/cima/io/Token$Kind" "MINUS" "Lcom/example/cima/cima/io/Token$Kind;" (.ref (K 13))) (q15 : Sta Z Z.heap "com/example/cima/cima/io/Token$Kind" "TIMES" "Lcom/example/cima/cima/io/Token$Kind;" (.ref (K 14))) (q16 : Sta Z Z.heap "com/example/cima/cima/io/Token$Kind" "DIVIDE" "Lcom/example/cima/cima/io/Token$Kind;" (.ref (K 15))) (q17 : Sta Z Z.heap "com/example/cima/cima/io/Token$Kind" "END_OF_FILE" "Lcom/example/cima/cima/io/Token$Kind;" (.ref (K 16))) (q18 : Sta Z Z.heap "com/example/cima/cima/io/Token$Kind" "ERROR" "Lcom/example/cima/cima/io/Token$Kind;" (.ref (K 17))) (hO : (∀ a : Nat, a < 18 → Fld Z Z.heap (K a) "java/lang/Enum" "ordinal" "I" (.int (Int32.ofNat a)))) (q20 : Sta Z Z.heap "java/lang/String" "COMPACT_STRINGS" "Z" (.int G1)) (hG1 : (¬ G1 = (0 : Int32))) :
    MetFree l x (head1 (Jvm.Cond.code x code maxLocals ret :: ws) room_1) (fun a U => a = #[(.int p0), (.int p1), (.int p2), (.int p3), (.int p4)] ∧ Z.Warmed39 U.vm ∧ U.heap = h0) (fun _ _ _ _ _ => True) (fun _ U o U' => ∃ v L, o = .returned v ∧ own_Q0 Z p0 p1 p2 p3 p4 K G1 h0 n0 v U'.heap L ∧ FrameEnd U o U' L room_1.cells room_1.slots) := by
  refine MetFree.of_bodySF (plainFor_of_name own_pn3) hisR ?_
  intro p e s m args below meth c s₁ Bd hml0 hP hK
  obtain ⟨rfl, hZ, hh⟩ := hP
  have hx := Bd.exec
  have hby := Bd.bytes
  have hml : c.maxLocals = 11 := hml0
  have hown : s.vm.findClass "com/example/cima/cima/io/TokenIsPinLaw" = some m.cls := findClass_of_methodNamed Bd.named
  have hnm := (name_of_methodNamed Bd.named Bd.method).1
  have hnl : meth.locks = false := Bd.notSynchronized
  have X0 : Stand p l e room_1 s m #[(.int p0), (.int p1), (.int p2), (.int p3), (.int p4)] below meth c s₁ [] 0 0 := Stand.of_body Bd
  have e0 : s₁.heap = h0 := by rw [← hh, Bd.state]; rfl
  have N0 := Fr.nil n0
  show own_Go p.tables e below (own_P below s (own_Q0 Z p0 p1 p2 p3 p4 K G1 h0 n0) room_1.cells room_1.slots) _
  refine own_st (fun t_ k_ => castTop (own_ef0 m p0 p1 p2 p3 p4) k_) ?_
  show own_Go p.tables e below _ (s₁.setTop (mkF m 0 #[.val (.int p0), .val (.int p1), .val (.int p2), .val (.int p3), .val (.int p4), .unset, .unset, .unset, .unset, .unset, .unset] []))
  obtain ⟨ii, hii⟩ : ∃ z, z = (p0 &&& 2147483647) % 18 := ⟨_, rfl⟩
  obtain ⟨im, bi, him⟩ := own_remN (own_mk p0) (y := 18) (n := 18) (by decide) (by decide)
  rw [← hii] at him
  obtain ⟨jj, hjj⟩ : ∃ z, z = (p1 &&& 2147483647) % 19 := ⟨_, rfl⟩
  obtain ⟨jm, bj, hjm⟩ := own_remN (own_mk p1) (y := 19) (n := 19) (by decide) (by decide)
  rw [← hjj] at hjm
  have hij : ii = jj ↔ im = jm := by rw [← Int32.toInt_inj, him, hjm]; omega
  refine own_st (fun t_ k_ => XS.iloadN X0.here hx rfl (hb hby at_0) rfl k_) ?_
  show own_Go p.tables e below _ (s₁.setTop (mkF m 1 #[.val (.int p0), .val (.int p1), .val (.int p2), .val (.int p3), .val (.int p4), .unset, .unset, .unset, .unset, .unset, .unset] [(.int p0)]))
  refine own_st (X0.ldcInt hx hown (mvT hZ (hw _ (List.mem_of_getElem? (i := 0) rfl))) (g := (mkF m 1 #[.val (.int p0), .val (.int p1), .val (.int p2), .val (.int p3), .val (.int p4), .unset, .unset, .unset, .unset, .unset, .unset] [(.int p0)])) rfl (hb hby at_1)) ?_
  show own_Go p.tables e below _ (s₁.setTop (mkF m 3 #[.val (.int p0), .val (.int p1), .val (.int p2), .val (.int p3), .val (.int p4), .unset, .unset, .unset, .unset, .unset, .unset] [(.int (2147483647 : Int32)), (.int p0)]))
  refine own_st (fun t_ k_ => XS.iand X0.here hx rfl (hb hby at_3) rfl k_) ?_
  show own_Go p.tables e below _ (s₁.setTop (mkF m 4 #[.val (.int p0), .val (.int p1), .val (.int p2), .val (.int p3), .val (.int p4), .unset, .unset, .unset, .unset, .unset, .unset] [(.int (p0 &&& (2147483647 : Int32)))]))
  refine own_st (fun t_ k_ => XS.bipush X0.here hx rfl (hb hby at_4) k_) ?_
  show own_Go p.tables e below _ (s₁.setTop (mkF m 6 #[.val (.int p0), .val (.int p1), .val (.int p2), .val (.int p3), .val (.int p4), .unset, .unset, .unset, .unset, .unset, .unset] [(.int (18 : Int32)), (.int (p0 &&& (2147483647 : Int32)))]))
  refine own_st (fun t_ k_ => iremM X0 hx rfl (hb hby at_6) rfl (by decide) k_) ?_
  show own_Go p.tables e below _ (s₁.setTop (mkF m 7 #[.val (.int p0), .val (.int p1), .val (.int p2), .val (.int p3), .val (.int p4), .unset, .unset, .unset, .unset, .unset, .unset] [(.int ((p0 &&& (2147483647 : Int32)) % (18 : Int32)))]))
  rw [show ((p0 &&& (2147483647 : Int32)) % (18 : Int32)) = ii from hii.symm]
  show own_Go p.tables e below _ (s₁.setTop (mkF m 7 #[.val (.int p0), .val (.int p1), .val (.int p2), .val (.int p3), .val (.int p4), .unset, .unset, .unset, .unset, .unset, .unset] [(.int ii)]))
  refine own_st (fun t_ k_ => XS.istore X0.here hx rfl (hb hby at_7) rfl (l' := #[.val (.int p0), .val (.int p1), .val (.int p2), .val (.int p3), .val (.int p4), .val (.int ii), .unset, .unset, .unset, .unset, .unset]) rfl k_) ?_
  show own_Go p.tables e below _ (s₁.setTop (mkF m 9 #[.val (.int p0), .val (.int p1), .val (.int p2), .val (.int p3), .val (.int p4), .val (.int ii), .unset, .unset, .unset, .unset, .unset] []))
  refine own_st (fun t_ k_ => XS.iloadN X0.here hx rfl (hb hby at_9) rfl k_) ?_
  show own_Go p.tables e below _ (s₁.setTop (mkF m 10 #[.val (.int p0), .val (.int p1), .val (.int p2), .val (.int p3), .val (.int p4), .val (.int ii), .unset, .unset, .unset, .unset, .unset] [(.int p1)]))
  refine own_st (X0.ldcInt hx hown (mvT hZ (hw _ (List.mem_of_getElem? (i := 0) rfl))) (g := (mkF m 10 #[.val (.int p0), .val (.int p1), .val (.int p2), .val (.int p3), .val (.int p4), .val (.int ii), .unset, .unset, .unset, .unset, .unset] [(.int p1)])) rfl (hb hby at_10)) ?_
  show own_Go p.tables e below _ (s₁.setTop (mkF m 12 #[.val (.int p0), .val (.int p1), .val (.int p2), .val (.int p3), .val (.int p4), .val (.int ii), .unset, .unset, .unset, .unset, .unset] [(.int (2147483647 : Int32)), (.int p1)]))
  refine own_st (fun t_ k_ => XS.iand X0.here hx rfl (hb hby at_12) rfl k_) ?_
  show own_Go p.tables e below _ (s₁.setTop (mkF m 13 #[.val (.int p0), .val (.int p1), .val (.int p2), .val (.int p3), .val (.int p4), .val (.int ii), .unset, .unset, .unset, .unset, .unset] [(.int (p1 &&& (2147483647 : Int32)))]))
  refine own_st (fun t_ k_ => XS.bipush X0.here hx rfl (hb hby at_13) k_) ?_
  show own_Go p.tables e below _ (s₁.setTop (mkF m 15 #[.val (.int p0), .val (.int p1), .val (.int p2), .val (.int p3), .val (.int p4), .val (.int ii), .unset, .unset, .unset, .unset, .unset] [(.int (19 : Int32)), (.int (p1 &&& (2147483647 : Int32)))]))
  refine own_st (fun t_ k_ => iremM X0 hx rfl (hb hby at_15) rfl (by decide) k_) ?_
  show own_Go p.tables e below _ (s₁.setTop (mkF m 16 #[.val (.int p0), .val (.int p1), .val (.int p2), .val (.int p3), .val (.int p4), .val (.int ii), .unset, .unset, .unset, .unset, .unset] [(.int ((p1 &&& (2147483647 : Int32)) % (19 : Int32)))]))
  rw [show ((p1 &&& (2147483647 : Int32)) % (19 : Int32)) = jj from hjj.symm]
  show own_Go p.tables e below _ (s₁.setTop (mkF m 16 #[.val (.int p0), .val (.int p1), .val (.int p2), .val (.int p3), .val (.int p4), .val (.int ii), .unset, .unset, .unset, .unset, .unset] [(.int jj)]))
  refine own_st (fun t_ k_ => XS.istore X0.here hx rfl (hb hby at_16) rfl (l' := #[.val (.int p0), .val (.int p1), .val (.int p2), .val (.int p3), .val (.int p4), .val (.int ii), .val (.int jj), .unset, .unset, .unset, .unset]) rfl k_) ?_
  show own_Go p.tables e below _ (s₁.setTop (mkF m 18 #[.val (.int p0), .val (.int p1), .val (.int p2), .val (.int p3), .val (.int p4), .val (.int ii), .val (.int jj), .unset, .unset, .unset, .unset] []))
  refine own_st (fun t_ k_ => XS.iconst X0.here hx rfl (hb hby at_18) k_) ?_
  show own_Go p.tables e below _ (s₁.setTop (mkF m 19 #[.val (.int p0), .val (.int p1), .val (.int p2), .val (.int p3), .val (.int p4), .val (.int ii), .val (.int jj), .unset, .unset, .unset, .unset] [(.int (2 : Int32))]))
  obtain ⟨T143, h143, k143, X143, e143, E143, A143, st143⟩ := newP X0 hx hZ (hw _ (List.mem_of_getElem? (i := 1) rfl)) e0 (g := (mkF m 19 #[.val (.int p0), .val (.int p1), .val (.int p2), .val (.int p3), .val (.int p4), .val (.int ii), .val (.int jj), .unset, .unset, .unset, .unset] [(.int (2 : Int32))])) rfl (hb hby at_19) rfl (by decide) (cap := 2) (by decide) (by decide) (by decide) (by decide)
  obtain ⟨b143, g143⟩ : ∃ z, z = h0.size := ⟨_, rfl⟩
  rw [← g143] at A143 st143
  have fr143 : h0.size ≤ b143 := Nat.le_trans (Keep.refl h0 []).1 (Nat.le_of_eq g143.symm)
  have ge143 : n0 ≤ b143 := Nat.le_trans Z0 fr143
  have K143 : Keep h0 h143 [] := (Keep.refl h0 []).ext E143
  have Ar143 : own_A Z h143 b143 k143 .char 2 (fun i => .int ((fun _ => (0 : Int32)) i)) := own_A.new A143 rfl (by decide)
  refine own_st (st143) ?_
  show own_Go p.tables e below _ (T143.setTop (mkF m 21 #[.val (.int p0), .val (.int p1), .val (.int p2), .val (.int p3), .val (.int p4), .val (.int ii), .val (.int jj), .unset, .unset, .unset, .unset] [(.ref b143)]))
  refine own_st (fun t_ k_ => XS.astore X143.here hx rfl (hb hby at_21) rfl rfl (l' := #[.val (.int p0), .val (.int p1), .val (.int p2), .val (.int p3), .val (.int p4), .val (.int ii), .val (.int jj), .val (.ref b143), .unset, .unset, .unset]) rfl k_) ?_
  show own_Go p.tables e below _ (T143.setTop (mkF m 23 #[.val (.int p0), .val (.int p1), .val (.int p2), .val (.int p3), .val (.int p4), .val (.int ii), .val (.int jj), .val (.ref b143), .unset, .unset, .unset] []))
  refine own_st (fun t_ k_ => XS.aload X143.here hx rfl (hb hby at_23) rfl rfl k_) ?_
  show own_Go p.tables e below _ (T143.setTop (mkF m 25 #[.val (.int p0), .val (.int p1), .val (.int p2), .val (.int p3), .val (.int p4), .val (.int ii), .val (.int jj), .val (.ref b143), .unset, .unset, .unset] [(.ref b143)]))
  refine own_st (fun t_ k_ => XS.iconst X143.here hx rfl (hb hby at_25) k_) ?_
  show own_Go p.tables e below _ (T143.setTop (mkF m 26 #[.val (.int p0), .val (.int p1), .val (.int p2), .val (.int p3), .val (.int p4), .val (.int ii), .val (.int jj), .val (.ref b143), .unset, .unset, .unset] [(.int (0 : Int32)), (.ref b143)]))
  refine own_st (fun t_ k_ => XS.iload X143.here hx rfl (hb hby at_26) rfl k_) ?_
  show own_Go p.tables e below _ (T143.setTop (mkF m 28 #[.val (.int p0), .val (.int p1), .val (.int p2), .val (.int p3), .val (.int p4), .val (.int ii), .val (.int jj), .val (.ref b143), .unset, .unset, .unset] [(.int p4), (.int (0 : Int32)), (.ref b143)]))
  refine own_st (fun t_ k_ => XS.sipush X143.here hx rfl (hb hby at_28) k_) ?_
  show own_Go p.tables e below _ (T143.setTop (mkF m 31 #[.val (.int p0), .val (.int p1), .val (.int p2), .val (.int p3), .val (.int p4), .val (.int ii), .val (.int jj), .val (.ref b143), .unset, .unset, .unset] [(.int (255 : Int32)), (.int p4), (.int (0 : Int32)), (.ref b143)]))
  refine own_st (fun t_ k_ => XS.iand X143.here hx rfl (hb hby at_31) rfl k_) ?_
  show own_Go p.tables e below _ (T143.setTop (mkF m 32 #[.val (.int p0), .val (.int p1), .val (.int p2), .val (.int p3), .val (.int p4), .val (.int ii), .val (.int jj), .val (.ref b143), .unset, .unset, .unset] [(.int (p4 &&& (255 : Int32))), (.int (0 : Int32)), (.ref b143)]))
  refine own_st (fun t_ k_ => XS.i2c X143.here hx rfl (hb hby at_32) rfl k_) ?_
  show own_Go p.tables e below _ (T143.setTop (mkF m 33 #[.val (.int p0), .val (.int p1), .val (.int p2), .val (.int p3), .val (.int p4), .val (.int ii), .val (.int jj), .val (.ref b143), .unset, .unset, .unset] [(.int ((p4 &&& (255 : Int32)).toUInt32.toUInt16.toUInt32.toInt32)), (.int (0 : Int32)), (.ref b143)]))
  obtain ⟨T144, h144, X144, e144, W144, Aw144, st144⟩ := own_castore X143 hx hZ e143 Ar143 (i := 0) (by decide) (by decide) (own_narcc _) (v' := ((p4 &&& (255 : Int32)).toUInt32.toUInt16.toUInt32.toInt32)) (g := (mkF m 33 #[.val (.int p0), .val (.int p1), .val (.int p2), .val (.int p3), .val (.int p4), .val (.int ii), .val (.int jj), .val (.ref b143), .unset, .unset, .unset] [(.int ((p4 &&& (255 : Int32)).toUInt32.toUInt16.toUInt32.toInt32)), (.int (0 : Int32)), (.ref b143)])) rfl rfl (hb hby at_33)
  have N144 := Fr.snoc X144 N0 ge143
  have K144 : Keep h0 h144 [] := K143.wr W144 (Or.inr fr143)
  refine own_st (st144) ?_
  show own_Go p.tables e below _ (T144.setTop (mkF m 34 #[.val (.int p0), .val (.int p1), .val (.int p2), .val (.int p3), .val (.int p4), .val (.int ii), .val (.int jj), .val (.ref b143), .unset, .unset, .unset] []))
  refine own_st (fun t_ k_ => XS.aload X144.here hx rfl (hb hby at_34) rfl rfl k_) ?_
  show own_Go p.tables e below _ (T144.setTop (mkF m 36 #[.val (.int p0), .val (.int p1), .val (.int p2), .val (.int p3), .val (.int p4), .val (.int ii), .val (.int jj), .val (.ref b143), .unset, .unset, .unset] [(.ref b143)]))
  refine own_st (fun t_ k_ => XS.iconst X144.here hx rfl (hb hby at_36) k_) ?_
  show own_Go p.tables e below _ (T144.setTop (mkF m 37 #[.val (.int p0), .val (.int p1), .val (.int p2), .val (.int p3), .val (.int p4), .val (.int ii), .val (.int jj), .val (.ref b143), .unset, .unset, .unset] [(.int (1 : Int32)), (.ref b143)]))
  refine own_st (fun t_ k_ => XS.iload X144.here hx rfl (hb hby at_37) rfl k_) ?_
  show own_Go p.tables e below _ (T144.setTop (mkF m 39 #[.val (.int p0), .val (.int p1), .val (.int p2), .val (.int p3), .val (.int p4), .val (.int ii), .val (.int jj), .val (.ref b143), .unset, .unset, .unset] [(.int p4), (.int (1 : Int32)), (.ref b143)]))
  refine own_st (fun t_ k_ => XS.bipush X144.here hx rfl (hb hby at_39) k_) ?_
  show own_Go p.tables e below _ (T144.setTop (mkF m 41 #[.val (.int p0), .val (.int p1), .val (.int p2), .val (.int p3), .val (.int p4), .val (.int ii), .val (.int jj), .val (.ref b143), .unset, .unset, .unset] [(.int (8 : Int32)), (.int p4), (.int (1 : Int32)), (.ref b143)]))
  refine own_st (fun t_ k_ => XS.iushr X144.here hx rfl (hb hby at_41) rfl k_) ?_
  show own_Go p.tables e below _ (T144.setTop (mkF m 42 #[.val (.int p0), .val (.int p1), .val (.int p2), .val (.int p3), .val (.int p4), .val (.int ii), .val (.int jj), .val (.ref b143), .unset, .unset, .unset] [(.int ((p4.toUInt32 >>> ((8 : Int32) &&& 31).toUInt32).toInt32)), (.int (1 : Int32)), (.ref b143)]))
  refine own_st (fun t_ k_ => XS.sipush X144.here hx rfl (hb hby at_42) k_) ?_
  show own_Go p.tables e below _ (T144.setTop (mkF m 45 #[.val (.int p0), .val (.int p1), .val (.int p2), .val (.int p3), .val (.int p4), .val (.int ii), .val (.int jj), .val (.ref b143), .unset, .unset, .unset] [(.int (255 : Int32)), (.int ((p4.toUInt32 >>> ((8 : Int32) &&& 31).toUInt32).toInt32)), (.int (1 : Int32)), (.ref b143)]))
  refine own_st (fun t_ k_ => XS.iand X144.here hx rfl (hb hby at_45) rfl k_) ?_
  show own_Go p.tables e below _ (T144.setTop (mkF m 46 #[.val (.int p0), .val (.int p1), .val (.int p2), .val (.int p3), .val (.int p4), .val (.int ii), .val (.int jj), .val (.ref b143), .unset, .unset, .unset] [(.int (((p4.toUInt32 >>> ((8 : Int32) &&& 31).toUInt32).toInt32) &&& (255 : Int32))), (.int (1 : Int32)), (.ref b143)]))
  refine own_st (fun t_ k_ => XS.i2c X144.here hx rfl (hb hby at_46) rfl k_) ?_
  show own_Go p.tables e below _ (T144.setTop (mkF m 47 #[.val (.int p0), .val (.int p1), .val (.int p2), .val (.int p3), .val (.int p4), .val (.int ii), .val (.int jj), .val (.ref b143), .unset, .unset, .unset] [(.int ((((p4.toUInt32 >>> ((8 : Int32) &&& 31).toUInt32).toInt32) &&& (255 : Int32)).toUInt32.toUInt16.toUInt32.toInt32)), (.int (1 : Int32)), (.ref b143)]))
  obtain ⟨T145, h145, X145, e145, W145, Aw145, st145⟩ := own_castore X144 hx hZ e144 Aw144 (i := 1) (by decide) (by decide) (own_narcc _) (v' := ((((p4.toUInt32 >>> ((8 : Int32) &&& 31).toUInt32).toInt32) &&& (255 : Int32)).toUInt32.toUInt16.toUInt32.toInt32)) (g := (mkF m 47 #[.val (.int p0), .val (.int p1), .val (.int p2), .val (.int p3), .val (.int p4), .val (.int ii), .val (.int jj), .val (.ref b143), .unset, .unset, .unset] [(.int ((((p4.toUInt32 >>> ((8 : Int32) &&& 31).toUInt32).toInt32) &&& (255 : Int32)).toUInt32.toUInt16.toUInt32.toInt32)), (.int (1 : Int32)), (.ref b143)])) rfl rfl (hb hby at_47)
  have N145 := Fr.snoc X145 N144 ge143
  have K145 : Keep h0 h145 [] := K144.wr W145 (Or.inr fr143)
  refine own_st (st145) ?_
  show own_Go p.tables e below _ (T145.setTop (mkF m 48 #[.val (.int p0), .val (.int p1), .val (.int p2), .val (.int p3), .val (.int p4), .val (.int ii), .val (.int jj), .val (.ref b143), .unset, .unset, .unset] []))
  obtain ⟨T146, h146, X146, e146, E146, A146, D146, -, st146⟩ := newO X145 hx hZ hown (hw _ (List.mem_of_getElem? (i := 2) rfl)) (hw _ (List.mem_of_getElem? (i := 3) rfl)) (hw _ (List.mem_of_getElem? (i := 4) rfl)) e145 (g := (mkF m 48 #[.val (.int p0), .val (.int p1), .val (.int p2), .val (.int p3), .val (.int p4), .val (.int ii), .val (.int jj), .val (.ref b143), .unset, .unset, .unset] [])) rfl (hb hby at_48) (by decide) (by decide)
  obtain ⟨b146, g146⟩ : ∃ z, z = h145.size := ⟨_, rfl⟩
  rw [← g146] at A146 D146 st146
  have fr146 : h0.size ≤ b146 := Nat.le_trans K145.1 (Nat.le_of_eq g146.symm)
  have ge146 : n0 ≤ b146 := Nat.le_trans Z0 fr146
  have K146 : Keep h0 h146 [] := K145.ext E146
  have F146_28 : Fld Z h146 b146 "java/lang/String" "coder" "B" (.int (0 : Int32)) := D146 (Or.inr (hw _ (List.mem_of_getElem? (i := 28) rfl))) (ty := .byte) (by decide)
  have F146_30 : Fld Z h146 b146 "java/lang/String" "value" "[B" .null := D146 (Or.inr (hw _ (List.mem_of_getElem? (i := 30) rfl))) (ty := (.array .byte)) (by decide)
  refine own_st (st146) ?_
  show own_Go p.tables e below _ (T146.setTop (mkF m 51 #[.val (.int p0), .val (.int p1), .val (.int p2), .val (.int p3), .val (.int p4), .val (.int ii), .val (.int jj), .val (.ref b143), .unset, .unset, .unset] [(.ref b146)]))
  refine own_st (fun t_ k_ => XS.dup X146.here hx rfl (hb hby at_51) rfl rfl k_) ?_
  show own_Go p.tables e below _ (T146.setTop (mkF m 52 #[.val (.int p0), .val (.int p1), .val (.int p2), .val (.int p3), .val (.int p4), .val (.int ii), .val (.int jj), .val (.ref b143), .unset, .unset, .unset] [(.ref b146), (.ref b146)]))
  refine own_st (fun t_ k_ => XS.aload X146.here hx rfl (hb hby at_52) rfl rfl k_) ?_
  show own_Go p.tables e below _ (T146.setTop (mkF m 54 #[.val (.int p0), .val (.int p1), .val (.int p2), .val (.int p3), .val (.int p4), .val (.int ii), .val (.int jj), .val (.ref b143), .unset, .unset, .unset] [(.ref b143), (.ref b146), (.ref b146)]))
  obtain ⟨_, _, ⟨T147, L147, k147, n147⟩, -, X147, ⟨Lc147, hQ147, l147, y147, z147⟩, st147⟩ := X146.specialBack hx (y := (⟨"java/lang/String", "<init>", "([C)V"⟩ : MethodName)) rfl hown (mvT hZ (hw _ (List.mem_of_getElem? (i := 5) rfl))) (mvT hZ (hw _ (List.mem_of_getElem? (i := 6) rfl))) (mvT hZ (hw _ (List.mem_of_getElem? (i := 7) rfl))) (by decide) (backOf (W := 1) (own_rm1 l Z a0 hw [] b146 b143 k143 2 (own_upd (own_upd (fun _ => (0 : Int32)) 0 ((p4 &&& (255 : Int32)).toUInt32.toUInt16.toUInt32.toInt32)) 1 ((((p4.toUInt32 >>> ((8 : Int32) &&& 31).toUInt32).toInt32) &&& (255 : Int32)).toUInt32.toUInt16.toUInt32.toInt32)) G1 h146 n0 (Nat.le_trans Z0 K146.1) A146 F146_30 F146_28 (Aw145.ext E146) ge146 (Ne.symm (Nat.ne_of_lt (Nat.lt_of_lt_of_le Aw145.lt (Nat.le_of_eq g146.symm)))) (by decide) (own_lat2 (own_c255 _) (own_c255 _)) ((((q0.ext E143).wr W144 ge143).wr W145 ge143).ext E146) q20 hG1) hZ (hw _ (List.mem_of_getElem? (i := 7) rfl)) (hw _ (List.mem_of_getElem? (i := 4) rfl)) (by decide) (by decide)) (g := (mkF m 54 #[.val (.int p0), .val (.int p1), .val (.int p2), .val (.int p3), .val (.int p4), .val (.int ii), .val (.int jj), .val (.ref b143), .unset, .unset, .unset] [(.ref b143), (.ref b146), (.ref b146)])) rfl (by rw [hml]; rfl) (Steps.refl _) (a := b146) (argsL := [(.ref b143)]) (rest := [(.ref b146)]) (lenOf own_pd5 rfl) rfl (by show 2 * 0 + _ ≤ _; exact Nat.le_of_eq rfl) (hb hby at_54) (fun _ _ => ⟨rfl, e146, (by decide : 2 + 1 ≤ _), (by decide : 6 + 2 ≤ _)⟩)
  dsimp only [Pt.U, Pt.locs, Pt.cells, Pt.slots] at X147 l147 y147 z147 st147 hQ147
  subst l147 y147 z147
  obtain ⟨t_147, kt_147, cd_147, rfl, N147q, Kq147, P147_0, P147_1, P147_2, P147_3, P147_4⟩ := hQ147
  have N147 := Fr.app N145 N147q
  have K147 : Keep h0 T147.heap [] := K146.trans Kq147 (allS (P := fun x => x ∈ [] ∨ h0.size ≤ x) (Or.inr fr146) all0)
  have fr147_0 : h0.size ≤ t_147 := Nat.le_trans K146.1 P147_0
  have ge147_0 : n0 ≤ t_147 := Nat.le_trans Z0 fr147_0
  refine own_tr st147 ?_
  show own_Go p.tables e below _ (T147.setTop (mkF m 57 #[.val (.int p0), .val (.int p1), .val (.int p2), .val (.int p3), .val (.int p4), .val (.int ii), .val (.int jj), .val (.ref b143), .unset, .unset, .unset] [(.ref b146)]))
  refine own_st (fun t_ k_ => XS.astore X147.here hx rfl (hb hby at_57) rfl rfl (l' := #[.val (.int p0), .val (.int p1), .val (.int p2), .val (.int p3), .val (.int p4), .val (.int ii), .val (.int jj), .val (.ref b143), .val (.ref b146), .unset, .unset]) rfl k_) ?_
  show own_Go p.tables e below _ (T147.setTop (mkF m 59 #[.val (.int p0), .val (.int p1), .val (.int p2), .val (.int p3), .val (.int p4), .val (.int ii), .val (.int jj), .val (.ref b143), .val (.ref b146), .unset, .unset] []))
  obtain ⟨T148, h148, X148, e148, E148, A148, D148, -, st148⟩ := newO X147 hx hZ hown (hw _ (List.mem_of_getElem? (i := 31) rfl)) (hw _ (List.mem_of_getElem? (i := 32) rfl)) (hw _ (List.mem_of_getElem? (i := 33) rfl)) rfl (g := (mkF m 59 #[.val (.int p0), .val (.int p1), .val (.int p2), .val (.int p3), .val (.int p4), .val (.int ii), .val (.int jj), .val (.ref b143), .val (.ref b146), .unset, .unset] [])) rfl (hb hby at_59) (by decide) (by decide)
  obtain ⟨b148, g148⟩ : ∃ z, z = T147.heap.size := ⟨_, rfl⟩
  rw [← g148] at A148 D148 st148
  have fr148 : h0.size ≤ b148 := Nat.le_trans K147.1 (Nat.le_of_eq g148.symm)
  have ge148 : n0 ≤ b148 := Nat.le_trans Z0 fr148
  have K148 : Keep h0 h148 [] := K147.ext E148
  have F148_51 : Fld Z h148 b148 "com/example/cima/cima/io/Token" "kind" "Lcom/example/cima/cima/io/Token$Kind;" .null := D148 (Or.inr (hw _ (List.mem_of_getElem? (i := 51) rfl))) (ty := (.object "com/example/cima/cima/io/Token$Kind")) (by decide)
  have F148_53 : Fld Z h148 b148 "com/example/cima/cima/io/Token" "text" "Ljava/lang/String;" .null := D148 (Or.inr (hw _ (List.mem_of_getElem? (i := 53) rfl))) (ty := (.object "java/lang/String")) (by decide)
  have F148_55 : Fld Z h148 b148 "com/example/cima/cima/io/Token" "line" "I" (.int (0 : Int32)) := D148 (Or.inr (hw _ (List.mem_of_getElem? (i := 55) rfl))) (ty := .int) (by decide)
  have F148_57 : Fld Z h148 b148 "com/example/cima/cima/io/Token" "spaced" "Z" (.int (0 : Int32)) := D148 (Or.inr (hw _ (List.mem_of_getElem? (i := 57) rfl))) (ty := .boolean) (by decide)
  refine own_st (st148) ?_
  show own_Go p.tables e below _ (T148.setTop (mkF m 62 #[.val (.int p0), .val (.int p1), .val (.int p2), .val (.int p3), .val (.int p4), .val (.int ii), .val (.int jj), .val (.ref b143), .val (.ref b146), .unset, .unset] [(.ref b148)]))
  refine own_st (fun t_ k_ => XS.dup X148.here hx rfl (hb hby at_62) rfl rfl k_) ?_
  show own_Go p.tables e below _ (T148.setTop (mkF m 63 #[.val (.int p0), .val (.int p1), .val (.int p2), .val (.int p3), .val (.int p4), .val (.int ii), .val (.int jj), .val (.ref b143), .val (.ref b146), .unset, .unset] [(.ref b148), (.ref b148)]))
  refine own_st (fun t_ k_ => XS.iload X148.here hx rfl (hb hby at_63) rfl k_) ?_
  show own_Go p.tables e below _ (T148.setTop (mkF m 65 #[.val (.int p0), .val (.int p1), .val (.int p2), .val (.int p3), .val (.int p4), .val (.int ii), .val (.int jj), .val (.ref b143), .val (.ref b146), .unset, .unset] [(.int ii), (.ref b148), (.ref b148)]))
  obtain ⟨_, _, ⟨T149, L149, k149, n149⟩, -, X149, ⟨Lc149, hQ149, l149, y149, z149⟩, st149⟩ := Jvm.LawKit.callS X148 hx (y := (⟨"com/example/cima/cima/io/TokenIsPinLaw", "kindAt", "(I)Lcom/example/cima/cima/io/Token$Kind;"⟩ : MethodName)) hown (mvT hZ (hw _ (List.mem_of_getElem? (i := 34) rfl))) (mvT hZ (hw _ (List.mem_of_getElem? (i := 35) rfl))) (mvT hZ (hw _ (List.mem_of_getElem? (i := 36) rfl))) (mvT hZ (hw _ (List.mem_of_getElem? (i := 37) rfl))) (by decide) (backOf (W := 2) (own_rm7 l Z a0 hw [] ii K h148 n0 (Nat.le_trans Z0 K148.1) ((((((q0.ext E143).wr W144 ge143).wr W145 ge143).ext E146).keep Kq147 (allS ge146 all0)).ext E148) q1 q2 q3 q4 q5 q6 q7 q8 q9 q10 q11 q12 q13 q14 q15 q16 q17 q18) hZ (hw _ (List.mem_of_getElem? (i := 37) rfl)) (hw _ (List.mem_of_getElem? (i := 36) rfl)) (by decide) (by decide)) (g := (mkF m 65 #[.val (.int p0), .val (.int p1), .val (.int p2), .val (.int p3), .val (.int p4), .val (.int ii), .val (.int jj), .val (.ref b143), .val (.ref b146), .unset, .unset] [(.int ii), (.ref b148), (.ref b148)])) rfl (by rw [hml]; rfl) (argsL := [(.int ii)]) (rest := [(.ref b148), (.ref b148)]) (lenOf own_pd6 rfl) rfl (by show 2 * 0 + _ ≤ _; exact Nat.le_of_eq rfl) (hb hby at_65) (fun _ _ => ⟨rfl, e148, (by decide : 4 + 0 ≤ _), (by decide : 12 + 0 ≤ _)⟩)
  dsimp only [Pt.U, Pt.locs, Pt.cells, Pt.slots] at X149 l149 y149 z149 st149 hQ149
  subst l149 y149 z149
  obtain ⟨rfl, N149q, eq149⟩ := hQ149
  have N149 := Fr.app N147 N149q
  refine own_st (st149) ?_
  show own_Go p.tables e below _ (T149.setTop (mkF m 68 #[.val (.int p0), .val (.int p1), .val (.int p2), .val (.int p3), .val (.int p4), .val (.int ii), .val (.int jj), .val (.ref b143), .val (.ref b146), .unset, .unset] [(own_kd K ii), (.ref b148), (.ref b148)]))
  rw [own_kin him bi]
  show own_Go p.tables e below _ (T149.setTop (mkF m 68 #[.val (.int p0), .val (.int p1), .val (.int p2), .val (.int p3), .val (.int p4), .val (.int ii), .val (.int jj), .val (.ref b143), .val (.ref b146), .unset, .unset] [(.ref (K im)), (.ref b148), (.ref b148)]))
  refine own_st (fun t_ k_ => XS.aload X149.here hx rfl (hb hby at_68) rfl rfl k_) ?_
  show own_Go p.tables e below _ (T149.setTop (mkF m 70 #[.val (.int p0), .val (.int p1), .val (.int p2), .val (.int p3), .val (.int p4), .val (.int ii), .val (.int jj), .val (.ref b143), .val (.ref b146), .unset, .unset] [(.ref b146), (.ref (K im)), (.ref b148), (.ref b148)]))
  refine own_st (fun t_ k_ => XS.iloadN X149.here hx rfl (hb hby at_70) rfl k_) ?_
  show own_Go p.tables e below _ (T149.setTop (mkF m 71 #[.val (.int p0), .val (.int p1), .val (.int p2), .val (.int p3), .val (.int p4), .val (.int ii), .val (.int jj), .val (.ref b143), .val (.ref b146), .unset, .unset] [(.int p2), (.ref b146), (.ref (K im)), (.ref b148), (.ref b148)]))
  refine own_st (fun t_ k_ => XS.iloadN X149.here hx rfl (hb hby at_71) rfl k_) ?_
  show own_Go p.tables e below _ (T149.setTop (mkF m 72 #[.val (.int p0), .val (.int p1), .val (.int p2), .val (.int p3), .val (.int p4), .val (.int ii), .val (.int jj), .val (.ref b143), .val (.ref b146), .unset, .unset] [(.int p3), (.int p2), (.ref b146), (.ref (K im)), (.ref b148), (.ref b148)]))
  refine own_st (fun t_ k_ => XS.iconst X149.here hx rfl (hb hby at_72) k_) ?_
  show own_Go p.tables e below _ (T149.setTop (mkF m 73 #[.val (.int p0), .val (.int p1), .val (.int p2), .val (.int p3), .val (.int p4), .val (.int ii), .val (.int jj), .val (.ref b143), .val (.ref b146), .unset, .unset] [(.int (1 : Int32)), (.int p3), (.int p2), (.ref b146), (.ref (K im)), (.ref b148), (.ref b148)]))
  refine own_st (fun t_ k_ => XS.iand X149.here hx rfl (hb hby at_73) rfl k_) ?_
  show own_Go p.tables e below _ (T149.setTop (mkF m 74 #[.val (.int p0), .val (.int p1), .val (.int p2), .val (.int p3), .val (.int p4), .val (.int ii), .val (.int jj), .val (.ref b143), .val (.ref b146), .unset, .unset] [(.int (p3 &&& (1 : Int32))), (.int p2), (.ref b146), (.ref (K im)), (.ref b148), (.ref b148)]))
  by_cases c74_150 : (p3 &&& (1 : Int32)) = (0 : Int32)
  · skip
    refine own_st (fun t_ k_ => XS.ifYes X149.here hx rfl (pc0 := 74) (pc' := 81) rfl (hb hby at_74) rfl ((if0 _ _).trans (teq c74_150).1) (by decide) (by decide) k_) ?_
    show own_Go p.tables e below _ (T149.setTop (mkF m 81 #[.val (.int p0), .val (.int p1), .val (.int p2), .val (.int p3), .val (.int p4), .val (.int ii), .val (.int jj), .val (.ref b143), .val (.ref b146), .unset, .unset] [(.int p2), (.ref b146), (.ref (K im)), (.ref b148), (.ref b148)]))
    refine own_st (fun t_ k_ => XS.iconst X149.here hx rfl (hb hby at_81) k_) ?_
    show own_Go p.tables e below _ (T149.setTop (mkF m 82 #[.val (.int p0), .val (.int p1), .val (.int p2), .val (.int p3), .val (.int p4), .val (.int ii), .val (.int jj), .val (.ref b143), .val (.ref b146), .unset, .unset] [(.int (0 : Int32)), (.int p2), (.ref b146), (.ref (K im)), (.ref b148), (.ref b148)]))
    obtain ⟨_, _, ⟨T151, L151, k151, n151⟩, -, X151, ⟨Lc151, hQ151, l151, y151, z151⟩, st151⟩ := X149.specialBack hx (y := (⟨"com/example/cima/cima/io/Token", "<init>", "(Lcom/example/cima/cima/io/Token$Kind;Ljava/lang/String;IZ)V"⟩ : MethodName)) rfl hown (mvT hZ (hw _ (List.mem_of_getElem? (i := 41) rfl))) (mvT hZ (hw _ (List.mem_of_getElem? (i := 42) rfl))) (mvT hZ (hw _ (List.mem_of_getElem? (i := 43) rfl))) (by decide) (backOf (W := 1) (own_rm8 l Z a0 hw [] b148 (K im) b146 p2 (0 : Int32) h148 n0 (Nat.le_trans Z0 K148.1) A148 F148_51 F148_53 F148_55 F148_57 ge148 (by decide)) hZ (hw _ (List.mem_of_getElem? (i := 43) rfl)) (hw _ (List.mem_of_getElem? (i := 33) rfl)) (by decide) (by decide)) (g := (mkF m 82 #[.val (.int p0), .val (.int p1), .val (.int p2), .val (.int p3), .val (.int p4), .val (.int ii), .val (.int jj), .val (.ref b143), .val (.ref b146), .unset, .unset] [(.int (0 : Int32)), (.int p2), (.ref b146), (.ref (K im)), (.ref b148), (.ref b148)])) rfl (by rw [hml]; rfl) (Steps.refl _) (a := b148) (argsL := [(.ref (K im)), (.ref b146), (.int p2), (.int (0 : Int32))]) (rest := [(.ref b148)]) (lenOf own_pd7 rfl) rfl (by show 2 * 0 + _ ≤ _; exact Nat.le_of_eq rfl) (hb hby at_82) (fun _ _ => ⟨rfl, eq149, (by decide : 4 + 0 ≤ _), (by decide : 12 + 0 ≤ _)⟩)
    dsimp only [Pt.U, Pt.locs, Pt.cells, Pt.slots] at X151 l151 y151 z151 st151 hQ151
    subst l151 y151 z151
    obtain ⟨rfl, N151q, Kq151, P151_0⟩ := hQ151
    have N151 := Fr.app N149 N151q
    have K151 : Keep h0 T151.heap [] := K148.trans Kq151 (allS (P := fun x => x ∈ [] ∨ h0.size ≤ x) (Or.inr fr148) all0)
    refine own_tr st151 ?_
    show own_Go p.tables e below _ (T151.setTop (mkF m 85 #[.val (.int p0), .val (.int p1), .val (.int p2), .val (.int p3), .val (.int p4), .val (.int ii), .val (.int jj), .val (.ref b143), .val (.ref b146), .unset, .unset] [(.ref b148)]))
    refine own_st (fun t_ k_ => XS.astore X151.here hx rfl (hb hby at_85) rfl rfl (l' := #[.val (.int p0), .val (.int p1), .val (.int p2), .val (.int p3), .val (.int p4), .val (.int ii), .val (.int jj), .val (.ref b143), .val (.ref b146), .val (.ref b148), .unset]) rfl k_) ?_
    show own_Go p.tables e below _ (T151.setTop (mkF m 87 #[.val (.int p0), .val (.int p1), .val (.int p2), .val (.int p3), .val (.int p4), .val (.int ii), .val (.int jj), .val (.ref b143), .val (.ref b146), .val (.ref b148), .unset] []))
    refine own_st (fun t_ k_ => XS.aload X151.here hx rfl (hb hby at_87) rfl rfl k_) ?_
    show own_Go p.tables e below _ (T151.setTop (mkF m 89 #[.val (.int p0), .val (.int p1), .val (.int p2), .val (.int p3), .val (.int p4), .val (.int ii), .val (.int jj), .val (.ref b143), .val (.ref b146), .val (.ref b148), .unset] [(.ref b148)]))
    refine own_st (fun t_ k_ => XS.iload X151.here hx rfl (hb hby at_89) rfl k_) ?_
    show own_Go p.tables e below _ (T151.setTop (mkF m 91 #[.val (.int p0), .val (.int p1), .val (.int p2), .val (.int p3), .val (.int p4), .val (.int ii), .val (.int jj), .val (.ref b143), .val (.ref b146), .val (.ref b148), .unset] [(.int jj), (.ref b148)]))
    obtain ⟨_, _, ⟨T152, L152, k152, n152⟩, -, X152, ⟨Lc152, hQ152, l152, y152, z152⟩, st152⟩ := Jvm.LawKit.callS X151 hx (y := (⟨"com/example/cima/cima/io/TokenIsPinLaw", "kindAt", "(I)Lcom/example/cima/cima/io/Token$Kind;"⟩ : MethodName)) hown (mvT hZ (hw _ (List.mem_of_getElem? (i := 34) rfl))) (mvT hZ (hw _ (List.mem_of_getElem? (i := 35) rfl))) (mvT hZ (hw _ (List.mem_of_getElem? (i := 36) rfl))) (mvT hZ (hw _ (List.mem_of_getElem? (i := 37) rfl))) (by decide) (backOf (W := 1) (own_rm7 l Z a0 hw [] jj K T151.heap n0 (Nat.le_trans Z0 K151.1) (((((((q0.ext E143).wr W144 ge143).wr W145 ge143).ext E146).keep Kq147 (allS ge146 all0)).ext E148).keep Kq151 (allS ge148 all0)) q1 q2 q3 q4 q5 q6 q7 q8 q9 q10 q11 q12 q13 q14 q15 q16 q17 q18) hZ (hw _ (List.mem_of_getElem? (i := 37) rfl)) (hw _ (List.mem_of_getElem? (i := 36) rfl)) (by decide) (by decide)) (g := (mkF m 91 #[.val (.int p0), .val (.int p1), .val (.int p2), .val (.int p3), .val (.int p4), .val (.int ii), .val (.int jj), .val (.ref b143), .val (.ref b146), .val (.ref b148), .unset] [(.int jj), (.ref b148)])) rfl (by rw [hml]; rfl) (argsL := [(.int jj)]) (rest := [(.ref b148)]) (lenOf own_pd6 rfl) rfl (by show 2 * 0 + _ ≤ _; exact Nat.le_of_eq rfl) (hb hby at_91) (fun _ _ => ⟨rfl, rfl, (by decide : 4 + 0 ≤ _), (by decide : 12 + 0 ≤ _)⟩)
    dsimp only [Pt.U, Pt.locs, Pt.cells, Pt.slots] at X152 l152 y152 z152 st152 hQ152
    subst l152 y152 z152
    obtain ⟨rfl, N152q, eq152⟩ := hQ152
    have N152 := Fr.app N151 N152q
    refine own_st (st152) ?_
    show own_Go p.tables e below _ (T152.setTop (mkF m 94 #[.val (.int p0), .val (.int p1), .val (.int p2), .val (.int p3), .val (.int p4), .val (.int ii), .val (.int jj), .val (.ref b143), .val (.ref b146), .val (.ref b148), .unset] [(own_kd K jj), (.ref b148)]))
    by_cases cj153 : jm < 18
    · skip
      rw [own_kin hjm cj153]
      show own_Go p.tables e below _ (T152.setTop (mkF m 94 #[.val (.int p0), .val (.int p1), .val (.int p2), .val (.int p3), .val (.int p4), .val (.int ii), .val (.int jj), .val (.ref b143), .val (.ref b146), .val (.ref b148), .unset] [(.ref (K jm)), (.ref b148)]))
      obtain ⟨cq154, kq154, q154a, q154b, q154c⟩ := isOf hZ eq152 (A148.keep Kq151)
      obtain ⟨_, _, ⟨T154, L154, k154, n154⟩, -, X154, ⟨Lc154, hQ154, l154, y154, z154⟩, st154⟩ := X152.virtualBack hx (y := (⟨"com/example/cima/cima/io/Token", "is", "(Lcom/example/cima/cima/io/Token$Kind;)Z"⟩ : MethodName)) (z := (⟨"com/example/cima/cima/io/Token", "is", "(Lcom/example/cima/cima/io/Token$Kind;)Z"⟩ : MethodName)) hown (mvT hZ (hw _ (List.mem_of_getElem? (i := 60) rfl))) (mvT hZ (hw _ (List.mem_of_getElem? (i := 61) rfl))) (notFace_of_selects (args := #[]) (mvT hZ (hw _ (List.mem_of_getElem? (i := 63) rfl)))) (mvT hZ (hw _ (List.mem_of_getElem? (i := 63) rfl))) (mvT hZ (hw _ (List.mem_of_getElem? (i := 62) rfl))) (by decide) (backOf (W := 0) (own_rmisR l Z a0 hw [] b148 (K jm) (K im) T151.heap n0 (Nat.le_trans Z0 K151.1) P151_0) hZ (hw _ (List.mem_of_getElem? (i := 64) rfl)) (hw _ (List.mem_of_getElem? (i := 33) rfl)) (by decide) (by decide)) q154a q154c (g := (mkF m 94 #[.val (.int p0), .val (.int p1), .val (.int p2), .val (.int p3), .val (.int p4), .val (.int ii), .val (.int jj), .val (.ref b143), .val (.ref b146), .val (.ref b148), .unset] [(.ref (K jm)), (.ref b148)])) rfl (by rw [hml]; rfl) (Steps.refl _) (argsL := [(.ref (K jm))]) (rest := []) (lenOf own_pd8 rfl) rfl (by show 2 * 0 + _ ≤ _; exact Nat.le_of_eq rfl) (hb hby at_94) (fun _ _ => ⟨rfl, eq152, (by decide : 4 + 0 ≤ _), (by decide : 12 + 0 ≤ _)⟩)
      dsimp only [Pt.U, Pt.locs, Pt.cells, Pt.slots] at X154 l154 y154 z154 st154 hQ154
      subst l154 y154 z154
      obtain ⟨rfl, N154q, eq154⟩ := hQ154
      have N154 := Fr.app N152 N154q
      refine own_tr st154 ?_
      show own_Go p.tables e below _ (T154.setTop (mkF m 97 #[.val (.int p0), .val (.int p1), .val (.int p2), .val (.int p3), .val (.int p4), .val (.int ii), .val (.int jj), .val (.ref b143), .val (.ref b146), .val (.ref b148), .unset] [(.int (own_is (K im) (K jm)))]))
      refine own_st (fun t_ k_ => XS.istore X154.here hx rfl (hb hby at_97) rfl (l' := #[.val (.int p0), .val (.int p1), .val (.int p2), .val (.int p3), .val (.int p4), .val (.int ii), .val (.int jj), .val (.ref b143), .val (.ref b146), .val (.ref b148), .val (.int (own_is (K im) (K jm)))]) rfl k_) ?_
      show own_Go p.tables e below _ (T154.setTop (mkF m 99 #[.val (.int p0), .val (.int p1), .val (.int p2), .val (.int p3), .val (.int p4), .val (.int ii), .val (.int jj), .val (.ref b143), .val (.ref b146), .val (.ref b148), .val (.int (own_is (K im) (K jm)))] []))
      refine own_st (fun t_ k_ => XS.iload X154.here hx rfl (hb hby at_99) rfl k_) ?_
      show own_Go p.tables e below _ (T154.setTop (mkF m 101 #[.val (.int p0), .val (.int p1), .val (.int p2), .val (.int p3), .val (.int p4), .val (.int ii), .val (.int jj), .val (.ref b143), .val (.ref b146), .val (.ref b148), .val (.int (own_is (K im) (K jm)))] [(.int (own_is (K im) (K jm)))]))
      refine own_st (fun t_ k_ => XS.iload X154.here hx rfl (hb hby at_101) rfl k_) ?_
      show own_Go p.tables e below _ (T154.setTop (mkF m 103 #[.val (.int p0), .val (.int p1), .val (.int p2), .val (.int p3), .val (.int p4), .val (.int ii), .val (.int jj), .val (.ref b143), .val (.ref b146), .val (.ref b148), .val (.int (own_is (K im) (K jm)))] [(.int ii), (.int (own_is (K im) (K jm)))]))
      refine own_st (fun t_ k_ => XS.iload X154.here hx rfl (hb hby at_103) rfl k_) ?_
      show own_Go p.tables e below _ (T154.setTop (mkF m 105 #[.val (.int p0), .val (.int p1), .val (.int p2), .val (.int p3), .val (.int p4), .val (.int ii), .val (.int jj), .val (.ref b143), .val (.ref b146), .val (.ref b148), .val (.int (own_is (K im) (K jm)))] [(.int jj), (.int ii), (.int (own_is (K im) (K jm)))]))
      by_cases c105_155 : ii = jj
      · skip
        refine own_st (fun t_ k_ => XS.icmpNo X154.here hx rfl (hb hby at_105) rfl (teq c105_155).2 k_) ?_
        show own_Go p.tables e below _ (T154.setTop (mkF m 108 #[.val (.int p0), .val (.int p1), .val (.int p2), .val (.int p3), .val (.int p4), .val (.int ii), .val (.int jj), .val (.ref b143), .val (.ref b146), .val (.ref b148), .val (.int (own_is (K im) (K jm)))] [(.int (own_is (K im) (K jm)))]))
        refine own_st (fun t_ k_ => XS.iconst X154.here hx rfl (hb hby at_108) k_) ?_
        show own_Go p.tables e below _ (T154.setTop (mkF m 109 #[.val (.int p0), .val (.int p1), .val (.int p2), .val (.int p3), .val (.int p4), .val (.int ii), .val (.int jj), .val (.ref b143), .val (.ref b146), .val (.ref b148), .val (.int (own_is (K im) (K jm)))] [(.int (1 : Int32)), (.int (own_is (K im) (K jm)))]))
        refine own_st (fun t_ k_ => XS.goto X154.here hx rfl (pc0 := 109) (pc' := 113) rfl (hb hby at_109) (by decide) (by decide) k_) ?_
        show own_Go p.tables e below _ (T154.setTop (mkF m 113 #[.val (.int p0), .val (.int p1), .val (.int p2), .val (.int p3), .val (.int p4), .val (.int ii), .val (.int jj), .val (.ref b143), .val (.ref b146), .val (.ref b148), .val (.int (own_is (K im) (K jm)))] [(.int (1 : Int32)), (.int (own_is (K im) (K jm)))]))
        refine own_st (fun t_ k_ => XS.icmpNo X154.here hx rfl (hb hby at_113) rfl (teq (by have e_ := (own_Kinj hO bi cj153).mpr (hij.mp c105_155); simp only [own_is, if_pos e_] : (own_is (K im) (K jm)) = (1 : Int32))).2 k_) ?_
        show own_Go p.tables e below _ (T154.setTop (mkF m 116 #[.val (.int p0), .val (.int p1), .val (.int p2), .val (.int p3), .val (.int p4), .val (.int ii), .val (.int jj), .val (.ref b143), .val (.ref b146), .val (.ref b148), .val (.int (own_is (K im) (K jm)))] []))
        refine own_st (fun t_ k_ => XS.iconst X154.here hx rfl (hb hby at_116) k_) ?_
        show own_Go p.tables e below _ (T154.setTop (mkF m 117 #[.val (.int p0), .val (.int p1), .val (.int p2), .val (.int p3), .val (.int p4), .val (.int ii), .val (.int jj), .val (.ref b143), .val (.ref b146), .val (.ref b148), .val (.int (own_is (K im) (K jm)))] [(.int (1 : Int32))]))
        refine own_st (fun t_ k_ => XS.goto X154.here hx rfl (pc0 := 117) (pc' := 121) rfl (hb hby at_117) (by decide) (by decide) k_) ?_
        show own_Go p.tables e below _ (T154.setTop (mkF m 121 #[.val (.int p0), .val (.int p1), .val (.int p2), .val (.int p3), .val (.int p4), .val (.int ii), .val (.int jj), .val (.ref b143), .val (.ref b146), .val (.ref b148), .val (.int (own_is (K im) (K jm)))] [(.int (1 : Int32))]))
        exact own_ret (w := (.int (1 : Int32))) X154 hx hnl Bd.returns rfl (Or.inl ⟨rfl, by decide, _, rfl⟩) (hb hby at_121) ⟨rfl, N154, (by rw [eq154]; exact K151)⟩ (by decide) (by decide)
      · skip
        refine own_st (fun t_ k_ => XS.icmpYes X154.here hx rfl (pc0 := 105) (pc' := 112) rfl (hb hby at_105) rfl (feq c105_155).2 (by decide) (by decide) k_) ?_
        show own_Go p.tables e below _ (T154.setTop (mkF m 112 #[.val (.int p0), .val (.int p1), .val (.int p2), .val (.int p3), .val (.int p4), .val (.int ii), .val (.int jj), .val (.ref b143), .val (.ref b146), .val (.ref b148), .val (.int (own_is (K im) (K jm)))] [(.int (own_is (K im) (K jm)))]))
        refine own_st (fun t_ k_ => XS.iconst X154.here hx rfl (hb hby at_112) k_) ?_
        show own_Go p.tables e below _ (T154.setTop (mkF m 113 #[.val (.int p0), .val (.int p1), .val (.int p2), .val (.int p3), .val (.int p4), .val (.int ii), .val (.int jj), .val (.ref b143), .val (.ref b146), .val (.ref b148), .val (.int (own_is (K im) (K jm)))] [(.int (0 : Int32)), (.int (own_is (K im) (K jm)))]))
        refine own_st (fun t_ k_ => XS.icmpNo X154.here hx rfl (hb hby at_113) rfl (teq (by have e_ : ¬ K im = K jm := (fun q => c105_155 (hij.mpr ((own_Kinj hO bi cj153).mp q))); simp only [own_is, if_neg e_] : (own_is (K im) (K jm)) = (0 : Int32))).2 k_) ?_
        show own_Go p.tables e below _ (T154.setTop (mkF m 116 #[.val (.int p0), .val (.int p1), .val (.int p2), .val (.int p3), .val (.int p4), .val (.int ii), .val (.int jj), .val (.ref b143), .val (.ref b146), .val (.ref b148), .val (.int (own_is (K im) (K jm)))] []))
        refine own_st (fun t_ k_ => XS.iconst X154.here hx rfl (hb hby at_116) k_) ?_
        show own_Go p.tables e below _ (T154.setTop (mkF m 117 #[.val (.int p0), .val (.int p1), .val (.int p2), .val (.int p3), .val (.int p4), .val (.int ii), .val (.int jj), .val (.ref b143), .val (.ref b146), .val (.ref b148), .val (.int (own_is (K im) (K jm)))] [(.int (1 : Int32))]))
        refine own_st (fun t_ k_ => XS.goto X154.here hx rfl (pc0 := 117) (pc' := 121) rfl (hb hby at_117) (by decide) (by decide) k_) ?_
        show own_Go p.tables e below _ (T154.setTop (mkF m 121 #[.val (.int p0), .val (.int p1), .val (.int p2), .val (.int p3), .val (.int p4), .val (.int ii), .val (.int jj), .val (.ref b143), .val (.ref b146), .val (.ref b148), .val (.int (own_is (K im) (K jm)))] [(.int (1 : Int32))]))
        exact own_ret (w := (.int (1 : Int32))) X154 hx hnl Bd.returns rfl (Or.inl ⟨rfl, by decide, _, rfl⟩) (hb hby at_121) ⟨rfl, N154, (by rw [eq154]; exact K151)⟩ (by decide) (by decide)
    · skip
      rw [own_kout hjm cj153]
      show own_Go p.tables e below _ (T152.setTop (mkF m 94 #[.val (.int p0), .val (.int p1), .val (.int p2), .val (.int p3), .val (.int p4), .val (.int ii), .val (.int jj), .val (.ref b143), .val (.ref b146), .val (.ref b148), .unset] [.null, (.ref b148)]))
      obtain ⟨cq156, kq156, q156a, q156b, q156c⟩ := isOf hZ eq152 (A148.keep Kq151)
      obtain ⟨_, _, ⟨T156, L156, k156, n156⟩, -, X156, ⟨Lc156, hQ156, l156, y156, z156⟩, st156⟩ := X152.virtualBack hx (y := (⟨"com/example/cima/cima/io/Token", "is", "(Lcom/example/cima/cima/io/Token$Kind;)Z"⟩ : MethodName)) (z := (⟨"com/example/cima/cima/io/Token", "is", "(Lcom/example/cima/cima/io/Token$Kind;)Z"⟩ : MethodName)) hown (mvT hZ (hw _ (List.mem_of_getElem? (i := 60) rfl))) (mvT hZ (hw _ (List.mem_of_getElem? (i := 61) rfl))) (notFace_of_selects (args := #[]) (mvT hZ (hw _ (List.mem_of_getElem? (i := 63) rfl)))) (mvT hZ (hw _ (List.mem_of_getElem? (i := 63) rfl))) (mvT hZ (hw _ (List.mem_of_getElem? (i := 62) rfl))) (by decide) (backOf (W := 0) (own_rmisN l Z a0 hw [] b148 (K im) T151.heap n0 (Nat.le_trans Z0 K151.1) P151_0) hZ (hw _ (List.mem_of_getElem? (i := 64) rfl)) (hw _ (List.mem_of_getElem? (i := 33) rfl)) (by decide) (by decide)) q156a q156c (g := (mkF m 94 #[.val (.int p0), .val (.int p1), .val (.int p2), .val (.int p3), .val (.int p4), .val (.int ii), .val (.int jj), .val (.ref b143), .val (.ref b146), .val (.ref b148), .unset] [.null, (.ref b148)])) rfl (by rw [hml]; rfl) (Steps.refl _) (argsL := [.null]) (rest := []) (lenOf own_pd8 rfl) rfl (by show 2 * 0 + _ ≤ _; exact Nat.le_of_eq rfl) (hb hby at_94) (fun _ _ => ⟨rfl, eq152, (by decide : 4 + 0 ≤ _), (by decide : 12 + 0 ≤ _)⟩)
      dsimp only [Pt.U, Pt.locs, Pt.cells, Pt.slots] at X156 l156 y156 z156 st156 hQ156
      subst l156 y156 z156
      obtain ⟨rfl, N156q, eq156⟩ := hQ156
      have N156 := Fr.app N152 N156q
      refine own_tr st156 ?_
      show own_Go p.tables e below _ (T156.setTop (mkF m 97 #[.val (.int p0), .val (.int p1), .val (.int p2), .val (.int p3), .val (.int p4), .val (.int ii), .val (.int jj), .val (.ref b143), .val (.ref b146), .val (.ref b148), .unset] [(.int (0 : Int32))]))
      refine own_st (fun t_ k_ => XS.istore X156.here hx rfl (hb hby at_97) rfl (l' := #[.val (.int p0), .val (.int p1), .val (.int p2), .val (.int p3), .val (.int p4), .val (.int ii), .val (.int jj), .val (.ref b143), .val (.ref b146), .val (.ref b148), .val (.int (0 : Int32))]) rfl k_) ?_
      show own_Go p.tables e below _ (T156.setTop (mkF m 99 #[.val (.int p0), .val (.int p1), .val (.int p2), .val (.int p3), .val (.int p4), .val (.int ii), .val (.int jj), .val (.ref b143), .val (.ref b146), .val (.ref b148), .val (.int (0 : Int32))] []))
      refine own_st (fun t_ k_ => XS.iload X156.here hx rfl (hb hby at_99) rfl k_) ?_
      show own_Go p.tables e below _ (T156.setTop (mkF m 101 #[.val (.int p0), .val (.int p1), .val (.int p2), .val (.int p3), .val (.int p4), .val (.int ii), .val (.int jj), .val (.ref b143), .val (.ref b146), .val (.ref b148), .val (.int (0 : Int32))] [(.int (0 : Int32))]))
      refine own_st (fun t_ k_ => XS.iload X156.here hx rfl (hb hby at_101) rfl k_) ?_
      show own_Go p.tables e below _ (T156.setTop (mkF m 103 #[.val (.int p0), .val (.int p1), .val (.int p2), .val (.int p3), .val (.int p4), .val (.int ii), .val (.int jj), .val (.ref b143), .val (.ref b146), .val (.ref b148), .val (.int (0 : Int32))] [(.int ii), (.int (0 : Int32))]))
      refine own_st (fun t_ k_ => XS.iload X156.here hx rfl (hb hby at_103) rfl k_) ?_
      show own_Go p.tables e below _ (T156.setTop (mkF m 105 #[.val (.int p0), .val (.int p1), .val (.int p2), .val (.int p3), .val (.int p4), .val (.int ii), .val (.int jj), .val (.ref b143), .val (.ref b146), .val (.ref b148), .val (.int (0 : Int32))] [(.int jj), (.int ii), (.int (0 : Int32))]))
      refine own_st (fun t_ k_ => XS.icmpYes X156.here hx rfl (pc0 := 105) (pc' := 112) rfl (hb hby at_105) rfl (feq (fun q => by have := hij.mp q; omega : ¬ (ii = jj))).2 (by decide) (by decide) k_) ?_
      show own_Go p.tables e below _ (T156.setTop (mkF m 112 #[.val (.int p0), .val (.int p1), .val (.int p2), .val (.int p3), .val (.int p4), .val (.int ii), .val (.int jj), .val (.ref b143), .val (.ref b146), .val (.ref b148), .val (.int (0 : Int32))] [(.int (0 : Int32))]))
      refine own_st (fun t_ k_ => XS.iconst X156.here hx rfl (hb hby at_112) k_) ?_
      show own_Go p.tables e below _ (T156.setTop (mkF m 113 #[.val (.int p0), .val (.int p1), .val (.int p2), .val (.int p3), .val (.int p4), .val (.int ii), .val (.int jj), .val (.ref b143), .val (.ref b146), .val (.ref b148), .val (.int (0 : Int32))] [(.int (0 : Int32)), (.int (0 : Int32))]))
      refine own_st (fun t_ k_ => XS.icmpNo X156.here hx rfl (hb hby at_113) rfl (teq (by decide : (0 : Int32) = (0 : Int32))).2 k_) ?_
      show own_Go p.tables e below _ (T156.setTop (mkF m 116 #[.val (.int p0), .val (.int p1), .val (.int p2), .val (.int p3), .val (.int p4), .val (.int ii), .val (.int jj), .val (.ref b143), .val (.ref b146), .val (.ref b148), .val (.int (0 : Int32))] []))
      refine own_st (fun t_ k_ => XS.iconst X156.here hx rfl (hb hby at_116) k_) ?_
      show own_Go p.tables e below _ (T156.setTop (mkF m 117 #[.val (.int p0), .val (.int p1), .val (.int p2), .val (.int p3), .val (.int p4), .val (.int ii), .val (.int jj), .val (.ref b143), .val (.ref b146), .val (.ref b148), .val (.int (0 : Int32))] [(.int (1 : Int32))]))
      refine own_st (fun t_ k_ => XS.goto X156.here hx rfl (pc0 := 117) (pc' := 121) rfl (hb hby at_117) (by decide) (by decide) k_) ?_
      show own_Go p.tables e below _ (T156.setTop (mkF m 121 #[.val (.int p0), .val (.int p1), .val (.int p2), .val (.int p3), .val (.int p4), .val (.int ii), .val (.int jj), .val (.ref b143), .val (.ref b146), .val (.ref b148), .val (.int (0 : Int32))] [(.int (1 : Int32))]))
      exact own_ret (w := (.int (1 : Int32))) X156 hx hnl Bd.returns rfl (Or.inl ⟨rfl, by decide, _, rfl⟩) (hb hby at_121) ⟨rfl, N156, (by rw [eq156]; exact K151)⟩ (by decide) (by decide)
  · skip
    refine own_st (fun t_ k_ => XS.ifNo X149.here hx rfl (hb hby at_74) rfl ((if0 _ _).trans (feq c74_150).1) k_) ?_
    show own_Go p.tables e below _ (T149.setTop (mkF m 77 #[.val (.int p0), .val (.int p1), .val (.int p2), .val (.int p3), .val (.int p4), .val (.int ii), .val (.int jj), .val (.ref b143), .val (.ref b146), .unset, .unset] [(.int p2), (.ref b146), (.ref (K im)), (.ref b148), (.ref b148)]))
    refine own_st (fun t_ k_ => XS.iconst X149.here hx rfl (hb hby at_77) k_) ?_
    show own_Go p.tables e below _ (T149.setTop (mkF m 78 #[.val (.int p0), .val (.int p1), .val (.int p2), .val (.int p3), .val (.int p4), .val (.int ii), .val (.int jj), .val (.ref b143), .val (.ref b146), .unset, .unset] [(.int (1 : Int32)), (.int p2), (.ref b146), (.ref (K im)), (.ref b148), (.ref b148)]))
    refine own_st (fun t_ k_ => XS.goto X149.here hx rfl (pc0 := 78) (pc' := 82) rfl (hb hby at_78) (by decide) (by decide) k_) ?_
    show own_Go p.tables e below _ (T149.setTop (mkF m 82 #[.val (.int p0), .val (.int p1), .val (.int p2), .val (.int p3), .val (.int p4), .val (.int ii), .val (.int jj), .val (.ref b143), .val (.ref b146), .unset, .unset] [(.int (1 : Int32)), (.int p2), (.ref b146), (.ref (K im)), (.ref b148), (.ref b148)]))
    obtain ⟨_, _, ⟨T157, L157, k157, n157⟩, -, X157, ⟨Lc157, hQ157, l157, y157, z157⟩, st157⟩ := X149.specialBack hx (y := (⟨"com/example/cima/cima/io/Token", "<init>", "(Lcom/example/cima/cima/io/Token$Kind;Ljava/lang/String;IZ)V"⟩ : MethodName)) rfl hown (mvT hZ (hw _ (List.mem_of_getElem? (i := 41) rfl))) (mvT hZ (hw _ (List.mem_of_getElem? (i := 42) rfl))) (mvT hZ (hw _ (List.mem_of_getElem? (i := 43) rfl))) (by decide) (backOf (W := 1) (own_rm8 l Z a0 hw [] b148 (K im) b146 p2 (1 : Int32) h148 n0 (Nat.le_trans Z0 K148.1) A148 F148_51 F148_53 F148_55 F148_57 ge148 (by decide)) hZ (hw _ (List.mem_of_getElem? (i := 43) rfl)) (hw _ (List.mem_of_getElem? (i := 33) rfl)) (by decide) (by decide)) (g := (mkF m 82 #[.val (.int p0), .val (.int p1), .val (.int p2), .val (.int p3), .val (.int p4), .val (.int ii), .val (.int jj), .val (.ref b143), .val (.ref b146), .unset, .unset] [(.int (1 : Int32)), (.int p2), (.ref b146), (.ref (K im)), (.ref b148), (.ref b148)])) rfl (by rw [hml]; rfl) (Steps.refl _) (a := b148) (argsL := [(.ref (K im)), (.ref b146), (.int p2), (.int (1 : Int32))]) (rest := [(.ref b148)]) (lenOf own_pd7 rfl) rfl (by show 2 * 0 + _ ≤ _; exact Nat.le_of_eq rfl) (hb hby at_82) (fun _ _ => ⟨rfl, eq149, (by decide : 4 + 0 ≤ _), (by decide : 12 + 0 ≤ _)⟩)
    dsimp only [Pt.U, Pt.locs, Pt.cells, Pt.slots] at X157 l157 y157 z157 st157 hQ157
    subst l157 y157 z157
    obtain ⟨rfl, N157q, Kq157, P157_0⟩ := hQ157
    have N157 := Fr.app N149 N157q
    have K157 : Keep h0 T157.heap [] := K148.trans Kq157 (allS (P := fun x => x ∈ [] ∨ h0.size ≤ x) (Or.inr fr148) all0)
    refine own_tr st157 ?_
    show own_Go p.tables e below _ (T157.setTop (mkF m 85 #[.val (.int p0), .val (.int p1), .val (.int p2), .val (.int p3), .val (.int p4), .val (.int ii), .val (.int jj), .val (.ref b143), .val (.ref b146), .unset, .unset] [(.ref b148)]))
    refine own_st (fun t_ k_ => XS.astore X157.here hx rfl (hb hby at_85) rfl rfl (l' := #[.val (.int p0), .val (.int p1), .val (.int p2), .val (.int p3), .val (.int p4), .val (.int ii), .val (.int jj), .val (.ref b143), .val (.ref b146), .val (.ref b148), .unset]) rfl k_) ?_
    show own_Go p.tables e below _ (T157.setTop (mkF m 87 #[.val (.int p0), .val (.int p1), .val (.int p2), .val (.int p3), .val (.int p4), .val (.int ii), .val (.int jj), .val (.ref b143), .val (.ref b146), .val (.ref b148), .unset] []))
    refine own_st (fun t_ k_ => XS.aload X157.here hx rfl (hb hby at_87) rfl rfl k_) ?_
    show own_Go p.tables e below _ (T157.setTop (mkF m 89 #[.val (.int p0), .val (.int p1), .val (.int p2), .val (.int p3), .val (.int p4), .val (.int ii), .val (.int jj), .val (.ref b143), .val (.ref b146), .val (.ref b148), .unset] [(.ref b148)]))
    refine own_st (fun t_ k_ => XS.iload X157.here hx rfl (hb hby at_89) rfl k_) ?_
    show own_Go p.tables e below _ (T157.setTop (mkF m 91 #[.val (.int p0), .val (.int p1), .val (.int p2), .val (.int p3), .val (.int p4), .val (.int ii), .val (.int jj), .val (.ref b143), .val (.ref b146), .val (.ref b148), .unset] [(.int jj), (.ref b148)]))
    obtain ⟨_, _, ⟨T158, L158, k158, n158⟩, -, X158, ⟨Lc158, hQ158, l158, y158, z158⟩, st158⟩ := Jvm.LawKit.callS X157 hx (y := (⟨"com/example/cima/cima/io/TokenIsPinLaw", "kindAt", "(I)Lcom/example/cima/cima/io/Token$Kind;"⟩ : MethodName)) hown (mvT hZ (hw _ (List.mem_of_getElem? (i := 34) rfl))) (mvT hZ (hw _ (List.mem_of_getElem? (i := 35) rfl))) (mvT hZ (hw _ (List.mem_of_getElem? (i := 36) rfl))) (mvT hZ (hw _ (List.mem_of_getElem? (i := 37) rfl))) (by decide) (backOf (W := 1) (own_rm7 l Z a0 hw [] jj K T157.heap n0 (Nat.le_trans Z0 K157.1) (((((((q0.ext E143).wr W144 ge143).wr W145 ge143).ext E146).keep Kq147 (allS ge146 all0)).ext E148).keep Kq157 (allS ge148 all0)) q1 q2 q3 q4 q5 q6 q7 q8 q9 q10 q11 q12 q13 q14 q15 q16 q17 q18) hZ (hw _ (List.mem_of_getElem? (i := 37) rfl)) (hw _ (List.mem_of_getElem? (i := 36) rfl)) (by decide) (by decide)) (g := (mkF m 91 #[.val (.int p0), .val (.int p1), .val (.int p2), .val (.int p3), .val (.int p4), .val (.int ii), .val (.int jj), .val (.ref b143), .val (.ref b146), .val (.ref b148), .unset] [(.int jj), (.ref b148)])) rfl (by rw [hml]; rfl) (argsL := [(.int jj)]) (rest := [(.ref b148)]) (lenOf own_pd6 rfl) rfl (by show 2 * 0 + _ ≤ _; exact Nat.le_of_eq rfl) (hb hby at_91) (fun _ _ => ⟨rfl, rfl, (by decide : 4 + 0 ≤ _), (by decide : 12 + 0 ≤ _)⟩)
    dsimp only [Pt.U, Pt.locs, Pt.cells, Pt.slots] at X158 l158 y158 z158 st158 hQ158
    subst l158 y158 z158
    obtain ⟨rfl, N158q, eq158⟩ := hQ158
    have N158 := Fr.app N157 N158q
    refine own_st (st158) ?_
    show own_Go p.tables e below _ (T158.setTop (mkF m 94 #[.val (.int p0), .val (.int p1), .val (.int p2), .val (.int p3), .val (.int p4), .val (.int ii), .val (.int jj), .val (.ref b143), .val (.ref b146), .val (.ref b148), .unset] [(own_kd K jj), (.ref b148)]))
    by_cases cj159 : jm < 18
    · skip
      rw [own_kin hjm cj159]
      show own_Go p.tables e below _ (T158.setTop (mkF m 94 #[.val (.int p0), .val (.int p1), .val (.int p2), .val (.int p3), .val (.int p4), .val (.int ii), .val (.int jj), .val (.ref b143), .val (.ref b146), .val (.ref b148), .unset] [(.ref (K jm)), (.ref b148)]))
      obtain ⟨cq160, kq160, q160a, q160b, q160c⟩ := isOf hZ eq158 (A148.keep Kq157)
      obtain ⟨_, _, ⟨T160, L160, k160, n160⟩, -, X160, ⟨Lc160, hQ160, l160, y160, z160⟩, st160⟩ := X158.virtualBack hx (y := (⟨"com/example/cima/cima/io/Token", "is", "(Lcom/example/cima/cima/io/Token$Kind;)Z"⟩ : MethodName)) (z := (⟨"com/example/cima/cima/io/Token", "is", "(Lcom/example/cima/cima/io/Token$Kind;)Z"⟩ : MethodName)) hown (mvT hZ (hw _ (List.mem_of_getElem? (i := 60) rfl))) (mvT hZ (hw _ (List.mem_of_getElem? (i := 61) rfl))) (notFace_of_selects (args := #[]) (mvT hZ (hw _ (List.mem_of_getElem? (i := 63) rfl)))) (mvT hZ (hw _ (List.mem_of_getElem? (i := 63) rfl))) (mvT hZ (hw _ (List.mem_of_getElem? (i := 62) rfl))) (by decide) (backOf (W := 0) (own_rmisR l Z a0 hw [] b148 (K jm) (K im) T157.heap n0 (Nat.le_trans Z0 K157.1) P157_0) hZ (hw _ (List.mem_of_getElem? (i := 64) rfl)) (hw _ (List.mem_of_getElem? (i := 33) rfl)) (by decide) (by decide)) q160a q160c (g := (mkF m 94 #[.val (.int p0), .val (.int p1), .val (.int p2), .val (.int p3), .val (.int p4), .val (.int ii), .val (.int jj), .val (.ref b143), .val (.ref b146), .val (.ref b148), .unset] [(.ref (K jm)), (.ref b148)])) rfl (by rw [hml]; rfl) (Steps.refl _) (argsL := [(.ref (K jm))]) (rest := []) (lenOf own_pd8 rfl) rfl (by show 2 * 0 + _ ≤ _; exact Nat.le_of_eq rfl) (hb hby at_94) (fun _ _ => ⟨rfl, eq158, (by decide : 4 + 0 ≤ _), (by decide : 12 + 0 ≤ _)⟩)
      dsimp only [Pt.U, Pt.locs, Pt.cells, Pt.slots] at X160 l160 y160 z160 st160 hQ160
      subst l160 y160 z160
      obtain ⟨rfl, N160q, eq160⟩ := hQ160
      have N160 := Fr.app N158 N160q
      refine own_tr st160 ?_
      show own_Go p.tables e below _ (T160.setTop (mkF m 97 #[.val (.int p0), .val (.int p1), .val (.int p2), .val (.int p3), .val (.int p4), .val (.int ii), .val (.int jj), .val (.ref b143), .val (.ref b146), .val (.ref b148), .unset] [(.int (own_is (K im) (K jm)))]))
      refine own_st (fun t_ k_ => XS.istore X160.here hx rfl (hb hby at_97) rfl (l' := #[.val (.int p0), .val (.int p1), .val (.int p2), .val (.int p3), .val (.int p4), .val (.int ii), .val (.int jj), .val (.ref b143), .val (.ref b146), .val (.ref b148), .val (.int (own_is (K im) (K jm)))]) rfl k_) ?_
      show own_Go p.tables e below _ (T160.setTop (mkF m 99 #[.val (.int p0), .val (.int p1), .val (.int p2), .val (.int p3), .val (.int p4), .val (.int ii), .val (.int jj), .val (.ref b143), .val (.ref b146), .val (.ref b148), .val (.int (own_is (K im) (K jm)))] []))
      refine own_st (fun t_ k_ => XS.iload X160.here hx rfl (hb hby at_99) rfl k_) ?_
      show own_Go p.tables e below _ (T160.setTop (mkF m 101 #[.val (.int p0), .val (.int p1), .val (.int p2), .val (.int p3), .val (.int p4), .val (.int ii), .val (.int jj), .val (.ref b143), .val (.ref b146), .val (.ref b148), .val (.int (own_is (K im) (K jm)))] [(.int (own_is (K im) (K jm)))]))
      refine own_st (fun t_ k_ => XS.iload X160.here hx rfl (hb hby at_101) rfl k_) ?_
      show own_Go p.tables e below _ (T160.setTop (mkF m 103 #[.val (.int p0), .val (.int p1), .val (.int p2), .val (.int p3), .val (.int p4), .val (.int ii), .val (.int jj), .val (.ref b143), .val (.ref b146), .val (.ref b148), .val (.int (own_is (K im) (K jm)))] [(.int ii), (.int (own_is (K im) (K jm)))]))
      refine own_st (fun t_ k_ => XS.iload X160.here hx rfl (hb hby at_103) rfl k_) ?_
      show own_Go p.tables e below _ (T160.setTop (mkF m 105 #[.val (.int p0), .val (.int p1), .val (.int p2), .val (.int p3), .val (.int p4), .val (.int ii), .val (.int jj), .val (.ref b143), .val (.ref b146), .val (.ref b148), .val (.int (own_is (K im) (K jm)))] [(.int jj), (.int ii), (.int (own_is (K im) (K jm)))]))
      by_cases c105_161 : ii = jj
      · skip
        refine own_st (fun t_ k_ => XS.icmpNo X160.here hx rfl (hb hby at_105) rfl (teq c105_161).2 k_) ?_
        show own_Go p.tables e below _ (T160.setTop (mkF m 108 #[.val (.int p0), .val (.int p1), .val (.int p2), .val (.int p3), .val (.int p4), .val (.int ii), .val (.int jj), .val (.ref b143), .val (.ref b146), .val (.ref b148), .val (.int (own_is (K im) (K jm)))] [(.int (own_is (K im) (K jm)))]))
        refine own_st (fun t_ k_ => XS.iconst X160.here hx rfl (hb hby at_108) k_) ?_
        show own_Go p.tables e below _ (T160.setTop (mkF m 109 #[.val (.int p0), .val (.int p1), .val (.int p2), .val (.int p3), .val (.int p4), .val (.int ii), .val (.int jj), .val (.ref b143), .val (.ref b146), .val (.ref b148), .val (.int (own_is (K im) (K jm)))] [(.int (1 : Int32)), (.int (own_is (K im) (K jm)))]))
        refine own_st (fun t_ k_ => XS.goto X160.here hx rfl (pc0 := 109) (pc' := 113) rfl (hb hby at_109) (by decide) (by decide) k_) ?_
        show own_Go p.tables e below _ (T160.setTop (mkF m 113 #[.val (.int p0), .val (.int p1), .val (.int p2), .val (.int p3), .val (.int p4), .val (.int ii), .val (.int jj), .val (.ref b143), .val (.ref b146), .val (.ref b148), .val (.int (own_is (K im) (K jm)))] [(.int (1 : Int32)), (.int (own_is (K im) (K jm)))]))
        refine own_st (fun t_ k_ => XS.icmpNo X160.here hx rfl (hb hby at_113) rfl (teq (by have e_ := (own_Kinj hO bi cj159).mpr (hij.mp c105_161); simp only [own_is, if_pos e_] : (own_is (K im) (K jm)) = (1 : Int32))).2 k_) ?_
        show own_Go p.tables e below _ (T160.setTop (mkF m 116 #[.val (.int p0), .val (.int p1), .val (.int p2), .val (.int p3), .val (.int p4), .val (.int ii), .val (.int jj), .val (.ref b143), .val (.ref b146), .val (.ref b148), .val (.int (own_is (K im) (K jm)))] []))
        refine own_st (fun t_ k_ => XS.iconst X160.here hx rfl (hb hby at_116) k_) ?_
        show own_Go p.tables e below _ (T160.setTop (mkF m 117 #[.val (.int p0), .val (.int p1), .val (.int p2), .val (.int p3), .val (.int p4), .val (.int ii), .val (.int jj), .val (.ref b143), .val (.ref b146), .val (.ref b148), .val (.int (own_is (K im) (K jm)))] [(.int (1 : Int32))]))
        refine own_st (fun t_ k_ => XS.goto X160.here hx rfl (pc0 := 117) (pc' := 121) rfl (hb hby at_117) (by decide) (by decide) k_) ?_
        show own_Go p.tables e below _ (T160.setTop (mkF m 121 #[.val (.int p0), .val (.int p1), .val (.int p2), .val (.int p3), .val (.int p4), .val (.int ii), .val (.int jj), .val (.ref b143), .val (.ref b146), .val (.ref b148), .val (.int (own_is (K im) (K jm)))] [(.int (1 : Int32))]))
        exact own_ret (w := (.int (1 : Int32))) X160 hx hnl Bd.returns rfl (Or.inl ⟨rfl, by decide, _, rfl⟩) (hb hby at_121) ⟨rfl, N160, (by rw [eq160]; exact K157)⟩ (by decide) (by decide)
      · skip
        refine own_st (fun t_ k_ => XS.icmpYes X160.here hx rfl (pc0 := 105) (pc' := 112) rfl (hb hby at_105) rfl (feq c105_161).2 (by decide) (by decide) k_) ?_
        show own_Go p.tables e below _ (T160.setTop (mkF m 112 #[.val (.int p0), .val (.int p1), .val (.int p2), .val (.int p3), .val (.int p4), .val (.int ii), .val (.int jj), .val (.ref b143), .val (.ref b146), .val (.ref b148), .val (.int (own_is (K im) (K jm)))] [(.int (own_is (K im) (K jm)))]))
        refine own_st (fun t_ k_ => XS.iconst X160.here hx rfl (hb hby at_112) k_) ?_
        show own_Go p.tables e below _ (T160.setTop (mkF m 113 #[.val (.int p0), .val (.int p1), .val (.int p2), .val (.int p3), .val (.int p4), .val (.int ii), .val (.int jj), .val (.ref b143), .val (.ref b146), .val (.ref b148), .val (.int (own_is (K im) (K jm)))] [(.int (0 : Int32)), (.int (own_is (K im) (K jm)))]))
        refine own_st (fun t_ k_ => XS.icmpNo X160.here hx rfl (hb hby at_113) rfl (teq (by have e_ : ¬ K im = K jm := (fun q => c105_161 (hij.mpr ((own_Kinj hO bi cj159).mp q))); simp only [own_is, if_neg e_] : (own_is (K im) (K jm)) = (0 : Int32))).2 k_) ?_
        show own_Go p.tables e below _ (T160.setTop (mkF m 116 #[.val (.int p0), .val (.int p1), .val (.int p2), .val (.int p3), .val (.int p4), .val (.int ii), .val (.int jj), .val (.ref b143), .val (.ref b146), .val (.ref b148), .val (.int (own_is (K im) (K jm)))] []))
        refine own_st (fun t_ k_ => XS.iconst X160.here hx rfl (hb hby at_116) k_) ?_
        show own_Go p.tables e below _ (T160.setTop (mkF m 117 #[.val (.int p0), .val (.int p1), .val (.int p2), .val (.int p3), .val (.int p4), .val (.int ii), .val (.int jj), .val (.ref b143), .val (.ref b146), .val (.ref b148), .val (.int (own_is (K im) (K jm)))] [(.int (1 : Int32))]))
        refine own_st (fun t_ k_ => XS.goto X160.here hx rfl (pc0 := 117) (pc' := 121) rfl (hb hby at_117) (by decide) (by decide) k_) ?_
        show own_Go p.tables e below _ (T160.setTop (mkF m 121 #[.val (.int p0), .val (.int p1), .val (.int p2), .val (.int p3), .val (.int p4), .val (.int ii), .val (.int jj), .val (.ref b143), .val (.ref b146), .val (.ref b148), .val (.int (own_is (K im) (K jm)))] [(.int (1 : Int32))]))
        exact own_ret (w := (.int (1 : Int32))) X160 hx hnl Bd.returns rfl (Or.inl ⟨rfl, by decide, _, rfl⟩) (hb hby at_121) ⟨rfl, N160, (by rw [eq160]; exact K157)⟩ (by decide) (by decide)
    · skip
      rw [own_kout hjm cj159]
      show own_Go p.tables e below _ (T158.setTop (mkF m 94 #[.val (.int p0), .val (.int p1), .val (.int p2), .val (.int p3), .val (.int p4), .val (.int ii), .val (.int jj), .val (.ref b143), .val (.ref b146), .val (.ref b148), .unset] [.null, (.ref b148)]))
      obtain ⟨cq162, kq162, q162a, q162b, q162c⟩ := isOf hZ eq158 (A148.keep Kq157)
      obtain ⟨_, _, ⟨T162, L162, k162, n162⟩, -, X162, ⟨Lc162, hQ162, l162, y162, z162⟩, st162⟩ := X158.virtualBack hx (y := (⟨"com/example/cima/cima/io/Token", "is", "(Lcom/example/cima/cima/io/Token$Kind;)Z"⟩ : MethodName)) (z := (⟨"com/example/cima/cima/io/Token", "is", "(Lcom/example/cima/cima/io/Token$Kind;)Z"⟩ : MethodName)) hown (mvT hZ (hw _ (List.mem_of_getElem? (i := 60) rfl))) (mvT hZ (hw _ (List.mem_of_getElem? (i := 61) rfl))) (notFace_of_selects (args := #[]) (mvT hZ (hw _ (List.mem_of_getElem? (i := 63) rfl)))) (mvT hZ (hw _ (List.mem_of_getElem? (i := 63) rfl))) (mvT hZ (hw _ (List.mem_of_getElem? (i := 62) rfl))) (by decide) (backOf (W := 0) (own_rmisN l Z a0 hw [] b148 (K im) T157.heap n0 (Nat.le_trans Z0 K157.1) P157_0) hZ (hw _ (List.mem_of_getElem? (i := 64) rfl)) (hw _ (List.mem_of_getElem? (i := 33) rfl)) (by decide) (by decide)) q162a q162c (g := (mkF m 94 #[.val (.int p0), .val (.int p1), .val (.int p2), .val (.int p3), .val (.int p4), .val (.int ii), .val (.int jj), .val (.ref b143), .val (.ref b146), .val (.ref b148), .unset] [.null, (.ref b148)])) rfl (by rw [hml]; rfl) (Steps.refl _) (argsL := [.null]) (rest := []) (lenOf own_pd8 rfl) rfl (by show 2 * 0 + _ ≤ _; exact Nat.le_of_eq rfl) (hb hby at_94) (fun _ _ => ⟨rfl, eq158, (by decide : 4 + 0 ≤ _), (by decide : 12 + 0 ≤ _)⟩)
      dsimp only [Pt.U, Pt.locs, Pt.cells, Pt.slots] at X162 l162 y162 z162 st162 hQ162
      subst l162 y162 z162
      obtain ⟨rfl, N162q, eq162⟩ := hQ162
      have N162 := Fr.app N158 N162q
      refine own_tr st162 ?_
      show own_Go p.tables e below _ (T162.setTop (mkF m 97 #[.val (.int p0), .val (.int p1), .val (.int p2), .val (.int p3), .val (.int p4), .val (.int ii), .val (.int jj), .val (.ref b143), .val (.ref b146), .val (.ref b148), .unset] [(.int (0 : Int32))]))
      refine own_st (fun t_ k_ => XS.istore X162.here hx rfl (hb hby at_97) rfl (l' := #[.val (.int p0), .val (.int p1), .val (.int p2), .val (.int p3), .val (.int p4), .val (.int ii), .val (.int jj), .val (.ref b143), .val (.ref b146), .val (.ref b148), .val (.int (0 : Int32))]) rfl k_) ?_
      show own_Go p.tables e below _ (T162.setTop (mkF m 99 #[.val (.int p0), .val (.int p1), .val (.int p2), .val (.int p3), .val (.int p4), .val (.int ii), .val (.int jj), .val (.ref b143), .val (.ref b146), .val (.ref b148), .val (.int (0 : Int32))] []))
      refine own_st (fun t_ k_ => XS.iload X162.here hx rfl (hb hby at_99) rfl k_) ?_
      show own_Go p.tables e below _ (T162.setTop (mkF m 101 #[.val (.int p0), .val (.int p1), .val (.int p2), .val (.int p3), .val (.int p4), .val (.int ii), .val (.int jj), .val (.ref b143), .val (.ref b146), .val (.ref b148), .val (.int (0 : Int32))] [(.int (0 : Int32))]))
      refine own_st (fun t_ k_ => XS.iload X162.here hx rfl (hb hby at_101) rfl k_) ?_
      show own_Go p.tables e below _ (T162.setTop (mkF m 103 #[.val (.int p0), .val (.int p1), .val (.int p2), .val (.int p3), .val (.int p4), .val (.int ii), .val (.int jj), .val (.ref b143), .val (.ref b146), .val (.ref b148), .val (.int (0 : Int32))] [(.int ii), (.int (0 : Int32))]))
      refine own_st (fun t_ k_ => XS.iload X162.here hx rfl (hb hby at_103) rfl k_) ?_
      show own_Go p.tables e below _ (T162.setTop (mkF m 105 #[.val (.int p0), .val (.int p1), .val (.int p2), .val (.int p3), .val (.int p4), .val (.int ii), .val (.int jj), .val (.ref b143), .val (.ref b146), .val (.ref b148), .val (.int (0 : Int32))] [(.int jj), (.int ii), (.int (0 : Int32))]))
      refine own_st (fun t_ k_ => XS.icmpYes X162.here hx rfl (pc0 := 105) (pc' := 112) rfl (hb hby at_105) rfl (feq (fun q => by have := hij.mp q; omega : ¬ (ii = jj))).2 (by decide) (by decide) k_) ?_
      show own_Go p.tables e below _ (T162.setTop (mkF m 112 #[.val (.int p0), .val (.int p1), .val (.int p2), .val (.int p3), .val (.int p4), .val (.int ii), .val (.int jj), .val (.ref b143), .val (.ref b146), .val (.ref b148), .val (.int (0 : Int32))] [(.int (0 : Int32))]))
      refine own_st (fun t_ k_ => XS.iconst X162.here hx rfl (hb hby at_112) k_) ?_
      show own_Go p.tables e below _ (T162.setTop (mkF m 113 #[.val (.int p0), .val (.int p1), .val (.int p2), .val (.int p3), .val (.int p4), .val (.int ii), .val (.int jj), .val (.ref b143), .val (.ref b146), .val (.ref b148), .val (.int (0 : Int32))] [(.int (0 : Int32)), (.int (0 : Int32))]))
      refine own_st (fun t_ k_ => XS.icmpNo X162.here hx rfl (hb hby at_113) rfl (teq (by decide : (0 : Int32) = (0 : Int32))).2 k_) ?_
      show own_Go p.tables e below _ (T162.setTop (mkF m 116 #[.val (.int p0), .val (.int p1), .val (.int p2), .val (.int p3), .val (.int p4), .val (.int ii), .val (.int jj), .val (.ref b143), .val (.ref b146), .val (.ref b148), .val (.int (0 : Int32))] []))
      refine own_st (fun t_ k_ => XS.iconst X162.here hx rfl (hb hby at_116) k_) ?_
      show own_Go p.tables e below _ (T162.setTop (mkF m 117 #[.val (.int p0), .val (.int p1), .val (.int p2), .val (.int p3), .val (.int p4), .val (.int ii), .val (.int jj), .val (.ref b143), .val (.ref b146), .val (.ref b148), .val (.int (0 : Int32))] [(.int (1 : Int32))]))
      refine own_st (fun t_ k_ => XS.goto X162.here hx rfl (pc0 := 117) (pc' := 121) rfl (hb hby at_117) (by decide) (by decide) k_) ?_
      show own_Go p.tables e below _ (T162.setTop (mkF m 121 #[.val (.int p0), .val (.int p1), .val (.int p2), .val (.int p3), .val (.int p4), .val (.int ii), .val (.int jj), .val (.ref b143), .val (.ref b146), .val (.ref b148), .val (.int (0 : Int32))] [(.int (1 : Int32))]))
      exact own_ret (w := (.int (1 : Int32))) X162 hx hnl Bd.returns rfl (Or.inl ⟨rfl, by decide, _, rfl⟩) (hb hby at_121) ⟨rfl, N162, (by rw [eq162]; exact K157)⟩ (by decide) (by decide)

set_option maxRecDepth 65536 in
set_option maxHeartbeats 40000000 in
theorem comes_1 {Post : Tables → Env → Array Value → State → Outcome → State → Prop} (hpost : ∀ tb e args s v u, (limb_1_1.after args s (.returned v) u = true ∧ limb_1_2.after args s (.returned v) u = true ∧ True) → FrameEnd s (.returned v) u (Jvm.fieldLocs frame_1_writes args s ++ Jvm.arrayLocs frame_1_arrays args s ++ Jvm.staticLocs frame_1_statics s) 16 128 → Post tb e args s (.returned v) u) :
    ArmFor flags0 classFile x code maxLocals ret World_1 tables_1 room_1 Calls_1 rest_1 Pre_1 Post := by
  intro l hfl _ _ p e ha hc hk s m args below hf hA hF happ hP
  obtain ⟨hcalls, hrest, hpre⟩ := hP
  obtain ⟨-, -, -, hnamed, -, -, -, hat⟩ := (Spec.applies_iff hf).mp happ
  obtain ⟨hg, hn⟩ := and_e (Cond.before_iff.mp (show (Jvm.Cond.and given_1 narrow_1).before args s = true from hpre))
  obtain ⟨hcount, g0⟩ := and_e hg
  obtain ⟨v0, g1⟩ := and_e g0
  obtain ⟨v1, g2⟩ := and_e g1
  obtain ⟨v2, g3⟩ := and_e g2
  obtain ⟨v3, g4⟩ := and_e g3
  have v4 := g4
  obtain ⟨w0, w1, w2, w3, w4, rfl⟩ : ∃ w0 w1 w2 w3 w4 : Value, args = #[w0, w1, w2, w3, w4] := by
    have hs : args.size = 5 := by simpa [Cond.value, given_1] using hcount
    obtain ⟨L⟩ := args
    match L, hs with
    | [w0, w1, w2, w3, w4], _ => exact ⟨w0, w1, w2, w3, w4, rfl⟩
  have hw := fun d (hd : d ∈ tables_1) => atoms_spec (ws := Jvm.Cond.code x code maxLocals ret :: tables_1) hat d (List.mem_cons_of_mem _ hd)
  have hfit : Fit s := fun {y c} hc i hi => by
    obtain ⟨ha, rfl⟩ := Array.getElem?_eq_some_iff.mp hc
    have q := List.all_eq_true.mp ((Array.all_eq_true_iff_forall_mem.mp hF) _ (Array.getElem_mem ha)) i (List.mem_range.mpr hi)
    simpa [Array.getElem?_eq_getElem hi] using q
  obtain ⟨hsets, hown0⟩ := atoms_of _ (rest_1_c_eq ▸ (show rest_1_c.before _ s = true from hrest))
  have hr0 := Cond.before_iff.mp hown0
  obtain ⟨i0, ei0⟩ := is_v v0
  obtain rfl : w0 = (.int i0) := Option.some.inj ei0
  obtain ⟨i1, ei1⟩ := is_v v1
  obtain rfl : w1 = (.int i1) := Option.some.inj ei1
  obtain ⟨i2, ei2⟩ := is_v v2
  obtain rfl : w2 = (.int i2) := Option.some.inj ei2
  obtain ⟨i3, ei3⟩ := is_v v3
  obtain rfl : w3 = (.int i3) := Option.some.inj ei3
  obtain ⟨i4, ei4⟩ := is_v v4
  obtain rfl : w4 = (.int i4) := Option.some.inj ei4
  obtain ⟨u1a, u1b⟩ := and_e hn
  obtain ⟨a_Token_Kind_NAME, ev_a_Token_Kind_NAME⟩ := exa_v u1a
  have E_a_Token_Kind_NAME := Exa.start ev_a_Token_Kind_NAME u1a
  have S_a_Token_Kind_NAME := Sta.start ev_a_Token_Kind_NAME (Or.inr ⟨(hw _ (List.mem_of_getElem? (i := 39) rfl)), (hw _ (List.mem_of_getElem? (i := 40) rfl))⟩)
  obtain ⟨u2a, u2b⟩ := and_e u1b
  obtain ⟨a_Token_Kind_STRING, ev_a_Token_Kind_STRING⟩ := exa_v u2a
  have E_a_Token_Kind_STRING := Exa.start ev_a_Token_Kind_STRING u2a
  have S_a_Token_Kind_STRING := Sta.start ev_a_Token_Kind_STRING (Or.inr ⟨(hw _ (List.mem_of_getElem? (i := 39) rfl)), (hw _ (List.mem_of_getElem? (i := 59) rfl))⟩)
  obtain ⟨u3a, u3b⟩ := and_e u2b
  have F_a_Token_Kind_NAME_ordinal : Fld s s.heap a_Token_Kind_NAME "java/lang/Enum" "ordinal" "I" (.int (0 : Int32)) := Fld.start ((fld_at ev_a_Token_Kind_NAME).symm.trans (own_eqI u3a))
  obtain ⟨u4a, u4b⟩ := and_e u3b
  have F_a_Token_Kind_STRING_ordinal : Fld s s.heap a_Token_Kind_STRING "java/lang/Enum" "ordinal" "I" (.int (3 : Int32)) := Fld.start ((fld_at ev_a_Token_Kind_STRING).symm.trans (own_eqI u4a))
  obtain ⟨u5a, u5b⟩ := and_e u4b
  obtain ⟨a_Token_Kind_LEFT_PARENTHESIS, ev_a_Token_Kind_LEFT_PARENTHESIS⟩ := exa_v u5a
  have E_a_Token_Kind_LEFT_PARENTHESIS := Exa.start ev_a_Token_Kind_LEFT_PARENTHESIS u5a
  have S_a_Token_Kind_LEFT_PARENTHESIS := Sta.start ev_a_Token_Kind_LEFT_PARENTHESIS (Or.inr ⟨(hw _ (List.mem_of_getElem? (i := 39) rfl)), (hw _ (List.mem_of_getElem? (i := 66) rfl))⟩)
  obtain ⟨u6a, u6b⟩ := and_e u5b
  have F_a_Token_Kind_LEFT_PARENTHESIS_ordinal : Fld s s.heap a_Token_Kind_LEFT_PARENTHESIS "java/lang/Enum" "ordinal" "I" (.int (4 : Int32)) := Fld.start ((fld_at ev_a_Token_Kind_LEFT_PARENTHESIS).symm.trans (own_eqI u6a))
  obtain ⟨u7a, u7b⟩ := and_e u6b
  obtain ⟨a_Token_Kind_COMMA, ev_a_Token_Kind_COMMA⟩ := exa_v u7a
  have E_a_Token_Kind_COMMA := Exa.start ev_a_Token_Kind_COMMA u7a
  have S_a_Token_Kind_COMMA := Sta.start ev_a_Token_Kind_COMMA (Or.inr ⟨(hw _ (List.mem_of_getElem? (i := 39) rfl)), (hw _ (List.mem_of_getElem? (i := 68) rfl))⟩)
  obtain ⟨u8a, u8b⟩ := and_e u7b
  obtain ⟨a_Token_Kind_ERROR, ev_a_Token_Kind_ERROR⟩ := exa_v u8a
  have E_a_Token_Kind_ERROR := Exa.start ev_a_Token_Kind_ERROR u8a
  have S_a_Token_Kind_ERROR := Sta.start ev_a_Token_Kind_ERROR (Or.inr ⟨(hw _ (List.mem_of_getElem? (i := 39) rfl)), (hw _ (List.mem_of_getElem? (i := 70) rfl))⟩)
  obtain ⟨u9a, u9b⟩ := and_e u8b
  have F_a_Token_Kind_COMMA_ordinal : Fld s s.heap a_Token_Kind_COMMA "java/lang/Enum" "ordinal" "I" (.int (8 : Int32)) := Fld.start ((fld_at ev_a_Token_Kind_COMMA).symm.trans (own_eqI u9a))
  obtain ⟨u10a, u10b⟩ := and_e u9b
  have F_a_Token_Kind_ERROR_ordinal : Fld s s.heap a_Token_Kind_ERROR "java/lang/Enum" "ordinal" "I" (.int (17 : Int32)) := Fld.start ((fld_at ev_a_Token_Kind_ERROR).symm.trans (own_eqI u10a))
  obtain ⟨u11a, u11b⟩ := and_e u10b
  obtain ⟨a_Token_Kind_DIVIDE, ev_a_Token_Kind_DIVIDE⟩ := exa_v u11a
  have E_a_Token_Kind_DIVIDE := Exa.start ev_a_Token_Kind_DIVIDE u11a
  have S_a_Token_Kind_DIVIDE := Sta.start ev_a_Token_Kind_DIVIDE (Or.inr ⟨(hw _ (List.mem_of_getElem? (i := 39) rfl)), (hw _ (List.mem_of_getElem? (i := 72) rfl))⟩)
  obtain ⟨u12a, u12b⟩ := and_e u11b
  have F_a_Token_Kind_DIVIDE_ordinal : Fld s s.heap a_Token_Kind_DIVIDE "java/lang/Enum" "ordinal" "I" (.int (15 : Int32)) := Fld.start ((fld_at ev_a_Token_Kind_DIVIDE).symm.trans (own_eqI u12a))
  obtain ⟨u13a, u13b⟩ := and_e u12b
  obtain ⟨a_Token_Kind_RIGHT_BRACKET, ev_a_Token_Kind_RIGHT_BRACKET⟩ := exa_v u13a
  have E_a_Token_Kind_RIGHT_BRACKET := Exa.start ev_a_Token_Kind_RIGHT_BRACKET u13a
  have S_a_Token_Kind_RIGHT_BRACKET := Sta.start ev_a_Token_Kind_RIGHT_BRACKET (Or.inr ⟨(hw _ (List.mem_of_getElem? (i := 39) rfl)), (hw _ (List.mem_of_getElem? (i := 74) rfl))⟩)
  obtain ⟨u14a, u14b⟩ := and_e u13b
  have F_a_Token_Kind_RIGHT_BRACKET_ordinal : Fld s s.heap a_Token_Kind_RIGHT_BRACKET "java/lang/Enum" "ordinal" "I" (.int (7 : Int32)) := Fld.start ((fld_at ev_a_Token_Kind_RIGHT_BRACKET).symm.trans (own_eqI u14a))
  obtain ⟨u15a, u15b⟩ := and_e u14b
  obtain ⟨a_Token_Kind_END_OF_FILE, ev_a_Token_Kind_END_OF_FILE⟩ := exa_v u15a
  have E_a_Token_Kind_END_OF_FILE := Exa.start ev_a_Token_Kind_END_OF_FILE u15a
  have S_a_Token_Kind_END_OF_FILE := Sta.start ev_a_Token_Kind_END_OF_FILE (Or.inr ⟨(hw _ (List.mem_of_getElem? (i := 39) rfl)), (hw _ (List.mem_of_getElem? (i := 76) rfl))⟩)
  obtain ⟨u16a, u16b⟩ := and_e u15b
  have F_a_Token_Kind_END_OF_FILE_ordinal : Fld s s.heap a_Token_Kind_END_OF_FILE "java/lang/Enum" "ordinal" "I" (.int (16 : Int32)) := Fld.start ((fld_at ev_a_Token_Kind_END_OF_FILE).symm.trans (own_eqI u16a))
  obtain ⟨u17a, u17b⟩ := and_e u16b
  obtain ⟨a_Token_Kind_ARROW, ev_a_Token_Kind_ARROW⟩ := exa_v u17a
  have E_a_Token_Kind_ARROW := Exa.start ev_a_Token_Kind_ARROW u17a
  have S_a_Token_Kind_ARROW := Sta.start ev_a_Token_Kind_ARROW (Or.inr ⟨(hw _ (List.mem_of_getElem? (i := 39) rfl)), (hw _ (List.mem_of_getElem? (i := 78) rfl))⟩)
  obtain ⟨u18a, u18b⟩ := and_e u17b
  obtain ⟨a_Token_Kind_NUMBER, ev_a_Token_Kind_NUMBER⟩ := exa_v u18a
  have E_a_Token_Kind_NUMBER := Exa.start ev_a_Token_Kind_NUMBER u18a
  have S_a_Token_Kind_NUMBER := Sta.start ev_a_Token_Kind_NUMBER (Or.inr ⟨(hw _ (List.mem_of_getElem? (i := 39) rfl)), (hw _ (List.mem_of_getElem? (i := 80) rfl))⟩)
  obtain ⟨u19a, u19b⟩ := and_e u18b
  have F_a_Token_Kind_ARROW_ordinal : Fld s s.heap a_Token_Kind_ARROW "java/lang/Enum" "ordinal" "I" (.int (10 : Int32)) := Fld.start ((fld_at ev_a_Token_Kind_ARROW).symm.trans (own_eqI u19a))
  obtain ⟨u20a, u20b⟩ := and_e u19b
  have F_a_Token_Kind_NUMBER_ordinal : Fld s s.heap a_Token_Kind_NUMBER "java/lang/Enum" "ordinal" "I" (.int (2 : Int32)) := Fld.start ((fld_at ev_a_Token_Kind_NUMBER).symm.trans (own_eqI u20a))
  obtain ⟨u21a, u21b⟩ := and_e u20b
  obtain ⟨a_Token_Kind_VARIABLE, ev_a_Token_Kind_VARIABLE⟩ := exa_v u21a
  have E_a_Token_Kind_VARIABLE := Exa.start ev_a_Token_Kind_VARIABLE u21a
  have S_a_Token_Kind_VARIABLE := Sta.start ev_a_Token_Kind_VARIABLE (Or.inr ⟨(hw _ (List.mem_of_getElem? (i := 39) rfl)), (hw _ (List.mem_of_getElem? (i := 82) rfl))⟩)
  obtain ⟨u22a, u22b⟩ := and_e u21b
  obtain ⟨a_Token_Kind_MINUS, ev_a_Token_Kind_MINUS⟩ := exa_v u22a
  have E_a_Token_Kind_MINUS := Exa.start ev_a_Token_Kind_MINUS u22a
  have S_a_Token_Kind_MINUS := Sta.start ev_a_Token_Kind_MINUS (Or.inr ⟨(hw _ (List.mem_of_getElem? (i := 39) rfl)), (hw _ (List.mem_of_getElem? (i := 84) rfl))⟩)
  obtain ⟨u23a, u23b⟩ := and_e u22b
  have F_a_Token_Kind_VARIABLE_ordinal : Fld s s.heap a_Token_Kind_VARIABLE "java/lang/Enum" "ordinal" "I" (.int (1 : Int32)) := Fld.start ((fld_at ev_a_Token_Kind_VARIABLE).symm.trans (own_eqI u23a))
  obtain ⟨u24a, u24b⟩ := and_e u23b
  have F_a_Token_Kind_MINUS_ordinal : Fld s s.heap a_Token_Kind_MINUS "java/lang/Enum" "ordinal" "I" (.int (13 : Int32)) := Fld.start ((fld_at ev_a_Token_Kind_MINUS).symm.trans (own_eqI u24a))
  obtain ⟨u25a, u25b⟩ := and_e u24b
  obtain ⟨a_Token_Kind_LEFT_BRACKET, ev_a_Token_Kind_LEFT_BRACKET⟩ := exa_v u25a
  have E_a_Token_Kind_LEFT_BRACKET := Exa.start ev_a_Token_Kind_LEFT_BRACKET u25a
  have S_a_Token_Kind_LEFT_BRACKET := Sta.start ev_a_Token_Kind_LEFT_BRACKET (Or.inr ⟨(hw _ (List.mem_of_getElem? (i := 39) rfl)), (hw _ (List.mem_of_getElem? (i := 86) rfl))⟩)
  obtain ⟨u26a, u26b⟩ := and_e u25b
  have F_a_Token_Kind_LEFT_BRACKET_ordinal : Fld s s.heap a_Token_Kind_LEFT_BRACKET "java/lang/Enum" "ordinal" "I" (.int (6 : Int32)) := Fld.start ((fld_at ev_a_Token_Kind_LEFT_BRACKET).symm.trans (own_eqI u26a))
  obtain ⟨u27a, u27b⟩ := and_e u26b
  obtain ⟨a_Token_Kind_FULL_STOP, ev_a_Token_Kind_FULL_STOP⟩ := exa_v u27a
  have E_a_Token_Kind_FULL_STOP := Exa.start ev_a_Token_Kind_FULL_STOP u27a
  have S_a_Token_Kind_FULL_STOP := Sta.start ev_a_Token_Kind_FULL_STOP (Or.inr ⟨(hw _ (List.mem_of_getElem? (i := 39) rfl)), (hw _ (List.mem_of_getElem? (i := 88) rfl))⟩)
  obtain ⟨u28a, u28b⟩ := and_e u27b
  have F_a_Token_Kind_FULL_STOP_ordinal : Fld s s.heap a_Token_Kind_FULL_STOP "java/lang/Enum" "ordinal" "I" (.int (9 : Int32)) := Fld.start ((fld_at ev_a_Token_Kind_FULL_STOP).symm.trans (own_eqI u28a))
  obtain ⟨u29a, u29b⟩ := and_e u28b
  obtain ⟨a_Token_Kind_TIMES, ev_a_Token_Kind_TIMES⟩ := exa_v u29a
  have E_a_Token_Kind_TIMES := Exa.start ev_a_Token_Kind_TIMES u29a
  have S_a_Token_Kind_TIMES := Sta.start ev_a_Token_Kind_TIMES (Or.inr ⟨(hw _ (List.mem_of_getElem? (i := 39) rfl)), (hw _ (List.mem_of_getElem? (i := 90) rfl))⟩)
  obtain ⟨u30a, u30b⟩ := and_e u29b
  have F_a_Token_Kind_TIMES_ordinal : Fld s s.heap a_Token_Kind_TIMES "java/lang/Enum" "ordinal" "I" (.int (14 : Int32)) := Fld.start ((fld_at ev_a_Token_Kind_TIMES).symm.trans (own_eqI u30a))
  obtain ⟨u31a, u31b⟩ := and_e u30b
  obtain ⟨a_Token_Kind_COMPARISON, ev_a_Token_Kind_COMPARISON⟩ := exa_v u31a
  have E_a_Token_Kind_COMPARISON := Exa.start ev_a_Token_Kind_COMPARISON u31a
  have S_a_Token_Kind_COMPARISON := Sta.start ev_a_Token_Kind_COMPARISON (Or.inr ⟨(hw _ (List.mem_of_getElem? (i := 39) rfl)), (hw _ (List.mem_of_getElem? (i := 92) rfl))⟩)
  obtain ⟨u32a, u32b⟩ := and_e u31b
  have F_a_Token_Kind_COMPARISON_ordinal : Fld s s.heap a_Token_Kind_COMPARISON "java/lang/Enum" "ordinal" "I" (.int (11 : Int32)) := Fld.start ((fld_at ev_a_Token_Kind_COMPARISON).symm.trans (own_eqI u32a))
  obtain ⟨u33a, u33b⟩ := and_e u32b
  obtain ⟨a_Token_Kind_RIGHT_PARENTHESIS, ev_a_Token_Kind_RIGHT_PARENTHESIS⟩ := exa_v u33a
  have E_a_Token_Kind_RIGHT_PARENTHESIS := Exa.start ev_a_Token_Kind_RIGHT_PARENTHESIS u33a
  have S_a_Token_Kind_RIGHT_PARENTHESIS := Sta.start ev_a_Token_Kind_RIGHT_PARENTHESIS (Or.inr ⟨(hw _ (List.mem_of_getElem? (i := 39) rfl)), (hw _ (List.mem_of_getElem? (i := 94) rfl))⟩)
  obtain ⟨u34a, u34b⟩ := and_e u33b
  have F_a_Token_Kind_RIGHT_PARENTHESIS_ordinal : Fld s s.heap a_Token_Kind_RIGHT_PARENTHESIS "java/lang/Enum" "ordinal" "I" (.int (5 : Int32)) := Fld.start ((fld_at ev_a_Token_Kind_RIGHT_PARENTHESIS).symm.trans (own_eqI u34a))
  obtain ⟨u35a, u35b⟩ := and_e u34b
  obtain ⟨a_Token_Kind_PLUS, ev_a_Token_Kind_PLUS⟩ := exa_v u35a
  have E_a_Token_Kind_PLUS := Exa.start ev_a_Token_Kind_PLUS u35a
  have S_a_Token_Kind_PLUS := Sta.start ev_a_Token_Kind_PLUS (Or.inr ⟨(hw _ (List.mem_of_getElem? (i := 39) rfl)), (hw _ (List.mem_of_getElem? (i := 96) rfl))⟩)
  have F_a_Token_Kind_PLUS_ordinal : Fld s s.heap a_Token_Kind_PLUS "java/lang/Enum" "ordinal" "I" (.int (12 : Int32)) := Fld.start ((fld_at ev_a_Token_Kind_PLUS).symm.trans (own_eqI u35b))
  obtain ⟨G1, eG1⟩ := is_v (Cond.before_iff.mp (hsets _ (List.mem_of_getElem? (i := 1) rfl)))
  have SG1 := Sta.start eG1 (Or.inl (hsets _ (List.mem_of_getElem? (i := 0) rfl)))
  have hG1 := own_neq0 eG1 (Cond.before_iff.mp (hsets _ (List.mem_of_getElem? (i := 2) rfl)))
  have hO : ∀ a : Nat, a < 18 → Fld s s.heap (own_K [a_Token_Kind_NAME, a_Token_Kind_VARIABLE, a_Token_Kind_NUMBER, a_Token_Kind_STRING, a_Token_Kind_LEFT_PARENTHESIS, a_Token_Kind_RIGHT_PARENTHESIS, a_Token_Kind_LEFT_BRACKET, a_Token_Kind_RIGHT_BRACKET, a_Token_Kind_COMMA, a_Token_Kind_FULL_STOP, a_Token_Kind_ARROW, a_Token_Kind_COMPARISON, a_Token_Kind_PLUS, a_Token_Kind_MINUS, a_Token_Kind_TIMES, a_Token_Kind_DIVIDE, a_Token_Kind_END_OF_FILE, a_Token_Kind_ERROR] a) "java/lang/Enum" "ordinal" "I" (.int (Int32.ofNat a)) := by
    intro a ha
    match a, ha with
    | 0, _ => exact F_a_Token_Kind_NAME_ordinal
    | 1, _ => exact F_a_Token_Kind_VARIABLE_ordinal
    | 2, _ => exact F_a_Token_Kind_NUMBER_ordinal
    | 3, _ => exact F_a_Token_Kind_STRING_ordinal
    | 4, _ => exact F_a_Token_Kind_LEFT_PARENTHESIS_ordinal
    | 5, _ => exact F_a_Token_Kind_RIGHT_PARENTHESIS_ordinal
    | 6, _ => exact F_a_Token_Kind_LEFT_BRACKET_ordinal
    | 7, _ => exact F_a_Token_Kind_RIGHT_BRACKET_ordinal
    | 8, _ => exact F_a_Token_Kind_COMMA_ordinal
    | 9, _ => exact F_a_Token_Kind_FULL_STOP_ordinal
    | 10, _ => exact F_a_Token_Kind_ARROW_ordinal
    | 11, _ => exact F_a_Token_Kind_COMPARISON_ordinal
    | 12, _ => exact F_a_Token_Kind_PLUS_ordinal
    | 13, _ => exact F_a_Token_Kind_MINUS_ordinal
    | 14, _ => exact F_a_Token_Kind_TIMES_ordinal
    | 15, _ => exact F_a_Token_Kind_DIVIDE_ordinal
    | 16, _ => exact F_a_Token_Kind_END_OF_FILE_ordinal
    | 17, _ => exact F_a_Token_Kind_ERROR_ordinal
    | n + 18, h => exact absurd h (by omega)
  obtain ⟨n, o, h1, h2, h3, _, L, rfl, ⟨rfl, N, -⟩, hq⟩ := own_rm0 l s _ hw tables_1 i0 i1 i2 i3 i4 (own_K [a_Token_Kind_NAME, a_Token_Kind_VARIABLE, a_Token_Kind_NUMBER, a_Token_Kind_STRING, a_Token_Kind_LEFT_PARENTHESIS, a_Token_Kind_RIGHT_PARENTHESIS, a_Token_Kind_LEFT_BRACKET, a_Token_Kind_RIGHT_BRACKET, a_Token_Kind_COMMA, a_Token_Kind_FULL_STOP, a_Token_Kind_ARROW, a_Token_Kind_COMPARISON, a_Token_Kind_PLUS, a_Token_Kind_MINUS, a_Token_Kind_TIMES, a_Token_Kind_DIVIDE, a_Token_Kind_END_OF_FILE, a_Token_Kind_ERROR]) G1 s.heap s.heap.size (Nat.le_refl _) (Old.start s) S_a_Token_Kind_NAME S_a_Token_Kind_VARIABLE S_a_Token_Kind_NUMBER S_a_Token_Kind_STRING S_a_Token_Kind_LEFT_PARENTHESIS S_a_Token_Kind_RIGHT_PARENTHESIS S_a_Token_Kind_LEFT_BRACKET S_a_Token_Kind_RIGHT_BRACKET S_a_Token_Kind_COMMA S_a_Token_Kind_FULL_STOP S_a_Token_Kind_ARROW S_a_Token_Kind_COMPARISON S_a_Token_Kind_PLUS S_a_Token_Kind_MINUS S_a_Token_Kind_TIMES S_a_Token_Kind_DIVIDE S_a_Token_Kind_END_OF_FILE S_a_Token_Kind_ERROR hO SG1 hG1 p e ha hc hk s m _ below hf ((Spec.applies_iff_loose hf).mp happ).1 ⟨rfl, State.Warmed39.refl s, rfl⟩ trivial
  refine ⟨n, _, h1, h2, h3, hpost _ _ _ _ _ _ ⟨Cond.after_iff.mpr rfl, Cond.after_iff.mpr (eq_i res_at (Term.int_eval (1)) rfl), trivial⟩ ⟨hq.1, hq.2.1, (hq.2.2.sift fun y hy => Or.inr (N y hy)).mono (by decide) (by decide)⟩⟩
theorem main_1_1 : Claimed_1_1 := comes_1 fun _ _ _ _ _ _ h hF => ⟨h.1, hF⟩
theorem main_1_2 : Claimed_1_2 := comes_1 fun _ _ _ _ _ _ h hF => ⟨h.2.1, hF⟩

end Jvm.Pilot.@@N@@
namespace Jvm.Pilot.@@N@@
open Jvm Jvm.ClassFile Sem Op Lib Jvm.Free Jvm.Stand Jvm.Pilot.@@N@@.Jvm.D
/-! MADE BY PROGRAM (witnessworld.py) out of the Statement's table words and the real class files: 23 classes; the members and pool entries that the words name. The judged class is class 1, her method 2. -/
namespace start1
open Jvm.ClassFile
def u (s : String) : CpInfo := .utf8 (stringToUtf16 s)
/-- a pool by its gaps: so many unusable entries, then the entry; so many at the end -/
def gap : Nat → List CpInfo → List CpInfo
  | 0, r => r
  | n + 1, r => .unusable :: gap n r
def poolList (es : List (Nat × CpInfo)) (last : Nat) : List CpInfo := es.foldr (fun e r => gap e.1 (e.2 :: r)) (gap last [])
def pool (es : List (Nat × CpInfo)) (last : Nat) : Array CpInfo := ⟨poolList es last⟩
def fileOf (pool : Array CpInfo) (this : Nat) (attrs : Array Attribute := #[]) (ms : Array MethodInfo := #[]) (fl : Nat := 33) (sup : Nat := 0) (ifs : Array Nat := #[]) (fds : Array FieldInfo := #[]) : ClassFile where
  minorVersion := 0
  majorVersion := 65
  constantPool := pool
  accessFlags := fl
  thisClass := this
  superClass := sup
  interfaces := ifs
  fields := fds
  methods := ms
  attributes := attrs
def plain (name : String) (sup : Option ClassId) : Class where
  name := name
  kind := .ordinary
  loader := none
  accessFlags := 33
  super := sup
  interfaces := #[]
  cf := none
  fields := #[]
  methods := #[]
  instanceTypes := #[]
  staticTypes := #[]
  resolved := #[]
  callSites := []
  init := .initialized
  statics := none
  mirror := none

def pool0 : Array CpInfo := pool [(5, u "<init>"), (0, u "()V"), (1, .class_ 10), (1, u "java/lang/Object")] 113

def k0c0 : Code := { maxStack := 0, maxLocals := 1, code := object_method_1_code, exceptionTable := #[], attributes := #[] }
def k0m0 : Method := { name := "<init>", desc := "()V", sig := { parameters := [], returnType := none }, accessFlags := 1, code := some k0c0 }
/-- java/lang/Object -/
def k0 : Class := { plain "java/lang/Object" none with
  accessFlags := 33
  interfaces := #[]
  cf := some (fileOf pool0 8 #[] #[{ accessFlags := 1, nameIndex := 5, descriptorIndex := 6, attributes := #[] }] 33 0 #[] #[])
  fields := #[]
  methods := #[k0m0]
  instanceTypes := #[]
  staticTypes := #[]
  resolved := Array.replicate 124 none
  statics := none }

def pool1 : Array CpInfo := pool [(2, .class_ 4), (1, u "java/lang/Object"), (0, u "<init>"), (0, u "()V"), (0, .fieldref 8 9), (0, .class_ 10), (0, .nameAndType 11 12), (0, u "com/example/cima/cima/io/Token$Kind"), (0, u "NAME"), (0, u "Lcom/example/cima/cima/io/Token$Kind;"), (0, .fieldref 8 14), (0, .nameAndType 15 12), (0, u "VARIABLE"), (0, .fieldref 8 17), (0, .nameAndType 18 12), (0, u "NUMBER"), (0, .fieldref 8 20), (0, .nameAndType 21 12), (0, u "STRING"), (0, .fieldref 8 23), (0, .nameAndType 24 12), (0, u "LEFT_PARENTHESIS"), (0, .fieldref 8 26), (0, .nameAndType 27 12), (0, u "RIGHT_PARENTHESIS"), (0, .fieldref 8 29), (0, .nameAndType 30 12), (0, u "LEFT_BRACKET"), (0, .fieldref 8 32), (0, .nameAndType 33 12), (0, u "RIGHT_BRACKET"), (0, .fieldref 8 35), (0, .nameAndType 36 12), (0, u "COMMA"), (0, .fieldref 8 38), (0, .nameAndType 39 12), (0, u "FULL_STOP"), (0, .fieldref 8 41), (0, .nameAndType 42 12), (0, u "ARROW"), (0, .fieldref 8 44), (0, .nameAndType 45 12), (0, u "COMPARISON"), (0, .fieldref 8 47), (0, .nameAndType 48 12), (0, u "PLUS"), (0, .fieldref 8 50), (0, .nameAndType 51 12), (0, u "MINUS"), (0, .fieldref 8 53), (0, .nameAndType 54 12), (0, u "TIMES"), (0, .fieldref 8 56), (0, .nameAndType 57 12), (0, u "DIVIDE"), (0, .fieldref 8 59), (0, .nameAndType 60 12), (0, u "END_OF_FILE"), (0, .fieldref 8 62), (0, .nameAndType 63 12), (0, u "ERROR"), (0, .integer 2147483647), (0, .class_ 66), (0, u "java/lang/String"), (0, .methodref 65 68), (0, .nameAndType 5 69), (0, u "([C)V"), (0, .class_ 71), (0, u "com/example/cima/cima/io/Token"), (0, .methodref 73 74), (0, .class_ 75), (0, .nameAndType 76 77), (0, u "com/example/cima/cima/io/TokenIsPinLaw"), (0, u "kindAt"), (0, u "(I)Lcom/example/cima/cima/io/Token$Kind;"), (0, .methodref 70 79), (0, .nameAndType 5 80), (0, u "(Lcom/example/cima/cima/io/Token$Kind;Ljava/lang/String;IZ)V"), (0, .methodref 70 82), (0, .nameAndType 83 84), (0, u "is"), (0, u "(Lcom/example/cima/cima/io/Token$Kind;)Z"), (3, u "law"), (0, u "(IIIII)Z")] 6

def k1m0 : Method := { name := "<init>", desc := "()V", sig := { parameters := [], returnType := none }, accessFlags := 2, code := none }
def k1c1 : Code := { maxStack := 1, maxLocals := 1, code := method_2_code, exceptionTable := #[], attributes := #[] }
def k1m1 : Method := { name := "kindAt", desc := "(I)Lcom/example/cima/cima/io/Token$Kind;", sig := { parameters := [.int], returnType := some (.object "com/example/cima/cima/io/Token$Kind") }, accessFlags := 10, code := some k1c1 }
def k1c2 : Code := { maxStack := 7, maxLocals := 11, code := code, exceptionTable := #[], attributes := #[] }
def k1m2 : Method := { name := "law", desc := "(IIIII)Z", sig := { parameters := [.int, .int, .int, .int, .int], returnType := some .boolean }, accessFlags := 9, code := some k1c2 }
/-- com/example/cima/cima/io/TokenIsPinLaw -/
def k1 : Class := { plain "com/example/cima/cima/io/TokenIsPinLaw" (some 0) with
  accessFlags := 49
  interfaces := #[]
  cf := some (fileOf pool1 73 #[] #[{ accessFlags := 2, nameIndex := 5, descriptorIndex := 6, attributes := #[] }, { accessFlags := 10, nameIndex := 76, descriptorIndex := 77, attributes := #[] }, { accessFlags := 9, nameIndex := 88, descriptorIndex := 89, attributes := #[] }] 49 2 #[] #[])
  fields := #[]
  methods := #[k1m0, k1m1, k1m2]
  instanceTypes := #[]
  staticTypes := #[]
  resolved := Array.replicate 96 none
  statics := none }

def pool2 : Array CpInfo := pool [(1, .class_ 2), (0, u "java/io/Serializable"), (0, .class_ 4), (0, u "java/lang/Object")] 2

/-- java/io/Serializable -/
def k2 : Class := { plain "java/io/Serializable" (some 0) with
  accessFlags := 1537
  interfaces := #[]
  cf := some (fileOf pool2 1 #[] #[] 1537 3 #[] #[])
  fields := #[]
  methods := #[]
  instanceTypes := #[]
  staticTypes := #[]
  resolved := Array.replicate 7 none
  statics := none }

def pool3 : Array CpInfo := pool [(1, .class_ 2), (0, u "java/lang/Comparable"), (0, .class_ 4), (0, u "java/lang/Object")] 7

/-- java/lang/Comparable -/
def k3 : Class := { plain "java/lang/Comparable" (some 0) with
  accessFlags := 1537
  interfaces := #[]
  cf := some (fileOf pool3 1 #[] #[] 1537 3 #[] #[])
  fields := #[]
  methods := #[]
  instanceTypes := #[]
  staticTypes := #[]
  resolved := Array.replicate 12 none
  statics := none }

def pool4 : Array CpInfo := pool [(2, .class_ 4), (1, u "java/lang/CharSequence"), (42, .class_ 48), (0, u "java/lang/CharSequence$1CodePointIterator"), (10, .class_ 60), (0, u "java/lang/CharSequence$1CharIterator"), (5, .class_ 67), (0, u "java/lang/Object")] 63

/-- java/lang/CharSequence -/
def k4 : Class := { plain "java/lang/CharSequence" (some 0) with
  accessFlags := 1537
  interfaces := #[]
  cf := some (fileOf pool4 2 #[.nestMembers #[47, 59]] #[] 1537 66 #[] #[])
  fields := #[]
  methods := #[]
  instanceTypes := #[]
  staticTypes := #[]
  resolved := Array.replicate 131 none
  statics := none }

def pool5 : Array CpInfo := pool [(1, .class_ 2), (0, u "java/lang/constant/Constable"), (0, .class_ 4), (0, u "java/lang/Object")] 6

/-- java/lang/constant/Constable -/
def k5 : Class := { plain "java/lang/constant/Constable" (some 0) with
  accessFlags := 1537
  interfaces := #[]
  cf := some (fileOf pool5 1 #[] #[] 1537 3 #[] #[])
  fields := #[]
  methods := #[]
  instanceTypes := #[]
  staticTypes := #[]
  resolved := Array.replicate 11 none
  statics := none }

def pool6 : Array CpInfo := pool [(1, .class_ 2), (0, u "java/lang/constant/ConstantDesc"), (0, .class_ 4), (0, u "java/lang/Object")] 32

/-- java/lang/constant/ConstantDesc -/
def k6 : Class := { plain "java/lang/constant/ConstantDesc" (some 0) with
  accessFlags := 1537
  interfaces := #[]
  cf := some (fileOf pool6 1 #[] #[] 1537 3 #[] #[])
  fields := #[]
  methods := #[]
  instanceTypes := #[]
  staticTypes := #[]
  resolved := Array.replicate 37 none
  statics := none }

def pool7 : Array CpInfo := pool [(1, .methodref 2 3), (0, .class_ 4), (0, .nameAndType 5 6), (0, u "java/lang/Object"), (0, u "<init>"), (0, u "()V"), (2, .fieldref 10 11), (0, .class_ 12), (0, .nameAndType 13 14), (0, u "java/lang/String"), (0, u "value"), (0, u "[B"), (0, .fieldref 10 16), (0, .nameAndType 17 18), (0, u "coder"), (0, u "B"), (2, u "hash"), (0, u "I"), (2, u "hashIsZero"), (0, u "Z"), (0, .methodref 10 28), (0, .nameAndType 5 29), (0, u "([CIILjava/lang/Void;)V"), (8, .fieldref 10 39), (0, .nameAndType 40 26), (0, u "COMPACT_STRINGS"), (1, .class_ 44), (1, u "java/lang/StringUTF16"), (0, u "compress"), (1, .methodref 42 48), (0, .nameAndType 49 50), (0, u "coderFromArrayLen"), (0, u "([BI)B"), (126, .methodref 42 178), (0, .nameAndType 45 179), (0, u "([CII)[B"), (395, .class_ 576), (0, u "java/lang/CharSequence"), (22, u "CASE_INSENSITIVE_ORDER"), (0, u "Ljava/util/Comparator;"), (409, u "([C)V"), (90, u "serialPersistentFields"), (0, u "[Ljava/io/ObjectStreamField;"), (0, .class_ 1104), (0, u "java/lang/String$CaseInsensitiveComparator"), (1, .class_ 1107), (0, u "java/io/Serializable"), (0, .class_ 1109), (0, u "java/lang/Comparable"), (0, .class_ 1111), (0, u "java/lang/constant/Constable"), (0, .class_ 1113), (0, u "java/lang/constant/ConstantDesc"), (2, u "serialVersionUID"), (0, u "J"), (3, u "REPL"), (0, u "C"), (2, u "LATIN1"), (1, u "UTF16")] 323

def k7m0 : Method := { name := "<init>", desc := "()V", sig := { parameters := [], returnType := none }, accessFlags := 1, code := none }
def k7c1 : Code := { maxStack := 5, maxLocals := 2, code := jdk_42_method_3_code, exceptionTable := #[], attributes := #[] }
def k7m1 : Method := { name := "<init>", desc := "([C)V", sig := { parameters := [(.array .char)], returnType := none }, accessFlags := 1, code := some k7c1 }
def k7c2 : Code := { maxStack := 4, maxLocals := 6, code := jdk_42_method_149_code, exceptionTable := #[], attributes := #[] }
def k7m2 : Method := { name := "<init>", desc := "([CIILjava/lang/Void;)V", sig := { parameters := [(.array .char), .int, .int, (.object "java/lang/Void")], returnType := none }, accessFlags := 2, code := some k7c2 }
/-- java/lang/String -/
def k7 : Class := { plain "java/lang/String" (some 0) with
  accessFlags := 49
  interfaces := #[2, 3, 4, 5, 6]
  cf := some (fileOf pool7 10 #[.nestMembers #[1103]] #[{ accessFlags := 1, nameIndex := 5, descriptorIndex := 6, attributes := #[] }, { accessFlags := 1, nameIndex := 5, descriptorIndex := 1010, attributes := #[] }, { accessFlags := 2, nameIndex := 5, descriptorIndex := 29, attributes := #[] }] 49 2 #[1106, 1108, 575, 1110, 1112] #[{ accessFlags := 18, nameIndex := 13, descriptorIndex := 14, attributes := #[] }, { accessFlags := 18, nameIndex := 17, descriptorIndex := 18, attributes := #[] }, { accessFlags := 2, nameIndex := 21, descriptorIndex := 22, attributes := #[] }, { accessFlags := 2, nameIndex := 25, descriptorIndex := 26, attributes := #[] }, { accessFlags := 26, nameIndex := 1116, descriptorIndex := 1117, attributes := #[] }, { accessFlags := 24, nameIndex := 40, descriptorIndex := 26, attributes := #[] }, { accessFlags := 26, nameIndex := 1101, descriptorIndex := 1102, attributes := #[] }, { accessFlags := 26, nameIndex := 1121, descriptorIndex := 1122, attributes := #[] }, { accessFlags := 25, nameIndex := 599, descriptorIndex := 600, attributes := #[] }, { accessFlags := 24, nameIndex := 1125, descriptorIndex := 18, attributes := #[] }, { accessFlags := 24, nameIndex := 1127, descriptorIndex := 18, attributes := #[] }])
  fields := #[{ name := "value", type := (.array .byte), accessFlags := 18, slot := 0, constantValue := 0 }, { name := "coder", type := .byte, accessFlags := 18, slot := 1, constantValue := 0 }, { name := "hash", type := .int, accessFlags := 2, slot := 2, constantValue := 0 }, { name := "hashIsZero", type := .boolean, accessFlags := 2, slot := 3, constantValue := 0 }, { name := "serialVersionUID", type := .long, accessFlags := 26, slot := 0, constantValue := 0 }, { name := "COMPACT_STRINGS", type := .boolean, accessFlags := 24, slot := 1, constantValue := 0 }, { name := "serialPersistentFields", type := (.array (.object "java/io/ObjectStreamField")), accessFlags := 26, slot := 2, constantValue := 0 }, { name := "REPL", type := .char, accessFlags := 26, slot := 3, constantValue := 0 }, { name := "CASE_INSENSITIVE_ORDER", type := (.object "java/util/Comparator"), accessFlags := 25, slot := 4, constantValue := 0 }, { name := "LATIN1", type := .byte, accessFlags := 24, slot := 5, constantValue := 0 }, { name := "UTF16", type := .byte, accessFlags := 24, slot := 6, constantValue := 0 }]
  methods := #[k7m0, k7m1, k7m2]
  instanceTypes := #[(.array .byte), .byte, .int, .boolean]
  staticTypes := #[.long, .boolean, (.array (.object "java/io/ObjectStreamField")), .char, (.object "java/util/Comparator"), .byte, .byte]
  resolved := Array.replicate 1451 none
  statics := some 0 }

def pool8 : Array CpInfo := pool [(6, .class_ 8), (1, u "java/lang/Object"), (0, u "<init>"), (0, u "()V"), (1, .class_ 14), (1, u "java/lang/StringUTF16"), (31, u "$assertionsDisabled"), (0, u "Z"), (13, u "HI_BYTE_SHIFT"), (0, u "I"), (2, u "LO_BYTE_SHIFT"), (49, .methodref 12 116), (0, .nameAndType 117 118), (0, u "compress"), (0, u "([CI[BII)I"), (3, u "([CII)[B"), (138, u "coderFromArrayLen"), (0, u "([BI)B"), (106, .class_ 371), (1, u "java/lang/StringUTF16$LinesSpliterator"), (58, u "MAX_LENGTH"), (196, .class_ 628), (0, u "java/lang/StringUTF16$CodePointsSpliterator"), (0, .class_ 630), (0, u "java/lang/StringUTF16$CharsSpliterator")] 4

def k8m0 : Method := { name := "<init>", desc := "()V", sig := { parameters := [], returnType := none }, accessFlags := 0, code := none }
def k8c1 : Code := { maxStack := 2, maxLocals := 2, code := jdk_52_method_15_code, exceptionTable := #[], attributes := #[] }
def k8m1 : Method := { name := "coderFromArrayLen", desc := "([BI)B", sig := { parameters := [(.array .byte), .int], returnType := some .byte }, accessFlags := 8, code := some k8c1 }
def k8c2 : Code := { maxStack := 5, maxLocals := 6, code := jdk_52_method_16_code, exceptionTable := #[], attributes := #[] }
def k8m2 : Method := { name := "compress", desc := "([CII)[B", sig := { parameters := [(.array .char), .int, .int], returnType := some (.array .byte) }, accessFlags := 9, code := some k8c2 }
def k8c3 : Code := { maxStack := 3, maxLocals := 7, code := jdk_52_method_21_code, exceptionTable := #[], attributes := #[] }
def k8m3 : Method := { name := "compress", desc := "([CI[BII)I", sig := { parameters := [(.array .char), .int, (.array .byte), .int, .int], returnType := some .int }, accessFlags := 9, code := some k8c3 }
/-- java/lang/StringUTF16 -/
def k8 : Class := { plain "java/lang/StringUTF16" (some 0) with
  accessFlags := 48
  interfaces := #[]
  cf := some (fileOf pool8 12 #[.nestMembers #[627, 629, 369]] #[{ accessFlags := 0, nameIndex := 9, descriptorIndex := 10, attributes := #[] }, { accessFlags := 8, nameIndex := 261, descriptorIndex := 262, attributes := #[] }, { accessFlags := 9, nameIndex := 117, descriptorIndex := 122, attributes := #[] }, { accessFlags := 9, nameIndex := 117, descriptorIndex := 118, attributes := #[] }] 48 6 #[] #[{ accessFlags := 26, nameIndex := 61, descriptorIndex := 62, attributes := #[] }, { accessFlags := 26, nameIndex := 65, descriptorIndex := 62, attributes := #[] }, { accessFlags := 24, nameIndex := 430, descriptorIndex := 62, attributes := #[] }, { accessFlags := 4120, nameIndex := 46, descriptorIndex := 47, attributes := #[] }])
  fields := #[{ name := "HI_BYTE_SHIFT", type := .int, accessFlags := 26, slot := 0, constantValue := 0 }, { name := "LO_BYTE_SHIFT", type := .int, accessFlags := 26, slot := 1, constantValue := 0 }, { name := "MAX_LENGTH", type := .int, accessFlags := 24, slot := 2, constantValue := 0 }, { name := "$assertionsDisabled", type := .boolean, accessFlags := 4120, slot := 3, constantValue := 0 }]
  methods := #[k8m0, k8m1, k8m2, k8m3]
  instanceTypes := #[]
  staticTypes := #[.int, .int, .int, .boolean]
  resolved := Array.replicate 635 none
  statics := none }

def pool9 : Array CpInfo := pool [(1, .methodref 2 3), (0, .class_ 4), (0, .nameAndType 5 6), (0, u "java/lang/Object"), (0, u "<init>"), (0, u "()V"), (0, .class_ 8), (0, u "java/lang/Record")] 13

def k9c0 : Code := { maxStack := 1, maxLocals := 1, code := jdk_30_method_1_code, exceptionTable := #[], attributes := #[] }
def k9m0 : Method := { name := "<init>", desc := "()V", sig := { parameters := [], returnType := none }, accessFlags := 4, code := some k9c0 }
/-- java/lang/Record -/
def k9 : Class := { plain "java/lang/Record" (some 0) with
  accessFlags := 1057
  interfaces := #[]
  cf := some (fileOf pool9 7 #[] #[{ accessFlags := 4, nameIndex := 5, descriptorIndex := 6, attributes := #[] }] 1057 2 #[] #[])
  fields := #[]
  methods := #[k9m0]
  instanceTypes := #[]
  staticTypes := #[]
  resolved := Array.replicate 22 none
  statics := none }

def pool10 : Array CpInfo := pool [(1, .methodref 2 3), (0, .class_ 4), (0, .nameAndType 5 6), (0, u "java/lang/Record"), (0, u "<init>"), (0, u "()V"), (0, .fieldref 8 9), (0, .class_ 10), (0, .nameAndType 11 12), (0, u "com/example/cima/cima/io/Token"), (0, u "kind"), (0, u "Lcom/example/cima/cima/io/Token$Kind;"), (0, .fieldref 8 14), (0, .nameAndType 15 16), (0, u "text"), (0, u "Ljava/lang/String;"), (0, .fieldref 8 18), (0, .nameAndType 19 20), (0, u "line"), (0, u "I"), (0, .fieldref 8 22), (0, .nameAndType 23 24), (0, u "spaced"), (0, u "Z"), (1, .class_ 28), (1, u "com/example/cima/cima/io/Token$Kind"), (22, u "(Lcom/example/cima/cima/io/Token$Kind;Ljava/lang/String;IZ)V"), (3, u "is"), (0, u "(Lcom/example/cima/cima/io/Token$Kind;)Z")] 41

def k10c0 : Code := { maxStack := 2, maxLocals := 5, code := prog_36_method_1_code, exceptionTable := #[], attributes := #[] }
def k10m0 : Method := { name := "<init>", desc := "(Lcom/example/cima/cima/io/Token$Kind;Ljava/lang/String;IZ)V", sig := { parameters := [(.object "com/example/cima/cima/io/Token$Kind"), (.object "java/lang/String"), .int, .boolean], returnType := none }, accessFlags := 0, code := some k10c0 }
def k10c1 : Code := { maxStack := 2, maxLocals := 2, code := prog_36_method_2_code, exceptionTable := #[], attributes := #[] }
def k10m1 : Method := { name := "is", desc := "(Lcom/example/cima/cima/io/Token$Kind;)Z", sig := { parameters := [(.object "com/example/cima/cima/io/Token$Kind")], returnType := some .boolean }, accessFlags := 0, code := some k10c1 }
/-- com/example/cima/cima/io/Token -/
def k10 : Class := { plain "com/example/cima/cima/io/Token" (some 9) with
  accessFlags := 48
  interfaces := #[]
  cf := some (fileOf pool10 8 #[.nestMembers #[26]] #[{ accessFlags := 0, nameIndex := 5, descriptorIndex := 51, attributes := #[] }, { accessFlags := 0, nameIndex := 55, descriptorIndex := 56, attributes := #[] }] 48 2 #[] #[{ accessFlags := 18, nameIndex := 11, descriptorIndex := 12, attributes := #[] }, { accessFlags := 18, nameIndex := 15, descriptorIndex := 16, attributes := #[] }, { accessFlags := 18, nameIndex := 19, descriptorIndex := 20, attributes := #[] }, { accessFlags := 18, nameIndex := 23, descriptorIndex := 24, attributes := #[] }])
  fields := #[{ name := "kind", type := (.object "com/example/cima/cima/io/Token$Kind"), accessFlags := 18, slot := 0, constantValue := 0 }, { name := "text", type := (.object "java/lang/String"), accessFlags := 18, slot := 1, constantValue := 0 }, { name := "line", type := .int, accessFlags := 18, slot := 2, constantValue := 0 }, { name := "spaced", type := .boolean, accessFlags := 18, slot := 3, constantValue := 0 }]
  methods := #[k10m0, k10m1]
  instanceTypes := #[(.object "com/example/cima/cima/io/Token$Kind"), (.object "java/lang/String"), .int, .boolean]
  staticTypes := #[]
  resolved := Array.replicate 98 none
  statics := none }

def pool11 : Array CpInfo := pool [(2, .class_ 4), (1, u "java/lang/Enum"), (0, u "name"), (0, u "Ljava/lang/String;"), (2, u "ordinal"), (0, u "I"), (1, .class_ 14), (1, u "java/lang/Object"), (4, u "hash"), (86, .class_ 108), (1, u "java/lang/Enum$EnumDesc"), (2, .class_ 112), (0, u "java/lang/constant/Constable"), (0, .class_ 114), (0, u "java/lang/Comparable"), (0, .class_ 116), (0, u "java/io/Serializable")] 87

/-- java/lang/Enum -/
def k11 : Class := { plain "java/lang/Enum" (some 0) with
  accessFlags := 1057
  interfaces := #[5, 3, 2]
  cf := some (fileOf pool11 2 #[.nestMembers #[106]] #[] 1057 12 #[111, 113, 115] #[{ accessFlags := 18, nameIndex := 5, descriptorIndex := 6, attributes := #[] }, { accessFlags := 18, nameIndex := 9, descriptorIndex := 10, attributes := #[] }, { accessFlags := 2, nameIndex := 19, descriptorIndex := 10, attributes := #[] }])
  fields := #[{ name := "name", type := (.object "java/lang/String"), accessFlags := 18, slot := 0, constantValue := 0 }, { name := "ordinal", type := .int, accessFlags := 18, slot := 1, constantValue := 0 }, { name := "hash", type := .int, accessFlags := 2, slot := 2, constantValue := 0 }]
  methods := #[]
  instanceTypes := #[(.object "java/lang/String"), .int, .int]
  staticTypes := #[]
  resolved := Array.replicate 204 none
  statics := none }

def pool12 : Array CpInfo := pool [(1, .class_ 2), (0, u "com/example/cima/cima/io/Token$Kind"), (2, u "NAME"), (0, u "Lcom/example/cima/cima/io/Token$Kind;"), (2, u "VARIABLE"), (2, u "NUMBER"), (2, u "STRING"), (2, u "LEFT_PARENTHESIS"), (2, u "RIGHT_PARENTHESIS"), (2, u "LEFT_BRACKET"), (2, u "RIGHT_BRACKET"), (2, u "COMMA"), (2, u "FULL_STOP"), (2, u "ARROW"), (2, u "COMPARISON"), (2, u "PLUS"), (2, u "MINUS"), (2, u "TIMES"), (2, u "DIVIDE"), (2, u "END_OF_FILE"), (2, u "ERROR"), (2, u "$VALUES"), (0, u "[Lcom/example/cima/cima/io/Token$Kind;"), (6, .class_ 70), (1, u "java/lang/Enum"), (41, .class_ 113), (0, u "com/example/cima/cima/io/Token")] 2

/-- com/example/cima/cima/io/Token$Kind -/
def k12 : Class := { plain "com/example/cima/cima/io/Token$Kind" (some 11) with
  accessFlags := 16432
  interfaces := #[]
  cf := some (fileOf pool12 1 #[.nestHost 112] #[] 16432 68 #[] #[{ accessFlags := 16409, nameIndex := 5, descriptorIndex := 6, attributes := #[] }, { accessFlags := 16409, nameIndex := 9, descriptorIndex := 6, attributes := #[] }, { accessFlags := 16409, nameIndex := 12, descriptorIndex := 6, attributes := #[] }, { accessFlags := 16409, nameIndex := 15, descriptorIndex := 6, attributes := #[] }, { accessFlags := 16409, nameIndex := 18, descriptorIndex := 6, attributes := #[] }, { accessFlags := 16409, nameIndex := 21, descriptorIndex := 6, attributes := #[] }, { accessFlags := 16409, nameIndex := 24, descriptorIndex := 6, attributes := #[] }, { accessFlags := 16409, nameIndex := 27, descriptorIndex := 6, attributes := #[] }, { accessFlags := 16409, nameIndex := 30, descriptorIndex := 6, attributes := #[] }, { accessFlags := 16409, nameIndex := 33, descriptorIndex := 6, attributes := #[] }, { accessFlags := 16409, nameIndex := 36, descriptorIndex := 6, attributes := #[] }, { accessFlags := 16409, nameIndex := 39, descriptorIndex := 6, attributes := #[] }, { accessFlags := 16409, nameIndex := 42, descriptorIndex := 6, attributes := #[] }, { accessFlags := 16409, nameIndex := 45, descriptorIndex := 6, attributes := #[] }, { accessFlags := 16409, nameIndex := 48, descriptorIndex := 6, attributes := #[] }, { accessFlags := 16409, nameIndex := 51, descriptorIndex := 6, attributes := #[] }, { accessFlags := 16409, nameIndex := 54, descriptorIndex := 6, attributes := #[] }, { accessFlags := 16409, nameIndex := 57, descriptorIndex := 6, attributes := #[] }, { accessFlags := 4122, nameIndex := 60, descriptorIndex := 61, attributes := #[] }])
  fields := #[{ name := "NAME", type := (.object "com/example/cima/cima/io/Token$Kind"), accessFlags := 16409, slot := 0, constantValue := 0 }, { name := "VARIABLE", type := (.object "com/example/cima/cima/io/Token$Kind"), accessFlags := 16409, slot := 1, constantValue := 0 }, { name := "NUMBER", type := (.object "com/example/cima/cima/io/Token$Kind"), accessFlags := 16409, slot := 2, constantValue := 0 }, { name := "STRING", type := (.object "com/example/cima/cima/io/Token$Kind"), accessFlags := 16409, slot := 3, constantValue := 0 }, { name := "LEFT_PARENTHESIS", type := (.object "com/example/cima/cima/io/Token$Kind"), accessFlags := 16409, slot := 4, constantValue := 0 }, { name := "RIGHT_PARENTHESIS", type := (.object "com/example/cima/cima/io/Token$Kind"), accessFlags := 16409, slot := 5, constantValue := 0 }, { name := "LEFT_BRACKET", type := (.object "com/example/cima/cima/io/Token$Kind"), accessFlags := 16409, slot := 6, constantValue := 0 }, { name := "RIGHT_BRACKET", type := (.object "com/example/cima/cima/io/Token$Kind"), accessFlags := 16409, slot := 7, constantValue := 0 }, { name := "COMMA", type := (.object "com/example/cima/cima/io/Token$Kind"), accessFlags := 16409, slot := 8, constantValue := 0 }, { name := "FULL_STOP", type := (.object "com/example/cima/cima/io/Token$Kind"), accessFlags := 16409, slot := 9, constantValue := 0 }, { name := "ARROW", type := (.object "com/example/cima/cima/io/Token$Kind"), accessFlags := 16409, slot := 10, constantValue := 0 }, { name := "COMPARISON", type := (.object "com/example/cima/cima/io/Token$Kind"), accessFlags := 16409, slot := 11, constantValue := 0 }, { name := "PLUS", type := (.object "com/example/cima/cima/io/Token$Kind"), accessFlags := 16409, slot := 12, constantValue := 0 }, { name := "MINUS", type := (.object "com/example/cima/cima/io/Token$Kind"), accessFlags := 16409, slot := 13, constantValue := 0 }, { name := "TIMES", type := (.object "com/example/cima/cima/io/Token$Kind"), accessFlags := 16409, slot := 14, constantValue := 0 }, { name := "DIVIDE", type := (.object "com/example/cima/cima/io/Token$Kind"), accessFlags := 16409, slot := 15, constantValue := 0 }, { name := "END_OF_FILE", type := (.object "com/example/cima/cima/io/Token$Kind"), accessFlags := 16409, slot := 16, constantValue := 0 }, { name := "ERROR", type := (.object "com/example/cima/cima/io/Token$Kind"), accessFlags := 16409, slot := 17, constantValue := 0 }, { name := "$VALUES", type := (.array (.object "com/example/cima/cima/io/Token$Kind")), accessFlags := 4122, slot := 18, constantValue := 0 }]
  methods := #[]
  instanceTypes := #[(.object "java/lang/String"), .int, .int]
  staticTypes := #[(.object "com/example/cima/cima/io/Token$Kind"), (.object "com/example/cima/cima/io/Token$Kind"), (.object "com/example/cima/cima/io/Token$Kind"), (.object "com/example/cima/cima/io/Token$Kind"), (.object "com/example/cima/cima/io/Token$Kind"), (.object "com/example/cima/cima/io/Token$Kind"), (.object "com/example/cima/cima/io/Token$Kind"), (.object "com/example/cima/cima/io/Token$Kind"), (.object "com/example/cima/cima/io/Token$Kind"), (.object "com/example/cima/cima/io/Token$Kind"), (.object "com/example/cima/cima/io/Token$Kind"), (.object "com/example/cima/cima/io/Token$Kind"), (.object "com/example/cima/cima/io/Token$Kind"), (.object "com/example/cima/cima/io/Token$Kind"), (.object "com/example/cima/cima/io/Token$Kind"), (.object "com/example/cima/cima/io/Token$Kind"), (.object "com/example/cima/cima/io/Token$Kind"), (.object "com/example/cima/cima/io/Token$Kind"), (.array (.object "com/example/cima/cima/io/Token$Kind"))]
  resolved := Array.replicate 116 none
  statics := some 1 }

def pool13 : Array CpInfo := pool [(4, .class_ 6), (1, u "java/lang/Object"), (0, u "<init>"), (0, u "()V"), (5, .class_ 16), (1, u "java/lang/StringLatin1"), (104, u "$assertionsDisabled"), (0, u "Z"), (98, .class_ 223), (1, u "java/lang/StringLatin1$LinesSpliterator"), (166, .class_ 391), (0, u "java/lang/StringLatin1$CharsSpliterator")] 3

def k13m0 : Method := { name := "<init>", desc := "()V", sig := { parameters := [], returnType := none }, accessFlags := 0, code := none }
/-- java/lang/StringLatin1 -/
def k13 : Class := { plain "java/lang/StringLatin1" (some 0) with
  accessFlags := 48
  interfaces := #[]
  cf := some (fileOf pool13 14 #[.nestMembers #[390, 221]] #[{ accessFlags := 0, nameIndex := 7, descriptorIndex := 8, attributes := #[] }] 48 4 #[] #[{ accessFlags := 4120, nameIndex := 121, descriptorIndex := 122, attributes := #[] }])
  fields := #[{ name := "$assertionsDisabled", type := .boolean, accessFlags := 4120, slot := 0, constantValue := 0 }]
  methods := #[k13m0]
  instanceTypes := #[]
  staticTypes := #[.boolean]
  resolved := Array.replicate 395 none
  statics := none }

def pool14 : Array CpInfo := pool [(2, .class_ 4), (1, u "java/lang/Object"), (0, u "<init>"), (0, u "()V"), (17, .class_ 26), (1, u "jdk/internal/util/Preconditions"), (28, .class_ 56), (0, u "jdk/internal/util/Preconditions$4"), (57, .class_ 115), (0, u "jdk/internal/util/Preconditions$1"), (7, u "SIOOBE_FORMATTER"), (0, u "Ljava/util/function/BiFunction;"), (0, .class_ 126), (0, u "jdk/internal/util/Preconditions$2"), (3, u "AIOOBE_FORMATTER"), (0, .class_ 132), (0, u "jdk/internal/util/Preconditions$3"), (3, u "IOOBE_FORMATTER")] 57

def k14m0 : Method := { name := "<init>", desc := "()V", sig := { parameters := [], returnType := none }, accessFlags := 1, code := none }
/-- jdk/internal/util/Preconditions -/
def k14 : Class := { plain "jdk/internal/util/Preconditions" (some 0) with
  accessFlags := 33
  interfaces := #[]
  cf := some (fileOf pool14 24 #[.nestMembers #[55, 131, 125, 114]] #[{ accessFlags := 1, nameIndex := 5, descriptorIndex := 6, attributes := #[] }] 33 2 #[] #[{ accessFlags := 25, nameIndex := 123, descriptorIndex := 124, attributes := #[] }, { accessFlags := 25, nameIndex := 130, descriptorIndex := 124, attributes := #[] }, { accessFlags := 25, nameIndex := 136, descriptorIndex := 124, attributes := #[] }])
  fields := #[{ name := "SIOOBE_FORMATTER", type := (.object "java/util/function/BiFunction"), accessFlags := 25, slot := 0, constantValue := 0 }, { name := "AIOOBE_FORMATTER", type := (.object "java/util/function/BiFunction"), accessFlags := 25, slot := 1, constantValue := 0 }, { name := "IOOBE_FORMATTER", type := (.object "java/util/function/BiFunction"), accessFlags := 25, slot := 2, constantValue := 0 }]
  methods := #[k14m0]
  instanceTypes := #[]
  staticTypes := #[(.object "java/util/function/BiFunction"), (.object "java/util/function/BiFunction"), (.object "java/util/function/BiFunction")]
  resolved := Array.replicate 194 none
  statics := some 2 }

def pool15 : Array CpInfo := pool [(9, u "<init>"), (6, .class_ 18), (1, u "java/lang/Object"), (0, u "()V"), (1, .class_ 23), (1, u "jdk/internal/util/ArraysSupport"), (0, u "LOG2_ARRAY_LONG_INDEX_SCALE"), (0, u "I"), (2, u "U"), (0, u "Ljdk/internal/misc/Unsafe;"), (8, u "BIG_ENDIAN"), (0, u "Z"), (8, u "LOG2_BYTE_BIT_SIZE"), (4, u "LOG2_ARRAY_INT_INDEX_SCALE"), (54, u "JLA"), (0, u "Ljdk/internal/access/JavaLangAccess;"), (11, u "LOG2_ARRAY_BOOLEAN_INDEX_SCALE"), (9, u "LOG2_ARRAY_BYTE_INDEX_SCALE"), (5, u "LOG2_ARRAY_CHAR_INDEX_SCALE"), (5, u "LOG2_ARRAY_SHORT_INDEX_SCALE"), (18, u "LOG2_ARRAY_FLOAT_INDEX_SCALE"), (24, u "LOG2_ARRAY_DOUBLE_INDEX_SCALE"), (89, u "T_BOOLEAN"), (2, u "T_CHAR"), (1, u "T_FLOAT"), (1, u "T_DOUBLE"), (1, u "T_BYTE"), (1, u "T_SHORT"), (1, u "T_INT"), (1, u "T_LONG"), (1, u "SOFT_MAX_ARRAY_LENGTH")] 83

def k15m0 : Method := { name := "<init>", desc := "()V", sig := { parameters := [], returnType := none }, accessFlags := 2, code := none }
/-- jdk/internal/util/ArraysSupport -/
def k15 : Class := { plain "jdk/internal/util/ArraysSupport" (some 0) with
  accessFlags := 33
  interfaces := #[]
  cf := some (fileOf pool15 21 #[] #[{ accessFlags := 2, nameIndex := 9, descriptorIndex := 19, attributes := #[] }] 33 16 #[] #[{ accessFlags := 24, nameIndex := 28, descriptorIndex := 29, attributes := #[] }, { accessFlags := 26, nameIndex := 38, descriptorIndex := 39, attributes := #[] }, { accessFlags := 25, nameIndex := 121, descriptorIndex := 25, attributes := #[] }, { accessFlags := 25, nameIndex := 131, descriptorIndex := 25, attributes := #[] }, { accessFlags := 25, nameIndex := 137, descriptorIndex := 25, attributes := #[] }, { accessFlags := 25, nameIndex := 143, descriptorIndex := 25, attributes := #[] }, { accessFlags := 25, nameIndex := 53, descriptorIndex := 25, attributes := #[] }, { accessFlags := 25, nameIndex := 24, descriptorIndex := 25, attributes := #[] }, { accessFlags := 25, nameIndex := 162, descriptorIndex := 25, attributes := #[] }, { accessFlags := 25, nameIndex := 187, descriptorIndex := 25, attributes := #[] }, { accessFlags := 26, nameIndex := 48, descriptorIndex := 25, attributes := #[] }, { accessFlags := 25, nameIndex := 277, descriptorIndex := 25, attributes := #[] }, { accessFlags := 25, nameIndex := 280, descriptorIndex := 25, attributes := #[] }, { accessFlags := 25, nameIndex := 282, descriptorIndex := 25, attributes := #[] }, { accessFlags := 25, nameIndex := 284, descriptorIndex := 25, attributes := #[] }, { accessFlags := 25, nameIndex := 286, descriptorIndex := 25, attributes := #[] }, { accessFlags := 25, nameIndex := 288, descriptorIndex := 25, attributes := #[] }, { accessFlags := 25, nameIndex := 290, descriptorIndex := 25, attributes := #[] }, { accessFlags := 25, nameIndex := 292, descriptorIndex := 25, attributes := #[] }, { accessFlags := 26, nameIndex := 108, descriptorIndex := 109, attributes := #[] }, { accessFlags := 25, nameIndex := 294, descriptorIndex := 25, attributes := #[] }])
  fields := #[{ name := "U", type := (.object "jdk/internal/misc/Unsafe"), accessFlags := 24, slot := 0, constantValue := 0 }, { name := "BIG_ENDIAN", type := .boolean, accessFlags := 26, slot := 1, constantValue := 0 }, { name := "LOG2_ARRAY_BOOLEAN_INDEX_SCALE", type := .int, accessFlags := 25, slot := 2, constantValue := 0 }, { name := "LOG2_ARRAY_BYTE_INDEX_SCALE", type := .int, accessFlags := 25, slot := 3, constantValue := 0 }, { name := "LOG2_ARRAY_CHAR_INDEX_SCALE", type := .int, accessFlags := 25, slot := 4, constantValue := 0 }, { name := "LOG2_ARRAY_SHORT_INDEX_SCALE", type := .int, accessFlags := 25, slot := 5, constantValue := 0 }, { name := "LOG2_ARRAY_INT_INDEX_SCALE", type := .int, accessFlags := 25, slot := 6, constantValue := 0 }, { name := "LOG2_ARRAY_LONG_INDEX_SCALE", type := .int, accessFlags := 25, slot := 7, constantValue := 0 }, { name := "LOG2_ARRAY_FLOAT_INDEX_SCALE", type := .int, accessFlags := 25, slot := 8, constantValue := 0 }, { name := "LOG2_ARRAY_DOUBLE_INDEX_SCALE", type := .int, accessFlags := 25, slot := 9, constantValue := 0 }, { name := "LOG2_BYTE_BIT_SIZE", type := .int, accessFlags := 26, slot := 10, constantValue := 0 }, { name := "T_BOOLEAN", type := .int, accessFlags := 25, slot := 11, constantValue := 0 }, { name := "T_CHAR", type := .int, accessFlags := 25, slot := 12, constantValue := 0 }, { name := "T_FLOAT", type := .int, accessFlags := 25, slot := 13, constantValue := 0 }, { name := "T_DOUBLE", type := .int, accessFlags := 25, slot := 14, constantValue := 0 }, { name := "T_BYTE", type := .int, accessFlags := 25, slot := 15, constantValue := 0 }, { name := "T_SHORT", type := .int, accessFlags := 25, slot := 16, constantValue := 0 }, { name := "T_INT", type := .int, accessFlags := 25, slot := 17, constantValue := 0 }, { name := "T_LONG", type := .int, accessFlags := 25, slot := 18, constantValue := 0 }, { name := "JLA", type := (.object "jdk/internal/access/JavaLangAccess"), accessFlags := 26, slot := 19, constantValue := 0 }, { name := "SOFT_MAX_ARRAY_LENGTH", type := .int, accessFlags := 25, slot := 20, constantValue := 0 }]
  methods := #[k15m0]
  instanceTypes := #[]
  staticTypes := #[(.object "jdk/internal/misc/Unsafe"), .boolean, .int, .int, .int, .int, .int, .int, .int, .int, .int, .int, .int, .int, .int, .int, .int, .int, .int, (.object "jdk/internal/access/JavaLangAccess"), .int]
  resolved := Array.replicate 378 none
  statics := none }

def pool16 : Array CpInfo := pool [(1, u "java/lang/Cloneable"), (0, .class_ 1), (0, u "java/lang/Object"), (0, .class_ 3)] 3

/-- java/lang/Cloneable -/
def k16 : Class := { plain "java/lang/Cloneable" (some 0) with
  accessFlags := 1537
  interfaces := #[]
  cf := some (fileOf pool16 2 #[] #[] 1537 4 #[] #[])
  fields := #[]
  methods := #[]
  instanceTypes := #[]
  staticTypes := #[]
  resolved := Array.replicate 8 none
  statics := none }

/-- the primitive byte -/
def k17 : Class := { plain "byte" none with kind := .primitive 'B', accessFlags := 0x411 }
/-- [B -/
def k18 : Class := { plain "[B" (some 0) with kind := .array 17 .byte, interfaces := #[16, 2], accessFlags := 1041 }

/-- the primitive char -/
def k19 : Class := { plain "char" none with kind := .primitive 'C', accessFlags := 0x411 }
/-- [C -/
def k20 : Class := { plain "[C" (some 0) with kind := .array 19 .char, interfaces := #[16, 2], accessFlags := 1041 }

/-- the primitive int -/
def k21 : Class := { plain "int" none with kind := .primitive 'I', accessFlags := 0x411 }
/-- [I -/
def k22 : Class := { plain "[I" (some 0) with kind := .array 21 .int, interfaces := #[16, 2], accessFlags := 1041 }

def heap : Heap := #[{ cls := 7, slots := #[.long 0, .int 1, .null, .int 0, .null, .int 0, .int 0], vm := .statics 7 },
  { cls := 12, slots := #[.ref 3, .ref 4, .ref 5, .ref 6, .ref 7, .ref 8, .ref 9, .ref 10, .ref 11, .ref 12, .ref 13, .ref 14, .ref 15, .ref 16, .ref 17, .ref 18, .ref 19, .ref 20, .null], vm := .statics 12 },
  { cls := 14, slots := #[.null, .null, .null], vm := .statics 14 },
  { cls := 12, slots := #[.null, .int 0, .int 0], vm := .none },
  { cls := 12, slots := #[.null, .int 1, .int 0], vm := .none },
  { cls := 12, slots := #[.null, .int 2, .int 0], vm := .none },
  { cls := 12, slots := #[.null, .int 3, .int 0], vm := .none },
  { cls := 12, slots := #[.null, .int 4, .int 0], vm := .none },
  { cls := 12, slots := #[.null, .int 5, .int 0], vm := .none },
  { cls := 12, slots := #[.null, .int 6, .int 0], vm := .none },
  { cls := 12, slots := #[.null, .int 7, .int 0], vm := .none },
  { cls := 12, slots := #[.null, .int 8, .int 0], vm := .none },
  { cls := 12, slots := #[.null, .int 9, .int 0], vm := .none },
  { cls := 12, slots := #[.null, .int 10, .int 0], vm := .none },
  { cls := 12, slots := #[.null, .int 11, .int 0], vm := .none },
  { cls := 12, slots := #[.null, .int 12, .int 0], vm := .none },
  { cls := 12, slots := #[.null, .int 13, .int 0], vm := .none },
  { cls := 12, slots := #[.null, .int 14, .int 0], vm := .none },
  { cls := 12, slots := #[.null, .int 15, .int 0], vm := .none },
  { cls := 12, slots := #[.null, .int 16, .int 0], vm := .none },
  { cls := 12, slots := #[.null, .int 17, .int 0], vm := .none }]
def classes : Array Class := #[k0, k1, k2, k3, k4, k5, k6, k7, k8, k9, k10, k11, k12, k13, k14, k15, k16, k17, k18, k19, k20, k21, k22]
def interned : List (Array UInt16 × Addr) := []
def slotsUsed : Nat := 83
def theMethod : MethodId := ⟨1, 2⟩
def args0 : Array Value := #[.int 3, .int 4, .int 5, .int 6, .int 7]
def aboutOver (below : List Frame) : State where
  vm := { classes := classes, interned := interned.toArray }
  heap := heap
  slotsUsed := slotsUsed
  threads := #[{ frames := .invoking theMethod args0 :: below }]
def below0 : List Frame := [.native { method := ⟨0, 0⟩, args := #[] }]
def about1 : State := aboutOver below0
def p0 : Program := .bare "" "" ""
def e0 : Env := launch0.env 0 0 0
theorem w_frames : about1.frames = Frame.invoking theMethod args0 :: below0 := rfl
set_option maxRecDepth 65536 in
theorem w_args : argsFit about1.vm theMethod args0 = true := by decide +kernel
set_option maxRecDepth 65536 in
theorem w_heap : heapFits about1 = true := by decide +kernel
set_option maxRecDepth 65536 in
theorem w_runnable : about1.curStatus? = some .runnable := by decide +kernel
set_option maxRecDepth 65536 in
theorem w_alone : about1.alone = true := by decide +kernel
set_option maxRecDepth 65536 in
theorem w_named : about1.methodNamed? x = some theMethod := by decide +kernel
set_option maxRecDepth 65536 in
theorem w_hears : about1.hears theMethod below0 = true := by decide +kernel
set_option maxRecDepth 65536 in
theorem w_ripe : about1.ripe theMethod args0 below0 = true := by decide +kernel
theorem w_running : about1.status = .running := rfl
set_option maxRecDepth 65536 in
theorem w_room : about1.hasRoom e0.platform room_1 = true :=
  launch0.hasRoom_least _ room_1 (by decide +kernel) (by decide +kernel) (by decide +kernel) (by decide +kernel) (by decide +kernel) (by decide +kernel)
theorem allAtoms_all (ts : List Jvm.Cond) (a : Array Jvm.Value) (st : Jvm.State) : (allAtoms ts).before a st = ts.all (fun c => c.before a st) := by
  induction ts with
  | nil => rfl
  | cons c t ih =>
    show (Jvm.Cond.and c (allAtoms t)).before a st = _
    rw [Jvm.Cond.before_and, ih, List.all_cons]
def words1 : List Jvm.Cond := Jvm.Cond.code x code maxLocals ret :: tables_1
/-- a 'code' word, met by the world's own term for the bytes: nothing is compared byte by byte -/
theorem code_word {y : MethodName} {bytes : ByteArray} {mx : Nat} {rt : Option FieldType} {a : Array Value} {s : State} {m : MethodId} {meth : Method} {c : Code} (h1 : s.methodNamed? y = some m) (h2 : s.vm.method? m = some meth) (h3 : meth.code = some c) (h4 : c.code = bytes)
    (h5 : (c.maxLocals == mx && c.exceptionTable.isEmpty && decide (c.maxStack ≤ mostOperands) && decide (meth.sig.returnType = rt) && !meth.locks && decide (parseMethodDescriptor y.desc = some meth.sig)) = true) : (Jvm.Cond.code y bytes mx rt).before a s = true := by
  simp only [Bool.and_eq_true, beq_iff_eq, Bool.not_eq_true', decide_eq_true_eq] at h5
  obtain ⟨⟨⟨⟨⟨g1, g2⟩, g3⟩, g4⟩, g5⟩, g6⟩ := h5
  simp [Cond.before, Cond.holds, Cond.value, h1, h2, h3, h4, g1, g2, g3, g4, g5, g6]
def isCode : Jvm.Cond → Bool
  | .code _ _ _ _ => true
  | _ => false
theorem all_split {L : List Jvm.Cond} {P : Jvm.Cond → Bool} (h1 : L.all (fun c => isCode c || P c) = true) (h2 : ∀ c ∈ L.filter isCode, P c = true) : L.all P = true := by
  refine List.all_eq_true.mpr fun c hc => ?_
  have h := List.all_eq_true.mp h1 c hc
  rcases Bool.eq_false_or_eq_true (isCode c) with hi | hi
  · exact h2 c (List.mem_filter.mpr ⟨hc, hi⟩)
  · simpa [hi] using h
set_option maxRecDepth 65536 in
theorem w_c0 : (Jvm.Cond.code x code maxLocals ret).before args0 about1 = true := code_word (m := ⟨1, 2⟩) (meth := k1m2) (c := k1c2) (by decide +kernel) rfl rfl rfl (by decide +kernel)
set_option maxRecDepth 65536 in
theorem w_c1 : (Jvm.Cond.code ({ cls := "java/lang/String", name := "<init>", desc := "([C)V" } : Jvm.MethodName) jdk_42_method_3_code (2 : Nat) (Option.none : Option Jvm.ClassFile.FieldType)).before args0 about1 = true := code_word (m := ⟨7, 1⟩) (meth := k7m1) (c := k7c1) (by decide +kernel) rfl rfl rfl (by decide +kernel)
set_option maxRecDepth 65536 in
theorem w_c2 : (Jvm.Cond.code ({ cls := "java/lang/String", name := "<init>", desc := "([CIILjava/lang/Void;)V" } : Jvm.MethodName) jdk_42_method_149_code (6 : Nat) (Option.none : Option Jvm.ClassFile.FieldType)).before args0 about1 = true := code_word (m := ⟨7, 2⟩) (meth := k7m2) (c := k7c2) (by decide +kernel) rfl rfl rfl (by decide +kernel)
set_option maxRecDepth 65536 in
theorem w_c3 : (Jvm.Cond.code ({ cls := "java/lang/Object", name := "<init>", desc := "()V" } : Jvm.MethodName) object_method_1_code (1 : Nat) (Option.none : Option Jvm.ClassFile.FieldType)).before args0 about1 = true := code_word (m := ⟨0, 0⟩) (meth := k0m0) (c := k0c0) (by decide +kernel) rfl rfl rfl (by decide +kernel)
set_option maxRecDepth 65536 in
theorem w_c4 : (Jvm.Cond.code ({ cls := "java/lang/StringUTF16", name := "compress", desc := "([CII)[B" } : Jvm.MethodName) jdk_52_method_16_code (6 : Nat) (Option.some (Jvm.ClassFile.FieldType.array Jvm.ClassFile.FieldType.byte))).before args0 about1 = true := code_word (m := ⟨8, 2⟩) (meth := k8m2) (c := k8c2) (by decide +kernel) rfl rfl rfl (by decide +kernel)
set_option maxRecDepth 65536 in
theorem w_c5 : (Jvm.Cond.code ({ cls := "java/lang/StringUTF16", name := "compress", desc := "([CI[BII)I" } : Jvm.MethodName) jdk_52_method_21_code (7 : Nat) (Option.some Jvm.ClassFile.FieldType.int)).before args0 about1 = true := code_word (m := ⟨8, 3⟩) (meth := k8m3) (c := k8c3) (by decide +kernel) rfl rfl rfl (by decide +kernel)
set_option maxRecDepth 65536 in
theorem w_c6 : (Jvm.Cond.code ({ cls := "java/lang/StringUTF16", name := "coderFromArrayLen", desc := "([BI)B" } : Jvm.MethodName) jdk_52_method_15_code (2 : Nat) (Option.some Jvm.ClassFile.FieldType.byte)).before args0 about1 = true := code_word (m := ⟨8, 1⟩) (meth := k8m1) (c := k8c1) (by decide +kernel) rfl rfl rfl (by decide +kernel)
set_option maxRecDepth 65536 in
theorem w_c7 : (Jvm.Cond.code ({ cls := "com/example/cima/cima/io/TokenIsPinLaw", name := "kindAt", desc := "(I)Lcom/example/cima/cima/io/Token$Kind;" } : Jvm.MethodName) method_2_code (1 : Nat) (Option.some (Jvm.ClassFile.FieldType.object "com/example/cima/cima/io/Token$Kind"))).before args0 about1 = true := code_word (m := ⟨1, 1⟩) (meth := k1m1) (c := k1c1) (by decide +kernel) rfl rfl rfl (by decide +kernel)
set_option maxRecDepth 65536 in
theorem w_c8 : (Jvm.Cond.code ({ cls := "com/example/cima/cima/io/Token", name := "<init>", desc := "(Lcom/example/cima/cima/io/Token$Kind;Ljava/lang/String;IZ)V" } : Jvm.MethodName) prog_36_method_1_code (5 : Nat) (Option.none : Option Jvm.ClassFile.FieldType)).before args0 about1 = true := code_word (m := ⟨10, 0⟩) (meth := k10m0) (c := k10c0) (by decide +kernel) rfl rfl rfl (by decide +kernel)
set_option maxRecDepth 65536 in
theorem w_c9 : (Jvm.Cond.code ({ cls := "java/lang/Record", name := "<init>", desc := "()V" } : Jvm.MethodName) jdk_30_method_1_code (1 : Nat) (Option.none : Option Jvm.ClassFile.FieldType)).before args0 about1 = true := code_word (m := ⟨9, 0⟩) (meth := k9m0) (c := k9c0) (by decide +kernel) rfl rfl rfl (by decide +kernel)
set_option maxRecDepth 65536 in
theorem w_c10 : (Jvm.Cond.code ({ cls := "com/example/cima/cima/io/Token", name := "is", desc := "(Lcom/example/cima/cima/io/Token$Kind;)Z" } : Jvm.MethodName) prog_36_method_2_code (2 : Nat) (Option.some Jvm.ClassFile.FieldType.boolean)).before args0 about1 = true := code_word (m := ⟨10, 1⟩) (meth := k10m1) (c := k10c1) (by decide +kernel) rfl rfl rfl (by decide +kernel)
def codes1 : List Jvm.Cond := [Jvm.Cond.code x code maxLocals ret, Jvm.Cond.code ({ cls := "java/lang/String", name := "<init>", desc := "([C)V" } : Jvm.MethodName) jdk_42_method_3_code (2 : Nat) (Option.none : Option Jvm.ClassFile.FieldType), Jvm.Cond.code ({ cls := "java/lang/String", name := "<init>", desc := "([CIILjava/lang/Void;)V" } : Jvm.MethodName) jdk_42_method_149_code (6 : Nat) (Option.none : Option Jvm.ClassFile.FieldType), Jvm.Cond.code ({ cls := "java/lang/Object", name := "<init>", desc := "()V" } : Jvm.MethodName) object_method_1_code (1 : Nat) (Option.none : Option Jvm.ClassFile.FieldType), Jvm.Cond.code ({ cls := "java/lang/StringUTF16", name := "compress", desc := "([CII)[B" } : Jvm.MethodName) jdk_52_method_16_code (6 : Nat) (Option.some (Jvm.ClassFile.FieldType.array Jvm.ClassFile.FieldType.byte)), Jvm.Cond.code ({ cls := "java/lang/StringUTF16", name := "compress", desc := "([CI[BII)I" } : Jvm.MethodName) jdk_52_method_21_code (7 : Nat) (Option.some Jvm.ClassFile.FieldType.int), Jvm.Cond.code ({ cls := "java/lang/StringUTF16", name := "coderFromArrayLen", desc := "([BI)B" } : Jvm.MethodName) jdk_52_method_15_code (2 : Nat) (Option.some Jvm.ClassFile.FieldType.byte), Jvm.Cond.code ({ cls := "com/example/cima/cima/io/TokenIsPinLaw", name := "kindAt", desc := "(I)Lcom/example/cima/cima/io/Token$Kind;" } : Jvm.MethodName) method_2_code (1 : Nat) (Option.some (Jvm.ClassFile.FieldType.object "com/example/cima/cima/io/Token$Kind")), Jvm.Cond.code ({ cls := "com/example/cima/cima/io/Token", name := "<init>", desc := "(Lcom/example/cima/cima/io/Token$Kind;Ljava/lang/String;IZ)V" } : Jvm.MethodName) prog_36_method_1_code (5 : Nat) (Option.none : Option Jvm.ClassFile.FieldType), Jvm.Cond.code ({ cls := "java/lang/Record", name := "<init>", desc := "()V" } : Jvm.MethodName) jdk_30_method_1_code (1 : Nat) (Option.none : Option Jvm.ClassFile.FieldType), Jvm.Cond.code ({ cls := "com/example/cima/cima/io/Token", name := "is", desc := "(Lcom/example/cima/cima/io/Token$Kind;)Z" } : Jvm.MethodName) prog_36_method_2_code (2 : Nat) (Option.some Jvm.ClassFile.FieldType.boolean)]
set_option maxRecDepth 65536 in
theorem codes_eq : words1.filter isCode = codes1 := rfl
theorem w_codes : ∀ c ∈ words1.filter isCode, c.before args0 about1 = true := by
  rw [codes_eq]
  intro c hc
  simp only [codes1, List.mem_cons, List.not_mem_nil, or_false] at hc
  rcases hc with rfl | rfl | rfl | rfl | rfl | rfl | rfl | rfl | rfl | rfl | rfl
  · exact w_c0
  · exact w_c1
  · exact w_c2
  · exact w_c3
  · exact w_c4
  · exact w_c5
  · exact w_c6
  · exact w_c7
  · exact w_c8
  · exact w_c9
  · exact w_c10
set_option maxRecDepth 65536 in
theorem w_t1 : (words1.take 24).all (fun c => isCode c || c.before args0 about1) = true := by decide +kernel
set_option maxRecDepth 65536 in
theorem w_t2 : ((words1.drop 24).take 24).all (fun c => isCode c || c.before args0 about1) = true := by decide +kernel
set_option maxRecDepth 65536 in
theorem w_t3 : (((words1.drop 24).drop 24).take 24).all (fun c => isCode c || c.before args0 about1) = true := by decide +kernel
set_option maxRecDepth 65536 in
theorem w_t4 : ((((words1.drop 24).drop 24).drop 24).take 24).all (fun c => isCode c || c.before args0 about1) = true := by decide +kernel
set_option maxRecDepth 65536 in
theorem w_t5 : ((((words1.drop 24).drop 24).drop 24).drop 24).all (fun c => isCode c || c.before args0 about1) = true := by decide +kernel
theorem w_tables : (allAtoms (Jvm.Cond.code x code maxLocals ret :: tables_1)).before args0 about1 = true := by
  rw [allAtoms_all]
  show words1.all (fun c => c.before args0 about1) = true
  refine all_split ?_ w_codes
  rw [← List.take_append_drop 24 words1, List.all_append, w_t1, ← List.take_append_drop 24 (words1.drop 24), List.all_append, w_t2, ← List.take_append_drop 24 ((words1.drop 24).drop 24), List.all_append, w_t3, ← List.take_append_drop 24 (((words1.drop 24).drop 24).drop 24), List.all_append, w_t4, w_t5]
  rfl
set_option maxRecDepth 65536 in
theorem w_rest : rest_1_c.before args0 about1 = true := by decide +kernel
set_option maxRecDepth 65536 in
theorem w_case : (Jvm.Cond.and given_1 narrow_1).before args0 about1 = true := by decide +kernel
theorem w_applies : (headSpec (Jvm.Cond.code x code maxLocals ret :: tables_1) room_1).applies x e0.platform about1 = true :=
  (Spec.applies_iff w_frames).mpr ⟨w_running, w_runnable, w_alone, w_named, w_hears, w_ripe, w_room, w_tables⟩
theorem atStart : AtStart classFile x code maxLocals ret World_1 tables_1 room_1 Calls_1 rest_1 Pre_1 launch0 p0 e0 about1 theMethod args0 below0 :=
  ⟨lists_1, trivial, launch0.admits_env _ _ _, launch0.least_env, fairChoices_fair.cas, fairChoices_fair.clock, w_frames, w_args, w_heap, w_applies, trivial, w_rest, w_case⟩
end start1
theorem witness_1 : WitnessClaimed_1 := ⟨start1.p0, start1.e0, start1.about1, start1.theMethod, start1.args0, start1.below0, start1.atStart⟩
end Jvm.Pilot.@@N@@
