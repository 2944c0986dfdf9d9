import JvmDerived
import JvmDerived.Pilot.@@N@@Statement
import JvmDerived.Pilot.@@N@@Code
set_option linter.unusedVariables false
set_option linter.unusedSimpArgs false
namespace Jvm.Pilot.@@N@@
open Jvm Jvm.ClassFile Sem Op Lib Jvm.Free Jvm.Stand Jvm.LawKit Jvm.RoadKit Bundle Jvm.Pilot.@@N@@.Jvm.D

section Own
variable {p : Program} {l : Launch} {e : Env} {R : Room} {s : State} {m : MethodId} {args : Array Value} {below : List Frame} {meth : Method} {c : Code} {T : State} {locs : List Loc} {cells slots : Nat} {Z : State} {h h' : Heap}
def own_Go (tb : Tables) (e : Env) (below : List Frame) (P : State → Outcome → Prop) (A : State) : Prop := ∃ t o, Steps tb e below A t ∧ P t o
def own_P (below : List Frame) (s : State) (Q : Option Value → Heap → List Loc → Prop) (kc ks : Nat) (t : State) (o : Outcome) : Prop := t.status = .running ∧ Ended t below o ∧ ∃ v L, o = .returned v ∧ Q v t.heap L ∧ FrameEnd s o t L kc ks
theorem own_st {tb : Tables} {P : State → Outcome → Prop} {A B : State} (k : ∀ t, Steps tb e below B t → Steps tb e below A t) (h : own_Go tb e below P B) : own_Go tb e below P A := by
  obtain ⟨t, o, h1, h2⟩ := h
  exact ⟨t, o, k t h1, h2⟩
theorem own_tr {tb : Tables} {P : State → Outcome → Prop} {A B : State} (k : Steps tb e below A B) (h : own_Go tb e below P B) : own_Go tb e below P A := by
  obtain ⟨t, o, h1, h2⟩ := h
  exact ⟨t, o, k.trans h1, h2⟩
theorem own_ret (X : Stand p l e R s m args below meth c T locs cells slots) (hx : p.tables.exec = Jvm.exec) (hnl : meth.locks = false) {pc : Nat} {Ls : Array Slot} {w : Value} {t : FieldType} {i : Instr} {rest : List Value} (hret : meth.sig.returnType = some t) (hn : narrow t w = w)
    (hi : (i = .ireturn ∧ (t = .int ∨ t = .boolean ∨ t = .byte ∨ t = .char ∨ t = .short) ∧ ∃ z, w = .int z) ∨ (i = .lreturn ∧ t = .long ∧ ∃ z, w = .long z) ∨ (i = .dreturn ∧ t = .double ∧ ∃ z, w = .double z) ∨ (i = .freturn ∧ t = .float ∧ ∃ z, w = .float z) ∨ (i = .areturn ∧ t.isReference = true ∧ w.isRef = true))
    (hd : decode c.code pc = .ok (i, 1)) {Q : Option Value → Heap → List Loc → Prop} {kc ks : Nat} (hq : Q (some w) T.heap locs) (hc : cells ≤ kc) (hs : slots ≤ ks) : own_Go p.tables e below (own_P below s Q kc ks) (T.setTop (mkF m pc Ls (w :: rest))) := by
  obtain ⟨fs, hr, hrun, hended, hW, hsame⟩ := X.leave (v := some w) (fun h => by rw [hret] at h; cases h) hnl
  exact ⟨_, _, retOut X hx hret hn hi hd hr, hrun, hended, _, _, rfl, hq, ⟨_, rfl⟩, hW, hsame.mono hc hs⟩
theorem own_ret0 (X : Stand p l e R s m args below meth c T locs cells slots) (hx : p.tables.exec = Jvm.exec) (hnl : meth.locks = false) {pc : Nat} {Ls : Array Slot} (hret : meth.sig.returnType = none)
    (hd : decode c.code pc = .ok (.return_, 1)) {Q : Option Value → Heap → List Loc → Prop} {kc ks : Nat} (hq : Q none T.heap locs) (hc : cells ≤ kc) (hs : slots ≤ ks) : own_Go p.tables e below (own_P below s Q kc ks) (T.setTop (mkF m pc Ls [])) := by
  obtain ⟨fs, hr, hrun, hended, hW, hsame⟩ := X.leave (v := none) (fun _ => rfl) hnl
  exact ⟨_, _, X.returnOut hx hret hd hr, hrun, hended, _, _, rfl, hq, ⟨_, rfl⟩, hW, hsame.mono hc hs⟩
theorem own_lrem {g : JFrame} {target : State} (X : Stand p l e R s m args below meth c T locs cells slots) (hx : p.tables.exec = Jvm.exec) (hg : g.method = m) {x y : Int64} {rest : List Value} (hd : decode c.code g.pc = .ok (.lrem, 1)) (hs : g.stack = .long y :: .long x :: rest) (hy : y ≠ 0)
    (hr : Steps p.tables e below (T.setTop { g with pc := g.pc + 1, stack := .long (x % y) :: rest }) target) : Steps p.tables e below (T.setTop g) target := by
  exact XS.lrem X.here hx hg hd hs hy (by rw [lrem_mod]; exact hr)
end Own

section OwnA
variable {p : Program} {l : Launch} {e : Env} {R : Room} {s : State} {m : MethodId} {args : Array Value} {below : List Frame} {meth : Method} {c : Code} {T : State} {locs : List Loc} {cells slots : Nat} {Z : State} {h h' : Heap} {a b : Addr} {k : ClassId} {ty : FieldType} {n : Nat} {f : Nat → Value} {sl : Nat} {v : Value} {ws : List Addr}
def own_A (Z : State) (h : Heap) (a : Addr) (k : ClassId) (ty : FieldType) (n : Nat) (f : Nat → Value) : Prop := ∃ c : Cell, Arr Z h a c ty ∧ c.cls = k ∧ c.slots.size = n ∧ n < 2 ^ 31 ∧ (∀ i, i < n → c.slots[i]? = some (f i)) ∧ ∀ i, i < n → fits ty (f i) = true
def own_upd {α : Type} (f : Nat → α) (i : Nat) (x : α) : Nat → α := fun j => if j = i then x else f j
theorem own_A.lt (F : own_A Z h a k ty n f) : a < h.size := by obtain ⟨c, A, -⟩ := F; exact A.lt
theorem own_A.ext (F : own_A Z h a k ty n f) (E : Ext h h') : own_A Z h' a k ty n f := by obtain ⟨c, A, r⟩ := F; exact ⟨c, A.ext E, r⟩
theorem own_A.other (F : own_A Z h b k ty n f) (W : Wr h h' a sl v) (q : b ≠ a) : own_A Z h' b k ty n f := by obtain ⟨c, A, r⟩ := F; exact ⟨c, A.other W q, r⟩
theorem own_A.keep (F : own_A Z h a k ty n f) (K : Keep h h' ws) (q : a ∉ ws) : own_A Z h' a k ty n f := by obtain ⟨c, A, r⟩ := F; exact ⟨c, ⟨K.2.1 a c A.1 q, A.2⟩, r⟩
theorem own_A.congr (F : own_A Z h a k ty n f) {g : Nat → Value} (q : ∀ i, i < n → g i = f i) : own_A Z h a k ty n g := by
  obtain ⟨c, A, r1, r2, r3, H, G⟩ := F
  exact ⟨c, A, r1, r2, r3, fun i hi => by rw [q i hi]; exact H i hi, fun i hi => by rw [q i hi]; exact G i hi⟩
theorem own_A.small (F : own_A Z h a k ty n f) : n < 2 ^ 31 := by obtain ⟨c, A, r1, r2, r3, -⟩ := F; exact r3
theorem own_A.fit (F : own_A Z h a k ty n f) {i : Nat} (hi : i < n) : fits ty (f i) = true := by obtain ⟨c, A, r1, r2, r3, H, G⟩ := F; exact G i hi
theorem own_A.new {z : Int32} (A : Arr Z h a (newA k ty z) ty) (hz : z = Int32.ofNat n) (q : ¬ z < 0) {g : Nat → Value} (hg : ∀ i, g i = defaultValue ty := by intro i; rfl) (hn : n < 2 ^ 31 := by decide) : own_A Z h a k ty n g := by
  have e : z.toNatClampNeg = n := by rw [hz]; simp [Int32.toNatClampNeg, Int32.toInt_ofNat_of_lt hn]
  refine ⟨_, A, rfl, by rw [sz_new]; exact e, hn, fun i hi => ?_, fun i hi => ?_⟩
  · rw [hg]; simp [newA, e, hi]
  · rw [hg]; cases ty <;> rfl
theorem own_idx {j : Int32} {i n : Nat} (h1 : j.toInt = (i : Int)) (h2 : i < n) : ¬ (j < 0 ∨ n ≤ j.toNatClampNeg) ∧ j.toNatClampNeg = i := by
  have e : j.toNatClampNeg = i := by simp [Int32.toNatClampNeg, h1]
  refine ⟨fun q => ?_, e⟩
  rcases q with q | q
  · rw [Int32.lt_iff_toInt_lt, h1] at q; simp at q; omega
  · rw [e] at q; omega
theorem own_len (X : Stand p l e R s m args below meth c T locs cells slots) (hx : p.tables.exec = Jvm.exec) (hZ : Z.Warmed39 s.vm) (eT : T.heap = h) (F : own_A Z h a k ty n f) {g : JFrame} (hg : g.method = m) {rest : List Value} (hs : g.stack = .ref a :: rest) (hd : decode c.code g.pc = .ok (.arraylength, 1)) (t : State)
    (k : Steps p.tables e below (T.setTop { g with pc := g.pc + 1, stack := .int (Int32.ofNat n) :: rest }) t) : Steps p.tables e below (T.setTop g) t := by
  obtain ⟨cl, A, r1, r2, r3, H, G⟩ := F
  refine X.arraylength hx (cell := cl) (by rw [eT]; exact A.1) (State.isArrayOf_alike hZ.alike A.2.1) hg hs hd t ?_
  rw [r2]; exact k
theorem own_setA (F : own_A Z h a k ty n f) {i : Nat} (hi : i < n) (W : Wr h h' a i v) (hv : fits ty v = true) : own_A Z h' a k ty n (own_upd f i v) := by
  obtain ⟨cl, A, r1, r2, r3, H, G⟩ := F
  refine ⟨_, A.same W, r1, by rw [sz_set]; exact r2, r3, fun j hj => ?_, fun j hj => ?_⟩
  · by_cases q : j = i
    · subst q; simp [own_upd, Cell.setSlot, r2, hj]
    · simp only [own_upd, if_neg q, Cell.setSlot]
      rw [Array.getElem?_setIfInBounds_ne (Ne.symm q)]; exact H j hj
  · by_cases q : j = i
    · simp only [own_upd, if_pos q]; exact hv
    · simp only [own_upd, if_neg q]; exact G j hj
theorem own_updI (f : Nat → Int32) (i : Nat) (x : Int32) : own_upd (fun j => Value.int (f j)) i (.int x) = fun j => .int (own_upd f i x j) := by funext j; simp only [own_upd]; split <;> rfl
theorem own_updJ (f : Nat → Int64) (i : Nat) (x : Int64) : own_upd (fun j => Value.long (f j)) i (.long x) = fun j => .long (own_upd f i x j) := by funext j; simp only [own_upd]; split <;> rfl
theorem own_updD (f : Nat → UInt64) (i : Nat) (x : UInt64) : own_upd (fun j => Value.double (f j)) i (.double x) = fun j => .double (own_upd f i x j) := by funext j; simp only [own_upd]; split <;> rfl
theorem own_iaload (X : Stand p l e R s m args below meth c T locs cells slots) (hx : p.tables.exec = Jvm.exec) (hZ : Z.Warmed39 s.vm) (eT : T.heap = h) {f : Nat → Int32} (F : own_A Z h a k .int n (fun i => .int (f i))) {j : Int32} {i : Nat} (h1 : j.toInt = (i : Int)) (h2 : i < n) {g : JFrame} (hg : g.method = m) {rest : List Value} (hs : g.stack = .int j :: .ref a :: rest) (hd : decode c.code g.pc = .ok (.iaload, 1)) (t : State)
    (k : Steps p.tables e below (T.setTop { g with pc := g.pc + 1, stack := .int (f i) :: rest }) t) : Steps p.tables e below (T.setTop g) t := by
  obtain ⟨cl, A, r1, r2, r3, H, G⟩ := F
  obtain ⟨q1, q2⟩ := own_idx h1 (r2 ▸ h2)
  exact X.iaload hx (j := j) (v := .int (f i)) (by rw [eT]; exact A.1) (State.isArrayOf_alike hZ.alike A.2.1) A.2.2 q1 (by rw [q2]; exact H i h2) hg hs hd t k
theorem own_laload (X : Stand p l e R s m args below meth c T locs cells slots) (hx : p.tables.exec = Jvm.exec) (hZ : Z.Warmed39 s.vm) (eT : T.heap = h) {f : Nat → Int64} (F : own_A Z h a k .long n (fun i => .long (f i))) {j : Int32} {i : Nat} (h1 : j.toInt = (i : Int)) (h2 : i < n) {g : JFrame} (hg : g.method = m) {rest : List Value} (hs : g.stack = .int j :: .ref a :: rest) (hd : decode c.code g.pc = .ok (.laload, 1)) (t : State)
    (k : Steps p.tables e below (T.setTop { g with pc := g.pc + 1, stack := .long (f i) :: rest }) t) : Steps p.tables e below (T.setTop g) t := by
  obtain ⟨cl, A, r1, r2, r3, H, G⟩ := F
  obtain ⟨q1, q2⟩ := own_idx h1 (r2 ▸ h2)
  exact X.laload hx (j := j) (v := .long (f i)) (by rw [eT]; exact A.1) (State.isArrayOf_alike hZ.alike A.2.1) A.2.2 q1 (by rw [q2]; exact H i h2) hg hs hd t k
theorem own_daload (X : Stand p l e R s m args below meth c T locs cells slots) (hx : p.tables.exec = Jvm.exec) (hZ : Z.Warmed39 s.vm) (eT : T.heap = h) {f : Nat → UInt64} (F : own_A Z h a k .double n (fun i => .double (f i))) {j : Int32} {i : Nat} (h1 : j.toInt = (i : Int)) (h2 : i < n) {g : JFrame} (hg : g.method = m) {rest : List Value} (hs : g.stack = .int j :: .ref a :: rest) (hd : decode c.code g.pc = .ok (.daload, 1)) (t : State)
    (k : Steps p.tables e below (T.setTop { g with pc := g.pc + 1, stack := .double (f i) :: rest }) t) : Steps p.tables e below (T.setTop g) t := by
  obtain ⟨cl, A, r1, r2, r3, H, G⟩ := F
  obtain ⟨q1, q2⟩ := own_idx h1 (r2 ▸ h2)
  exact X.daload hx (j := j) (v := .double (f i)) (by rw [eT]; exact A.1) (State.isArrayOf_alike hZ.alike A.2.1) A.2.2 q1 (by rw [q2]; exact H i h2) hg hs hd t k
theorem own_caload (X : Stand p l e R s m args below meth c T locs cells slots) (hx : p.tables.exec = Jvm.exec) (hZ : Z.Warmed39 s.vm) (eT : T.heap = h) {f : Nat → Int32} (F : own_A Z h a k .char n (fun i => .int (f i))) {j : Int32} {i : Nat} (h1 : j.toInt = (i : Int)) (h2 : i < n) {g : JFrame} (hg : g.method = m) {rest : List Value} (hs : g.stack = .int j :: .ref a :: rest) (hd : decode c.code g.pc = .ok (.caload, 1)) (t : State)
    (k : Steps p.tables e below (T.setTop { g with pc := g.pc + 1, stack := .int (f i) :: rest }) t) : Steps p.tables e below (T.setTop g) t := by
  obtain ⟨cl, A, r1, r2, r3, H, G⟩ := F
  obtain ⟨q1, q2⟩ := own_idx h1 (r2 ▸ h2)
  exact X.caload hx (j := j) (v := .int (f i)) (by rw [eT]; exact A.1) (State.isArrayOf_alike hZ.alike A.2.1) A.2.2 q1 (by rw [q2]; exact H i h2) hg hs hd t k
theorem own_saload (X : Stand p l e R s m args below meth c T locs cells slots) (hx : p.tables.exec = Jvm.exec) (hZ : Z.Warmed39 s.vm) (eT : T.heap = h) {f : Nat → Int32} (F : own_A Z h a k .short n (fun i => .int (f i))) {j : Int32} {i : Nat} (h1 : j.toInt = (i : Int)) (h2 : i < n) {g : JFrame} (hg : g.method = m) {rest : List Value} (hs : g.stack = .int j :: .ref a :: rest) (hd : decode c.code g.pc = .ok (.saload, 1)) (t : State)
    (k : Steps p.tables e below (T.setTop { g with pc := g.pc + 1, stack := .int (f i) :: rest }) t) : Steps p.tables e below (T.setTop g) t := by
  obtain ⟨cl, A, r1, r2, r3, H, G⟩ := F
  obtain ⟨q1, q2⟩ := own_idx h1 (r2 ▸ h2)
  exact X.saload hx (j := j) (v := .int (f i)) (by rw [eT]; exact A.1) (State.isArrayOf_alike hZ.alike A.2.1) A.2.2 q1 (by rw [q2]; exact H i h2) hg hs hd t k
theorem own_baload (X : Stand p l e R s m args below meth c T locs cells slots) (hx : p.tables.exec = Jvm.exec) (hZ : Z.Warmed39 s.vm) (eT : T.heap = h) {f : Nat → Int32} (F : own_A Z h a k .byte n (fun i => .int (f i))) {j : Int32} {i : Nat} (h1 : j.toInt = (i : Int)) (h2 : i < n) {g : JFrame} (hg : g.method = m) {rest : List Value} (hs : g.stack = .int j :: .ref a :: rest) (hd : decode c.code g.pc = .ok (.baload, 1)) (t : State)
    (k : Steps p.tables e below (T.setTop { g with pc := g.pc + 1, stack := .int (f i) :: rest }) t) : Steps p.tables e below (T.setTop g) t := by
  obtain ⟨cl, A, r1, r2, r3, H, G⟩ := F
  obtain ⟨q1, q2⟩ := own_idx h1 (r2 ▸ h2)
  exact X.baloadBytes hx (j := j) (v := .int (f i)) (by rw [eT]; exact A.1) (State.isArrayOf_alike hZ.alike A.2.1) A.2.2 q1 (by rw [q2]; exact H i h2) hg hs hd t k
theorem own_zaload (X : Stand p l e R s m args below meth c T locs cells slots) (hx : p.tables.exec = Jvm.exec) (hZ : Z.Warmed39 s.vm) (eT : T.heap = h) {f : Nat → Int32} (F : own_A Z h a k .boolean n (fun i => .int (f i))) {j : Int32} {i : Nat} (h1 : j.toInt = (i : Int)) (h2 : i < n) {g : JFrame} (hg : g.method = m) {rest : List Value} (hs : g.stack = .int j :: .ref a :: rest) (hd : decode c.code g.pc = .ok (.baload, 1)) (t : State)
    (k : Steps p.tables e below (T.setTop { g with pc := g.pc + 1, stack := .int (f i) :: rest }) t) : Steps p.tables e below (T.setTop g) t := by
  obtain ⟨cl, A, r1, r2, r3, H, G⟩ := F
  obtain ⟨q1, q2⟩ := own_idx h1 (r2 ▸ h2)
  exact X.baloadBooleans hx (j := j) (v := .int (f i)) (by rw [eT]; exact A.1) (State.isArrayOf_alike hZ.alike A.2.1) A.2.2 q1 (by rw [q2]; exact H i h2) hg hs hd t k
theorem own_aaload (X : Stand p l e R s m args below meth c T locs cells slots) (hx : p.tables.exec = Jvm.exec) (hZ : Z.Warmed39 s.vm) (eT : T.heap = h) (F : own_A Z h a k ty n f) {j : Int32} {i : Nat} (h1 : j.toInt = (i : Int)) (h2 : i < n) (hty : ty.isReference = true) {g : JFrame} (hg : g.method = m) {rest : List Value} (hs : g.stack = .int j :: .ref a :: rest) (hd : decode c.code g.pc = .ok (.aaload, 1)) (t : State)
    (k : Steps p.tables e below (T.setTop { g with pc := g.pc + 1, stack := f i :: rest }) t) : Steps p.tables e below (T.setTop g) t := by
  obtain ⟨cl, A, r1, r2, r3, H, G⟩ := F
  obtain ⟨q1, q2⟩ := own_idx h1 (r2 ▸ h2)
  exact X.aaload hx (j := j) (v := f i) (by rw [eT]; exact A.1) (State.isArrayOf_alike hZ.alike A.2.1) hty A.2.2 q1 (by rw [q2]; exact H i h2) hg hs hd t k
theorem own_iastore (X : Stand p l e R s m args below meth c T locs cells slots) (hx : p.tables.exec = Jvm.exec) (hZ : Z.Warmed39 s.vm) (eT : T.heap = h) {f : Nat → Int32} (F : own_A Z h a k .int n (fun i => .int (f i))) {j : Int32} {x : Int32} {i : Nat} (h1 : j.toInt = (i : Int)) (h2 : i < n) {g : JFrame} (hg : g.method = m) {rest : List Value} (hs : g.stack = .int x :: .int j :: .ref a :: rest) (hd : decode c.code g.pc = .ok (.iastore, 1)) :
    ∃ T' h', Stand p l e R s m args below meth c T' (locs ++ [⟨a, i⟩]) cells slots ∧ T'.heap = h' ∧ Wr h h' a i (.int x) ∧ own_A Z h' a k .int n (fun q => .int (own_upd f i x q)) ∧ ∀ target, Steps p.tables e below (T'.setTop { g with pc := g.pc + 1, stack := rest }) target → Steps p.tables e below (T.setTop g) target := by
  have F0 := F
  obtain ⟨cl, A, r1, r2, r3, H, G⟩ := F
  obtain ⟨q1, q2⟩ := own_idx h1 (r2 ▸ h2)
  obtain ⟨T', h', X', e', W', st⟩ := stI X hx hZ eT A q1 hg hs hd
  rw [q2] at X' W'
  exact ⟨T', h', X', e', W', by rw [← own_updI]; exact own_setA F0 h2 W' rfl, st⟩
theorem own_lastore (X : Stand p l e R s m args below meth c T locs cells slots) (hx : p.tables.exec = Jvm.exec) (hZ : Z.Warmed39 s.vm) (eT : T.heap = h) {f : Nat → Int64} (F : own_A Z h a k .long n (fun i => .long (f i))) {j : Int32} {x : Int64} {i : Nat} (h1 : j.toInt = (i : Int)) (h2 : i < n) {g : JFrame} (hg : g.method = m) {rest : List Value} (hs : g.stack = .long x :: .int j :: .ref a :: rest) (hd : decode c.code g.pc = .ok (.lastore, 1)) :
    ∃ T' h', Stand p l e R s m args below meth c T' (locs ++ [⟨a, i⟩]) cells slots ∧ T'.heap = h' ∧ Wr h h' a i (.long x) ∧ own_A Z h' a k .long n (fun q => .long (own_upd f i x q)) ∧ ∀ target, Steps p.tables e below (T'.setTop { g with pc := g.pc + 1, stack := rest }) target → Steps p.tables e below (T.setTop g) target := by
  have F0 := F
  obtain ⟨cl, A, r1, r2, r3, H, G⟩ := F
  obtain ⟨q1, q2⟩ := own_idx h1 (r2 ▸ h2)
  obtain ⟨T', h', X', e', W', st⟩ := stJ X hx hZ eT A q1 hg hs hd
  rw [q2] at X' W'
  exact ⟨T', h', X', e', W', by rw [← own_updJ]; exact own_setA F0 h2 W' rfl, st⟩
theorem own_dastore (X : Stand p l e R s m args below meth c T locs cells slots) (hx : p.tables.exec = Jvm.exec) (hZ : Z.Warmed39 s.vm) (eT : T.heap = h) {f : Nat → UInt64} (F : own_A Z h a k .double n (fun i => .double (f i))) {j : Int32} {x : UInt64} {i : Nat} (h1 : j.toInt = (i : Int)) (h2 : i < n) {g : JFrame} (hg : g.method = m) {rest : List Value} (hs : g.stack = .double x :: .int j :: .ref a :: rest) (hd : decode c.code g.pc = .ok (.dastore, 1)) :
    ∃ T' h', Stand p l e R s m args below meth c T' (locs ++ [⟨a, i⟩]) cells slots ∧ T'.heap = h' ∧ Wr h h' a i (.double x) ∧ own_A Z h' a k .double n (fun q => .double (own_upd f i x q)) ∧ ∀ target, Steps p.tables e below (T'.setTop { g with pc := g.pc + 1, stack := rest }) target → Steps p.tables e below (T.setTop g) target := by
  have F0 := F
  obtain ⟨cl, A, r1, r2, r3, H, G⟩ := F
  obtain ⟨q1, q2⟩ := own_idx h1 (r2 ▸ h2)
  obtain ⟨T', h', X', e', W', st⟩ := stD X hx hZ eT A q1 hg hs hd
  rw [q2] at X' W'
  exact ⟨T', h', X', e', W', by rw [← own_updD]; exact own_setA F0 h2 W' rfl, st⟩
theorem own_castore (X : Stand p l e R s m args below meth c T locs cells slots) (hx : p.tables.exec = Jvm.exec) (hZ : Z.Warmed39 s.vm) (eT : T.heap = h) {f : Nat → Int32} (F : own_A Z h a k .char n (fun i => .int (f i))) {j x v' : Int32} {i : Nat} (h1 : j.toInt = (i : Int)) (h2 : i < n) (hv : nar .char x = v') {g : JFrame} (hg : g.method = m) {rest : List Value} (hs : g.stack = .int x :: .int j :: .ref a :: rest) (hd : decode c.code g.pc = .ok (.castore, 1)) :
    ∃ T' h', Stand p l e R s m args below meth c T' (locs ++ [⟨a, i⟩]) cells slots ∧ T'.heap = h' ∧ Wr h h' a i (.int v') ∧ own_A Z h' a k .char n (fun q => .int (own_upd f i v' q)) ∧ ∀ target, Steps p.tables e below (T'.setTop { g with pc := g.pc + 1, stack := rest }) target → Steps p.tables e below (T.setTop g) target := by
  have F0 := F
  obtain ⟨cl, A, r1, r2, r3, H, G⟩ := F
  obtain ⟨q1, q2⟩ := own_idx h1 (r2 ▸ h2)
  obtain ⟨T', h', X', e', W', st⟩ := stC X hx hZ eT A q1 hg hs hd
  rw [q2] at X' W'
  subst hv
  exact ⟨T', h', X', e', W', by rw [← own_updI]; exact own_setA F0 h2 W' (fits_nar_char _), st⟩
theorem own_bastore (X : Stand p l e R s m args below meth c T locs cells slots) (hx : p.tables.exec = Jvm.exec) (hZ : Z.Warmed39 s.vm) (eT : T.heap = h) {f : Nat → Int32} (F : own_A Z h a k .byte n (fun i => .int (f i))) {j x v' : Int32} {i : Nat} (h1 : j.toInt = (i : Int)) (h2 : i < n) (hv : nar .byte x = v') {g : JFrame} (hg : g.method = m) {rest : List Value} (hs : g.stack = .int x :: .int j :: .ref a :: rest) (hd : decode c.code g.pc = .ok (.bastore, 1)) :
    ∃ T' h', Stand p l e R s m args below meth c T' (locs ++ [⟨a, i⟩]) cells slots ∧ T'.heap = h' ∧ Wr h h' a i (.int v') ∧ own_A Z h' a k .byte n (fun q => .int (own_upd f i v' q)) ∧ ∀ target, Steps p.tables e below (T'.setTop { g with pc := g.pc + 1, stack := rest }) target → Steps p.tables e below (T.setTop g) target := by
  have F0 := F
  obtain ⟨cl, A, r1, r2, r3, H, G⟩ := F
  obtain ⟨q1, q2⟩ := own_idx h1 (r2 ▸ h2)
  obtain ⟨T', h', X', e', W', st⟩ := stB X hx hZ eT A q1 hg hs hd
  rw [q2] at X' W'
  subst hv
  exact ⟨T', h', X', e', W', by rw [← own_updI]; exact own_setA F0 h2 W' (fits_nar_byte _), st⟩
theorem own_zastore (X : Stand p l e R s m args below meth c T locs cells slots) (hx : p.tables.exec = Jvm.exec) (hZ : Z.Warmed39 s.vm) (eT : T.heap = h) {f : Nat → Int32} (F : own_A Z h a k .boolean n (fun i => .int (f i))) {j x v' : Int32} {i : Nat} (h1 : j.toInt = (i : Int)) (h2 : i < n) (hv : nar .boolean x = v') {g : JFrame} (hg : g.method = m) {rest : List Value} (hs : g.stack = .int x :: .int j :: .ref a :: rest) (hd : decode c.code g.pc = .ok (.bastore, 1)) :
    ∃ T' h', Stand p l e R s m args below meth c T' (locs ++ [⟨a, i⟩]) cells slots ∧ T'.heap = h' ∧ Wr h h' a i (.int v') ∧ own_A Z h' a k .boolean n (fun q => .int (own_upd f i v' q)) ∧ ∀ target, Steps p.tables e below (T'.setTop { g with pc := g.pc + 1, stack := rest }) target → Steps p.tables e below (T.setTop g) target := by
  have F0 := F
  obtain ⟨cl, A, r1, r2, r3, H, G⟩ := F
  obtain ⟨q1, q2⟩ := own_idx h1 (r2 ▸ h2)
  obtain ⟨T', h', X', e', W', st⟩ := stZ X hx hZ eT A q1 hg hs hd
  rw [q2] at X' W'
  subst hv
  exact ⟨T', h', X', e', W', by rw [← own_updI]; exact own_setA F0 h2 W' (fits_nar_bool _), st⟩
theorem own_sastore (X : Stand p l e R s m args below meth c T locs cells slots) (hx : p.tables.exec = Jvm.exec) (hZ : Z.Warmed39 s.vm) (eT : T.heap = h) {f : Nat → Int32} (F : own_A Z h a k .short n (fun i => .int (f i))) {j x v' : Int32} {i : Nat} (h1 : j.toInt = (i : Int)) (h2 : i < n) (hv : nar .short x = v') {g : JFrame} (hg : g.method = m) {rest : List Value} (hs : g.stack = .int x :: .int j :: .ref a :: rest) (hd : decode c.code g.pc = .ok (.sastore, 1)) :
    ∃ T' h', Stand p l e R s m args below meth c T' (locs ++ [⟨a, i⟩]) cells slots ∧ T'.heap = h' ∧ Wr h h' a i (.int v') ∧ own_A Z h' a k .short n (fun q => .int (own_upd f i v' q)) ∧ ∀ target, Steps p.tables e below (T'.setTop { g with pc := g.pc + 1, stack := rest }) target → Steps p.tables e below (T.setTop g) target := by
  have F0 := F
  obtain ⟨cl, A, r1, r2, r3, H, G⟩ := F
  obtain ⟨q1, q2⟩ := own_idx h1 (r2 ▸ h2)
  obtain ⟨T', h', X', e', W', st⟩ := stS X hx hZ eT A q1 hg hs hd
  rw [q2] at X' W'
  subst hv
  exact ⟨T', h', X', e', W', by rw [← own_updI]; exact own_setA F0 h2 W' (fits_nar_short _), st⟩
theorem own_aastore (X : Stand p l e R s m args below meth c T locs cells slots) (hx : p.tables.exec = Jvm.exec) (hZ : Z.Warmed39 s.vm) (eT : T.heap = h) (F : own_A Z h a k ty n f) {j : Int32} {i : Nat} (h1 : j.toInt = (i : Int)) (h2 : i < n) (hq : ty.isReference = true ∧ Sto Z h a v ∧ fits ty v = true) {g : JFrame} (hg : g.method = m) {rest : List Value} (hs : g.stack = v :: .int j :: .ref a :: rest) (hd : decode c.code g.pc = .ok (.aastore, 1)) :
    ∃ T' h', Stand p l e R s m args below meth c T' (locs ++ [⟨a, i⟩]) cells slots ∧ T'.heap = h' ∧ Wr h h' a i v ∧ own_A Z h' a k ty n (own_upd f i v) ∧ ∀ target, Steps p.tables e below (T'.setTop { g with pc := g.pc + 1, stack := rest }) target → Steps p.tables e below (T.setTop g) target := by
  have F0 := F
  obtain ⟨cl, A, r1, r2, r3, H, G⟩ := F
  obtain ⟨q1, q2⟩ := own_idx h1 (r2 ▸ h2)
  obtain ⟨T', h', X', e', W', st⟩ := stR X hx hZ eT A q1 hq.1 hq.2.1 hg hs hd
  rw [q2] at X' W'
  exact ⟨T', h', X', e', W', own_setA F0 h2 W' hq.2.2, st⟩
end OwnA

section OwnN
theorem own_inc {i : Int32} {k : Nat} (h : i.toInt = (k : Int)) (hk : k < 2147483647) : (i + 1).toInt = ((k + 1 : Nat) : Int) := by
  have e1 : (1 : Int32).toInt = 1 := by decide
  rw [Int32.toInt_add, h, e1, bmod32 (by omega) (by omega)]
  omega
theorem own_lt {i : Int32} {k n : Nat} (h : i.toInt = (k : Int)) (hn : n < 2147483648) : i < Int32.ofNat n ↔ k < n := by
  rw [Int32.lt_iff_toInt_lt, h, Int32.toInt_ofNat_of_lt (by omega)]
  omega
end OwnN

section OwnM
open Jvm.Native.java_lang_Math.nans in
def own_enc : Option Int32 → UInt64
  | none => 18442240474082181120
  | some v => FP.i2d v
def own_en (f : Nat → Option Int32) : Nat → UInt64 := fun i => own_enc (f i)
def own_mx : Option Int32 → Option Int32 → Option Int32
  | none, y => y
  | some a, none => some a
  | some a, some b => some (if a < b then b else a)
theorem own_ninf : Fl.NoNaN64 (18442240474082181120 : UInt64) := by unfold Fl.NoNaN64; decide
theorem own_encn (x : Option Int32) : Fl.NoNaN64 (own_enc x) := by
  cases x with
  | none => exact own_ninf
  | some v => exact (Fl.i2d_fin v).noNaN
theorem own_b53 (v : Int32) : B53 v.toInt64 := by
  have := rng32 v
  unfold B53; rw [c_i2l]; omega
theorem own_l64 {a b : Int32} : a.toInt64 < b.toInt64 ↔ a < b := by rw [Int64.lt_iff_toInt_lt, c_i2l, c_i2l, Int32.lt_iff_toInt_lt]
open Jvm.Native.java_lang_Math.nans in
theorem own_pick (x y : Option Int32) : pick64 true (own_enc x) (own_enc y) = own_enc (own_mx x y) := by
  cases x with
  | none =>
    cases y with
    | none => decide +kernel
    | some b =>
      have h : FP.dcmp 18442240474082181120 (FP.i2d b) = some .lt := (FP.Core.fin_lt_inf (FP.Core.i2d_fin b)).2.2.2
      show pick64 true 18442240474082181120 (FP.i2d b) = FP.i2d b
      simp [pick64, h]
  | some a =>
    cases y with
    | none =>
      have h : FP.dcmp (FP.i2d a) 18442240474082181120 = some .gt := (FP.Core.fin_lt_inf (FP.Core.i2d_fin a)).2.1
      show pick64 true (FP.i2d a) 18442240474082181120 = FP.i2d a
      simp [pick64, h]
    | some b =>
      show pick64 true (FP.i2d a) (FP.i2d b) = FP.i2d (if a < b then b else a)
      rw [i2d_w, i2d_w]
      by_cases q : a < b
      · rw [max_l (own_b53 a) (own_b53 b) (own_l64.mpr q), if_pos q, i2d_w]
      · rw [max_g (own_b53 a) (own_b53 b) (fun r => q (own_l64.mp r)), if_neg q, i2d_w]
theorem own_mx_none (x : Option Int32) : own_mx x none = x := by cases x <;> rfl
theorem own_mx_idem (x y : Option Int32) : own_mx (own_mx x y) y = own_mx x y := by
  cases x with
  | none => cases y <;> simp [own_mx]
  | some a =>
    cases y with
    | none => rfl
    | some b =>
      simp only [own_mx, Option.some.injEq, Int32.lt_iff_toInt_lt]
      by_cases q : a.toInt < b.toInt
      · rw [if_pos q, if_neg (by omega)]
      · rw [if_neg q, if_neg q]
theorem own_mx_ac (x y z : Option Int32) : own_mx (own_mx x y) z = own_mx (own_mx x z) y := by
  cases x with
  | none =>
    cases y with
    | none => cases z <;> rfl
    | some b =>
      cases z with
      | none => rfl
      | some c =>
        simp only [own_mx, Option.some.injEq, Int32.lt_iff_toInt_lt]
        by_cases q : b.toInt < c.toInt
        · rw [if_pos q, if_neg (by omega)]
        · rw [if_neg q]
          by_cases r : c.toInt < b.toInt
          · rw [if_pos r]
          · rw [if_neg r]; exact Int32.toInt_inj.mp (by omega)
  | some a =>
    cases y with
    | none => cases z <;> rfl
    | some b =>
      cases z with
      | none => rfl
      | some c =>
        simp only [own_mx, Option.some.injEq, Int32.lt_iff_toInt_lt]
        repeat' split
        all_goals first | rfl | (exfalso; omega) | exact Int32.toInt_inj.mp (by omega)
def own_low (k : Nat) : Nat := if k % 2 = 1 then 1 else if k % 4 = 2 then 2 else if k % 8 = 4 then 4 else if k % 16 = 8 then 8 else 16
theorem own_lowI : ∀ k : Fin 18, 1 ≤ k.val → (Int32.ofNat k.val &&& -(Int32.ofNat k.val)) = Int32.ofNat (own_low k.val) := by decide +kernel
theorem own_lowp (k : Nat) : 1 ≤ own_low k := by unfold own_low; repeat' split
                                                 all_goals omega
theorem own_lowle : ∀ k : Fin 18, 1 ≤ k.val → own_low k.val ≤ k.val := by decide +kernel
theorem own_lowle2 : ∀ k : Fin 18, 1 ≤ k.val → own_low k.val ≤ 16 := by decide +kernel
theorem own_asI {i : Int32} {k : Nat} (h : i.toInt = (k : Int)) : i = Int32.ofNat k := Int32.toInt_inj.mp (by
  have := rng32 i
  rw [h, Int32.toInt_ofNat_of_lt (by omega)])
/-- i + (i & -i) -/
theorem own_nx {i : Int32} {k : Nat} (h : i.toInt = (k : Int)) (h1 : 1 ≤ k) (h2 : k < 18) : (i + (i &&& -i)).toInt = ((k + own_low k : Nat) : Int) := by
  have e := own_asI h
  have l := own_lowI ⟨k, h2⟩ h1
  have b := own_lowle2 ⟨k, h2⟩ h1
  simp only at l b
  rw [e, l, Int32.toInt_add, Int32.toInt_ofNat_of_lt (by omega), Int32.toInt_ofNat_of_lt (by omega), bmod32 (by omega) (by omega)]
  omega
theorem own_pv {i : Int32} {k : Nat} (h : i.toInt = (k : Int)) (h1 : 1 ≤ k) (h2 : k < 18) : (i - (i &&& -i)).toInt = ((k - own_low k : Nat) : Int) := by
  have e := own_asI h
  have l := own_lowI ⟨k, h2⟩ h1
  have b := own_lowle2 ⟨k, h2⟩ h1
  have b2 := own_lowle ⟨k, h2⟩ h1
  simp only at l b b2
  rw [e, l, Int32.toInt_sub, Int32.toInt_ofNat_of_lt (by omega), Int32.toInt_ofNat_of_lt (by omega), bmod32 (by omega) (by omega)]
  omega
def own_rs (n : Nat) (v : Option Int32) : Nat → Nat → (Nat → Option Int32) → Nat → Option Int32
  | 0, _, f => f
  | t + 1, i, f => if i < n then own_rs n v t (i + own_low i) (own_upd f i (own_mx (f i) v)) else f
def own_bf (f : Nat → Option Int32) : Nat → Nat → Option Int32 → Option Int32
  | 0, _, x => x
  | t + 1, i, x => if 0 < i then own_bf f t (i - own_low i) (own_mx x (f i)) else x
def own_hit (n : Nat) : Nat → Nat → Nat → Bool
  | 0, _, _ => false
  | t + 1, i, j => if i < n then (decide (j = i) || own_hit n t (i + own_low i) j) else false
def own_mt (h : Nat → Bool) : Nat → Nat → Bool
  | 0, _ => false
  | t + 1, i => if 0 < i then (h i || own_mt h t (i - own_low i)) else false
theorem own_rs_out {n t i : Nat} {v : Option Int32} {f : Nat → Option Int32} (h : ¬ i < n) : own_rs n v t i f = f := by cases t <;> simp [own_rs, h]
theorem own_bf_out {f : Nat → Option Int32} {t : Nat} {x : Option Int32} : own_bf f t 0 x = x := by cases t <;> simp [own_bf]
theorem own_rs_hit (n : Nat) (v : Option Int32) : ∀ (t i : Nat) (f : Nat → Option Int32) (j : Nat), own_rs n v t i f j = if own_hit n t i j = true then own_mx (f j) v else f j
  | 0, i, f, j => by simp [own_rs, own_hit]
  | t + 1, i, f, j => by
    by_cases q : i < n
    · simp only [own_rs, own_hit, if_pos q]
      rw [own_rs_hit n v t]
      by_cases e : j = i
      · subst e
        simp [own_upd, own_mx_idem]
      · simp [own_upd, e]
    · simp [own_rs, own_hit, q]
theorem own_bf_mx (g : Nat → Option Int32) (v : Option Int32) : ∀ (t i : Nat) (x : Option Int32), own_bf g t i (own_mx x v) = own_mx (own_bf g t i x) v
  | 0, i, x => rfl
  | t + 1, i, x => by
    simp only [own_bf]
    split
    · rw [own_mx_ac, own_bf_mx g v t]
    · rfl
theorem own_bf_mt (g f : Nat → Option Int32) (h : Nat → Bool) (v : Option Int32) (hf : ∀ j, f j = if h j = true then own_mx (g j) v else g j) : ∀ (t i : Nat) (x : Option Int32), own_bf f t i x = if own_mt h t i = true then own_mx (own_bf g t i x) v else own_bf g t i x
  | 0, i, x => by simp [own_bf, own_mt]
  | t + 1, i, x => by
    by_cases q : 0 < i
    · simp only [own_bf, own_mt, if_pos q]
      rw [own_bf_mt g f h v hf t, hf i]
      by_cases e : h i = true
      · simp only [e, if_true, Bool.true_or]
        have a : own_mx x (own_mx (g i) v) = own_mx (own_mx x (g i)) v := by
          cases hx : x with
          | none => rfl
          | some a =>
            cases hg : g i with
            | none => cases v <;> rfl
            | some b =>
              cases hv : v with
              | none => rfl
              | some c =>
                simp only [own_mx, Option.some.injEq, Int32.lt_iff_toInt_lt]
                repeat' split
                all_goals first | rfl | (exfalso; omega) | exact Int32.toInt_inj.mp (by omega)
        rw [a, own_bf_mx]
        split
        · exact own_mx_idem _ _
        · rfl
      · simp only [e, Bool.false_or]; rfl
    · simp [own_bf, own_mt, q]
theorem own_bf_none : ∀ (t i : Nat), own_bf (fun _ => none) t i none = none
  | 0, i => rfl
  | t + 1, i => by
    simp only [own_bf]
    split
    · exact own_bf_none t _
    · rfl
theorem own_meet : ∀ s : Fin 17, ∀ q : Fin 17, ∀ e : Fin 17, q.val < s.val → e.val ≤ s.val → own_mt (own_hit (s.val + 1) 17 (q.val + 1)) 17 e.val = decide (q.val < e.val) := by decide +kernel
/-- one raise more, seen from 'before' -/
theorem own_one {s q k : Nat} (hs : s ≤ 16) (hq : q < s) (he : k ≤ s) (v : Option Int32) (f : Nat → Option Int32) : own_bf (own_rs (s + 1) v 17 (q + 1) f) 17 k none = own_mx (own_bf f 17 k none) (if q < k then v else none) := by
  rw [own_bf_mt f _ _ v (own_rs_hit (s + 1) v 17 (q + 1) f)]
  have m := own_meet ⟨s, by omega⟩ ⟨q, by omega⟩ ⟨k, by omega⟩ hq he
  simp only at m
  rw [m]
  by_cases c : q < k
  · simp [c]
  · simp [c, own_mx_none]
theorem own_upden (f : Nat → Option Int32) (i : Nat) (x : Option Int32) (j : Nat) : own_en (own_upd f i x) j = own_upd (own_en f) i (own_enc x) j := by
  simp only [own_en, own_upd]; split <;> rfl
def own_fill {α : Type} (f : Nat → α) (v : α) (k : Nat) : Nat → α := fun j => if j < k then v else f j
theorem own_fill_up {α : Type} (f : Nat → α) (v : α) (k j : Nat) : own_fill f v (k + 1) j = own_upd (own_fill f v k) k v j := by
  simp only [own_fill, own_upd]
  by_cases e : j = k
  · simp [e]
  · simp only [e, if_false]
    by_cases q : j < k
    · rw [if_pos q, if_pos (by omega)]
    · rw [if_neg q, if_neg (by omega)]
end OwnM

theorem own_dcmp (a b : Int32) (o : CmpOp) : cmpValue (FP.dcmp (FP.i2d a) (FP.i2d b)) o = if a < b then -1 else if a = b then 0 else 1 := by
  have q : FP.dcmp (FP.i2d a) (FP.i2d b) = some (compare a.toInt b.toInt) := FP.Core.dcmp_int (FP.Core.i2d_int a) (FP.Core.i2d_int b)
  rw [q, FP.Core.compare_ite]
  simp only [Int32.lt_iff_toInt_lt, ← Int32.toInt_inj]
  split
  · rfl
  · split <;> rfl
theorem own_gt (a b : Int32) : ((0 : Int32) < (if a < b then -1 else if a = b then 0 else 1)) ↔ b < a := by
  by_cases q : a < b
  · rw [if_pos q]
    have n : ¬ b < a := by rw [Int32.lt_iff_toInt_lt] at q ⊢; omega
    exact ⟨fun h => absurd h (by decide), fun h => absurd h n⟩
  · rw [if_neg q]
    by_cases r : a = b
    · rw [if_pos r]
      have n : ¬ b < a := by rw [r, Int32.lt_iff_toInt_lt]; omega
      exact ⟨fun h => absurd h (by decide), fun h => absurd h n⟩
    · rw [if_neg r]
      have n : b < a := by rw [Int32.lt_iff_toInt_lt] at q ⊢; rw [← Int32.toInt_inj] at r; omega
      exact ⟨fun _ => n, fun _ => by decide⟩
theorem own_ls (a b : Int32) : ((if a < b then -1 else if a = b then 0 else 1) < (0 : Int32)) ↔ a < b := by
  by_cases q : a < b
  · rw [if_pos q]; exact ⟨fun _ => q, fun _ => by decide⟩
  · rw [if_neg q]
    by_cases r : a = b
    · rw [if_pos r]; exact ⟨fun h => absurd h (by decide), fun h => absurd h q⟩
    · rw [if_neg r]; exact ⟨fun h => absurd h (by decide), fun h => absurd h q⟩

theorem own_d3_0 : decode jdk_65_method_113_code 0 = .ok (.iconst 0, 1) := by decide +kernel
theorem own_d3_1 : decode jdk_65_method_113_code 1 = .ok (.istore_n 3, 1) := by decide +kernel
theorem own_d3_2 : decode jdk_65_method_113_code 2 = .ok (.aload_n 0, 1) := by decide +kernel
theorem own_d3_3 : decode jdk_65_method_113_code 3 = .ok (.arraylength, 1) := by decide +kernel
theorem own_d3_4 : decode jdk_65_method_113_code 4 = .ok (.istore 4, 2) := by decide +kernel
theorem own_d3_6 : decode jdk_65_method_113_code 6 = .ok (.iload_n 3, 1) := by decide +kernel
theorem own_d3_7 : decode jdk_65_method_113_code 7 = .ok (.iload 4, 2) := by decide +kernel
theorem own_d3_9 : decode jdk_65_method_113_code 9 = .ok (.if_icmp .ge 13, 3) := by decide +kernel
theorem own_d3_12 : decode jdk_65_method_113_code 12 = .ok (.aload_n 0, 1) := by decide +kernel
theorem own_d3_13 : decode jdk_65_method_113_code 13 = .ok (.iload_n 3, 1) := by decide +kernel
theorem own_d3_14 : decode jdk_65_method_113_code 14 = .ok (.dload_n 1, 1) := by decide +kernel
theorem own_d3_15 : decode jdk_65_method_113_code 15 = .ok (.dastore, 1) := by decide +kernel
theorem own_d3_16 : decode jdk_65_method_113_code 16 = .ok (.iinc 3 1, 3) := by decide +kernel
theorem own_d3_19 : decode jdk_65_method_113_code 19 = .ok (.goto (-13), 3) := by decide +kernel
theorem own_d3_22 : decode jdk_65_method_113_code 22 = .ok (.return_, 1) := by decide +kernel
theorem own_pn0 : plainName "java/util/Arrays" = true := by first | (simp [plainName, overriddenIn]; done) | decide +kernel
theorem own_ef3 (m : MethodId) (x0 : Addr) (x1 : UInt64) : entryFrame m #[(.ref x0), (.double x1)] 5 = mkF m 0 #[.val (.ref x0), .val (.double x1), .second, .unset, .unset] [] := by first | (simp [entryFrame, mkF, argsToLocals, Value.category]; done) | rfl
def own_Q3 (Z : State) (a1 : Addr) (w : UInt64) (ka : ClassId) (n1 : Nat) (f : Nat → UInt64) (h0 : Heap) (n0 : Nat) (v : Option Value) (h : Heap) (L : List Loc) : Prop := v = none ∧ Fr n0 L ∧ Keep h0 h [a1] ∧ own_A Z h a1 ka .double n1 (fun i => .double ((fun _ => w) i))
set_option maxRecDepth 65536 in
set_option maxHeartbeats 40000000 in
theorem own_rm3 (l : Launch) (Z : State) (a0 : Array Value) (hw : ∀ d ∈ tables_1, d.before a0 Z = true) (ws : List Jvm.Cond) (a1 : Addr) (w : UInt64) (ka : ClassId) (n1 : Nat) (f : Nat → UInt64) (h0 : Heap) (n0 : Nat) (Z0 : n0 ≤ h0.size) (q0 : own_A Z h0 a1 ka .double n1 (fun i => .double (f i))) (q1 : n0 ≤ a1) (hn : n1 ≤ 1000) :
    MetFree l (⟨"java/util/Arrays", "fill", "([DD)V"⟩ : MethodName) (head1 (Jvm.Cond.code (⟨"java/util/Arrays", "fill", "([DD)V"⟩ : MethodName) jdk_65_method_113_code 5 none :: ws) ({ frames := 0, cells := 0, slots := 0, locals := 0 } : Room)) (fun a U => a = #[(.ref a1), (.double w)] ∧ Z.Warmed39 U.vm ∧ U.heap = h0) (fun _ _ _ _ _ => True) (fun _ U o U' => ∃ v L, o = .returned v ∧ own_Q3 Z a1 w ka n1 f h0 n0 v U'.heap L ∧ FrameEnd U o U' L ({ frames := 0, cells := 0, slots := 0, locals := 0 } : Room).cells ({ frames := 0, cells := 0, slots := 0, locals := 0 } : Room).slots) := by
  refine MetFree.of_bodySF (plainFor_of_name own_pn0) hisR ?_
  intro p e s m args below meth c s₁ Bd hml0 hP hK
  obtain ⟨rfl, hZ, hh⟩ := hP
  have hx := Bd.exec
  have hby := Bd.bytes
  have hml : c.maxLocals = 5 := hml0
  have hown : s.vm.findClass "java/util/Arrays" = some m.cls := findClass_of_methodNamed Bd.named
  have hnm := (name_of_methodNamed Bd.named Bd.method).1
  have hnl : meth.locks = false := Bd.notSynchronized
  have X0 : Stand p l e ({ frames := 0, cells := 0, slots := 0, locals := 0 } : Room) s m #[(.ref a1), (.double w)] below meth c s₁ [] 0 0 := Stand.of_body Bd
  have e0 : s₁.heap = h0 := by rw [← hh, Bd.state]; rfl
  have N0 := Fr.nil n0
  show own_Go p.tables e below (own_P below s (own_Q3 Z a1 w ka n1 f h0 n0) ({ frames := 0, cells := 0, slots := 0, locals := 0 } : Room).cells ({ frames := 0, cells := 0, slots := 0, locals := 0 } : Room).slots) _
  refine own_st (fun t_ k_ => castTop (own_ef3 m a1 w) k_) ?_
  show own_Go p.tables e below _ (s₁.setTop (mkF m 0 #[.val (.ref a1), .val (.double w), .second, .unset, .unset] []))
  refine own_st (fun t_ k_ => XS.iconst X0.here hx rfl (hb hby own_d3_0) k_) ?_
  show own_Go p.tables e below _ (s₁.setTop (mkF m 1 #[.val (.ref a1), .val (.double w), .second, .unset, .unset] [(.int (0 : Int32))]))
  refine own_st (fun t_ k_ => XS.istoreN X0.here hx rfl (hb hby own_d3_1) rfl (l' := #[.val (.ref a1), .val (.double w), .second, .val (.int (0 : Int32)), .unset]) rfl k_) ?_
  show own_Go p.tables e below _ (s₁.setTop (mkF m 2 #[.val (.ref a1), .val (.double w), .second, .val (.int (0 : Int32)), .unset] []))
  refine own_st (fun t_ k_ => XS.aloadN X0.here hx rfl (hb hby own_d3_2) rfl rfl k_) ?_
  show own_Go p.tables e below _ (s₁.setTop (mkF m 3 #[.val (.ref a1), .val (.double w), .second, .val (.int (0 : Int32)), .unset] [(.ref a1)]))
  refine own_st (own_len X0 hx hZ e0 q0 (g := (mkF m 3 #[.val (.ref a1), .val (.double w), .second, .val (.int (0 : Int32)), .unset] [(.ref a1)])) rfl rfl (hb hby own_d3_3)) ?_
  show own_Go p.tables e below _ (s₁.setTop (mkF m 4 #[.val (.ref a1), .val (.double w), .second, .val (.int (0 : Int32)), .unset] [(.int (Int32.ofNat n1))]))
  refine own_st (fun t_ k_ => XS.istore X0.here hx rfl (hb hby own_d3_4) rfl (l' := #[.val (.ref a1), .val (.double w), .second, .val (.int (0 : Int32)), .val (.int (Int32.ofNat n1))]) rfl k_) ?_
  show own_Go p.tables e below _ (s₁.setTop (mkF m 6 #[.val (.ref a1), .val (.double w), .second, .val (.int (0 : Int32)), .val (.int (Int32.ofNat n1))] []))
  have q0f : own_A Z h0 a1 ka .double n1 (fun i => .double ((own_fill f w 0) i)) := q0.congr (fun i _ => by simp [own_fill])
  have loop101 : ∀ (mm : Nat) (k : Nat) (i : Int32) (T101 : State) (Lo101 : List Loc) (h101 : Heap), n1 - k = mm → Stand p l e ({ frames := 0, cells := 0, slots := 0, locals := 0 } : Room) s m #[(.ref a1), (.double w)] below meth c T101 Lo101 0 0 → T101.heap = h101 → Fr n0 Lo101 → Keep h0 h101 [a1] → own_A Z h101 a1 ka .double n1 (fun i => .double ((own_fill f w k) i)) → i.toInt = (k : Int) → k ≤ n1 → own_Go p.tables e below (own_P below s (own_Q3 Z a1 w ka n1 f h0 n0) ({ frames := 0, cells := 0, slots := 0, locals := 0 } : Room).cells ({ frames := 0, cells := 0, slots := 0, locals := 0 } : Room).slots) (T101.setTop (mkF m 6 #[.val (.ref a1), .val (.double w), .second, .val (.int i), .val (.int (Int32.ofNat n1))] [])) := by
    intro mm
    induction mm using Nat.strongRecOn with
    | _ mm ih101 =>
      intro k i T101 Lo101 h101 hm101 X101 e101 N101 K101 fa101_0 hi hk
      show own_Go p.tables e below _ (T101.setTop (mkF m 6 #[.val (.ref a1), .val (.double w), .second, .val (.int i), .val (.int (Int32.ofNat n1))] []))
      refine own_st (fun t_ k_ => XS.iloadN X101.here hx rfl (hb hby own_d3_6) rfl k_) ?_
      show own_Go p.tables e below _ (T101.setTop (mkF m 7 #[.val (.ref a1), .val (.double w), .second, .val (.int i), .val (.int (Int32.ofNat n1))] [(.int i)]))
      refine own_st (fun t_ k_ => XS.iload X101.here hx rfl (hb hby own_d3_7) rfl k_) ?_
      show own_Go p.tables e below _ (T101.setTop (mkF m 9 #[.val (.ref a1), .val (.double w), .second, .val (.int i), .val (.int (Int32.ofNat n1))] [(.int (Int32.ofNat n1)), (.int i)]))
      by_cases c9_102 : i < (Int32.ofNat n1)
      · skip
        have hkn : k < n1 := (own_lt hi (by omega)).mp c9_102
        refine own_st (fun t_ k_ => XS.icmpNo X101.here hx rfl (hb hby own_d3_9) rfl (tlt c9_102).2.1 k_) ?_
        show own_Go p.tables e below _ (T101.setTop (mkF m 12 #[.val (.ref a1), .val (.double w), .second, .val (.int i), .val (.int (Int32.ofNat n1))] []))
        refine own_st (fun t_ k_ => XS.aloadN X101.here hx rfl (hb hby own_d3_12) rfl rfl k_) ?_
        show own_Go p.tables e below _ (T101.setTop (mkF m 13 #[.val (.ref a1), .val (.double w), .second, .val (.int i), .val (.int (Int32.ofNat n1))] [(.ref a1)]))
        refine own_st (fun t_ k_ => XS.iloadN X101.here hx rfl (hb hby own_d3_13) rfl k_) ?_
        show own_Go p.tables e below _ (T101.setTop (mkF m 14 #[.val (.ref a1), .val (.double w), .second, .val (.int i), .val (.int (Int32.ofNat n1))] [(.int i), (.ref a1)]))
        refine own_st (fun t_ k_ => XS.dloadN X101.here hx rfl (hb hby own_d3_14) rfl k_) ?_
        show own_Go p.tables e below _ (T101.setTop (mkF m 15 #[.val (.ref a1), .val (.double w), .second, .val (.int i), .val (.int (Int32.ofNat n1))] [(.double w), (.int i), (.ref a1)]))
        obtain ⟨T103, h103, X103, e103, W103, Aw103, st103⟩ := own_dastore X101 hx hZ e101 fa101_0 (i := k) hi hkn (g := (mkF m 15 #[.val (.ref a1), .val (.double w), .second, .val (.int i), .val (.int (Int32.ofNat n1))] [(.double w), (.int i), (.ref a1)])) rfl rfl (hb hby own_d3_15)
        have N103 := Fr.snoc X103 N101 q1
        have K103 : Keep h0 h103 [a1] := K101.wr W103 (Or.inl (List.mem_of_getElem? (i := 0) rfl))
        refine own_st (st103) ?_
        show own_Go p.tables e below _ (T103.setTop (mkF m 16 #[.val (.ref a1), .val (.double w), .second, .val (.int i), .val (.int (Int32.ofNat n1))] []))
        have Ac104 : own_A Z h103 a1 ka .double n1 (fun i => .double ((own_fill f w (k + 1)) i)) := Aw103.congr (fun i _ => by rw [own_fill_up])
        refine own_st (fun t_ k_ => XS.iinc X103.here hx rfl (hb hby own_d3_16) rfl (l' := #[.val (.ref a1), .val (.double w), .second, .val (.int (i + (1 : Int32))), .val (.int (Int32.ofNat n1))]) rfl k_) ?_
        show own_Go p.tables e below _ (T103.setTop (mkF m 19 #[.val (.ref a1), .val (.double w), .second, .val (.int (i + (1 : Int32))), .val (.int (Int32.ofNat n1))] []))
        refine own_st (fun t_ k_ => XS.goto X103.here hx rfl (pc0 := 19) (pc' := 6) rfl (hb hby own_d3_19) (by decide) (by decide) k_) ?_
        show own_Go p.tables e below _ (T103.setTop (mkF m 6 #[.val (.ref a1), .val (.double w), .second, .val (.int (i + (1 : Int32))), .val (.int (Int32.ofNat n1))] []))
        exact ih101 _ (by omega) (k + 1) (i + (1 : Int32)) T103 _ h103 rfl X103 e103 N103 K103 (Ac104) (own_inc hi (by omega)) (by omega)
      · skip
        have hkn : k = n1 := by have q := mt (own_lt hi (n := n1) (by omega)).mpr c9_102; omega
        have Af : own_A Z h101 a1 ka .double n1 (fun i => .double ((fun _ => w) i)) := fa101_0.congr (fun i hi_ => by simp only [own_fill]; rw [if_pos (by omega)])
        refine own_st (fun t_ k_ => XS.icmpYes X101.here hx rfl (pc0 := 9) (pc' := 22) rfl (hb hby own_d3_9) rfl (flt c9_102).2.1 (by decide) (by decide) k_) ?_
        show own_Go p.tables e below _ (T101.setTop (mkF m 22 #[.val (.ref a1), .val (.double w), .second, .val (.int i), .val (.int (Int32.ofNat n1))] []))
        exact own_ret0 X101 hx hnl Bd.returns (hb hby own_d3_22) ⟨rfl, N101, (by rw [e101]; exact K101), (by rw [e101]; exact Af)⟩ (by decide) (by decide)
  exact loop101 _ 0 (0 : Int32) s₁ _ h0 rfl X0 e0 N0 (Keep.refl h0 [a1]) (q0f) (by decide) (Nat.zero_le _)

theorem own_d1_0 : decode prog_20_method_1_code 0 = .ok (.aload_n 0, 1) := by decide +kernel
theorem own_d1_1 : decode prog_20_method_1_code 1 = .ok (.invokespecial 1, 3) := by decide +kernel
theorem own_d1_4 : decode prog_20_method_1_code 4 = .ok (.aload_n 0, 1) := by decide +kernel
theorem own_d1_5 : decode prog_20_method_1_code 5 = .ok (.iload_n 1, 1) := by decide +kernel
theorem own_d1_6 : decode prog_20_method_1_code 6 = .ok (.iconst 1, 1) := by decide +kernel
theorem own_d1_7 : decode prog_20_method_1_code 7 = .ok (.iadd, 1) := by decide +kernel
theorem own_d1_8 : decode prog_20_method_1_code 8 = .ok (.newarray .double, 2) := by decide +kernel
theorem own_d1_10 : decode prog_20_method_1_code 10 = .ok (.putfield 7, 3) := by decide +kernel
theorem own_d1_13 : decode prog_20_method_1_code 13 = .ok (.aload_n 0, 1) := by decide +kernel
theorem own_d1_14 : decode prog_20_method_1_code 14 = .ok (.getfield 7, 3) := by decide +kernel
theorem own_d1_17 : decode prog_20_method_1_code 17 = .ok (.ldc2_w 15, 3) := by decide +kernel
theorem own_d1_20 : decode prog_20_method_1_code 20 = .ok (.invokestatic 17, 3) := by decide +kernel
theorem own_d1_23 : decode prog_20_method_1_code 23 = .ok (.return_, 1) := by decide +kernel
theorem own_pn1 : plainName "com/example/seshat/seshat/layout/PrefixMaximum" = true := by first | (simp [plainName, overriddenIn]; done) | decide +kernel
theorem own_pd0 : parseMethodDescriptor "([DD)V" = some ⟨[(.array .double), .double], none⟩ := by decide +kernel
theorem own_ef1 (m : MethodId) (x0 : Addr) (x1 : Int32) : entryFrame m #[(.ref x0), (.int x1)] 2 = mkF m 0 #[.val (.ref x0), .val (.int x1)] [] := by first | (simp [entryFrame, mkF, argsToLocals, Value.category]; done) | rfl
def own_Q1 (Z : State) (a1 : Addr) (p_ : Int32) (n1 : Nat) (h0 : Heap) (n0 : Nat) (v : Option Value) (h : Heap) (L : List Loc) : Prop := ∃ (b : Addr) (kb : ClassId), v = none ∧ Fr n0 L ∧ Keep h0 h [a1] ∧ h0.size ≤ b ∧ Fld Z h a1 "com/example/seshat/seshat/layout/PrefixMaximum" "nodes" "[D" (.ref b) ∧ own_A Z h b kb .double (n1 + 1) (fun i => .double ((own_en (fun _ => none)) i))
set_option maxRecDepth 65536 in
set_option maxHeartbeats 40000000 in
theorem own_rm1 (l : Launch) (Z : State) (a0 : Array Value) (hw : ∀ d ∈ tables_1, d.before a0 Z = true) (ws : List Jvm.Cond) (a1 : Addr) (p_ : Int32) (n1 : Nat) (h0 : Heap) (n0 : Nat) (Z0 : n0 ≤ h0.size) (q0 : Exa Z h0 a1 "com/example/seshat/seshat/layout/PrefixMaximum") (q1 : Fld Z h0 a1 "com/example/seshat/seshat/layout/PrefixMaximum" "nodes" "[D" .null) (q2 : n0 ≤ a1) (hp : p_.toInt = (n1 : Int) ∧ n1 ≤ 16) :
    MetFree l (⟨"com/example/seshat/seshat/layout/PrefixMaximum", "<init>", "(I)V"⟩ : MethodName) (head1 (Jvm.Cond.code (⟨"com/example/seshat/seshat/layout/PrefixMaximum", "<init>", "(I)V"⟩ : MethodName) prog_20_method_1_code 2 none :: ws) ({ frames := 1, cells := 1, slots := 17, locals := 16 } : Room)) (fun a U => a = #[(.ref a1), (.int p_)] ∧ Z.Warmed39 U.vm ∧ U.heap = h0) (fun _ _ _ _ _ => True) (fun _ U o U' => ∃ v L, o = .returned v ∧ own_Q1 Z a1 p_ n1 h0 n0 v U'.heap L ∧ FrameEnd U o U' L ({ frames := 1, cells := 1, slots := 17, locals := 16 } : Room).cells ({ frames := 1, cells := 1, slots := 17, locals := 16 } : Room).slots) := by
  refine MetFree.of_bodySF (plainFor_of_name own_pn1) hisR ?_
  intro p e s m args below meth c s₁ Bd hml0 hP hK
  obtain ⟨rfl, hZ, hh⟩ := hP
  have hx := Bd.exec
  have hby := Bd.bytes
  have hml : c.maxLocals = 2 := hml0
  have hown : s.vm.findClass "com/example/seshat/seshat/layout/PrefixMaximum" = some m.cls := findClass_of_methodNamed Bd.named
  have hnm := (name_of_methodNamed Bd.named Bd.method).1
  have hnl : meth.locks = false := Bd.notSynchronized
  have X0 : Stand p l e ({ frames := 1, cells := 1, slots := 17, locals := 16 } : Room) s m #[(.ref a1), (.int p_)] below meth c s₁ [] 0 0 := Stand.of_body Bd
  have e0 : s₁.heap = h0 := by rw [← hh, Bd.state]; rfl
  have N0 := Fr.nil n0
  show own_Go p.tables e below (own_P below s (own_Q1 Z a1 p_ n1 h0 n0) ({ frames := 1, cells := 1, slots := 17, locals := 16 } : Room).cells ({ frames := 1, cells := 1, slots := 17, locals := 16 } : Room).slots) _
  refine own_st (fun t_ k_ => castTop (own_ef1 m a1 p_) k_) ?_
  show own_Go p.tables e below _ (s₁.setTop (mkF m 0 #[.val (.ref a1), .val (.int p_)] []))
  refine own_st (fun t_ k_ => XS.aloadN X0.here hx rfl (hb hby own_d1_0) rfl rfl k_) ?_
  show own_Go p.tables e below _ (s₁.setTop (mkF m 1 #[.val (.ref a1), .val (.int p_)] [(.ref a1)]))
  obtain ⟨T105, X105, e105, st105⟩ := initO X0 hx hZ hown (hw _ (List.mem_of_getElem? (i := 6) rfl)) (hw _ (List.mem_of_getElem? (i := 7) rfl)) (hw _ (List.mem_of_getElem? (i := 8) rfl)) e0 (g := (mkF m 1 #[.val (.ref a1), .val (.int p_)] [(.ref a1)])) rfl (by rw [hml]; rfl) rfl (hb hby own_d1_1) (by decide) (W := 0) (by show 2 * 0 + _ ≤ _; exact Nat.le_of_eq rfl) (by decide)
  refine own_st (st105) ?_
  show own_Go p.tables e below _ (T105.setTop (mkF m 4 #[.val (.ref a1), .val (.int p_)] []))
  refine own_st (fun t_ k_ => XS.aloadN X105.here hx rfl (hb hby own_d1_4) rfl rfl k_) ?_
  show own_Go p.tables e below _ (T105.setTop (mkF m 5 #[.val (.ref a1), .val (.int p_)] [(.ref a1)]))
  refine own_st (fun t_ k_ => XS.iloadN X105.here hx rfl (hb hby own_d1_5) rfl k_) ?_
  show own_Go p.tables e below _ (T105.setTop (mkF m 6 #[.val (.ref a1), .val (.int p_)] [(.int p_), (.ref a1)]))
  refine own_st (fun t_ k_ => XS.iconst X105.here hx rfl (hb hby own_d1_6) k_) ?_
  show own_Go p.tables e below _ (T105.setTop (mkF m 7 #[.val (.ref a1), .val (.int p_)] [(.int (1 : Int32)), (.int p_), (.ref a1)]))
  refine own_st (fun t_ k_ => XS.iadd X105.here hx rfl (hb hby own_d1_7) rfl k_) ?_
  show own_Go p.tables e below _ (T105.setTop (mkF m 8 #[.val (.ref a1), .val (.int p_)] [(.int (p_ + (1 : Int32))), (.ref a1)]))
  have hp1 : (p_ + 1).toInt = ((n1 + 1 : Nat) : Int) := own_inc hp.1 (by omega)
  have hp2 : (p_ + 1) = Int32.ofNat (n1 + 1) := own_asI hp1
  obtain ⟨T106, h106, k106, X106, e106, E106, A106, st106⟩ := newP X105 hx hZ (hw _ (List.mem_of_getElem? (i := 9) rfl)) e105 (g := (mkF m 8 #[.val (.ref a1), .val (.int p_)] [(.int (p_ + (1 : Int32))), (.ref a1)])) rfl (hb hby own_d1_8) rfl (by rw [Int32.lt_iff_toInt_lt, hp1]; simp; omega) (cap := 17) (by simp [Int32.toNatClampNeg, hp1]; omega) (by decide) (by decide) (by decide)
  obtain ⟨b106, g106⟩ : ∃ z, z = h0.size := ⟨_, rfl⟩
  rw [← g106] at A106 st106
  have fr106 : h0.size ≤ b106 := Nat.le_trans (Keep.refl h0 [a1]).1 (Nat.le_of_eq g106.symm)
  have ge106 : n0 ≤ b106 := Nat.le_trans Z0 fr106
  have K106 : Keep h0 h106 [a1] := (Keep.refl h0 [a1]).ext E106
  have Ar106 : own_A Z h106 b106 k106 .double (n1 + 1) (fun i => .double ((fun _ => (0 : UInt64)) i)) := own_A.new A106 hp2 (by rw [Int32.lt_iff_toInt_lt, hp1]; simp; omega) (hn := by omega)
  refine own_st (st106) ?_
  show own_Go p.tables e below _ (T106.setTop (mkF m 10 #[.val (.ref a1), .val (.int p_)] [(.ref b106), (.ref a1)]))
  obtain ⟨T107, h107, X107, e107, W107, st107⟩ := putF X106 hx hZ hown (host := "") (Or.inl (hw _ (List.mem_of_getElem? (i := 10) rfl))) Via.refl e106 (q1.ext E106) (q0.ext E106) (Or.inr ⟨(hw _ (List.mem_of_getElem? (i := 11) rfl)), rfl, hnm⟩) (hw _ (List.mem_of_getElem? (i := 1) rfl)) (ty := (.array .double)) (by decide) rfl rfl (g := (mkF m 10 #[.val (.ref a1), .val (.int p_)] [(.ref b106), (.ref a1)])) rfl rfl (hb hby own_d1_10)
  have Fw107 : Fld Z h107 a1 "com/example/seshat/seshat/layout/PrefixMaximum" "nodes" "[D" (.ref b106) := (q1.ext E106).same W107
  have N107 := Fr.snoc X107 N0 q2
  have K107 : Keep h0 h107 [a1] := K106.wr W107 (Or.inl (List.mem_of_getElem? (i := 0) rfl))
  refine own_st (st107) ?_
  show own_Go p.tables e below _ (T107.setTop (mkF m 13 #[.val (.ref a1), .val (.int p_)] []))
  refine own_st (fun t_ k_ => XS.aloadN X107.here hx rfl (hb hby own_d1_13) rfl rfl k_) ?_
  show own_Go p.tables e below _ (T107.setTop (mkF m 14 #[.val (.ref a1), .val (.int p_)] [(.ref a1)]))
  obtain ⟨T108, X108, e108, st108⟩ := getF X107 hx hZ hown (host := "") (Or.inl (hw _ (List.mem_of_getElem? (i := 10) rfl))) Via.refl e107 Fw107 (g := (mkF m 14 #[.val (.ref a1), .val (.int p_)] [(.ref a1)])) rfl rfl (hb hby own_d1_14)
  refine own_st (st108) ?_
  show own_Go p.tables e below _ (T108.setTop (mkF m 17 #[.val (.ref a1), .val (.int p_)] [(.ref b106)]))
  refine own_st (X108.ldc2DoubleC hx hown (mvT hZ (hw _ (List.mem_of_getElem? (i := 12) rfl))) (g := (mkF m 17 #[.val (.ref a1), .val (.int p_)] [(.ref b106)])) rfl (hb hby own_d1_17)) ?_
  show own_Go p.tables e below _ (T108.setTop (mkF m 20 #[.val (.ref a1), .val (.int p_)] [(.double (18442240474082181120 : UInt64)), (.ref b106)]))
  obtain ⟨_, _, ⟨T109, L109, k109, n109⟩, -, X109, ⟨Lc109, hQ109, l109, y109, z109⟩, st109⟩ := Jvm.LawKit.callS X108 hx (y := (⟨"java/util/Arrays", "fill", "([DD)V"⟩ : MethodName)) hown (mvT hZ (hw _ (List.mem_of_getElem? (i := 13) rfl))) (mvT hZ (hw _ (List.mem_of_getElem? (i := 14) rfl))) (mvT hZ (hw _ (List.mem_of_getElem? (i := 15) rfl))) (mvT hZ (hw _ (List.mem_of_getElem? (i := 16) rfl))) (by decide) (backOf (W := 0) (own_rm3 l Z a0 hw [] b106 (18442240474082181120 : UInt64) k106 (n1 + 1) (fun _ => (0 : UInt64)) h107 n0 (Nat.le_trans Z0 K107.1) (Ar106.other W107 (Ne.symm (Nat.ne_of_lt (Nat.lt_of_lt_of_le q0.lt (Nat.le_of_eq g106.symm))))) ge106 (by omega)) hZ (hw _ (List.mem_of_getElem? (i := 16) rfl)) (hw _ (List.mem_of_getElem? (i := 15) rfl)) (by decide) (by decide)) (g := (mkF m 20 #[.val (.ref a1), .val (.int p_)] [(.double (18442240474082181120 : UInt64)), (.ref b106)])) rfl (by rw [hml]; rfl) (argsL := [(.ref b106), (.double (18442240474082181120 : UInt64))]) (rest := []) (lenOf own_pd0 rfl) rfl (by show 2 * 0 + _ ≤ _; exact Nat.le_of_eq rfl) (hb hby own_d1_20) (fun _ _ => ⟨rfl, e108, (by decide : 1 + 0 ≤ _), (by decide : 17 + 0 ≤ _)⟩)
  dsimp only [Pt.U, Pt.locs, Pt.cells, Pt.slots] at X109 l109 y109 z109 st109 hQ109
  subst l109 y109 z109
  obtain ⟨rfl, N109q, Kq109, P109_0⟩ := hQ109
  have N109 := Fr.app N107 N109q
  have K109 : Keep h0 T109.heap [a1] := K107.trans Kq109 (allS (P := fun x => x ∈ [a1] ∨ h0.size ≤ x) (Or.inr fr106) all0)
  refine own_st (st109) ?_
  show own_Go p.tables e below _ (T109.setTop (mkF m 23 #[.val (.ref a1), .val (.int p_)] []))
  have Ae : own_A Z T109.heap b106 k106 .double (n1 + 1) (fun i => .double ((own_en (fun _ => none)) i)) := P109_0
  exact own_ret0 X109 hx hnl Bd.returns (hb hby own_d1_23) ⟨b106, k106, rfl, N109, (K109), fr106, ((Fw107.keep Kq109 (ninS (Nat.ne_of_lt (Nat.lt_of_lt_of_le q0.lt (Nat.le_of_eq g106.symm))) nin0))), (Ae)⟩ (by decide) (by decide)

theorem own_d4_0 : decode prog_20_method_2_code 0 = .ok (.iload_n 1, 1) := by decide +kernel
theorem own_d4_1 : decode prog_20_method_2_code 1 = .ok (.iconst 1, 1) := by decide +kernel
theorem own_d4_2 : decode prog_20_method_2_code 2 = .ok (.iadd, 1) := by decide +kernel
theorem own_d4_3 : decode prog_20_method_2_code 3 = .ok (.istore 4, 2) := by decide +kernel
theorem own_d4_5 : decode prog_20_method_2_code 5 = .ok (.iload 4, 2) := by decide +kernel
theorem own_d4_7 : decode prog_20_method_2_code 7 = .ok (.aload_n 0, 1) := by decide +kernel
theorem own_d4_8 : decode prog_20_method_2_code 8 = .ok (.getfield 7, 3) := by decide +kernel
theorem own_d4_11 : decode prog_20_method_2_code 11 = .ok (.arraylength, 1) := by decide +kernel
theorem own_d4_12 : decode prog_20_method_2_code 12 = .ok (.if_icmp .ge 35, 3) := by decide +kernel
theorem own_d4_15 : decode prog_20_method_2_code 15 = .ok (.aload_n 0, 1) := by decide +kernel
theorem own_d4_16 : decode prog_20_method_2_code 16 = .ok (.getfield 7, 3) := by decide +kernel
theorem own_d4_19 : decode prog_20_method_2_code 19 = .ok (.iload 4, 2) := by decide +kernel
theorem own_d4_21 : decode prog_20_method_2_code 21 = .ok (.aload_n 0, 1) := by decide +kernel
theorem own_d4_22 : decode prog_20_method_2_code 22 = .ok (.getfield 7, 3) := by decide +kernel
theorem own_d4_25 : decode prog_20_method_2_code 25 = .ok (.iload 4, 2) := by decide +kernel
theorem own_d4_27 : decode prog_20_method_2_code 27 = .ok (.daload, 1) := by decide +kernel
theorem own_d4_28 : decode prog_20_method_2_code 28 = .ok (.dload_n 2, 1) := by decide +kernel
theorem own_d4_29 : decode prog_20_method_2_code 29 = .ok (.invokestatic 23, 3) := by decide +kernel
theorem own_d4_32 : decode prog_20_method_2_code 32 = .ok (.dastore, 1) := by decide +kernel
theorem own_d4_33 : decode prog_20_method_2_code 33 = .ok (.iload 4, 2) := by decide +kernel
theorem own_d4_35 : decode prog_20_method_2_code 35 = .ok (.iload 4, 2) := by decide +kernel
theorem own_d4_37 : decode prog_20_method_2_code 37 = .ok (.iload 4, 2) := by decide +kernel
theorem own_d4_39 : decode prog_20_method_2_code 39 = .ok (.ineg, 1) := by decide +kernel
theorem own_d4_40 : decode prog_20_method_2_code 40 = .ok (.iand, 1) := by decide +kernel
theorem own_d4_41 : decode prog_20_method_2_code 41 = .ok (.iadd, 1) := by decide +kernel
theorem own_d4_42 : decode prog_20_method_2_code 42 = .ok (.istore 4, 2) := by decide +kernel
theorem own_d4_44 : decode prog_20_method_2_code 44 = .ok (.goto (-39), 3) := by decide +kernel
theorem own_d4_47 : decode prog_20_method_2_code 47 = .ok (.return_, 1) := by decide +kernel
theorem own_pd1 : parseMethodDescriptor "(DD)D" = some ⟨[.double, .double], some .double⟩ := by decide +kernel
theorem own_ef4 (m : MethodId) (x0 : Addr) (x1 : Int32) (x2 : UInt64) : entryFrame m #[(.ref x0), (.int x1), (.double x2)] 5 = mkF m 0 #[.val (.ref x0), .val (.int x1), .val (.double x2), .second, .unset] [] := by first | (simp [entryFrame, mkF, argsToLocals, Value.category]; done) | rfl
def own_Q4 (Z : State) (a1 : Addr) (q_ : Int32) (w : UInt64) (b : Addr) (kb : ClassId) (n1 : Nat) (f : Nat → Option Int32) (vv : Option Int32) (qn : Nat) (h0 : Heap) (n0 : Nat) (v : Option Value) (h : Heap) (L : List Loc) : Prop := v = none ∧ Fr n0 L ∧ Keep h0 h [b] ∧ own_A Z h b kb .double n1 (fun i => .double ((own_en (own_rs n1 vv 17 (qn + 1) f)) i))
set_option maxRecDepth 65536 in
set_option maxHeartbeats 40000000 in
theorem own_rm4 (l : Launch) (Z : State) (a0 : Array Value) (hw : ∀ d ∈ tables_1, d.before a0 Z = true) (ws : List Jvm.Cond) (a1 : Addr) (q_ : Int32) (w : UInt64) (b : Addr) (kb : ClassId) (n1 : Nat) (f : Nat → Option Int32) (vv : Option Int32) (qn : Nat) (h0 : Heap) (n0 : Nat) (Z0 : n0 ≤ h0.size) (q0 : Fld Z h0 a1 "com/example/seshat/seshat/layout/PrefixMaximum" "nodes" "[D" (.ref b)) (q1 : own_A Z h0 b kb .double n1 (fun i => .double ((own_en f) i))) (q2 : n0 ≤ b) (hne : a1 ≠ b) (hv : w = own_enc vv) (hq : q_.toInt = (qn : Int) ∧ qn < 16 ∧ n1 ≤ 17) :
    MetFree l (⟨"com/example/seshat/seshat/layout/PrefixMaximum", "raise", "(ID)V"⟩ : MethodName) (head1 (Jvm.Cond.code (⟨"com/example/seshat/seshat/layout/PrefixMaximum", "raise", "(ID)V"⟩ : MethodName) prog_20_method_2_code 5 none :: ws) ({ frames := 1, cells := 0, slots := 0, locals := 17 } : Room)) (fun a U => a = #[(.ref a1), (.int q_), (.double w)] ∧ Z.Warmed39 U.vm ∧ U.heap = h0) (fun _ _ _ _ _ => True) (fun _ U o U' => ∃ v L, o = .returned v ∧ own_Q4 Z a1 q_ w b kb n1 f vv qn h0 n0 v U'.heap L ∧ FrameEnd U o U' L ({ frames := 1, cells := 0, slots := 0, locals := 17 } : Room).cells ({ frames := 1, cells := 0, slots := 0, locals := 17 } : Room).slots) := by
  refine MetFree.of_bodySF (plainFor_of_name own_pn1) hisR ?_
  intro p e s m args below meth c s₁ Bd hml0 hP hK
  obtain ⟨rfl, hZ, hh⟩ := hP
  have hx := Bd.exec
  have hby := Bd.bytes
  have hml : c.maxLocals = 5 := hml0
  have hown : s.vm.findClass "com/example/seshat/seshat/layout/PrefixMaximum" = some m.cls := findClass_of_methodNamed Bd.named
  have hnm := (name_of_methodNamed Bd.named Bd.method).1
  have hnl : meth.locks = false := Bd.notSynchronized
  have X0 : Stand p l e ({ frames := 1, cells := 0, slots := 0, locals := 17 } : Room) s m #[(.ref a1), (.int q_), (.double w)] below meth c s₁ [] 0 0 := Stand.of_body Bd
  have e0 : s₁.heap = h0 := by rw [← hh, Bd.state]; rfl
  have N0 := Fr.nil n0
  show own_Go p.tables e below (own_P below s (own_Q4 Z a1 q_ w b kb n1 f vv qn h0 n0) ({ frames := 1, cells := 0, slots := 0, locals := 17 } : Room).cells ({ frames := 1, cells := 0, slots := 0, locals := 17 } : Room).slots) _
  refine own_st (fun t_ k_ => castTop (own_ef4 m a1 q_ w) k_) ?_
  show own_Go p.tables e below _ (s₁.setTop (mkF m 0 #[.val (.ref a1), .val (.int q_), .val (.double w), .second, .unset] []))
  refine own_st (fun t_ k_ => XS.iloadN X0.here hx rfl (hb hby own_d4_0) rfl k_) ?_
  show own_Go p.tables e below _ (s₁.setTop (mkF m 1 #[.val (.ref a1), .val (.int q_), .val (.double w), .second, .unset] [(.int q_)]))
  refine own_st (fun t_ k_ => XS.iconst X0.here hx rfl (hb hby own_d4_1) k_) ?_
  show own_Go p.tables e below _ (s₁.setTop (mkF m 2 #[.val (.ref a1), .val (.int q_), .val (.double w), .second, .unset] [(.int (1 : Int32)), (.int q_)]))
  refine own_st (fun t_ k_ => XS.iadd X0.here hx rfl (hb hby own_d4_2) rfl k_) ?_
  show own_Go p.tables e below _ (s₁.setTop (mkF m 3 #[.val (.ref a1), .val (.int q_), .val (.double w), .second, .unset] [(.int (q_ + (1 : Int32)))]))
  refine own_st (fun t_ k_ => XS.istore X0.here hx rfl (hb hby own_d4_3) rfl (l' := #[.val (.ref a1), .val (.int q_), .val (.double w), .second, .val (.int (q_ + (1 : Int32)))]) rfl k_) ?_
  show own_Go p.tables e below _ (s₁.setTop (mkF m 5 #[.val (.ref a1), .val (.int q_), .val (.double w), .second, .val (.int (q_ + (1 : Int32)))] []))
  have hq1 : (q_ + 1).toInt = ((qn + 1 : Nat) : Int) := own_inc hq.1 (by omega)
  have loop110 : ∀ (mm : Nat) (k : Nat) (i : Int32) (g_ : Nat → Option Int32) (t_ : Nat) (T110 : State) (Lo110 : List Loc) (h110 : Heap), t_ = mm → Stand p l e ({ frames := 1, cells := 0, slots := 0, locals := 17 } : Room) s m #[(.ref a1), (.int q_), (.double w)] below meth c T110 Lo110 0 0 → T110.heap = h110 → Fr n0 Lo110 → Keep h0 h110 [b] → Fld Z h110 a1 "com/example/seshat/seshat/layout/PrefixMaximum" "nodes" "[D" (.ref b) → own_A Z h110 b kb .double n1 (fun i => .double ((own_en g_) i)) → i.toInt = (k : Int) → 1 ≤ k → n1 ≤ k + t_ → own_rs n1 vv t_ k g_ = own_rs n1 vv 17 (qn + 1) f → own_Go p.tables e below (own_P below s (own_Q4 Z a1 q_ w b kb n1 f vv qn h0 n0) ({ frames := 1, cells := 0, slots := 0, locals := 17 } : Room).cells ({ frames := 1, cells := 0, slots := 0, locals := 17 } : Room).slots) (T110.setTop (mkF m 5 #[.val (.ref a1), .val (.int q_), .val (.double w), .second, .val (.int i)] [])) := by
    intro mm
    induction mm using Nat.strongRecOn with
    | _ mm ih110 =>
      intro k i g_ t_ T110 Lo110 h110 hm110 X110 e110 N110 K110 fa110_0 fa110_1 hi hk ht hR
      show own_Go p.tables e below _ (T110.setTop (mkF m 5 #[.val (.ref a1), .val (.int q_), .val (.double w), .second, .val (.int i)] []))
      refine own_st (fun t_ k_ => XS.iload X110.here hx rfl (hb hby own_d4_5) rfl k_) ?_
      show own_Go p.tables e below _ (T110.setTop (mkF m 7 #[.val (.ref a1), .val (.int q_), .val (.double w), .second, .val (.int i)] [(.int i)]))
      refine own_st (fun t_ k_ => XS.aloadN X110.here hx rfl (hb hby own_d4_7) rfl rfl k_) ?_
      show own_Go p.tables e below _ (T110.setTop (mkF m 8 #[.val (.ref a1), .val (.int q_), .val (.double w), .second, .val (.int i)] [(.ref a1), (.int i)]))
      obtain ⟨T111, X111, e111, st111⟩ := getF X110 hx hZ hown (host := "") (Or.inl (hw _ (List.mem_of_getElem? (i := 10) rfl))) Via.refl e110 fa110_0 (g := (mkF m 8 #[.val (.ref a1), .val (.int q_), .val (.double w), .second, .val (.int i)] [(.ref a1), (.int i)])) rfl rfl (hb hby own_d4_8)
      refine own_st (st111) ?_
      show own_Go p.tables e below _ (T111.setTop (mkF m 11 #[.val (.ref a1), .val (.int q_), .val (.double w), .second, .val (.int i)] [(.ref b), (.int i)]))
      refine own_st (own_len X111 hx hZ e111 fa110_1 (g := (mkF m 11 #[.val (.ref a1), .val (.int q_), .val (.double w), .second, .val (.int i)] [(.ref b), (.int i)])) rfl rfl (hb hby own_d4_11)) ?_
      show own_Go p.tables e below _ (T111.setTop (mkF m 12 #[.val (.ref a1), .val (.int q_), .val (.double w), .second, .val (.int i)] [(.int (Int32.ofNat n1)), (.int i)]))
      by_cases c12_112 : i < (Int32.ofNat n1)
      · skip
        have hkn : k < n1 := (own_lt hi (by omega)).mp c12_112
        obtain ⟨u_, rfl⟩ : ∃ u_, t_ = u_ + 1 := ⟨t_ - 1, by omega⟩
        simp only [own_rs, if_pos hkn] at hR
        refine own_st (fun t_ k_ => XS.icmpNo X111.here hx rfl (hb hby own_d4_12) rfl (tlt c12_112).2.1 k_) ?_
        show own_Go p.tables e below _ (T111.setTop (mkF m 15 #[.val (.ref a1), .val (.int q_), .val (.double w), .second, .val (.int i)] []))
        refine own_st (fun t_ k_ => XS.aloadN X111.here hx rfl (hb hby own_d4_15) rfl rfl k_) ?_
        show own_Go p.tables e below _ (T111.setTop (mkF m 16 #[.val (.ref a1), .val (.int q_), .val (.double w), .second, .val (.int i)] [(.ref a1)]))
        obtain ⟨T113, X113, e113, st113⟩ := getF X111 hx hZ hown (host := "") (Or.inl (hw _ (List.mem_of_getElem? (i := 10) rfl))) Via.refl e111 fa110_0 (g := (mkF m 16 #[.val (.ref a1), .val (.int q_), .val (.double w), .second, .val (.int i)] [(.ref a1)])) rfl rfl (hb hby own_d4_16)
        refine own_st (st113) ?_
        show own_Go p.tables e below _ (T113.setTop (mkF m 19 #[.val (.ref a1), .val (.int q_), .val (.double w), .second, .val (.int i)] [(.ref b)]))
        refine own_st (fun t_ k_ => XS.iload X113.here hx rfl (hb hby own_d4_19) rfl k_) ?_
        show own_Go p.tables e below _ (T113.setTop (mkF m 21 #[.val (.ref a1), .val (.int q_), .val (.double w), .second, .val (.int i)] [(.int i), (.ref b)]))
        refine own_st (fun t_ k_ => XS.aloadN X113.here hx rfl (hb hby own_d4_21) rfl rfl k_) ?_
        show own_Go p.tables e below _ (T113.setTop (mkF m 22 #[.val (.ref a1), .val (.int q_), .val (.double w), .second, .val (.int i)] [(.ref a1), (.int i), (.ref b)]))
        obtain ⟨T114, X114, e114, st114⟩ := getF X113 hx hZ hown (host := "") (Or.inl (hw _ (List.mem_of_getElem? (i := 10) rfl))) Via.refl e113 fa110_0 (g := (mkF m 22 #[.val (.ref a1), .val (.int q_), .val (.double w), .second, .val (.int i)] [(.ref a1), (.int i), (.ref b)])) rfl rfl (hb hby own_d4_22)
        refine own_st (st114) ?_
        show own_Go p.tables e below _ (T114.setTop (mkF m 25 #[.val (.ref a1), .val (.int q_), .val (.double w), .second, .val (.int i)] [(.ref b), (.int i), (.ref b)]))
        refine own_st (fun t_ k_ => XS.iload X114.here hx rfl (hb hby own_d4_25) rfl k_) ?_
        show own_Go p.tables e below _ (T114.setTop (mkF m 27 #[.val (.ref a1), .val (.int q_), .val (.double w), .second, .val (.int i)] [(.int i), (.ref b), (.int i), (.ref b)]))
        refine own_st (own_daload X114 hx hZ e114 fa110_1 (i := k) hi hkn (g := (mkF m 27 #[.val (.ref a1), .val (.int q_), .val (.double w), .second, .val (.int i)] [(.int i), (.ref b), (.int i), (.ref b)])) rfl rfl (hb hby own_d4_27)) ?_
        show own_Go p.tables e below _ (T114.setTop (mkF m 28 #[.val (.ref a1), .val (.int q_), .val (.double w), .second, .val (.int i)] [(.double ((own_en g_) k)), (.int i), (.ref b)]))
        refine own_st (fun t_ k_ => XS.dloadN X114.here hx rfl (hb hby own_d4_28) rfl k_) ?_
        show own_Go p.tables e below _ (T114.setTop (mkF m 29 #[.val (.ref a1), .val (.int q_), .val (.double w), .second, .val (.int i)] [(.double w), (.double ((own_en g_) k)), (.int i), (.ref b)]))
        obtain ⟨T115, X115, e115, st115⟩ := natS X114 hx hZ hown (hw _ (List.mem_of_getElem? (i := 22) rfl)) (hw _ (List.mem_of_getElem? (i := 23) rfl)) (hw _ (List.mem_of_getElem? (i := 24) rfl)) (hw _ (List.mem_of_getElem? (i := 25) rfl)) (by decide) e114 (W := 2) (val' := (.double (own_enc (own_mx (g_ k) vv)))) (fun hc_ => Fl.Abs.maxD_pays ((own_en g_) k) w hc_ (by decide) (by decide)) (g := (mkF m 29 #[.val (.ref a1), .val (.int q_), .val (.double w), .second, .val (.int i)] [(.double w), (.double ((own_en g_) k)), (.int i), (.ref b)])) rfl (by rw [hml]; rfl) (argsL := [(.double ((own_en g_) k)), (.double w)]) (rest := [(.int i), (.ref b)]) (lenOf own_pd1 rfl) rfl (by show 2 * 0 + _ ≤ _; exact Nat.le_of_eq rfl) (hb hby own_d4_29) (by decide) (by decide) ⟨rfl, (own_encn _), (hv ▸ own_encn vv)⟩ (by rw [hv]; exact congrArg Value.double (own_pick (g_ k) vv))
        refine own_st (st115) ?_
        show own_Go p.tables e below _ (T115.setTop (mkF m 32 #[.val (.ref a1), .val (.int q_), .val (.double w), .second, .val (.int i)] [(.double (own_enc (own_mx (g_ k) vv))), (.int i), (.ref b)]))
        obtain ⟨T116, h116, X116, e116, W116, Aw116, st116⟩ := own_dastore X115 hx hZ e115 fa110_1 (i := k) hi hkn (g := (mkF m 32 #[.val (.ref a1), .val (.int q_), .val (.double w), .second, .val (.int i)] [(.double (own_enc (own_mx (g_ k) vv))), (.int i), (.ref b)])) rfl rfl (hb hby own_d4_32)
        have N116 := Fr.snoc X116 N110 q2
        have K116 : Keep h0 h116 [b] := K110.wr W116 (Or.inl (List.mem_of_getElem? (i := 0) rfl))
        refine own_st (st116) ?_
        show own_Go p.tables e below _ (T116.setTop (mkF m 33 #[.val (.ref a1), .val (.int q_), .val (.double w), .second, .val (.int i)] []))
        have Ac117 : own_A Z h116 b kb .double n1 (fun i => .double ((own_en (own_upd g_ k (own_mx (g_ k) vv))) i)) := Aw116.congr (fun i _ => by rw [own_upden])
        refine own_st (fun t_ k_ => XS.iload X116.here hx rfl (hb hby own_d4_33) rfl k_) ?_
        show own_Go p.tables e below _ (T116.setTop (mkF m 35 #[.val (.ref a1), .val (.int q_), .val (.double w), .second, .val (.int i)] [(.int i)]))
        refine own_st (fun t_ k_ => XS.iload X116.here hx rfl (hb hby own_d4_35) rfl k_) ?_
        show own_Go p.tables e below _ (T116.setTop (mkF m 37 #[.val (.ref a1), .val (.int q_), .val (.double w), .second, .val (.int i)] [(.int i), (.int i)]))
        refine own_st (fun t_ k_ => XS.iload X116.here hx rfl (hb hby own_d4_37) rfl k_) ?_
        show own_Go p.tables e below _ (T116.setTop (mkF m 39 #[.val (.ref a1), .val (.int q_), .val (.double w), .second, .val (.int i)] [(.int i), (.int i), (.int i)]))
        refine own_st (fun t_ k_ => XS.ineg X116.here hx rfl (hb hby own_d4_39) rfl k_) ?_
        show own_Go p.tables e below _ (T116.setTop (mkF m 40 #[.val (.ref a1), .val (.int q_), .val (.double w), .second, .val (.int i)] [(.int (-i)), (.int i), (.int i)]))
        refine own_st (fun t_ k_ => XS.iand X116.here hx rfl (hb hby own_d4_40) rfl k_) ?_
        show own_Go p.tables e below _ (T116.setTop (mkF m 41 #[.val (.ref a1), .val (.int q_), .val (.double w), .second, .val (.int i)] [(.int (i &&& (-i))), (.int i)]))
        refine own_st (fun t_ k_ => XS.iadd X116.here hx rfl (hb hby own_d4_41) rfl k_) ?_
        show own_Go p.tables e below _ (T116.setTop (mkF m 42 #[.val (.ref a1), .val (.int q_), .val (.double w), .second, .val (.int i)] [(.int (i + (i &&& (-i))))]))
        refine own_st (fun t_ k_ => XS.istore X116.here hx rfl (hb hby own_d4_42) rfl (l' := #[.val (.ref a1), .val (.int q_), .val (.double w), .second, .val (.int (i + (i &&& (-i))))]) rfl k_) ?_
        show own_Go p.tables e below _ (T116.setTop (mkF m 44 #[.val (.ref a1), .val (.int q_), .val (.double w), .second, .val (.int (i + (i &&& (-i))))] []))
        refine own_st (fun t_ k_ => XS.goto X116.here hx rfl (pc0 := 44) (pc' := 5) rfl (hb hby own_d4_44) (by decide) (by decide) k_) ?_
        show own_Go p.tables e below _ (T116.setTop (mkF m 5 #[.val (.ref a1), .val (.int q_), .val (.double w), .second, .val (.int (i + (i &&& (-i))))] []))
        exact ih110 _ (by omega) (k + own_low k) (i + (i &&& (-i))) (own_upd g_ k (own_mx (g_ k) vv)) u_ T116 _ h116 rfl X116 e116 N116 K116 ((fa110_0.other W116 (Or.inl hne))) (Ac117) (own_nx hi hk (by omega)) (by omega) (by have := own_lowp k; omega) hR
      · skip
        have hkn : ¬ k < n1 := fun q => c12_112 ((own_lt hi (by omega)).mpr q)
        rw [own_rs_out hkn] at hR
        have Af : own_A Z h110 b kb .double n1 (fun i => .double ((own_en (own_rs n1 vv 17 (qn + 1) f)) i)) := by rw [← hR]; exact fa110_1
        refine own_st (fun t_ k_ => XS.icmpYes X111.here hx rfl (pc0 := 12) (pc' := 47) rfl (hb hby own_d4_12) rfl (flt c12_112).2.1 (by decide) (by decide) k_) ?_
        show own_Go p.tables e below _ (T111.setTop (mkF m 47 #[.val (.ref a1), .val (.int q_), .val (.double w), .second, .val (.int i)] []))
        exact own_ret0 X111 hx hnl Bd.returns (hb hby own_d4_47) ⟨rfl, N110, (by rw [e111]; exact K110), (by rw [e111]; exact Af)⟩ (by decide) (by decide)
  exact loop110 _ (qn + 1) (q_ + (1 : Int32)) f 17 s₁ _ h0 rfl X0 e0 N0 (Keep.refl h0 [b]) (q0) (q1) hq1 (by omega) (by omega) rfl

theorem own_d6_0 : decode prog_20_method_3_code 0 = .ok (.ldc2_w 15, 3) := by decide +kernel
theorem own_d6_3 : decode prog_20_method_3_code 3 = .ok (.dstore_n 2, 1) := by decide +kernel
theorem own_d6_4 : decode prog_20_method_3_code 4 = .ok (.iload_n 1, 1) := by decide +kernel
theorem own_d6_5 : decode prog_20_method_3_code 5 = .ok (.istore 4, 2) := by decide +kernel
theorem own_d6_7 : decode prog_20_method_3_code 7 = .ok (.iload 4, 2) := by decide +kernel
theorem own_d6_9 : decode prog_20_method_3_code 9 = .ok (.ifCond .le 29, 3) := by decide +kernel
theorem own_d6_12 : decode prog_20_method_3_code 12 = .ok (.dload_n 2, 1) := by decide +kernel
theorem own_d6_13 : decode prog_20_method_3_code 13 = .ok (.aload_n 0, 1) := by decide +kernel
theorem own_d6_14 : decode prog_20_method_3_code 14 = .ok (.getfield 7, 3) := by decide +kernel
theorem own_d6_17 : decode prog_20_method_3_code 17 = .ok (.iload 4, 2) := by decide +kernel
theorem own_d6_19 : decode prog_20_method_3_code 19 = .ok (.daload, 1) := by decide +kernel
theorem own_d6_20 : decode prog_20_method_3_code 20 = .ok (.invokestatic 23, 3) := by decide +kernel
theorem own_d6_23 : decode prog_20_method_3_code 23 = .ok (.dstore_n 2, 1) := by decide +kernel
theorem own_d6_24 : decode prog_20_method_3_code 24 = .ok (.iload 4, 2) := by decide +kernel
theorem own_d6_26 : decode prog_20_method_3_code 26 = .ok (.iload 4, 2) := by decide +kernel
theorem own_d6_28 : decode prog_20_method_3_code 28 = .ok (.iload 4, 2) := by decide +kernel
theorem own_d6_30 : decode prog_20_method_3_code 30 = .ok (.ineg, 1) := by decide +kernel
theorem own_d6_31 : decode prog_20_method_3_code 31 = .ok (.iand, 1) := by decide +kernel
theorem own_d6_32 : decode prog_20_method_3_code 32 = .ok (.isub, 1) := by decide +kernel
theorem own_d6_33 : decode prog_20_method_3_code 33 = .ok (.istore 4, 2) := by decide +kernel
theorem own_d6_35 : decode prog_20_method_3_code 35 = .ok (.goto (-28), 3) := by decide +kernel
theorem own_d6_38 : decode prog_20_method_3_code 38 = .ok (.dload_n 2, 1) := by decide +kernel
theorem own_d6_39 : decode prog_20_method_3_code 39 = .ok (.dreturn, 1) := by decide +kernel
theorem own_ef6 (m : MethodId) (x0 : Addr) (x1 : Int32) : entryFrame m #[(.ref x0), (.int x1)] 5 = mkF m 0 #[.val (.ref x0), .val (.int x1), .unset, .unset, .unset] [] := by first | (simp [entryFrame, mkF, argsToLocals, Value.category]; done) | rfl
def own_Q6 (Z : State) (a1 : Addr) (q_ : Int32) (b : Addr) (kb : ClassId) (n1 : Nat) (f : Nat → Option Int32) (qn : Nat) (h0 : Heap) (n0 : Nat) (v : Option Value) (h : Heap) (L : List Loc) : Prop := v = some (.double (own_enc (own_bf f 17 qn none))) ∧ Fr n0 L ∧ h = h0
set_option maxRecDepth 65536 in
set_option maxHeartbeats 40000000 in
theorem own_rm6 (l : Launch) (Z : State) (a0 : Array Value) (hw : ∀ d ∈ tables_1, d.before a0 Z = true) (ws : List Jvm.Cond) (a1 : Addr) (q_ : Int32) (b : Addr) (kb : ClassId) (n1 : Nat) (f : Nat → Option Int32) (qn : Nat) (h0 : Heap) (n0 : Nat) (Z0 : n0 ≤ h0.size) (q0 : Fld Z h0 a1 "com/example/seshat/seshat/layout/PrefixMaximum" "nodes" "[D" (.ref b)) (q1 : own_A Z h0 b kb .double n1 (fun i => .double ((own_en f) i))) (hq : q_.toInt = (qn : Int) ∧ qn < n1 ∧ n1 ≤ 17) :
    MetFree l (⟨"com/example/seshat/seshat/layout/PrefixMaximum", "before", "(I)D"⟩ : MethodName) (head1 (Jvm.Cond.code (⟨"com/example/seshat/seshat/layout/PrefixMaximum", "before", "(I)D"⟩ : MethodName) prog_20_method_3_code 5 (some .double) :: ws) ({ frames := 1, cells := 0, slots := 0, locals := 15 } : Room)) (fun a U => a = #[(.ref a1), (.int q_)] ∧ Z.Warmed39 U.vm ∧ U.heap = h0) (fun _ _ _ _ _ => True) (fun _ U o U' => ∃ v L, o = .returned v ∧ own_Q6 Z a1 q_ b kb n1 f qn h0 n0 v U'.heap L ∧ FrameEnd U o U' L ({ frames := 1, cells := 0, slots := 0, locals := 15 } : Room).cells ({ frames := 1, cells := 0, slots := 0, locals := 15 } : Room).slots) := by
  refine MetFree.of_bodySF (plainFor_of_name own_pn1) hisR ?_
  intro p e s m args below meth c s₁ Bd hml0 hP hK
  obtain ⟨rfl, hZ, hh⟩ := hP
  have hx := Bd.exec
  have hby := Bd.bytes
  have hml : c.maxLocals = 5 := hml0
  have hown : s.vm.findClass "com/example/seshat/seshat/layout/PrefixMaximum" = some m.cls := findClass_of_methodNamed Bd.named
  have hnm := (name_of_methodNamed Bd.named Bd.method).1
  have hnl : meth.locks = false := Bd.notSynchronized
  have X0 : Stand p l e ({ frames := 1, cells := 0, slots := 0, locals := 15 } : Room) s m #[(.ref a1), (.int q_)] below meth c s₁ [] 0 0 := Stand.of_body Bd
  have e0 : s₁.heap = h0 := by rw [← hh, Bd.state]; rfl
  have N0 := Fr.nil n0
  show own_Go p.tables e below (own_P below s (own_Q6 Z a1 q_ b kb n1 f qn h0 n0) ({ frames := 1, cells := 0, slots := 0, locals := 15 } : Room).cells ({ frames := 1, cells := 0, slots := 0, locals := 15 } : Room).slots) _
  refine own_st (fun t_ k_ => castTop (own_ef6 m a1 q_) k_) ?_
  show own_Go p.tables e below _ (s₁.setTop (mkF m 0 #[.val (.ref a1), .val (.int q_), .unset, .unset, .unset] []))
  refine own_st (X0.ldc2DoubleC hx hown (mvT hZ (hw _ (List.mem_of_getElem? (i := 12) rfl))) (g := (mkF m 0 #[.val (.ref a1), .val (.int q_), .unset, .unset, .unset] [])) rfl (hb hby own_d6_0)) ?_
  show own_Go p.tables e below _ (s₁.setTop (mkF m 3 #[.val (.ref a1), .val (.int q_), .unset, .unset, .unset] [(.double (18442240474082181120 : UInt64))]))
  refine own_st (fun t_ k_ => XS.dstoreN X0.here hx rfl (hb hby own_d6_3) rfl (l' := #[.val (.ref a1), .val (.int q_), .val (.double (18442240474082181120 : UInt64)), .second, .unset]) rfl k_) ?_
  show own_Go p.tables e below _ (s₁.setTop (mkF m 4 #[.val (.ref a1), .val (.int q_), .val (.double (18442240474082181120 : UInt64)), .second, .unset] []))
  refine own_st (fun t_ k_ => XS.iloadN X0.here hx rfl (hb hby own_d6_4) rfl k_) ?_
  show own_Go p.tables e below _ (s₁.setTop (mkF m 5 #[.val (.ref a1), .val (.int q_), .val (.double (18442240474082181120 : UInt64)), .second, .unset] [(.int q_)]))
  refine own_st (fun t_ k_ => XS.istore X0.here hx rfl (hb hby own_d6_5) rfl (l' := #[.val (.ref a1), .val (.int q_), .val (.double (18442240474082181120 : UInt64)), .second, .val (.int q_)]) rfl k_) ?_
  show own_Go p.tables e below _ (s₁.setTop (mkF m 7 #[.val (.ref a1), .val (.int q_), .val (.double (18442240474082181120 : UInt64)), .second, .val (.int q_)] []))
  have loop118 : ∀ (mm : Nat) (k : Nat) (i : Int32) (x_ : Option Int32) (t_ : Nat) (T118 : State) (Lo118 : List Loc), t_ = mm → Stand p l e ({ frames := 1, cells := 0, slots := 0, locals := 15 } : Room) s m #[(.ref a1), (.int q_)] below meth c T118 Lo118 0 0 → T118.heap = h0 → Fr n0 Lo118 → i.toInt = (k : Int) → k ≤ qn → k ≤ t_ → own_bf f t_ k x_ = own_bf f 17 qn none → own_Go p.tables e below (own_P below s (own_Q6 Z a1 q_ b kb n1 f qn h0 n0) ({ frames := 1, cells := 0, slots := 0, locals := 15 } : Room).cells ({ frames := 1, cells := 0, slots := 0, locals := 15 } : Room).slots) (T118.setTop (mkF m 7 #[.val (.ref a1), .val (.int q_), .val (.double (own_enc x_)), .second, .val (.int i)] [])) := by
    intro mm
    induction mm using Nat.strongRecOn with
    | _ mm ih118 =>
      intro k i x_ t_ T118 Lo118 hm118 X118 e118 N118 hi hk ht hR
      show own_Go p.tables e below _ (T118.setTop (mkF m 7 #[.val (.ref a1), .val (.int q_), .val (.double (own_enc x_)), .second, .val (.int i)] []))
      refine own_st (fun t_ k_ => XS.iload X118.here hx rfl (hb hby own_d6_7) rfl k_) ?_
      show own_Go p.tables e below _ (T118.setTop (mkF m 9 #[.val (.ref a1), .val (.int q_), .val (.double (own_enc x_)), .second, .val (.int i)] [(.int i)]))
      by_cases c9_119 : (0 : Int32) < i
      · skip
        have hkn : 1 ≤ k := by have q := c9_119; rw [Int32.lt_iff_toInt_lt, hi] at q; have z32 : (0 : Int32).toInt = 0 := (by decide); omega
        obtain ⟨u_, rfl⟩ : ∃ u_, t_ = u_ + 1 := ⟨t_ - 1, by omega⟩
        simp only [own_bf, if_pos (show 0 < k by omega)] at hR
        refine own_st (fun t_ k_ => XS.ifNo X118.here hx rfl (hb hby own_d6_9) rfl ((if0 _ _).trans (tlt c9_119).2.2.2) k_) ?_
        show own_Go p.tables e below _ (T118.setTop (mkF m 12 #[.val (.ref a1), .val (.int q_), .val (.double (own_enc x_)), .second, .val (.int i)] []))
        refine own_st (fun t_ k_ => XS.dloadN X118.here hx rfl (hb hby own_d6_12) rfl k_) ?_
        show own_Go p.tables e below _ (T118.setTop (mkF m 13 #[.val (.ref a1), .val (.int q_), .val (.double (own_enc x_)), .second, .val (.int i)] [(.double (own_enc x_))]))
        refine own_st (fun t_ k_ => XS.aloadN X118.here hx rfl (hb hby own_d6_13) rfl rfl k_) ?_
        show own_Go p.tables e below _ (T118.setTop (mkF m 14 #[.val (.ref a1), .val (.int q_), .val (.double (own_enc x_)), .second, .val (.int i)] [(.ref a1), (.double (own_enc x_))]))
        obtain ⟨T120, X120, e120, st120⟩ := getF X118 hx hZ hown (host := "") (Or.inl (hw _ (List.mem_of_getElem? (i := 10) rfl))) Via.refl e118 q0 (g := (mkF m 14 #[.val (.ref a1), .val (.int q_), .val (.double (own_enc x_)), .second, .val (.int i)] [(.ref a1), (.double (own_enc x_))])) rfl rfl (hb hby own_d6_14)
        refine own_st (st120) ?_
        show own_Go p.tables e below _ (T120.setTop (mkF m 17 #[.val (.ref a1), .val (.int q_), .val (.double (own_enc x_)), .second, .val (.int i)] [(.ref b), (.double (own_enc x_))]))
        refine own_st (fun t_ k_ => XS.iload X120.here hx rfl (hb hby own_d6_17) rfl k_) ?_
        show own_Go p.tables e below _ (T120.setTop (mkF m 19 #[.val (.ref a1), .val (.int q_), .val (.double (own_enc x_)), .second, .val (.int i)] [(.int i), (.ref b), (.double (own_enc x_))]))
        refine own_st (own_daload X120 hx hZ e120 q1 (i := k) hi (by omega) (g := (mkF m 19 #[.val (.ref a1), .val (.int q_), .val (.double (own_enc x_)), .second, .val (.int i)] [(.int i), (.ref b), (.double (own_enc x_))])) rfl rfl (hb hby own_d6_19)) ?_
        show own_Go p.tables e below _ (T120.setTop (mkF m 20 #[.val (.ref a1), .val (.int q_), .val (.double (own_enc x_)), .second, .val (.int i)] [(.double ((own_en f) k)), (.double (own_enc x_))]))
        obtain ⟨T121, X121, e121, st121⟩ := natS X120 hx hZ hown (hw _ (List.mem_of_getElem? (i := 22) rfl)) (hw _ (List.mem_of_getElem? (i := 23) rfl)) (hw _ (List.mem_of_getElem? (i := 24) rfl)) (hw _ (List.mem_of_getElem? (i := 25) rfl)) (by decide) e120 (W := 0) (val' := (.double (own_enc (own_mx x_ (f k))))) (fun hc_ => Fl.Abs.maxD_pays (own_enc x_) ((own_en f) k) hc_ (by decide) (by decide)) (g := (mkF m 20 #[.val (.ref a1), .val (.int q_), .val (.double (own_enc x_)), .second, .val (.int i)] [(.double ((own_en f) k)), (.double (own_enc x_))])) rfl (by rw [hml]; rfl) (argsL := [(.double (own_enc x_)), (.double ((own_en f) k))]) (rest := []) (lenOf own_pd1 rfl) rfl (by show 2 * 0 + _ ≤ _; exact Nat.le_of_eq rfl) (hb hby own_d6_20) (by decide) (by decide) ⟨rfl, (own_encn _), (own_encn _)⟩ (congrArg Value.double (own_pick x_ (f k)))
        refine own_st (st121) ?_
        show own_Go p.tables e below _ (T121.setTop (mkF m 23 #[.val (.ref a1), .val (.int q_), .val (.double (own_enc x_)), .second, .val (.int i)] [(.double (own_enc (own_mx x_ (f k))))]))
        refine own_st (fun t_ k_ => XS.dstoreN X121.here hx rfl (hb hby own_d6_23) rfl (l' := #[.val (.ref a1), .val (.int q_), .val (.double (own_enc (own_mx x_ (f k)))), .second, .val (.int i)]) rfl k_) ?_
        show own_Go p.tables e below _ (T121.setTop (mkF m 24 #[.val (.ref a1), .val (.int q_), .val (.double (own_enc (own_mx x_ (f k)))), .second, .val (.int i)] []))
        refine own_st (fun t_ k_ => XS.iload X121.here hx rfl (hb hby own_d6_24) rfl k_) ?_
        show own_Go p.tables e below _ (T121.setTop (mkF m 26 #[.val (.ref a1), .val (.int q_), .val (.double (own_enc (own_mx x_ (f k)))), .second, .val (.int i)] [(.int i)]))
        refine own_st (fun t_ k_ => XS.iload X121.here hx rfl (hb hby own_d6_26) rfl k_) ?_
        show own_Go p.tables e below _ (T121.setTop (mkF m 28 #[.val (.ref a1), .val (.int q_), .val (.double (own_enc (own_mx x_ (f k)))), .second, .val (.int i)] [(.int i), (.int i)]))
        refine own_st (fun t_ k_ => XS.iload X121.here hx rfl (hb hby own_d6_28) rfl k_) ?_
        show own_Go p.tables e below _ (T121.setTop (mkF m 30 #[.val (.ref a1), .val (.int q_), .val (.double (own_enc (own_mx x_ (f k)))), .second, .val (.int i)] [(.int i), (.int i), (.int i)]))
        refine own_st (fun t_ k_ => XS.ineg X121.here hx rfl (hb hby own_d6_30) rfl k_) ?_
        show own_Go p.tables e below _ (T121.setTop (mkF m 31 #[.val (.ref a1), .val (.int q_), .val (.double (own_enc (own_mx x_ (f k)))), .second, .val (.int i)] [(.int (-i)), (.int i), (.int i)]))
        refine own_st (fun t_ k_ => XS.iand X121.here hx rfl (hb hby own_d6_31) rfl k_) ?_
        show own_Go p.tables e below _ (T121.setTop (mkF m 32 #[.val (.ref a1), .val (.int q_), .val (.double (own_enc (own_mx x_ (f k)))), .second, .val (.int i)] [(.int (i &&& (-i))), (.int i)]))
        refine own_st (fun t_ k_ => XS.isub X121.here hx rfl (hb hby own_d6_32) rfl k_) ?_
        show own_Go p.tables e below _ (T121.setTop (mkF m 33 #[.val (.ref a1), .val (.int q_), .val (.double (own_enc (own_mx x_ (f k)))), .second, .val (.int i)] [(.int (i - (i &&& (-i))))]))
        refine own_st (fun t_ k_ => XS.istore X121.here hx rfl (hb hby own_d6_33) rfl (l' := #[.val (.ref a1), .val (.int q_), .val (.double (own_enc (own_mx x_ (f k)))), .second, .val (.int (i - (i &&& (-i))))]) rfl k_) ?_
        show own_Go p.tables e below _ (T121.setTop (mkF m 35 #[.val (.ref a1), .val (.int q_), .val (.double (own_enc (own_mx x_ (f k)))), .second, .val (.int (i - (i &&& (-i))))] []))
        refine own_st (fun t_ k_ => XS.goto X121.here hx rfl (pc0 := 35) (pc' := 7) rfl (hb hby own_d6_35) (by decide) (by decide) k_) ?_
        show own_Go p.tables e below _ (T121.setTop (mkF m 7 #[.val (.ref a1), .val (.int q_), .val (.double (own_enc (own_mx x_ (f k)))), .second, .val (.int (i - (i &&& (-i))))] []))
        exact ih118 _ (by omega) (k - own_low k) (i - (i &&& (-i))) (own_mx x_ (f k)) u_ T121 _ rfl X121 e121 N118 (own_pv hi hkn (by omega)) (by omega) (by have := own_lowp k; omega) hR
      · skip
        have hkn : k = 0 := by have q := c9_119; rw [Int32.lt_iff_toInt_lt, hi] at q; have z32 : (0 : Int32).toInt = 0 := (by decide); omega
        subst hkn
        rw [own_bf_out] at hR
        refine own_st (fun t_ k_ => XS.ifYes X118.here hx rfl (pc0 := 9) (pc' := 38) rfl (hb hby own_d6_9) rfl ((if0 _ _).trans (flt c9_119).2.2.2) (by decide) (by decide) k_) ?_
        show own_Go p.tables e below _ (T118.setTop (mkF m 38 #[.val (.ref a1), .val (.int q_), .val (.double (own_enc x_)), .second, .val (.int i)] []))
        refine own_st (fun t_ k_ => XS.dloadN X118.here hx rfl (hb hby own_d6_38) rfl k_) ?_
        show own_Go p.tables e below _ (T118.setTop (mkF m 39 #[.val (.ref a1), .val (.int q_), .val (.double (own_enc x_)), .second, .val (.int i)] [(.double (own_enc x_))]))
        exact own_ret (w := (.double (own_enc x_))) X118 hx hnl Bd.returns rfl (Or.inr (Or.inr (Or.inl ⟨rfl, rfl, _, rfl⟩))) (hb hby own_d6_39) ⟨(by rw [hR]), N118, e118⟩ (by decide) (by decide)
  exact loop118 _ qn q_ none 17 s₁ _ rfl X0 e0 N0 hq.1 (Nat.le_refl _) (by omega) rfl


def own_step (e q v : Int32) (r : UInt64) : UInt64 := if q < e then (if (0 : Int32) < cmpValue (FP.dcmp (FP.i2d v) r) .l then FP.i2d v else r) else r
theorem own_stepE {e q v : Int32} {en qn : Nat} (he : e.toInt = (en : Int)) (hq : q.toInt = (qn : Int)) (x : Option Int32) : own_step e q v (own_enc x) = own_enc (own_mx x (if qn < en then some v else none)) := by
  have h1 : q < e ↔ qn < en := by rw [Int32.lt_iff_toInt_lt, he, hq]; omega
  unfold own_step
  by_cases c : qn < en
  · rw [if_pos (h1.mpr c), if_pos c]
    cases x with
    | none =>
      have h : FP.dcmp (FP.i2d v) 18442240474082181120 = some .gt := (FP.Core.fin_lt_inf (FP.Core.i2d_fin v)).2.1
      show (if (0 : Int32) < cmpValue (FP.dcmp (FP.i2d v) 18442240474082181120) .l then _ else _) = _
      rw [h]; rfl
    | some a =>
      show (if (0 : Int32) < cmpValue (FP.dcmp (FP.i2d v) (FP.i2d a)) .l then FP.i2d v else FP.i2d a) = FP.i2d (if a < v then v else a)
      simp only [own_dcmp, own_gt]
      by_cases r : a < v <;> simp [r]
  · rw [if_neg (fun z => c (h1.mp z)), if_neg c, own_mx_none]
theorem own_law {s e q1 q2 q3 : Nat} (hs : s ≤ 16) (he : e ≤ s) (h1 : q1 < s) (h2 : q2 < s) (h3 : q3 < s) (v1 v2 v3 : Int32) :
    own_bf (own_rs (s + 1) (some v3) 17 (q3 + 1) (own_rs (s + 1) (some v2) 17 (q2 + 1) (own_rs (s + 1) (some v1) 17 (q1 + 1) (fun _ => none)))) 17 e none = own_mx (own_mx (own_mx none (if q1 < e then some v1 else none)) (if q2 < e then some v2 else none)) (if q3 < e then some v3 else none) := by
  rw [own_one hs h3 he, own_one hs h2 he, own_one hs h1 he, own_bf_none]
theorem own_same (x : Option Int32) (o : CmpOp) : cmpValue (FP.dcmp (own_enc x) (own_enc x)) o = 0 := dcmpV_self (own_encn x) o
theorem own_and7 (x : Int32) : 0 ≤ (x &&& 7).toInt ∧ (x &&& 7).toInt ≤ 7 := by
  rw [c_mask x 7 3 (by decide) (by decide)]
  have e : ((2 ^ 3 : Nat) : Int) = 8 := by decide
  rw [e]; omega
theorem own_and15 (x : Int32) : 0 ≤ (x &&& 15).toInt ∧ (x &&& 15).toInt ≤ 15 := by
  rw [c_mask x 15 4 (by decide) (by decide)]
  have e : ((2 ^ 4 : Nat) : Int) = 16 := by decide
  rw [e]; omega
theorem own_remN {x y : Int32} {n : Nat} (h : 0 ≤ x.toInt) (hy : y.toInt = (n : Int)) (hn : 0 < n) : ∃ k : Nat, k < n ∧ (x % y).toInt = (k : Int) := by
  have q := (c_irem x y n hy).1 h
  have b1 := Int.emod_nonneg x.toInt (show (n : Int) ≠ 0 by omega)
  have b2 := Int.emod_lt_of_pos x.toInt (show (0 : Int) < n by omega)
  exact ⟨(x.toInt % n).toNat, by omega, by rw [q]; omega⟩

theorem own_d7_0 : decode method_2_code 0 = .ok (.ldc2_w 9, 3) := by decide +kernel
theorem own_d7_3 : decode method_2_code 3 = .ok (.dstore 10, 2) := by decide +kernel
theorem own_d7_5 : decode method_2_code 5 = .ok (.iload_n 1, 1) := by decide +kernel
theorem own_d7_6 : decode method_2_code 6 = .ok (.iload_n 0, 1) := by decide +kernel
theorem own_d7_7 : decode method_2_code 7 = .ok (.if_icmp .ge 13, 3) := by decide +kernel
theorem own_d7_10 : decode method_2_code 10 = .ok (.dload_n 2, 1) := by decide +kernel
theorem own_d7_11 : decode method_2_code 11 = .ok (.dload 10, 2) := by decide +kernel
theorem own_d7_13 : decode method_2_code 13 = .ok (.dcmp .l, 1) := by decide +kernel
theorem own_d7_14 : decode method_2_code 14 = .ok (.ifCond .le 6, 3) := by decide +kernel
theorem own_d7_17 : decode method_2_code 17 = .ok (.dload_n 2, 1) := by decide +kernel
theorem own_d7_18 : decode method_2_code 18 = .ok (.dstore 10, 2) := by decide +kernel
theorem own_d7_20 : decode method_2_code 20 = .ok (.iload 4, 2) := by decide +kernel
theorem own_d7_22 : decode method_2_code 22 = .ok (.iload_n 0, 1) := by decide +kernel
theorem own_d7_23 : decode method_2_code 23 = .ok (.if_icmp .ge 15, 3) := by decide +kernel
theorem own_d7_26 : decode method_2_code 26 = .ok (.dload 5, 2) := by decide +kernel
theorem own_d7_28 : decode method_2_code 28 = .ok (.dload 10, 2) := by decide +kernel
theorem own_d7_30 : decode method_2_code 30 = .ok (.dcmp .l, 1) := by decide +kernel
theorem own_d7_31 : decode method_2_code 31 = .ok (.ifCond .le 7, 3) := by decide +kernel
theorem own_d7_34 : decode method_2_code 34 = .ok (.dload 5, 2) := by decide +kernel
theorem own_d7_36 : decode method_2_code 36 = .ok (.dstore 10, 2) := by decide +kernel
theorem own_d7_38 : decode method_2_code 38 = .ok (.iload 7, 2) := by decide +kernel
theorem own_d7_40 : decode method_2_code 40 = .ok (.iload_n 0, 1) := by decide +kernel
theorem own_d7_41 : decode method_2_code 41 = .ok (.if_icmp .ge 15, 3) := by decide +kernel
theorem own_d7_44 : decode method_2_code 44 = .ok (.dload 8, 2) := by decide +kernel
theorem own_d7_46 : decode method_2_code 46 = .ok (.dload 10, 2) := by decide +kernel
theorem own_d7_48 : decode method_2_code 48 = .ok (.dcmp .l, 1) := by decide +kernel
theorem own_d7_49 : decode method_2_code 49 = .ok (.ifCond .le 7, 3) := by decide +kernel
theorem own_d7_52 : decode method_2_code 52 = .ok (.dload 8, 2) := by decide +kernel
theorem own_d7_54 : decode method_2_code 54 = .ok (.dstore 10, 2) := by decide +kernel
theorem own_d7_56 : decode method_2_code 56 = .ok (.dload 10, 2) := by decide +kernel
theorem own_d7_58 : decode method_2_code 58 = .ok (.dreturn, 1) := by decide +kernel
theorem own_pn2 : plainName "com/example/seshat/seshat/layout/PrefixMaximumRaisePinLaw" = true := by first | (simp [plainName, overriddenIn]; done) | decide +kernel
theorem own_ef7 (m : MethodId) (x0 : Int32) (x1 : Int32) (x2 : UInt64) (x3 : Int32) (x4 : UInt64) (x5 : Int32) (x6 : UInt64) : entryFrame m #[(.int x0), (.int x1), (.double x2), (.int x3), (.double x4), (.int x5), (.double x6)] 12 = mkF m 0 #[.val (.int x0), .val (.int x1), .val (.double x2), .second, .val (.int x3), .val (.double x4), .second, .val (.int x5), .val (.double x6), .second, .unset, .unset] [] := by first | (simp [entryFrame, mkF, argsToLocals, Value.category]; done) | rfl
def own_Q7 (Z : State) (e_ : Int32) (q1 : Int32) (v1 : Int32) (q2 : Int32) (v2 : Int32) (q3 : Int32) (v3 : Int32) (h0 : Heap) (n0 : Nat) (v : Option Value) (h : Heap) (L : List Loc) : Prop := v = some (.double (own_step e_ q3 v3 (own_step e_ q2 v2 (own_step e_ q1 v1 (18442240474082181120 : UInt64))))) ∧ Fr n0 L ∧ h = h0
set_option maxRecDepth 65536 in
set_option maxHeartbeats 40000000 in
theorem own_rm7 (l : Launch) (Z : State) (a0 : Array Value) (hw : ∀ d ∈ tables_1, d.before a0 Z = true) (ws : List Jvm.Cond) (e_ : Int32) (q1 : Int32) (v1 : Int32) (q2 : Int32) (v2 : Int32) (q3 : Int32) (v3 : Int32) (h0 : Heap) (n0 : Nat) (Z0 : n0 ≤ h0.size)  :
    MetFree l (⟨"com/example/seshat/seshat/layout/PrefixMaximumRaisePinLaw", "ref", "(IIDIDID)D"⟩ : MethodName) (head1 (Jvm.Cond.code (⟨"com/example/seshat/seshat/layout/PrefixMaximumRaisePinLaw", "ref", "(IIDIDID)D"⟩ : MethodName) method_2_code 12 (some .double) :: ws) ({ frames := 0, cells := 0, slots := 0, locals := 0 } : Room)) (fun a U => a = #[(.int e_), (.int q1), (.double (FP.i2d v1)), (.int q2), (.double (FP.i2d v2)), (.int q3), (.double (FP.i2d v3))] ∧ Z.Warmed39 U.vm ∧ U.heap = h0) (fun _ _ _ _ _ => True) (fun _ U o U' => ∃ v L, o = .returned v ∧ own_Q7 Z e_ q1 v1 q2 v2 q3 v3 h0 n0 v U'.heap L ∧ FrameEnd U o U' L ({ frames := 0, cells := 0, slots := 0, locals := 0 } : Room).cells ({ frames := 0, cells := 0, slots := 0, locals := 0 } : Room).slots) := by
  refine MetFree.of_bodySF (plainFor_of_name own_pn2) hisR ?_
  intro p e s m args below meth c s₁ Bd hml0 hP hK
  obtain ⟨rfl, hZ, hh⟩ := hP
  have hx := Bd.exec
  have hby := Bd.bytes
  have hml : c.maxLocals = 12 := hml0
  have hown : s.vm.findClass "com/example/seshat/seshat/layout/PrefixMaximumRaisePinLaw" = some m.cls := findClass_of_methodNamed Bd.named
  have hnm := (name_of_methodNamed Bd.named Bd.method).1
  have hnl : meth.locks = false := Bd.notSynchronized
  have X0 : Stand p l e ({ frames := 0, cells := 0, slots := 0, locals := 0 } : Room) s m #[(.int e_), (.int q1), (.double (FP.i2d v1)), (.int q2), (.double (FP.i2d v2)), (.int q3), (.double (FP.i2d v3))] below meth c s₁ [] 0 0 := Stand.of_body Bd
  have e0 : s₁.heap = h0 := by rw [← hh, Bd.state]; rfl
  have N0 := Fr.nil n0
  show own_Go p.tables e below (own_P below s (own_Q7 Z e_ q1 v1 q2 v2 q3 v3 h0 n0) ({ frames := 0, cells := 0, slots := 0, locals := 0 } : Room).cells ({ frames := 0, cells := 0, slots := 0, locals := 0 } : Room).slots) _
  refine own_st (fun t_ k_ => castTop (own_ef7 m e_ q1 (FP.i2d v1) q2 (FP.i2d v2) q3 (FP.i2d v3)) k_) ?_
  show own_Go p.tables e below _ (s₁.setTop (mkF m 0 #[.val (.int e_), .val (.int q1), .val (.double (FP.i2d v1)), .second, .val (.int q2), .val (.double (FP.i2d v2)), .second, .val (.int q3), .val (.double (FP.i2d v3)), .second, .unset, .unset] []))
  refine own_st (X0.ldc2DoubleC hx hown (mvT hZ (hw _ (List.mem_of_getElem? (i := 35) rfl))) (g := (mkF m 0 #[.val (.int e_), .val (.int q1), .val (.double (FP.i2d v1)), .second, .val (.int q2), .val (.double (FP.i2d v2)), .second, .val (.int q3), .val (.double (FP.i2d v3)), .second, .unset, .unset] [])) rfl (hb hby own_d7_0)) ?_
  show own_Go p.tables e below _ (s₁.setTop (mkF m 3 #[.val (.int e_), .val (.int q1), .val (.double (FP.i2d v1)), .second, .val (.int q2), .val (.double (FP.i2d v2)), .second, .val (.int q3), .val (.double (FP.i2d v3)), .second, .unset, .unset] [(.double (18442240474082181120 : UInt64))]))
  refine own_st (fun t_ k_ => XS.dstore X0.here hx rfl (hb hby own_d7_3) rfl (l' := #[.val (.int e_), .val (.int q1), .val (.double (FP.i2d v1)), .second, .val (.int q2), .val (.double (FP.i2d v2)), .second, .val (.int q3), .val (.double (FP.i2d v3)), .second, .val (.double (18442240474082181120 : UInt64)), .second]) rfl k_) ?_
  show own_Go p.tables e below _ (s₁.setTop (mkF m 5 #[.val (.int e_), .val (.int q1), .val (.double (FP.i2d v1)), .second, .val (.int q2), .val (.double (FP.i2d v2)), .second, .val (.int q3), .val (.double (FP.i2d v3)), .second, .val (.double (18442240474082181120 : UInt64)), .second] []))
  refine own_st (fun t_ k_ => XS.iloadN X0.here hx rfl (hb hby own_d7_5) rfl k_) ?_
  show own_Go p.tables e below _ (s₁.setTop (mkF m 6 #[.val (.int e_), .val (.int q1), .val (.double (FP.i2d v1)), .second, .val (.int q2), .val (.double (FP.i2d v2)), .second, .val (.int q3), .val (.double (FP.i2d v3)), .second, .val (.double (18442240474082181120 : UInt64)), .second] [(.int q1)]))
  refine own_st (fun t_ k_ => XS.iloadN X0.here hx rfl (hb hby own_d7_6) rfl k_) ?_
  show own_Go p.tables e below _ (s₁.setTop (mkF m 7 #[.val (.int e_), .val (.int q1), .val (.double (FP.i2d v1)), .second, .val (.int q2), .val (.double (FP.i2d v2)), .second, .val (.int q3), .val (.double (FP.i2d v3)), .second, .val (.double (18442240474082181120 : UInt64)), .second] [(.int e_), (.int q1)]))
  by_cases c7_122 : q1 < e_
  · skip
    refine own_st (fun t_ k_ => XS.icmpNo X0.here hx rfl (hb hby own_d7_7) rfl (tlt c7_122).2.1 k_) ?_
    show own_Go p.tables e below _ (s₁.setTop (mkF m 10 #[.val (.int e_), .val (.int q1), .val (.double (FP.i2d v1)), .second, .val (.int q2), .val (.double (FP.i2d v2)), .second, .val (.int q3), .val (.double (FP.i2d v3)), .second, .val (.double (18442240474082181120 : UInt64)), .second] []))
    refine own_st (fun t_ k_ => XS.dloadN X0.here hx rfl (hb hby own_d7_10) rfl k_) ?_
    show own_Go p.tables e below _ (s₁.setTop (mkF m 11 #[.val (.int e_), .val (.int q1), .val (.double (FP.i2d v1)), .second, .val (.int q2), .val (.double (FP.i2d v2)), .second, .val (.int q3), .val (.double (FP.i2d v3)), .second, .val (.double (18442240474082181120 : UInt64)), .second] [(.double (FP.i2d v1))]))
    refine own_st (fun t_ k_ => XS.dload X0.here hx rfl (hb hby own_d7_11) rfl k_) ?_
    show own_Go p.tables e below _ (s₁.setTop (mkF m 13 #[.val (.int e_), .val (.int q1), .val (.double (FP.i2d v1)), .second, .val (.int q2), .val (.double (FP.i2d v2)), .second, .val (.int q3), .val (.double (FP.i2d v3)), .second, .val (.double (18442240474082181120 : UInt64)), .second] [(.double (18442240474082181120 : UInt64)), (.double (FP.i2d v1))]))
    refine own_st (fun t_ k_ => XS.dcmpS X0.here hx rfl (hb hby own_d7_13) rfl rfl k_) ?_
    show own_Go p.tables e below _ (s₁.setTop (mkF m 14 #[.val (.int e_), .val (.int q1), .val (.double (FP.i2d v1)), .second, .val (.int q2), .val (.double (FP.i2d v2)), .second, .val (.int q3), .val (.double (FP.i2d v3)), .second, .val (.double (18442240474082181120 : UInt64)), .second] [(.int (cmpValue (FP.dcmp (FP.i2d v1) (18442240474082181120 : UInt64)) .l))]))
    by_cases c14_123 : (0 : Int32) < (cmpValue (FP.dcmp (FP.i2d v1) (18442240474082181120 : UInt64)) .l)
    · skip
      refine own_st (fun t_ k_ => XS.ifNo X0.here hx rfl (hb hby own_d7_14) rfl ((if0 _ _).trans (tlt c14_123).2.2.2) k_) ?_
      show own_Go p.tables e below _ (s₁.setTop (mkF m 17 #[.val (.int e_), .val (.int q1), .val (.double (FP.i2d v1)), .second, .val (.int q2), .val (.double (FP.i2d v2)), .second, .val (.int q3), .val (.double (FP.i2d v3)), .second, .val (.double (18442240474082181120 : UInt64)), .second] []))
      refine own_st (fun t_ k_ => XS.dloadN X0.here hx rfl (hb hby own_d7_17) rfl k_) ?_
      show own_Go p.tables e below _ (s₁.setTop (mkF m 18 #[.val (.int e_), .val (.int q1), .val (.double (FP.i2d v1)), .second, .val (.int q2), .val (.double (FP.i2d v2)), .second, .val (.int q3), .val (.double (FP.i2d v3)), .second, .val (.double (18442240474082181120 : UInt64)), .second] [(.double (FP.i2d v1))]))
      refine own_st (fun t_ k_ => XS.dstore X0.here hx rfl (hb hby own_d7_18) rfl (l' := #[.val (.int e_), .val (.int q1), .val (.double (FP.i2d v1)), .second, .val (.int q2), .val (.double (FP.i2d v2)), .second, .val (.int q3), .val (.double (FP.i2d v3)), .second, .val (.double (FP.i2d v1)), .second]) rfl k_) ?_
      show own_Go p.tables e below _ (s₁.setTop (mkF m 20 #[.val (.int e_), .val (.int q1), .val (.double (FP.i2d v1)), .second, .val (.int q2), .val (.double (FP.i2d v2)), .second, .val (.int q3), .val (.double (FP.i2d v3)), .second, .val (.double (FP.i2d v1)), .second] []))
      refine own_st (fun t_ k_ => XS.iload X0.here hx rfl (hb hby own_d7_20) rfl k_) ?_
      show own_Go p.tables e below _ (s₁.setTop (mkF m 22 #[.val (.int e_), .val (.int q1), .val (.double (FP.i2d v1)), .second, .val (.int q2), .val (.double (FP.i2d v2)), .second, .val (.int q3), .val (.double (FP.i2d v3)), .second, .val (.double (FP.i2d v1)), .second] [(.int q2)]))
      refine own_st (fun t_ k_ => XS.iloadN X0.here hx rfl (hb hby own_d7_22) rfl k_) ?_
      show own_Go p.tables e below _ (s₁.setTop (mkF m 23 #[.val (.int e_), .val (.int q1), .val (.double (FP.i2d v1)), .second, .val (.int q2), .val (.double (FP.i2d v2)), .second, .val (.int q3), .val (.double (FP.i2d v3)), .second, .val (.double (FP.i2d v1)), .second] [(.int e_), (.int q2)]))
      by_cases c23_124 : q2 < e_
      · skip
        refine own_st (fun t_ k_ => XS.icmpNo X0.here hx rfl (hb hby own_d7_23) rfl (tlt c23_124).2.1 k_) ?_
        show own_Go p.tables e below _ (s₁.setTop (mkF m 26 #[.val (.int e_), .val (.int q1), .val (.double (FP.i2d v1)), .second, .val (.int q2), .val (.double (FP.i2d v2)), .second, .val (.int q3), .val (.double (FP.i2d v3)), .second, .val (.double (FP.i2d v1)), .second] []))
        refine own_st (fun t_ k_ => XS.dload X0.here hx rfl (hb hby own_d7_26) rfl k_) ?_
        show own_Go p.tables e below _ (s₁.setTop (mkF m 28 #[.val (.int e_), .val (.int q1), .val (.double (FP.i2d v1)), .second, .val (.int q2), .val (.double (FP.i2d v2)), .second, .val (.int q3), .val (.double (FP.i2d v3)), .second, .val (.double (FP.i2d v1)), .second] [(.double (FP.i2d v2))]))
        refine own_st (fun t_ k_ => XS.dload X0.here hx rfl (hb hby own_d7_28) rfl k_) ?_
        show own_Go p.tables e below _ (s₁.setTop (mkF m 30 #[.val (.int e_), .val (.int q1), .val (.double (FP.i2d v1)), .second, .val (.int q2), .val (.double (FP.i2d v2)), .second, .val (.int q3), .val (.double (FP.i2d v3)), .second, .val (.double (FP.i2d v1)), .second] [(.double (FP.i2d v1)), (.double (FP.i2d v2))]))
        refine own_st (fun t_ k_ => XS.dcmpS X0.here hx rfl (hb hby own_d7_30) rfl rfl k_) ?_
        show own_Go p.tables e below _ (s₁.setTop (mkF m 31 #[.val (.int e_), .val (.int q1), .val (.double (FP.i2d v1)), .second, .val (.int q2), .val (.double (FP.i2d v2)), .second, .val (.int q3), .val (.double (FP.i2d v3)), .second, .val (.double (FP.i2d v1)), .second] [(.int (cmpValue (FP.dcmp (FP.i2d v2) (FP.i2d v1)) .l))]))
        by_cases c31_125 : (0 : Int32) < (cmpValue (FP.dcmp (FP.i2d v2) (FP.i2d v1)) .l)
        · skip
          refine own_st (fun t_ k_ => XS.ifNo X0.here hx rfl (hb hby own_d7_31) rfl ((if0 _ _).trans (tlt c31_125).2.2.2) k_) ?_
          show own_Go p.tables e below _ (s₁.setTop (mkF m 34 #[.val (.int e_), .val (.int q1), .val (.double (FP.i2d v1)), .second, .val (.int q2), .val (.double (FP.i2d v2)), .second, .val (.int q3), .val (.double (FP.i2d v3)), .second, .val (.double (FP.i2d v1)), .second] []))
          refine own_st (fun t_ k_ => XS.dload X0.here hx rfl (hb hby own_d7_34) rfl k_) ?_
          show own_Go p.tables e below _ (s₁.setTop (mkF m 36 #[.val (.int e_), .val (.int q1), .val (.double (FP.i2d v1)), .second, .val (.int q2), .val (.double (FP.i2d v2)), .second, .val (.int q3), .val (.double (FP.i2d v3)), .second, .val (.double (FP.i2d v1)), .second] [(.double (FP.i2d v2))]))
          refine own_st (fun t_ k_ => XS.dstore X0.here hx rfl (hb hby own_d7_36) rfl (l' := #[.val (.int e_), .val (.int q1), .val (.double (FP.i2d v1)), .second, .val (.int q2), .val (.double (FP.i2d v2)), .second, .val (.int q3), .val (.double (FP.i2d v3)), .second, .val (.double (FP.i2d v2)), .second]) rfl k_) ?_
          show own_Go p.tables e below _ (s₁.setTop (mkF m 38 #[.val (.int e_), .val (.int q1), .val (.double (FP.i2d v1)), .second, .val (.int q2), .val (.double (FP.i2d v2)), .second, .val (.int q3), .val (.double (FP.i2d v3)), .second, .val (.double (FP.i2d v2)), .second] []))
          refine own_st (fun t_ k_ => XS.iload X0.here hx rfl (hb hby own_d7_38) rfl k_) ?_
          show own_Go p.tables e below _ (s₁.setTop (mkF m 40 #[.val (.int e_), .val (.int q1), .val (.double (FP.i2d v1)), .second, .val (.int q2), .val (.double (FP.i2d v2)), .second, .val (.int q3), .val (.double (FP.i2d v3)), .second, .val (.double (FP.i2d v2)), .second] [(.int q3)]))
          refine own_st (fun t_ k_ => XS.iloadN X0.here hx rfl (hb hby own_d7_40) rfl k_) ?_
          show own_Go p.tables e below _ (s₁.setTop (mkF m 41 #[.val (.int e_), .val (.int q1), .val (.double (FP.i2d v1)), .second, .val (.int q2), .val (.double (FP.i2d v2)), .second, .val (.int q3), .val (.double (FP.i2d v3)), .second, .val (.double (FP.i2d v2)), .second] [(.int e_), (.int q3)]))
          by_cases c41_126 : q3 < e_
          · skip
            refine own_st (fun t_ k_ => XS.icmpNo X0.here hx rfl (hb hby own_d7_41) rfl (tlt c41_126).2.1 k_) ?_
            show own_Go p.tables e below _ (s₁.setTop (mkF m 44 #[.val (.int e_), .val (.int q1), .val (.double (FP.i2d v1)), .second, .val (.int q2), .val (.double (FP.i2d v2)), .second, .val (.int q3), .val (.double (FP.i2d v3)), .second, .val (.double (FP.i2d v2)), .second] []))
            refine own_st (fun t_ k_ => XS.dload X0.here hx rfl (hb hby own_d7_44) rfl k_) ?_
            show own_Go p.tables e below _ (s₁.setTop (mkF m 46 #[.val (.int e_), .val (.int q1), .val (.double (FP.i2d v1)), .second, .val (.int q2), .val (.double (FP.i2d v2)), .second, .val (.int q3), .val (.double (FP.i2d v3)), .second, .val (.double (FP.i2d v2)), .second] [(.double (FP.i2d v3))]))
            refine own_st (fun t_ k_ => XS.dload X0.here hx rfl (hb hby own_d7_46) rfl k_) ?_
            show own_Go p.tables e below _ (s₁.setTop (mkF m 48 #[.val (.int e_), .val (.int q1), .val (.double (FP.i2d v1)), .second, .val (.int q2), .val (.double (FP.i2d v2)), .second, .val (.int q3), .val (.double (FP.i2d v3)), .second, .val (.double (FP.i2d v2)), .second] [(.double (FP.i2d v2)), (.double (FP.i2d v3))]))
            refine own_st (fun t_ k_ => XS.dcmpS X0.here hx rfl (hb hby own_d7_48) rfl rfl k_) ?_
            show own_Go p.tables e below _ (s₁.setTop (mkF m 49 #[.val (.int e_), .val (.int q1), .val (.double (FP.i2d v1)), .second, .val (.int q2), .val (.double (FP.i2d v2)), .second, .val (.int q3), .val (.double (FP.i2d v3)), .second, .val (.double (FP.i2d v2)), .second] [(.int (cmpValue (FP.dcmp (FP.i2d v3) (FP.i2d v2)) .l))]))
            by_cases c49_127 : (0 : Int32) < (cmpValue (FP.dcmp (FP.i2d v3) (FP.i2d v2)) .l)
            · skip
              refine own_st (fun t_ k_ => XS.ifNo X0.here hx rfl (hb hby own_d7_49) rfl ((if0 _ _).trans (tlt c49_127).2.2.2) k_) ?_
              show own_Go p.tables e below _ (s₁.setTop (mkF m 52 #[.val (.int e_), .val (.int q1), .val (.double (FP.i2d v1)), .second, .val (.int q2), .val (.double (FP.i2d v2)), .second, .val (.int q3), .val (.double (FP.i2d v3)), .second, .val (.double (FP.i2d v2)), .second] []))
              refine own_st (fun t_ k_ => XS.dload X0.here hx rfl (hb hby own_d7_52) rfl k_) ?_
              show own_Go p.tables e below _ (s₁.setTop (mkF m 54 #[.val (.int e_), .val (.int q1), .val (.double (FP.i2d v1)), .second, .val (.int q2), .val (.double (FP.i2d v2)), .second, .val (.int q3), .val (.double (FP.i2d v3)), .second, .val (.double (FP.i2d v2)), .second] [(.double (FP.i2d v3))]))
              refine own_st (fun t_ k_ => XS.dstore X0.here hx rfl (hb hby own_d7_54) rfl (l' := #[.val (.int e_), .val (.int q1), .val (.double (FP.i2d v1)), .second, .val (.int q2), .val (.double (FP.i2d v2)), .second, .val (.int q3), .val (.double (FP.i2d v3)), .second, .val (.double (FP.i2d v3)), .second]) rfl k_) ?_
              show own_Go p.tables e below _ (s₁.setTop (mkF m 56 #[.val (.int e_), .val (.int q1), .val (.double (FP.i2d v1)), .second, .val (.int q2), .val (.double (FP.i2d v2)), .second, .val (.int q3), .val (.double (FP.i2d v3)), .second, .val (.double (FP.i2d v3)), .second] []))
              refine own_st (fun t_ k_ => XS.dload X0.here hx rfl (hb hby own_d7_56) rfl k_) ?_
              show own_Go p.tables e below _ (s₁.setTop (mkF m 58 #[.val (.int e_), .val (.int q1), .val (.double (FP.i2d v1)), .second, .val (.int q2), .val (.double (FP.i2d v2)), .second, .val (.int q3), .val (.double (FP.i2d v3)), .second, .val (.double (FP.i2d v3)), .second] [(.double (FP.i2d v3))]))
              exact own_ret (w := (.double (FP.i2d v3))) X0 hx hnl Bd.returns rfl (Or.inr (Or.inr (Or.inl ⟨rfl, rfl, _, rfl⟩))) (hb hby own_d7_58) ⟨(by simp [own_step, c7_122, c14_123, c23_124, c31_125, c41_126, c49_127]), N0, e0⟩ (by decide) (by decide)
            · skip
              refine own_st (fun t_ k_ => XS.ifYes X0.here hx rfl (pc0 := 49) (pc' := 56) rfl (hb hby own_d7_49) rfl ((if0 _ _).trans (flt c49_127).2.2.2) (by decide) (by decide) k_) ?_
              show own_Go p.tables e below _ (s₁.setTop (mkF m 56 #[.val (.int e_), .val (.int q1), .val (.double (FP.i2d v1)), .second, .val (.int q2), .val (.double (FP.i2d v2)), .second, .val (.int q3), .val (.double (FP.i2d v3)), .second, .val (.double (FP.i2d v2)), .second] []))
              refine own_st (fun t_ k_ => XS.dload X0.here hx rfl (hb hby own_d7_56) rfl k_) ?_
              show own_Go p.tables e below _ (s₁.setTop (mkF m 58 #[.val (.int e_), .val (.int q1), .val (.double (FP.i2d v1)), .second, .val (.int q2), .val (.double (FP.i2d v2)), .second, .val (.int q3), .val (.double (FP.i2d v3)), .second, .val (.double (FP.i2d v2)), .second] [(.double (FP.i2d v2))]))
              exact own_ret (w := (.double (FP.i2d v2))) X0 hx hnl Bd.returns rfl (Or.inr (Or.inr (Or.inl ⟨rfl, rfl, _, rfl⟩))) (hb hby own_d7_58) ⟨(by simp [own_step, c7_122, c14_123, c23_124, c31_125, c41_126, c49_127]), N0, e0⟩ (by decide) (by decide)
          · skip
            refine own_st (fun t_ k_ => XS.icmpYes X0.here hx rfl (pc0 := 41) (pc' := 56) rfl (hb hby own_d7_41) rfl (flt c41_126).2.1 (by decide) (by decide) k_) ?_
            show own_Go p.tables e below _ (s₁.setTop (mkF m 56 #[.val (.int e_), .val (.int q1), .val (.double (FP.i2d v1)), .second, .val (.int q2), .val (.double (FP.i2d v2)), .second, .val (.int q3), .val (.double (FP.i2d v3)), .second, .val (.double (FP.i2d v2)), .second] []))
            refine own_st (fun t_ k_ => XS.dload X0.here hx rfl (hb hby own_d7_56) rfl k_) ?_
            show own_Go p.tables e below _ (s₁.setTop (mkF m 58 #[.val (.int e_), .val (.int q1), .val (.double (FP.i2d v1)), .second, .val (.int q2), .val (.double (FP.i2d v2)), .second, .val (.int q3), .val (.double (FP.i2d v3)), .second, .val (.double (FP.i2d v2)), .second] [(.double (FP.i2d v2))]))
            exact own_ret (w := (.double (FP.i2d v2))) X0 hx hnl Bd.returns rfl (Or.inr (Or.inr (Or.inl ⟨rfl, rfl, _, rfl⟩))) (hb hby own_d7_58) ⟨(by simp [own_step, c7_122, c14_123, c23_124, c31_125, c41_126]), N0, e0⟩ (by decide) (by decide)
        · skip
          refine own_st (fun t_ k_ => XS.ifYes X0.here hx rfl (pc0 := 31) (pc' := 38) rfl (hb hby own_d7_31) rfl ((if0 _ _).trans (flt c31_125).2.2.2) (by decide) (by decide) k_) ?_
          show own_Go p.tables e below _ (s₁.setTop (mkF m 38 #[.val (.int e_), .val (.int q1), .val (.double (FP.i2d v1)), .second, .val (.int q2), .val (.double (FP.i2d v2)), .second, .val (.int q3), .val (.double (FP.i2d v3)), .second, .val (.double (FP.i2d v1)), .second] []))
          refine own_st (fun t_ k_ => XS.iload X0.here hx rfl (hb hby own_d7_38) rfl k_) ?_
          show own_Go p.tables e below _ (s₁.setTop (mkF m 40 #[.val (.int e_), .val (.int q1), .val (.double (FP.i2d v1)), .second, .val (.int q2), .val (.double (FP.i2d v2)), .second, .val (.int q3), .val (.double (FP.i2d v3)), .second, .val (.double (FP.i2d v1)), .second] [(.int q3)]))
          refine own_st (fun t_ k_ => XS.iloadN X0.here hx rfl (hb hby own_d7_40) rfl k_) ?_
          show own_Go p.tables e below _ (s₁.setTop (mkF m 41 #[.val (.int e_), .val (.int q1), .val (.double (FP.i2d v1)), .second, .val (.int q2), .val (.double (FP.i2d v2)), .second, .val (.int q3), .val (.double (FP.i2d v3)), .second, .val (.double (FP.i2d v1)), .second] [(.int e_), (.int q3)]))
          by_cases c41_128 : q3 < e_
          · skip
            refine own_st (fun t_ k_ => XS.icmpNo X0.here hx rfl (hb hby own_d7_41) rfl (tlt c41_128).2.1 k_) ?_
            show own_Go p.tables e below _ (s₁.setTop (mkF m 44 #[.val (.int e_), .val (.int q1), .val (.double (FP.i2d v1)), .second, .val (.int q2), .val (.double (FP.i2d v2)), .second, .val (.int q3), .val (.double (FP.i2d v3)), .second, .val (.double (FP.i2d v1)), .second] []))
            refine own_st (fun t_ k_ => XS.dload X0.here hx rfl (hb hby own_d7_44) rfl k_) ?_
            show own_Go p.tables e below _ (s₁.setTop (mkF m 46 #[.val (.int e_), .val (.int q1), .val (.double (FP.i2d v1)), .second, .val (.int q2), .val (.double (FP.i2d v2)), .second, .val (.int q3), .val (.double (FP.i2d v3)), .second, .val (.double (FP.i2d v1)), .second] [(.double (FP.i2d v3))]))
            refine own_st (fun t_ k_ => XS.dload X0.here hx rfl (hb hby own_d7_46) rfl k_) ?_
            show own_Go p.tables e below _ (s₁.setTop (mkF m 48 #[.val (.int e_), .val (.int q1), .val (.double (FP.i2d v1)), .second, .val (.int q2), .val (.double (FP.i2d v2)), .second, .val (.int q3), .val (.double (FP.i2d v3)), .second, .val (.double (FP.i2d v1)), .second] [(.double (FP.i2d v1)), (.double (FP.i2d v3))]))
            refine own_st (fun t_ k_ => XS.dcmpS X0.here hx rfl (hb hby own_d7_48) rfl rfl k_) ?_
            show own_Go p.tables e below _ (s₁.setTop (mkF m 49 #[.val (.int e_), .val (.int q1), .val (.double (FP.i2d v1)), .second, .val (.int q2), .val (.double (FP.i2d v2)), .second, .val (.int q3), .val (.double (FP.i2d v3)), .second, .val (.double (FP.i2d v1)), .second] [(.int (cmpValue (FP.dcmp (FP.i2d v3) (FP.i2d v1)) .l))]))
            by_cases c49_129 : (0 : Int32) < (cmpValue (FP.dcmp (FP.i2d v3) (FP.i2d v1)) .l)
            · skip
              refine own_st (fun t_ k_ => XS.ifNo X0.here hx rfl (hb hby own_d7_49) rfl ((if0 _ _).trans (tlt c49_129).2.2.2) k_) ?_
              show own_Go p.tables e below _ (s₁.setTop (mkF m 52 #[.val (.int e_), .val (.int q1), .val (.double (FP.i2d v1)), .second, .val (.int q2), .val (.double (FP.i2d v2)), .second, .val (.int q3), .val (.double (FP.i2d v3)), .second, .val (.double (FP.i2d v1)), .second] []))
              refine own_st (fun t_ k_ => XS.dload X0.here hx rfl (hb hby own_d7_52) rfl k_) ?_
              show own_Go p.tables e below _ (s₁.setTop (mkF m 54 #[.val (.int e_), .val (.int q1), .val (.double (FP.i2d v1)), .second, .val (.int q2), .val (.double (FP.i2d v2)), .second, .val (.int q3), .val (.double (FP.i2d v3)), .second, .val (.double (FP.i2d v1)), .second] [(.double (FP.i2d v3))]))
              refine own_st (fun t_ k_ => XS.dstore X0.here hx rfl (hb hby own_d7_54) rfl (l' := #[.val (.int e_), .val (.int q1), .val (.double (FP.i2d v1)), .second, .val (.int q2), .val (.double (FP.i2d v2)), .second, .val (.int q3), .val (.double (FP.i2d v3)), .second, .val (.double (FP.i2d v3)), .second]) rfl k_) ?_
              show own_Go p.tables e below _ (s₁.setTop (mkF m 56 #[.val (.int e_), .val (.int q1), .val (.double (FP.i2d v1)), .second, .val (.int q2), .val (.double (FP.i2d v2)), .second, .val (.int q3), .val (.double (FP.i2d v3)), .second, .val (.double (FP.i2d v3)), .second] []))
              refine own_st (fun t_ k_ => XS.dload X0.here hx rfl (hb hby own_d7_56) rfl k_) ?_
              show own_Go p.tables e below _ (s₁.setTop (mkF m 58 #[.val (.int e_), .val (.int q1), .val (.double (FP.i2d v1)), .second, .val (.int q2), .val (.double (FP.i2d v2)), .second, .val (.int q3), .val (.double (FP.i2d v3)), .second, .val (.double (FP.i2d v3)), .second] [(.double (FP.i2d v3))]))
              exact own_ret (w := (.double (FP.i2d v3))) X0 hx hnl Bd.returns rfl (Or.inr (Or.inr (Or.inl ⟨rfl, rfl, _, rfl⟩))) (hb hby own_d7_58) ⟨(by simp [own_step, c7_122, c14_123, c23_124, c31_125, c41_128, c49_129]), N0, e0⟩ (by decide) (by decide)
            · skip
              refine own_st (fun t_ k_ => XS.ifYes X0.here hx rfl (pc0 := 49) (pc' := 56) rfl (hb hby own_d7_49) rfl ((if0 _ _).trans (flt c49_129).2.2.2) (by decide) (by decide) k_) ?_
              show own_Go p.tables e below _ (s₁.setTop (mkF m 56 #[.val (.int e_), .val (.int q1), .val (.double (FP.i2d v1)), .second, .val (.int q2), .val (.double (FP.i2d v2)), .second, .val (.int q3), .val (.double (FP.i2d v3)), .second, .val (.double (FP.i2d v1)), .second] []))
              refine own_st (fun t_ k_ => XS.dload X0.here hx rfl (hb hby own_d7_56) rfl k_) ?_
              show own_Go p.tables e below _ (s₁.setTop (mkF m 58 #[.val (.int e_), .val (.int q1), .val (.double (FP.i2d v1)), .second, .val (.int q2), .val (.double (FP.i2d v2)), .second, .val (.int q3), .val (.double (FP.i2d v3)), .second, .val (.double (FP.i2d v1)), .second] [(.double (FP.i2d v1))]))
              exact own_ret (w := (.double (FP.i2d v1))) X0 hx hnl Bd.returns rfl (Or.inr (Or.inr (Or.inl ⟨rfl, rfl, _, rfl⟩))) (hb hby own_d7_58) ⟨(by simp [own_step, c7_122, c14_123, c23_124, c31_125, c41_128, c49_129]), N0, e0⟩ (by decide) (by decide)
          · skip
            refine own_st (fun t_ k_ => XS.icmpYes X0.here hx rfl (pc0 := 41) (pc' := 56) rfl (hb hby own_d7_41) rfl (flt c41_128).2.1 (by decide) (by decide) k_) ?_
            show own_Go p.tables e below _ (s₁.setTop (mkF m 56 #[.val (.int e_), .val (.int q1), .val (.double (FP.i2d v1)), .second, .val (.int q2), .val (.double (FP.i2d v2)), .second, .val (.int q3), .val (.double (FP.i2d v3)), .second, .val (.double (FP.i2d v1)), .second] []))
            refine own_st (fun t_ k_ => XS.dload X0.here hx rfl (hb hby own_d7_56) rfl k_) ?_
            show own_Go p.tables e below _ (s₁.setTop (mkF m 58 #[.val (.int e_), .val (.int q1), .val (.double (FP.i2d v1)), .second, .val (.int q2), .val (.double (FP.i2d v2)), .second, .val (.int q3), .val (.double (FP.i2d v3)), .second, .val (.double (FP.i2d v1)), .second] [(.double (FP.i2d v1))]))
            exact own_ret (w := (.double (FP.i2d v1))) X0 hx hnl Bd.returns rfl (Or.inr (Or.inr (Or.inl ⟨rfl, rfl, _, rfl⟩))) (hb hby own_d7_58) ⟨(by simp [own_step, c7_122, c14_123, c23_124, c31_125, c41_128]), N0, e0⟩ (by decide) (by decide)
      · skip
        refine own_st (fun t_ k_ => XS.icmpYes X0.here hx rfl (pc0 := 23) (pc' := 38) rfl (hb hby own_d7_23) rfl (flt c23_124).2.1 (by decide) (by decide) k_) ?_
        show own_Go p.tables e below _ (s₁.setTop (mkF m 38 #[.val (.int e_), .val (.int q1), .val (.double (FP.i2d v1)), .second, .val (.int q2), .val (.double (FP.i2d v2)), .second, .val (.int q3), .val (.double (FP.i2d v3)), .second, .val (.double (FP.i2d v1)), .second] []))
        refine own_st (fun t_ k_ => XS.iload X0.here hx rfl (hb hby own_d7_38) rfl k_) ?_
        show own_Go p.tables e below _ (s₁.setTop (mkF m 40 #[.val (.int e_), .val (.int q1), .val (.double (FP.i2d v1)), .second, .val (.int q2), .val (.double (FP.i2d v2)), .second, .val (.int q3), .val (.double (FP.i2d v3)), .second, .val (.double (FP.i2d v1)), .second] [(.int q3)]))
        refine own_st (fun t_ k_ => XS.iloadN X0.here hx rfl (hb hby own_d7_40) rfl k_) ?_
        show own_Go p.tables e below _ (s₁.setTop (mkF m 41 #[.val (.int e_), .val (.int q1), .val (.double (FP.i2d v1)), .second, .val (.int q2), .val (.double (FP.i2d v2)), .second, .val (.int q3), .val (.double (FP.i2d v3)), .second, .val (.double (FP.i2d v1)), .second] [(.int e_), (.int q3)]))
        by_cases c41_130 : q3 < e_
        · skip
          refine own_st (fun t_ k_ => XS.icmpNo X0.here hx rfl (hb hby own_d7_41) rfl (tlt c41_130).2.1 k_) ?_
          show own_Go p.tables e below _ (s₁.setTop (mkF m 44 #[.val (.int e_), .val (.int q1), .val (.double (FP.i2d v1)), .second, .val (.int q2), .val (.double (FP.i2d v2)), .second, .val (.int q3), .val (.double (FP.i2d v3)), .second, .val (.double (FP.i2d v1)), .second] []))
          refine own_st (fun t_ k_ => XS.dload X0.here hx rfl (hb hby own_d7_44) rfl k_) ?_
          show own_Go p.tables e below _ (s₁.setTop (mkF m 46 #[.val (.int e_), .val (.int q1), .val (.double (FP.i2d v1)), .second, .val (.int q2), .val (.double (FP.i2d v2)), .second, .val (.int q3), .val (.double (FP.i2d v3)), .second, .val (.double (FP.i2d v1)), .second] [(.double (FP.i2d v3))]))
          refine own_st (fun t_ k_ => XS.dload X0.here hx rfl (hb hby own_d7_46) rfl k_) ?_
          show own_Go p.tables e below _ (s₁.setTop (mkF m 48 #[.val (.int e_), .val (.int q1), .val (.double (FP.i2d v1)), .second, .val (.int q2), .val (.double (FP.i2d v2)), .second, .val (.int q3), .val (.double (FP.i2d v3)), .second, .val (.double (FP.i2d v1)), .second] [(.double (FP.i2d v1)), (.double (FP.i2d v3))]))
          refine own_st (fun t_ k_ => XS.dcmpS X0.here hx rfl (hb hby own_d7_48) rfl rfl k_) ?_
          show own_Go p.tables e below _ (s₁.setTop (mkF m 49 #[.val (.int e_), .val (.int q1), .val (.double (FP.i2d v1)), .second, .val (.int q2), .val (.double (FP.i2d v2)), .second, .val (.int q3), .val (.double (FP.i2d v3)), .second, .val (.double (FP.i2d v1)), .second] [(.int (cmpValue (FP.dcmp (FP.i2d v3) (FP.i2d v1)) .l))]))
          by_cases c49_131 : (0 : Int32) < (cmpValue (FP.dcmp (FP.i2d v3) (FP.i2d v1)) .l)
          · skip
            refine own_st (fun t_ k_ => XS.ifNo X0.here hx rfl (hb hby own_d7_49) rfl ((if0 _ _).trans (tlt c49_131).2.2.2) k_) ?_
            show own_Go p.tables e below _ (s₁.setTop (mkF m 52 #[.val (.int e_), .val (.int q1), .val (.double (FP.i2d v1)), .second, .val (.int q2), .val (.double (FP.i2d v2)), .second, .val (.int q3), .val (.double (FP.i2d v3)), .second, .val (.double (FP.i2d v1)), .second] []))
            refine own_st (fun t_ k_ => XS.dload X0.here hx rfl (hb hby own_d7_52) rfl k_) ?_
            show own_Go p.tables e below _ (s₁.setTop (mkF m 54 #[.val (.int e_), .val (.int q1), .val (.double (FP.i2d v1)), .second, .val (.int q2), .val (.double (FP.i2d v2)), .second, .val (.int q3), .val (.double (FP.i2d v3)), .second, .val (.double (FP.i2d v1)), .second] [(.double (FP.i2d v3))]))
            refine own_st (fun t_ k_ => XS.dstore X0.here hx rfl (hb hby own_d7_54) rfl (l' := #[.val (.int e_), .val (.int q1), .val (.double (FP.i2d v1)), .second, .val (.int q2), .val (.double (FP.i2d v2)), .second, .val (.int q3), .val (.double (FP.i2d v3)), .second, .val (.double (FP.i2d v3)), .second]) rfl k_) ?_
            show own_Go p.tables e below _ (s₁.setTop (mkF m 56 #[.val (.int e_), .val (.int q1), .val (.double (FP.i2d v1)), .second, .val (.int q2), .val (.double (FP.i2d v2)), .second, .val (.int q3), .val (.double (FP.i2d v3)), .second, .val (.double (FP.i2d v3)), .second] []))
            refine own_st (fun t_ k_ => XS.dload X0.here hx rfl (hb hby own_d7_56) rfl k_) ?_
            show own_Go p.tables e below _ (s₁.setTop (mkF m 58 #[.val (.int e_), .val (.int q1), .val (.double (FP.i2d v1)), .second, .val (.int q2), .val (.double (FP.i2d v2)), .second, .val (.int q3), .val (.double (FP.i2d v3)), .second, .val (.double (FP.i2d v3)), .second] [(.double (FP.i2d v3))]))
            exact own_ret (w := (.double (FP.i2d v3))) X0 hx hnl Bd.returns rfl (Or.inr (Or.inr (Or.inl ⟨rfl, rfl, _, rfl⟩))) (hb hby own_d7_58) ⟨(by simp [own_step, c7_122, c14_123, c23_124, c41_130, c49_131]), N0, e0⟩ (by decide) (by decide)
          · skip
            refine own_st (fun t_ k_ => XS.ifYes X0.here hx rfl (pc0 := 49) (pc' := 56) rfl (hb hby own_d7_49) rfl ((if0 _ _).trans (flt c49_131).2.2.2) (by decide) (by decide) k_) ?_
            show own_Go p.tables e below _ (s₁.setTop (mkF m 56 #[.val (.int e_), .val (.int q1), .val (.double (FP.i2d v1)), .second, .val (.int q2), .val (.double (FP.i2d v2)), .second, .val (.int q3), .val (.double (FP.i2d v3)), .second, .val (.double (FP.i2d v1)), .second] []))
            refine own_st (fun t_ k_ => XS.dload X0.here hx rfl (hb hby own_d7_56) rfl k_) ?_
            show own_Go p.tables e below _ (s₁.setTop (mkF m 58 #[.val (.int e_), .val (.int q1), .val (.double (FP.i2d v1)), .second, .val (.int q2), .val (.double (FP.i2d v2)), .second, .val (.int q3), .val (.double (FP.i2d v3)), .second, .val (.double (FP.i2d v1)), .second] [(.double (FP.i2d v1))]))
            exact own_ret (w := (.double (FP.i2d v1))) X0 hx hnl Bd.returns rfl (Or.inr (Or.inr (Or.inl ⟨rfl, rfl, _, rfl⟩))) (hb hby own_d7_58) ⟨(by simp [own_step, c7_122, c14_123, c23_124, c41_130, c49_131]), N0, e0⟩ (by decide) (by decide)
        · skip
          refine own_st (fun t_ k_ => XS.icmpYes X0.here hx rfl (pc0 := 41) (pc' := 56) rfl (hb hby own_d7_41) rfl (flt c41_130).2.1 (by decide) (by decide) k_) ?_
          show own_Go p.tables e below _ (s₁.setTop (mkF m 56 #[.val (.int e_), .val (.int q1), .val (.double (FP.i2d v1)), .second, .val (.int q2), .val (.double (FP.i2d v2)), .second, .val (.int q3), .val (.double (FP.i2d v3)), .second, .val (.double (FP.i2d v1)), .second] []))
          refine own_st (fun t_ k_ => XS.dload X0.here hx rfl (hb hby own_d7_56) rfl k_) ?_
          show own_Go p.tables e below _ (s₁.setTop (mkF m 58 #[.val (.int e_), .val (.int q1), .val (.double (FP.i2d v1)), .second, .val (.int q2), .val (.double (FP.i2d v2)), .second, .val (.int q3), .val (.double (FP.i2d v3)), .second, .val (.double (FP.i2d v1)), .second] [(.double (FP.i2d v1))]))
          exact own_ret (w := (.double (FP.i2d v1))) X0 hx hnl Bd.returns rfl (Or.inr (Or.inr (Or.inl ⟨rfl, rfl, _, rfl⟩))) (hb hby own_d7_58) ⟨(by simp [own_step, c7_122, c14_123, c23_124, c41_130]), N0, e0⟩ (by decide) (by decide)
    · skip
      refine own_st (fun t_ k_ => XS.ifYes X0.here hx rfl (pc0 := 14) (pc' := 20) rfl (hb hby own_d7_14) rfl ((if0 _ _).trans (flt c14_123).2.2.2) (by decide) (by decide) k_) ?_
      show own_Go p.tables e below _ (s₁.setTop (mkF m 20 #[.val (.int e_), .val (.int q1), .val (.double (FP.i2d v1)), .second, .val (.int q2), .val (.double (FP.i2d v2)), .second, .val (.int q3), .val (.double (FP.i2d v3)), .second, .val (.double (18442240474082181120 : UInt64)), .second] []))
      refine own_st (fun t_ k_ => XS.iload X0.here hx rfl (hb hby own_d7_20) rfl k_) ?_
      show own_Go p.tables e below _ (s₁.setTop (mkF m 22 #[.val (.int e_), .val (.int q1), .val (.double (FP.i2d v1)), .second, .val (.int q2), .val (.double (FP.i2d v2)), .second, .val (.int q3), .val (.double (FP.i2d v3)), .second, .val (.double (18442240474082181120 : UInt64)), .second] [(.int q2)]))
      refine own_st (fun t_ k_ => XS.iloadN X0.here hx rfl (hb hby own_d7_22) rfl k_) ?_
      show own_Go p.tables e below _ (s₁.setTop (mkF m 23 #[.val (.int e_), .val (.int q1), .val (.double (FP.i2d v1)), .second, .val (.int q2), .val (.double (FP.i2d v2)), .second, .val (.int q3), .val (.double (FP.i2d v3)), .second, .val (.double (18442240474082181120 : UInt64)), .second] [(.int e_), (.int q2)]))
      by_cases c23_132 : q2 < e_
      · skip
        refine own_st (fun t_ k_ => XS.icmpNo X0.here hx rfl (hb hby own_d7_23) rfl (tlt c23_132).2.1 k_) ?_
        show own_Go p.tables e below _ (s₁.setTop (mkF m 26 #[.val (.int e_), .val (.int q1), .val (.double (FP.i2d v1)), .second, .val (.int q2), .val (.double (FP.i2d v2)), .second, .val (.int q3), .val (.double (FP.i2d v3)), .second, .val (.double (18442240474082181120 : UInt64)), .second] []))
        refine own_st (fun t_ k_ => XS.dload X0.here hx rfl (hb hby own_d7_26) rfl k_) ?_
        show own_Go p.tables e below _ (s₁.setTop (mkF m 28 #[.val (.int e_), .val (.int q1), .val (.double (FP.i2d v1)), .second, .val (.int q2), .val (.double (FP.i2d v2)), .second, .val (.int q3), .val (.double (FP.i2d v3)), .second, .val (.double (18442240474082181120 : UInt64)), .second] [(.double (FP.i2d v2))]))
        refine own_st (fun t_ k_ => XS.dload X0.here hx rfl (hb hby own_d7_28) rfl k_) ?_
        show own_Go p.tables e below _ (s₁.setTop (mkF m 30 #[.val (.int e_), .val (.int q1), .val (.double (FP.i2d v1)), .second, .val (.int q2), .val (.double (FP.i2d v2)), .second, .val (.int q3), .val (.double (FP.i2d v3)), .second, .val (.double (18442240474082181120 : UInt64)), .second] [(.double (18442240474082181120 : UInt64)), (.double (FP.i2d v2))]))
        refine own_st (fun t_ k_ => XS.dcmpS X0.here hx rfl (hb hby own_d7_30) rfl rfl k_) ?_
        show own_Go p.tables e below _ (s₁.setTop (mkF m 31 #[.val (.int e_), .val (.int q1), .val (.double (FP.i2d v1)), .second, .val (.int q2), .val (.double (FP.i2d v2)), .second, .val (.int q3), .val (.double (FP.i2d v3)), .second, .val (.double (18442240474082181120 : UInt64)), .second] [(.int (cmpValue (FP.dcmp (FP.i2d v2) (18442240474082181120 : UInt64)) .l))]))
        by_cases c31_133 : (0 : Int32) < (cmpValue (FP.dcmp (FP.i2d v2) (18442240474082181120 : UInt64)) .l)
        · skip
          refine own_st (fun t_ k_ => XS.ifNo X0.here hx rfl (hb hby own_d7_31) rfl ((if0 _ _).trans (tlt c31_133).2.2.2) k_) ?_
          show own_Go p.tables e below _ (s₁.setTop (mkF m 34 #[.val (.int e_), .val (.int q1), .val (.double (FP.i2d v1)), .second, .val (.int q2), .val (.double (FP.i2d v2)), .second, .val (.int q3), .val (.double (FP.i2d v3)), .second, .val (.double (18442240474082181120 : UInt64)), .second] []))
          refine own_st (fun t_ k_ => XS.dload X0.here hx rfl (hb hby own_d7_34) rfl k_) ?_
          show own_Go p.tables e below _ (s₁.setTop (mkF m 36 #[.val (.int e_), .val (.int q1), .val (.double (FP.i2d v1)), .second, .val (.int q2), .val (.double (FP.i2d v2)), .second, .val (.int q3), .val (.double (FP.i2d v3)), .second, .val (.double (18442240474082181120 : UInt64)), .second] [(.double (FP.i2d v2))]))
          refine own_st (fun t_ k_ => XS.dstore X0.here hx rfl (hb hby own_d7_36) rfl (l' := #[.val (.int e_), .val (.int q1), .val (.double (FP.i2d v1)), .second, .val (.int q2), .val (.double (FP.i2d v2)), .second, .val (.int q3), .val (.double (FP.i2d v3)), .second, .val (.double (FP.i2d v2)), .second]) rfl k_) ?_
          show own_Go p.tables e below _ (s₁.setTop (mkF m 38 #[.val (.int e_), .val (.int q1), .val (.double (FP.i2d v1)), .second, .val (.int q2), .val (.double (FP.i2d v2)), .second, .val (.int q3), .val (.double (FP.i2d v3)), .second, .val (.double (FP.i2d v2)), .second] []))
          refine own_st (fun t_ k_ => XS.iload X0.here hx rfl (hb hby own_d7_38) rfl k_) ?_
          show own_Go p.tables e below _ (s₁.setTop (mkF m 40 #[.val (.int e_), .val (.int q1), .val (.double (FP.i2d v1)), .second, .val (.int q2), .val (.double (FP.i2d v2)), .second, .val (.int q3), .val (.double (FP.i2d v3)), .second, .val (.double (FP.i2d v2)), .second] [(.int q3)]))
          refine own_st (fun t_ k_ => XS.iloadN X0.here hx rfl (hb hby own_d7_40) rfl k_) ?_
          show own_Go p.tables e below _ (s₁.setTop (mkF m 41 #[.val (.int e_), .val (.int q1), .val (.double (FP.i2d v1)), .second, .val (.int q2), .val (.double (FP.i2d v2)), .second, .val (.int q3), .val (.double (FP.i2d v3)), .second, .val (.double (FP.i2d v2)), .second] [(.int e_), (.int q3)]))
          by_cases c41_134 : q3 < e_
          · skip
            refine own_st (fun t_ k_ => XS.icmpNo X0.here hx rfl (hb hby own_d7_41) rfl (tlt c41_134).2.1 k_) ?_
            show own_Go p.tables e below _ (s₁.setTop (mkF m 44 #[.val (.int e_), .val (.int q1), .val (.double (FP.i2d v1)), .second, .val (.int q2), .val (.double (FP.i2d v2)), .second, .val (.int q3), .val (.double (FP.i2d v3)), .second, .val (.double (FP.i2d v2)), .second] []))
            refine own_st (fun t_ k_ => XS.dload X0.here hx rfl (hb hby own_d7_44) rfl k_) ?_
            show own_Go p.tables e below _ (s₁.setTop (mkF m 46 #[.val (.int e_), .val (.int q1), .val (.double (FP.i2d v1)), .second, .val (.int q2), .val (.double (FP.i2d v2)), .second, .val (.int q3), .val (.double (FP.i2d v3)), .second, .val (.double (FP.i2d v2)), .second] [(.double (FP.i2d v3))]))
            refine own_st (fun t_ k_ => XS.dload X0.here hx rfl (hb hby own_d7_46) rfl k_) ?_
            show own_Go p.tables e below _ (s₁.setTop (mkF m 48 #[.val (.int e_), .val (.int q1), .val (.double (FP.i2d v1)), .second, .val (.int q2), .val (.double (FP.i2d v2)), .second, .val (.int q3), .val (.double (FP.i2d v3)), .second, .val (.double (FP.i2d v2)), .second] [(.double (FP.i2d v2)), (.double (FP.i2d v3))]))
            refine own_st (fun t_ k_ => XS.dcmpS X0.here hx rfl (hb hby own_d7_48) rfl rfl k_) ?_
            show own_Go p.tables e below _ (s₁.setTop (mkF m 49 #[.val (.int e_), .val (.int q1), .val (.double (FP.i2d v1)), .second, .val (.int q2), .val (.double (FP.i2d v2)), .second, .val (.int q3), .val (.double (FP.i2d v3)), .second, .val (.double (FP.i2d v2)), .second] [(.int (cmpValue (FP.dcmp (FP.i2d v3) (FP.i2d v2)) .l))]))
            by_cases c49_135 : (0 : Int32) < (cmpValue (FP.dcmp (FP.i2d v3) (FP.i2d v2)) .l)
            · skip
              refine own_st (fun t_ k_ => XS.ifNo X0.here hx rfl (hb hby own_d7_49) rfl ((if0 _ _).trans (tlt c49_135).2.2.2) k_) ?_
              show own_Go p.tables e below _ (s₁.setTop (mkF m 52 #[.val (.int e_), .val (.int q1), .val (.double (FP.i2d v1)), .second, .val (.int q2), .val (.double (FP.i2d v2)), .second, .val (.int q3), .val (.double (FP.i2d v3)), .second, .val (.double (FP.i2d v2)), .second] []))
              refine own_st (fun t_ k_ => XS.dload X0.here hx rfl (hb hby own_d7_52) rfl k_) ?_
              show own_Go p.tables e below _ (s₁.setTop (mkF m 54 #[.val (.int e_), .val (.int q1), .val (.double (FP.i2d v1)), .second, .val (.int q2), .val (.double (FP.i2d v2)), .second, .val (.int q3), .val (.double (FP.i2d v3)), .second, .val (.double (FP.i2d v2)), .second] [(.double (FP.i2d v3))]))
              refine own_st (fun t_ k_ => XS.dstore X0.here hx rfl (hb hby own_d7_54) rfl (l' := #[.val (.int e_), .val (.int q1), .val (.double (FP.i2d v1)), .second, .val (.int q2), .val (.double (FP.i2d v2)), .second, .val (.int q3), .val (.double (FP.i2d v3)), .second, .val (.double (FP.i2d v3)), .second]) rfl k_) ?_
              show own_Go p.tables e below _ (s₁.setTop (mkF m 56 #[.val (.int e_), .val (.int q1), .val (.double (FP.i2d v1)), .second, .val (.int q2), .val (.double (FP.i2d v2)), .second, .val (.int q3), .val (.double (FP.i2d v3)), .second, .val (.double (FP.i2d v3)), .second] []))
              refine own_st (fun t_ k_ => XS.dload X0.here hx rfl (hb hby own_d7_56) rfl k_) ?_
              show own_Go p.tables e below _ (s₁.setTop (mkF m 58 #[.val (.int e_), .val (.int q1), .val (.double (FP.i2d v1)), .second, .val (.int q2), .val (.double (FP.i2d v2)), .second, .val (.int q3), .val (.double (FP.i2d v3)), .second, .val (.double (FP.i2d v3)), .second] [(.double (FP.i2d v3))]))
              exact own_ret (w := (.double (FP.i2d v3))) X0 hx hnl Bd.returns rfl (Or.inr (Or.inr (Or.inl ⟨rfl, rfl, _, rfl⟩))) (hb hby own_d7_58) ⟨(by simp [own_step, c7_122, c14_123, c23_132, c31_133, c41_134, c49_135]), N0, e0⟩ (by decide) (by decide)
            · skip
              refine own_st (fun t_ k_ => XS.ifYes X0.here hx rfl (pc0 := 49) (pc' := 56) rfl (hb hby own_d7_49) rfl ((if0 _ _).trans (flt c49_135).2.2.2) (by decide) (by decide) k_) ?_
              show own_Go p.tables e below _ (s₁.setTop (mkF m 56 #[.val (.int e_), .val (.int q1), .val (.double (FP.i2d v1)), .second, .val (.int q2), .val (.double (FP.i2d v2)), .second, .val (.int q3), .val (.double (FP.i2d v3)), .second, .val (.double (FP.i2d v2)), .second] []))
              refine own_st (fun t_ k_ => XS.dload X0.here hx rfl (hb hby own_d7_56) rfl k_) ?_
              show own_Go p.tables e below _ (s₁.setTop (mkF m 58 #[.val (.int e_), .val (.int q1), .val (.double (FP.i2d v1)), .second, .val (.int q2), .val (.double (FP.i2d v2)), .second, .val (.int q3), .val (.double (FP.i2d v3)), .second, .val (.double (FP.i2d v2)), .second] [(.double (FP.i2d v2))]))
              exact own_ret (w := (.double (FP.i2d v2))) X0 hx hnl Bd.returns rfl (Or.inr (Or.inr (Or.inl ⟨rfl, rfl, _, rfl⟩))) (hb hby own_d7_58) ⟨(by simp [own_step, c7_122, c14_123, c23_132, c31_133, c41_134, c49_135]), N0, e0⟩ (by decide) (by decide)
          · skip
            refine own_st (fun t_ k_ => XS.icmpYes X0.here hx rfl (pc0 := 41) (pc' := 56) rfl (hb hby own_d7_41) rfl (flt c41_134).2.1 (by decide) (by decide) k_) ?_
            show own_Go p.tables e below _ (s₁.setTop (mkF m 56 #[.val (.int e_), .val (.int q1), .val (.double (FP.i2d v1)), .second, .val (.int q2), .val (.double (FP.i2d v2)), .second, .val (.int q3), .val (.double (FP.i2d v3)), .second, .val (.double (FP.i2d v2)), .second] []))
            refine own_st (fun t_ k_ => XS.dload X0.here hx rfl (hb hby own_d7_56) rfl k_) ?_
            show own_Go p.tables e below _ (s₁.setTop (mkF m 58 #[.val (.int e_), .val (.int q1), .val (.double (FP.i2d v1)), .second, .val (.int q2), .val (.double (FP.i2d v2)), .second, .val (.int q3), .val (.double (FP.i2d v3)), .second, .val (.double (FP.i2d v2)), .second] [(.double (FP.i2d v2))]))
            exact own_ret (w := (.double (FP.i2d v2))) X0 hx hnl Bd.returns rfl (Or.inr (Or.inr (Or.inl ⟨rfl, rfl, _, rfl⟩))) (hb hby own_d7_58) ⟨(by simp [own_step, c7_122, c14_123, c23_132, c31_133, c41_134]), N0, e0⟩ (by decide) (by decide)
        · skip
          refine own_st (fun t_ k_ => XS.ifYes X0.here hx rfl (pc0 := 31) (pc' := 38) rfl (hb hby own_d7_31) rfl ((if0 _ _).trans (flt c31_133).2.2.2) (by decide) (by decide) k_) ?_
          show own_Go p.tables e below _ (s₁.setTop (mkF m 38 #[.val (.int e_), .val (.int q1), .val (.double (FP.i2d v1)), .second, .val (.int q2), .val (.double (FP.i2d v2)), .second, .val (.int q3), .val (.double (FP.i2d v3)), .second, .val (.double (18442240474082181120 : UInt64)), .second] []))
          refine own_st (fun t_ k_ => XS.iload X0.here hx rfl (hb hby own_d7_38) rfl k_) ?_
          show own_Go p.tables e below _ (s₁.setTop (mkF m 40 #[.val (.int e_), .val (.int q1), .val (.double (FP.i2d v1)), .second, .val (.int q2), .val (.double (FP.i2d v2)), .second, .val (.int q3), .val (.double (FP.i2d v3)), .second, .val (.double (18442240474082181120 : UInt64)), .second] [(.int q3)]))
          refine own_st (fun t_ k_ => XS.iloadN X0.here hx rfl (hb hby own_d7_40) rfl k_) ?_
          show own_Go p.tables e below _ (s₁.setTop (mkF m 41 #[.val (.int e_), .val (.int q1), .val (.double (FP.i2d v1)), .second, .val (.int q2), .val (.double (FP.i2d v2)), .second, .val (.int q3), .val (.double (FP.i2d v3)), .second, .val (.double (18442240474082181120 : UInt64)), .second] [(.int e_), (.int q3)]))
          by_cases c41_136 : q3 < e_
          · skip
            refine own_st (fun t_ k_ => XS.icmpNo X0.here hx rfl (hb hby own_d7_41) rfl (tlt c41_136).2.1 k_) ?_
            show own_Go p.tables e below _ (s₁.setTop (mkF m 44 #[.val (.int e_), .val (.int q1), .val (.double (FP.i2d v1)), .second, .val (.int q2), .val (.double (FP.i2d v2)), .second, .val (.int q3), .val (.double (FP.i2d v3)), .second, .val (.double (18442240474082181120 : UInt64)), .second] []))
            refine own_st (fun t_ k_ => XS.dload X0.here hx rfl (hb hby own_d7_44) rfl k_) ?_
            show own_Go p.tables e below _ (s₁.setTop (mkF m 46 #[.val (.int e_), .val (.int q1), .val (.double (FP.i2d v1)), .second, .val (.int q2), .val (.double (FP.i2d v2)), .second, .val (.int q3), .val (.double (FP.i2d v3)), .second, .val (.double (18442240474082181120 : UInt64)), .second] [(.double (FP.i2d v3))]))
            refine own_st (fun t_ k_ => XS.dload X0.here hx rfl (hb hby own_d7_46) rfl k_) ?_
            show own_Go p.tables e below _ (s₁.setTop (mkF m 48 #[.val (.int e_), .val (.int q1), .val (.double (FP.i2d v1)), .second, .val (.int q2), .val (.double (FP.i2d v2)), .second, .val (.int q3), .val (.double (FP.i2d v3)), .second, .val (.double (18442240474082181120 : UInt64)), .second] [(.double (18442240474082181120 : UInt64)), (.double (FP.i2d v3))]))
            refine own_st (fun t_ k_ => XS.dcmpS X0.here hx rfl (hb hby own_d7_48) rfl rfl k_) ?_
            show own_Go p.tables e below _ (s₁.setTop (mkF m 49 #[.val (.int e_), .val (.int q1), .val (.double (FP.i2d v1)), .second, .val (.int q2), .val (.double (FP.i2d v2)), .second, .val (.int q3), .val (.double (FP.i2d v3)), .second, .val (.double (18442240474082181120 : UInt64)), .second] [(.int (cmpValue (FP.dcmp (FP.i2d v3) (18442240474082181120 : UInt64)) .l))]))
            by_cases c49_137 : (0 : Int32) < (cmpValue (FP.dcmp (FP.i2d v3) (18442240474082181120 : UInt64)) .l)
            · skip
              refine own_st (fun t_ k_ => XS.ifNo X0.here hx rfl (hb hby own_d7_49) rfl ((if0 _ _).trans (tlt c49_137).2.2.2) k_) ?_
              show own_Go p.tables e below _ (s₁.setTop (mkF m 52 #[.val (.int e_), .val (.int q1), .val (.double (FP.i2d v1)), .second, .val (.int q2), .val (.double (FP.i2d v2)), .second, .val (.int q3), .val (.double (FP.i2d v3)), .second, .val (.double (18442240474082181120 : UInt64)), .second] []))
              refine own_st (fun t_ k_ => XS.dload X0.here hx rfl (hb hby own_d7_52) rfl k_) ?_
              show own_Go p.tables e below _ (s₁.setTop (mkF m 54 #[.val (.int e_), .val (.int q1), .val (.double (FP.i2d v1)), .second, .val (.int q2), .val (.double (FP.i2d v2)), .second, .val (.int q3), .val (.double (FP.i2d v3)), .second, .val (.double (18442240474082181120 : UInt64)), .second] [(.double (FP.i2d v3))]))
              refine own_st (fun t_ k_ => XS.dstore X0.here hx rfl (hb hby own_d7_54) rfl (l' := #[.val (.int e_), .val (.int q1), .val (.double (FP.i2d v1)), .second, .val (.int q2), .val (.double (FP.i2d v2)), .second, .val (.int q3), .val (.double (FP.i2d v3)), .second, .val (.double (FP.i2d v3)), .second]) rfl k_) ?_
              show own_Go p.tables e below _ (s₁.setTop (mkF m 56 #[.val (.int e_), .val (.int q1), .val (.double (FP.i2d v1)), .second, .val (.int q2), .val (.double (FP.i2d v2)), .second, .val (.int q3), .val (.double (FP.i2d v3)), .second, .val (.double (FP.i2d v3)), .second] []))
              refine own_st (fun t_ k_ => XS.dload X0.here hx rfl (hb hby own_d7_56) rfl k_) ?_
              show own_Go p.tables e below _ (s₁.setTop (mkF m 58 #[.val (.int e_), .val (.int q1), .val (.double (FP.i2d v1)), .second, .val (.int q2), .val (.double (FP.i2d v2)), .second, .val (.int q3), .val (.double (FP.i2d v3)), .second, .val (.double (FP.i2d v3)), .second] [(.double (FP.i2d v3))]))
              exact own_ret (w := (.double (FP.i2d v3))) X0 hx hnl Bd.returns rfl (Or.inr (Or.inr (Or.inl ⟨rfl, rfl, _, rfl⟩))) (hb hby own_d7_58) ⟨(by simp [own_step, c7_122, c14_123, c23_132, c31_133, c41_136, c49_137]), N0, e0⟩ (by decide) (by decide)
            · skip
              refine own_st (fun t_ k_ => XS.ifYes X0.here hx rfl (pc0 := 49) (pc' := 56) rfl (hb hby own_d7_49) rfl ((if0 _ _).trans (flt c49_137).2.2.2) (by decide) (by decide) k_) ?_
              show own_Go p.tables e below _ (s₁.setTop (mkF m 56 #[.val (.int e_), .val (.int q1), .val (.double (FP.i2d v1)), .second, .val (.int q2), .val (.double (FP.i2d v2)), .second, .val (.int q3), .val (.double (FP.i2d v3)), .second, .val (.double (18442240474082181120 : UInt64)), .second] []))
              refine own_st (fun t_ k_ => XS.dload X0.here hx rfl (hb hby own_d7_56) rfl k_) ?_
              show own_Go p.tables e below _ (s₁.setTop (mkF m 58 #[.val (.int e_), .val (.int q1), .val (.double (FP.i2d v1)), .second, .val (.int q2), .val (.double (FP.i2d v2)), .second, .val (.int q3), .val (.double (FP.i2d v3)), .second, .val (.double (18442240474082181120 : UInt64)), .second] [(.double (18442240474082181120 : UInt64))]))
              exact own_ret (w := (.double (18442240474082181120 : UInt64))) X0 hx hnl Bd.returns rfl (Or.inr (Or.inr (Or.inl ⟨rfl, rfl, _, rfl⟩))) (hb hby own_d7_58) ⟨(by simp [own_step, c7_122, c14_123, c23_132, c31_133, c41_136, c49_137]), N0, e0⟩ (by decide) (by decide)
          · skip
            refine own_st (fun t_ k_ => XS.icmpYes X0.here hx rfl (pc0 := 41) (pc' := 56) rfl (hb hby own_d7_41) rfl (flt c41_136).2.1 (by decide) (by decide) k_) ?_
            show own_Go p.tables e below _ (s₁.setTop (mkF m 56 #[.val (.int e_), .val (.int q1), .val (.double (FP.i2d v1)), .second, .val (.int q2), .val (.double (FP.i2d v2)), .second, .val (.int q3), .val (.double (FP.i2d v3)), .second, .val (.double (18442240474082181120 : UInt64)), .second] []))
            refine own_st (fun t_ k_ => XS.dload X0.here hx rfl (hb hby own_d7_56) rfl k_) ?_
            show own_Go p.tables e below _ (s₁.setTop (mkF m 58 #[.val (.int e_), .val (.int q1), .val (.double (FP.i2d v1)), .second, .val (.int q2), .val (.double (FP.i2d v2)), .second, .val (.int q3), .val (.double (FP.i2d v3)), .second, .val (.double (18442240474082181120 : UInt64)), .second] [(.double (18442240474082181120 : UInt64))]))
            exact own_ret (w := (.double (18442240474082181120 : UInt64))) X0 hx hnl Bd.returns rfl (Or.inr (Or.inr (Or.inl ⟨rfl, rfl, _, rfl⟩))) (hb hby own_d7_58) ⟨(by simp [own_step, c7_122, c14_123, c23_132, c31_133, c41_136]), N0, e0⟩ (by decide) (by decide)
      · skip
        refine own_st (fun t_ k_ => XS.icmpYes X0.here hx rfl (pc0 := 23) (pc' := 38) rfl (hb hby own_d7_23) rfl (flt c23_132).2.1 (by decide) (by decide) k_) ?_
        show own_Go p.tables e below _ (s₁.setTop (mkF m 38 #[.val (.int e_), .val (.int q1), .val (.double (FP.i2d v1)), .second, .val (.int q2), .val (.double (FP.i2d v2)), .second, .val (.int q3), .val (.double (FP.i2d v3)), .second, .val (.double (18442240474082181120 : UInt64)), .second] []))
        refine own_st (fun t_ k_ => XS.iload X0.here hx rfl (hb hby own_d7_38) rfl k_) ?_
        show own_Go p.tables e below _ (s₁.setTop (mkF m 40 #[.val (.int e_), .val (.int q1), .val (.double (FP.i2d v1)), .second, .val (.int q2), .val (.double (FP.i2d v2)), .second, .val (.int q3), .val (.double (FP.i2d v3)), .second, .val (.double (18442240474082181120 : UInt64)), .second] [(.int q3)]))
        refine own_st (fun t_ k_ => XS.iloadN X0.here hx rfl (hb hby own_d7_40) rfl k_) ?_
        show own_Go p.tables e below _ (s₁.setTop (mkF m 41 #[.val (.int e_), .val (.int q1), .val (.double (FP.i2d v1)), .second, .val (.int q2), .val (.double (FP.i2d v2)), .second, .val (.int q3), .val (.double (FP.i2d v3)), .second, .val (.double (18442240474082181120 : UInt64)), .second] [(.int e_), (.int q3)]))
        by_cases c41_138 : q3 < e_
        · skip
          refine own_st (fun t_ k_ => XS.icmpNo X0.here hx rfl (hb hby own_d7_41) rfl (tlt c41_138).2.1 k_) ?_
          show own_Go p.tables e below _ (s₁.setTop (mkF m 44 #[.val (.int e_), .val (.int q1), .val (.double (FP.i2d v1)), .second, .val (.int q2), .val (.double (FP.i2d v2)), .second, .val (.int q3), .val (.double (FP.i2d v3)), .second, .val (.double (18442240474082181120 : UInt64)), .second] []))
          refine own_st (fun t_ k_ => XS.dload X0.here hx rfl (hb hby own_d7_44) rfl k_) ?_
          show own_Go p.tables e below _ (s₁.setTop (mkF m 46 #[.val (.int e_), .val (.int q1), .val (.double (FP.i2d v1)), .second, .val (.int q2), .val (.double (FP.i2d v2)), .second, .val (.int q3), .val (.double (FP.i2d v3)), .second, .val (.double (18442240474082181120 : UInt64)), .second] [(.double (FP.i2d v3))]))
          refine own_st (fun t_ k_ => XS.dload X0.here hx rfl (hb hby own_d7_46) rfl k_) ?_
          show own_Go p.tables e below _ (s₁.setTop (mkF m 48 #[.val (.int e_), .val (.int q1), .val (.double (FP.i2d v1)), .second, .val (.int q2), .val (.double (FP.i2d v2)), .second, .val (.int q3), .val (.double (FP.i2d v3)), .second, .val (.double (18442240474082181120 : UInt64)), .second] [(.double (18442240474082181120 : UInt64)), (.double (FP.i2d v3))]))
          refine own_st (fun t_ k_ => XS.dcmpS X0.here hx rfl (hb hby own_d7_48) rfl rfl k_) ?_
          show own_Go p.tables e below _ (s₁.setTop (mkF m 49 #[.val (.int e_), .val (.int q1), .val (.double (FP.i2d v1)), .second, .val (.int q2), .val (.double (FP.i2d v2)), .second, .val (.int q3), .val (.double (FP.i2d v3)), .second, .val (.double (18442240474082181120 : UInt64)), .second] [(.int (cmpValue (FP.dcmp (FP.i2d v3) (18442240474082181120 : UInt64)) .l))]))
          by_cases c49_139 : (0 : Int32) < (cmpValue (FP.dcmp (FP.i2d v3) (18442240474082181120 : UInt64)) .l)
          · skip
            refine own_st (fun t_ k_ => XS.ifNo X0.here hx rfl (hb hby own_d7_49) rfl ((if0 _ _).trans (tlt c49_139).2.2.2) k_) ?_
            show own_Go p.tables e below _ (s₁.setTop (mkF m 52 #[.val (.int e_), .val (.int q1), .val (.double (FP.i2d v1)), .second, .val (.int q2), .val (.double (FP.i2d v2)), .second, .val (.int q3), .val (.double (FP.i2d v3)), .second, .val (.double (18442240474082181120 : UInt64)), .second] []))
            refine own_st (fun t_ k_ => XS.dload X0.here hx rfl (hb hby own_d7_52) rfl k_) ?_
            show own_Go p.tables e below _ (s₁.setTop (mkF m 54 #[.val (.int e_), .val (.int q1), .val (.double (FP.i2d v1)), .second, .val (.int q2), .val (.double (FP.i2d v2)), .second, .val (.int q3), .val (.double (FP.i2d v3)), .second, .val (.double (18442240474082181120 : UInt64)), .second] [(.double (FP.i2d v3))]))
            refine own_st (fun t_ k_ => XS.dstore X0.here hx rfl (hb hby own_d7_54) rfl (l' := #[.val (.int e_), .val (.int q1), .val (.double (FP.i2d v1)), .second, .val (.int q2), .val (.double (FP.i2d v2)), .second, .val (.int q3), .val (.double (FP.i2d v3)), .second, .val (.double (FP.i2d v3)), .second]) rfl k_) ?_
            show own_Go p.tables e below _ (s₁.setTop (mkF m 56 #[.val (.int e_), .val (.int q1), .val (.double (FP.i2d v1)), .second, .val (.int q2), .val (.double (FP.i2d v2)), .second, .val (.int q3), .val (.double (FP.i2d v3)), .second, .val (.double (FP.i2d v3)), .second] []))
            refine own_st (fun t_ k_ => XS.dload X0.here hx rfl (hb hby own_d7_56) rfl k_) ?_
            show own_Go p.tables e below _ (s₁.setTop (mkF m 58 #[.val (.int e_), .val (.int q1), .val (.double (FP.i2d v1)), .second, .val (.int q2), .val (.double (FP.i2d v2)), .second, .val (.int q3), .val (.double (FP.i2d v3)), .second, .val (.double (FP.i2d v3)), .second] [(.double (FP.i2d v3))]))
            exact own_ret (w := (.double (FP.i2d v3))) X0 hx hnl Bd.returns rfl (Or.inr (Or.inr (Or.inl ⟨rfl, rfl, _, rfl⟩))) (hb hby own_d7_58) ⟨(by simp [own_step, c7_122, c14_123, c23_132, c41_138, c49_139]), N0, e0⟩ (by decide) (by decide)
          · skip
            refine own_st (fun t_ k_ => XS.ifYes X0.here hx rfl (pc0 := 49) (pc' := 56) rfl (hb hby own_d7_49) rfl ((if0 _ _).trans (flt c49_139).2.2.2) (by decide) (by decide) k_) ?_
            show own_Go p.tables e below _ (s₁.setTop (mkF m 56 #[.val (.int e_), .val (.int q1), .val (.double (FP.i2d v1)), .second, .val (.int q2), .val (.double (FP.i2d v2)), .second, .val (.int q3), .val (.double (FP.i2d v3)), .second, .val (.double (18442240474082181120 : UInt64)), .second] []))
            refine own_st (fun t_ k_ => XS.dload X0.here hx rfl (hb hby own_d7_56) rfl k_) ?_
            show own_Go p.tables e below _ (s₁.setTop (mkF m 58 #[.val (.int e_), .val (.int q1), .val (.double (FP.i2d v1)), .second, .val (.int q2), .val (.double (FP.i2d v2)), .second, .val (.int q3), .val (.double (FP.i2d v3)), .second, .val (.double (18442240474082181120 : UInt64)), .second] [(.double (18442240474082181120 : UInt64))]))
            exact own_ret (w := (.double (18442240474082181120 : UInt64))) X0 hx hnl Bd.returns rfl (Or.inr (Or.inr (Or.inl ⟨rfl, rfl, _, rfl⟩))) (hb hby own_d7_58) ⟨(by simp [own_step, c7_122, c14_123, c23_132, c41_138, c49_139]), N0, e0⟩ (by decide) (by decide)
        · skip
          refine own_st (fun t_ k_ => XS.icmpYes X0.here hx rfl (pc0 := 41) (pc' := 56) rfl (hb hby own_d7_41) rfl (flt c41_138).2.1 (by decide) (by decide) k_) ?_
          show own_Go p.tables e below _ (s₁.setTop (mkF m 56 #[.val (.int e_), .val (.int q1), .val (.double (FP.i2d v1)), .second, .val (.int q2), .val (.double (FP.i2d v2)), .second, .val (.int q3), .val (.double (FP.i2d v3)), .second, .val (.double (18442240474082181120 : UInt64)), .second] []))
          refine own_st (fun t_ k_ => XS.dload X0.here hx rfl (hb hby own_d7_56) rfl k_) ?_
          show own_Go p.tables e below _ (s₁.setTop (mkF m 58 #[.val (.int e_), .val (.int q1), .val (.double (FP.i2d v1)), .second, .val (.int q2), .val (.double (FP.i2d v2)), .second, .val (.int q3), .val (.double (FP.i2d v3)), .second, .val (.double (18442240474082181120 : UInt64)), .second] [(.double (18442240474082181120 : UInt64))]))
          exact own_ret (w := (.double (18442240474082181120 : UInt64))) X0 hx hnl Bd.returns rfl (Or.inr (Or.inr (Or.inl ⟨rfl, rfl, _, rfl⟩))) (hb hby own_d7_58) ⟨(by simp [own_step, c7_122, c14_123, c23_132, c41_138]), N0, e0⟩ (by decide) (by decide)
  · skip
    refine own_st (fun t_ k_ => XS.icmpYes X0.here hx rfl (pc0 := 7) (pc' := 20) rfl (hb hby own_d7_7) rfl (flt c7_122).2.1 (by decide) (by decide) k_) ?_
    show own_Go p.tables e below _ (s₁.setTop (mkF m 20 #[.val (.int e_), .val (.int q1), .val (.double (FP.i2d v1)), .second, .val (.int q2), .val (.double (FP.i2d v2)), .second, .val (.int q3), .val (.double (FP.i2d v3)), .second, .val (.double (18442240474082181120 : UInt64)), .second] []))
    refine own_st (fun t_ k_ => XS.iload X0.here hx rfl (hb hby own_d7_20) rfl k_) ?_
    show own_Go p.tables e below _ (s₁.setTop (mkF m 22 #[.val (.int e_), .val (.int q1), .val (.double (FP.i2d v1)), .second, .val (.int q2), .val (.double (FP.i2d v2)), .second, .val (.int q3), .val (.double (FP.i2d v3)), .second, .val (.double (18442240474082181120 : UInt64)), .second] [(.int q2)]))
    refine own_st (fun t_ k_ => XS.iloadN X0.here hx rfl (hb hby own_d7_22) rfl k_) ?_
    show own_Go p.tables e below _ (s₁.setTop (mkF m 23 #[.val (.int e_), .val (.int q1), .val (.double (FP.i2d v1)), .second, .val (.int q2), .val (.double (FP.i2d v2)), .second, .val (.int q3), .val (.double (FP.i2d v3)), .second, .val (.double (18442240474082181120 : UInt64)), .second] [(.int e_), (.int q2)]))
    by_cases c23_140 : q2 < e_
    · skip
      refine own_st (fun t_ k_ => XS.icmpNo X0.here hx rfl (hb hby own_d7_23) rfl (tlt c23_140).2.1 k_) ?_
      show own_Go p.tables e below _ (s₁.setTop (mkF m 26 #[.val (.int e_), .val (.int q1), .val (.double (FP.i2d v1)), .second, .val (.int q2), .val (.double (FP.i2d v2)), .second, .val (.int q3), .val (.double (FP.i2d v3)), .second, .val (.double (18442240474082181120 : UInt64)), .second] []))
      refine own_st (fun t_ k_ => XS.dload X0.here hx rfl (hb hby own_d7_26) rfl k_) ?_
      show own_Go p.tables e below _ (s₁.setTop (mkF m 28 #[.val (.int e_), .val (.int q1), .val (.double (FP.i2d v1)), .second, .val (.int q2), .val (.double (FP.i2d v2)), .second, .val (.int q3), .val (.double (FP.i2d v3)), .second, .val (.double (18442240474082181120 : UInt64)), .second] [(.double (FP.i2d v2))]))
      refine own_st (fun t_ k_ => XS.dload X0.here hx rfl (hb hby own_d7_28) rfl k_) ?_
      show own_Go p.tables e below _ (s₁.setTop (mkF m 30 #[.val (.int e_), .val (.int q1), .val (.double (FP.i2d v1)), .second, .val (.int q2), .val (.double (FP.i2d v2)), .second, .val (.int q3), .val (.double (FP.i2d v3)), .second, .val (.double (18442240474082181120 : UInt64)), .second] [(.double (18442240474082181120 : UInt64)), (.double (FP.i2d v2))]))
      refine own_st (fun t_ k_ => XS.dcmpS X0.here hx rfl (hb hby own_d7_30) rfl rfl k_) ?_
      show own_Go p.tables e below _ (s₁.setTop (mkF m 31 #[.val (.int e_), .val (.int q1), .val (.double (FP.i2d v1)), .second, .val (.int q2), .val (.double (FP.i2d v2)), .second, .val (.int q3), .val (.double (FP.i2d v3)), .second, .val (.double (18442240474082181120 : UInt64)), .second] [(.int (cmpValue (FP.dcmp (FP.i2d v2) (18442240474082181120 : UInt64)) .l))]))
      by_cases c31_141 : (0 : Int32) < (cmpValue (FP.dcmp (FP.i2d v2) (18442240474082181120 : UInt64)) .l)
      · skip
        refine own_st (fun t_ k_ => XS.ifNo X0.here hx rfl (hb hby own_d7_31) rfl ((if0 _ _).trans (tlt c31_141).2.2.2) k_) ?_
        show own_Go p.tables e below _ (s₁.setTop (mkF m 34 #[.val (.int e_), .val (.int q1), .val (.double (FP.i2d v1)), .second, .val (.int q2), .val (.double (FP.i2d v2)), .second, .val (.int q3), .val (.double (FP.i2d v3)), .second, .val (.double (18442240474082181120 : UInt64)), .second] []))
        refine own_st (fun t_ k_ => XS.dload X0.here hx rfl (hb hby own_d7_34) rfl k_) ?_
        show own_Go p.tables e below _ (s₁.setTop (mkF m 36 #[.val (.int e_), .val (.int q1), .val (.double (FP.i2d v1)), .second, .val (.int q2), .val (.double (FP.i2d v2)), .second, .val (.int q3), .val (.double (FP.i2d v3)), .second, .val (.double (18442240474082181120 : UInt64)), .second] [(.double (FP.i2d v2))]))
        refine own_st (fun t_ k_ => XS.dstore X0.here hx rfl (hb hby own_d7_36) rfl (l' := #[.val (.int e_), .val (.int q1), .val (.double (FP.i2d v1)), .second, .val (.int q2), .val (.double (FP.i2d v2)), .second, .val (.int q3), .val (.double (FP.i2d v3)), .second, .val (.double (FP.i2d v2)), .second]) rfl k_) ?_
        show own_Go p.tables e below _ (s₁.setTop (mkF m 38 #[.val (.int e_), .val (.int q1), .val (.double (FP.i2d v1)), .second, .val (.int q2), .val (.double (FP.i2d v2)), .second, .val (.int q3), .val (.double (FP.i2d v3)), .second, .val (.double (FP.i2d v2)), .second] []))
        refine own_st (fun t_ k_ => XS.iload X0.here hx rfl (hb hby own_d7_38) rfl k_) ?_
        show own_Go p.tables e below _ (s₁.setTop (mkF m 40 #[.val (.int e_), .val (.int q1), .val (.double (FP.i2d v1)), .second, .val (.int q2), .val (.double (FP.i2d v2)), .second, .val (.int q3), .val (.double (FP.i2d v3)), .second, .val (.double (FP.i2d v2)), .second] [(.int q3)]))
        refine own_st (fun t_ k_ => XS.iloadN X0.here hx rfl (hb hby own_d7_40) rfl k_) ?_
        show own_Go p.tables e below _ (s₁.setTop (mkF m 41 #[.val (.int e_), .val (.int q1), .val (.double (FP.i2d v1)), .second, .val (.int q2), .val (.double (FP.i2d v2)), .second, .val (.int q3), .val (.double (FP.i2d v3)), .second, .val (.double (FP.i2d v2)), .second] [(.int e_), (.int q3)]))
        by_cases c41_142 : q3 < e_
        · skip
          refine own_st (fun t_ k_ => XS.icmpNo X0.here hx rfl (hb hby own_d7_41) rfl (tlt c41_142).2.1 k_) ?_
          show own_Go p.tables e below _ (s₁.setTop (mkF m 44 #[.val (.int e_), .val (.int q1), .val (.double (FP.i2d v1)), .second, .val (.int q2), .val (.double (FP.i2d v2)), .second, .val (.int q3), .val (.double (FP.i2d v3)), .second, .val (.double (FP.i2d v2)), .second] []))
          refine own_st (fun t_ k_ => XS.dload X0.here hx rfl (hb hby own_d7_44) rfl k_) ?_
          show own_Go p.tables e below _ (s₁.setTop (mkF m 46 #[.val (.int e_), .val (.int q1), .val (.double (FP.i2d v1)), .second, .val (.int q2), .val (.double (FP.i2d v2)), .second, .val (.int q3), .val (.double (FP.i2d v3)), .second, .val (.double (FP.i2d v2)), .second] [(.double (FP.i2d v3))]))
          refine own_st (fun t_ k_ => XS.dload X0.here hx rfl (hb hby own_d7_46) rfl k_) ?_
          show own_Go p.tables e below _ (s₁.setTop (mkF m 48 #[.val (.int e_), .val (.int q1), .val (.double (FP.i2d v1)), .second, .val (.int q2), .val (.double (FP.i2d v2)), .second, .val (.int q3), .val (.double (FP.i2d v3)), .second, .val (.double (FP.i2d v2)), .second] [(.double (FP.i2d v2)), (.double (FP.i2d v3))]))
          refine own_st (fun t_ k_ => XS.dcmpS X0.here hx rfl (hb hby own_d7_48) rfl rfl k_) ?_
          show own_Go p.tables e below _ (s₁.setTop (mkF m 49 #[.val (.int e_), .val (.int q1), .val (.double (FP.i2d v1)), .second, .val (.int q2), .val (.double (FP.i2d v2)), .second, .val (.int q3), .val (.double (FP.i2d v3)), .second, .val (.double (FP.i2d v2)), .second] [(.int (cmpValue (FP.dcmp (FP.i2d v3) (FP.i2d v2)) .l))]))
          by_cases c49_143 : (0 : Int32) < (cmpValue (FP.dcmp (FP.i2d v3) (FP.i2d v2)) .l)
          · skip
            refine own_st (fun t_ k_ => XS.ifNo X0.here hx rfl (hb hby own_d7_49) rfl ((if0 _ _).trans (tlt c49_143).2.2.2) k_) ?_
            show own_Go p.tables e below _ (s₁.setTop (mkF m 52 #[.val (.int e_), .val (.int q1), .val (.double (FP.i2d v1)), .second, .val (.int q2), .val (.double (FP.i2d v2)), .second, .val (.int q3), .val (.double (FP.i2d v3)), .second, .val (.double (FP.i2d v2)), .second] []))
            refine own_st (fun t_ k_ => XS.dload X0.here hx rfl (hb hby own_d7_52) rfl k_) ?_
            show own_Go p.tables e below _ (s₁.setTop (mkF m 54 #[.val (.int e_), .val (.int q1), .val (.double (FP.i2d v1)), .second, .val (.int q2), .val (.double (FP.i2d v2)), .second, .val (.int q3), .val (.double (FP.i2d v3)), .second, .val (.double (FP.i2d v2)), .second] [(.double (FP.i2d v3))]))
            refine own_st (fun t_ k_ => XS.dstore X0.here hx rfl (hb hby own_d7_54) rfl (l' := #[.val (.int e_), .val (.int q1), .val (.double (FP.i2d v1)), .second, .val (.int q2), .val (.double (FP.i2d v2)), .second, .val (.int q3), .val (.double (FP.i2d v3)), .second, .val (.double (FP.i2d v3)), .second]) rfl k_) ?_
            show own_Go p.tables e below _ (s₁.setTop (mkF m 56 #[.val (.int e_), .val (.int q1), .val (.double (FP.i2d v1)), .second, .val (.int q2), .val (.double (FP.i2d v2)), .second, .val (.int q3), .val (.double (FP.i2d v3)), .second, .val (.double (FP.i2d v3)), .second] []))
            refine own_st (fun t_ k_ => XS.dload X0.here hx rfl (hb hby own_d7_56) rfl k_) ?_
            show own_Go p.tables e below _ (s₁.setTop (mkF m 58 #[.val (.int e_), .val (.int q1), .val (.double (FP.i2d v1)), .second, .val (.int q2), .val (.double (FP.i2d v2)), .second, .val (.int q3), .val (.double (FP.i2d v3)), .second, .val (.double (FP.i2d v3)), .second] [(.double (FP.i2d v3))]))
            exact own_ret (w := (.double (FP.i2d v3))) X0 hx hnl Bd.returns rfl (Or.inr (Or.inr (Or.inl ⟨rfl, rfl, _, rfl⟩))) (hb hby own_d7_58) ⟨(by simp [own_step, c7_122, c23_140, c31_141, c41_142, c49_143]), N0, e0⟩ (by decide) (by decide)
          · skip
            refine own_st (fun t_ k_ => XS.ifYes X0.here hx rfl (pc0 := 49) (pc' := 56) rfl (hb hby own_d7_49) rfl ((if0 _ _).trans (flt c49_143).2.2.2) (by decide) (by decide) k_) ?_
            show own_Go p.tables e below _ (s₁.setTop (mkF m 56 #[.val (.int e_), .val (.int q1), .val (.double (FP.i2d v1)), .second, .val (.int q2), .val (.double (FP.i2d v2)), .second, .val (.int q3), .val (.double (FP.i2d v3)), .second, .val (.double (FP.i2d v2)), .second] []))
            refine own_st (fun t_ k_ => XS.dload X0.here hx rfl (hb hby own_d7_56) rfl k_) ?_
            show own_Go p.tables e below _ (s₁.setTop (mkF m 58 #[.val (.int e_), .val (.int q1), .val (.double (FP.i2d v1)), .second, .val (.int q2), .val (.double (FP.i2d v2)), .second, .val (.int q3), .val (.double (FP.i2d v3)), .second, .val (.double (FP.i2d v2)), .second] [(.double (FP.i2d v2))]))
            exact own_ret (w := (.double (FP.i2d v2))) X0 hx hnl Bd.returns rfl (Or.inr (Or.inr (Or.inl ⟨rfl, rfl, _, rfl⟩))) (hb hby own_d7_58) ⟨(by simp [own_step, c7_122, c23_140, c31_141, c41_142, c49_143]), N0, e0⟩ (by decide) (by decide)
        · skip
          refine own_st (fun t_ k_ => XS.icmpYes X0.here hx rfl (pc0 := 41) (pc' := 56) rfl (hb hby own_d7_41) rfl (flt c41_142).2.1 (by decide) (by decide) k_) ?_
          show own_Go p.tables e below _ (s₁.setTop (mkF m 56 #[.val (.int e_), .val (.int q1), .val (.double (FP.i2d v1)), .second, .val (.int q2), .val (.double (FP.i2d v2)), .second, .val (.int q3), .val (.double (FP.i2d v3)), .second, .val (.double (FP.i2d v2)), .second] []))
          refine own_st (fun t_ k_ => XS.dload X0.here hx rfl (hb hby own_d7_56) rfl k_) ?_
          show own_Go p.tables e below _ (s₁.setTop (mkF m 58 #[.val (.int e_), .val (.int q1), .val (.double (FP.i2d v1)), .second, .val (.int q2), .val (.double (FP.i2d v2)), .second, .val (.int q3), .val (.double (FP.i2d v3)), .second, .val (.double (FP.i2d v2)), .second] [(.double (FP.i2d v2))]))
          exact own_ret (w := (.double (FP.i2d v2))) X0 hx hnl Bd.returns rfl (Or.inr (Or.inr (Or.inl ⟨rfl, rfl, _, rfl⟩))) (hb hby own_d7_58) ⟨(by simp [own_step, c7_122, c23_140, c31_141, c41_142]), N0, e0⟩ (by decide) (by decide)
      · skip
        refine own_st (fun t_ k_ => XS.ifYes X0.here hx rfl (pc0 := 31) (pc' := 38) rfl (hb hby own_d7_31) rfl ((if0 _ _).trans (flt c31_141).2.2.2) (by decide) (by decide) k_) ?_
        show own_Go p.tables e below _ (s₁.setTop (mkF m 38 #[.val (.int e_), .val (.int q1), .val (.double (FP.i2d v1)), .second, .val (.int q2), .val (.double (FP.i2d v2)), .second, .val (.int q3), .val (.double (FP.i2d v3)), .second, .val (.double (18442240474082181120 : UInt64)), .second] []))
        refine own_st (fun t_ k_ => XS.iload X0.here hx rfl (hb hby own_d7_38) rfl k_) ?_
        show own_Go p.tables e below _ (s₁.setTop (mkF m 40 #[.val (.int e_), .val (.int q1), .val (.double (FP.i2d v1)), .second, .val (.int q2), .val (.double (FP.i2d v2)), .second, .val (.int q3), .val (.double (FP.i2d v3)), .second, .val (.double (18442240474082181120 : UInt64)), .second] [(.int q3)]))
        refine own_st (fun t_ k_ => XS.iloadN X0.here hx rfl (hb hby own_d7_40) rfl k_) ?_
        show own_Go p.tables e below _ (s₁.setTop (mkF m 41 #[.val (.int e_), .val (.int q1), .val (.double (FP.i2d v1)), .second, .val (.int q2), .val (.double (FP.i2d v2)), .second, .val (.int q3), .val (.double (FP.i2d v3)), .second, .val (.double (18442240474082181120 : UInt64)), .second] [(.int e_), (.int q3)]))
        by_cases c41_144 : q3 < e_
        · skip
          refine own_st (fun t_ k_ => XS.icmpNo X0.here hx rfl (hb hby own_d7_41) rfl (tlt c41_144).2.1 k_) ?_
          show own_Go p.tables e below _ (s₁.setTop (mkF m 44 #[.val (.int e_), .val (.int q1), .val (.double (FP.i2d v1)), .second, .val (.int q2), .val (.double (FP.i2d v2)), .second, .val (.int q3), .val (.double (FP.i2d v3)), .second, .val (.double (18442240474082181120 : UInt64)), .second] []))
          refine own_st (fun t_ k_ => XS.dload X0.here hx rfl (hb hby own_d7_44) rfl k_) ?_
          show own_Go p.tables e below _ (s₁.setTop (mkF m 46 #[.val (.int e_), .val (.int q1), .val (.double (FP.i2d v1)), .second, .val (.int q2), .val (.double (FP.i2d v2)), .second, .val (.int q3), .val (.double (FP.i2d v3)), .second, .val (.double (18442240474082181120 : UInt64)), .second] [(.double (FP.i2d v3))]))
          refine own_st (fun t_ k_ => XS.dload X0.here hx rfl (hb hby own_d7_46) rfl k_) ?_
          show own_Go p.tables e below _ (s₁.setTop (mkF m 48 #[.val (.int e_), .val (.int q1), .val (.double (FP.i2d v1)), .second, .val (.int q2), .val (.double (FP.i2d v2)), .second, .val (.int q3), .val (.double (FP.i2d v3)), .second, .val (.double (18442240474082181120 : UInt64)), .second] [(.double (18442240474082181120 : UInt64)), (.double (FP.i2d v3))]))
          refine own_st (fun t_ k_ => XS.dcmpS X0.here hx rfl (hb hby own_d7_48) rfl rfl k_) ?_
          show own_Go p.tables e below _ (s₁.setTop (mkF m 49 #[.val (.int e_), .val (.int q1), .val (.double (FP.i2d v1)), .second, .val (.int q2), .val (.double (FP.i2d v2)), .second, .val (.int q3), .val (.double (FP.i2d v3)), .second, .val (.double (18442240474082181120 : UInt64)), .second] [(.int (cmpValue (FP.dcmp (FP.i2d v3) (18442240474082181120 : UInt64)) .l))]))
          by_cases c49_145 : (0 : Int32) < (cmpValue (FP.dcmp (FP.i2d v3) (18442240474082181120 : UInt64)) .l)
          · skip
            refine own_st (fun t_ k_ => XS.ifNo X0.here hx rfl (hb hby own_d7_49) rfl ((if0 _ _).trans (tlt c49_145).2.2.2) k_) ?_
            show own_Go p.tables e below _ (s₁.setTop (mkF m 52 #[.val (.int e_), .val (.int q1), .val (.double (FP.i2d v1)), .second, .val (.int q2), .val (.double (FP.i2d v2)), .second, .val (.int q3), .val (.double (FP.i2d v3)), .second, .val (.double (18442240474082181120 : UInt64)), .second] []))
            refine own_st (fun t_ k_ => XS.dload X0.here hx rfl (hb hby own_d7_52) rfl k_) ?_
            show own_Go p.tables e below _ (s₁.setTop (mkF m 54 #[.val (.int e_), .val (.int q1), .val (.double (FP.i2d v1)), .second, .val (.int q2), .val (.double (FP.i2d v2)), .second, .val (.int q3), .val (.double (FP.i2d v3)), .second, .val (.double (18442240474082181120 : UInt64)), .second] [(.double (FP.i2d v3))]))
            refine own_st (fun t_ k_ => XS.dstore X0.here hx rfl (hb hby own_d7_54) rfl (l' := #[.val (.int e_), .val (.int q1), .val (.double (FP.i2d v1)), .second, .val (.int q2), .val (.double (FP.i2d v2)), .second, .val (.int q3), .val (.double (FP.i2d v3)), .second, .val (.double (FP.i2d v3)), .second]) rfl k_) ?_
            show own_Go p.tables e below _ (s₁.setTop (mkF m 56 #[.val (.int e_), .val (.int q1), .val (.double (FP.i2d v1)), .second, .val (.int q2), .val (.double (FP.i2d v2)), .second, .val (.int q3), .val (.double (FP.i2d v3)), .second, .val (.double (FP.i2d v3)), .second] []))
            refine own_st (fun t_ k_ => XS.dload X0.here hx rfl (hb hby own_d7_56) rfl k_) ?_
            show own_Go p.tables e below _ (s₁.setTop (mkF m 58 #[.val (.int e_), .val (.int q1), .val (.double (FP.i2d v1)), .second, .val (.int q2), .val (.double (FP.i2d v2)), .second, .val (.int q3), .val (.double (FP.i2d v3)), .second, .val (.double (FP.i2d v3)), .second] [(.double (FP.i2d v3))]))
            exact own_ret (w := (.double (FP.i2d v3))) X0 hx hnl Bd.returns rfl (Or.inr (Or.inr (Or.inl ⟨rfl, rfl, _, rfl⟩))) (hb hby own_d7_58) ⟨(by simp [own_step, c7_122, c23_140, c31_141, c41_144, c49_145]), N0, e0⟩ (by decide) (by decide)
          · skip
            refine own_st (fun t_ k_ => XS.ifYes X0.here hx rfl (pc0 := 49) (pc' := 56) rfl (hb hby own_d7_49) rfl ((if0 _ _).trans (flt c49_145).2.2.2) (by decide) (by decide) k_) ?_
            show own_Go p.tables e below _ (s₁.setTop (mkF m 56 #[.val (.int e_), .val (.int q1), .val (.double (FP.i2d v1)), .second, .val (.int q2), .val (.double (FP.i2d v2)), .second, .val (.int q3), .val (.double (FP.i2d v3)), .second, .val (.double (18442240474082181120 : UInt64)), .second] []))
            refine own_st (fun t_ k_ => XS.dload X0.here hx rfl (hb hby own_d7_56) rfl k_) ?_
            show own_Go p.tables e below _ (s₁.setTop (mkF m 58 #[.val (.int e_), .val (.int q1), .val (.double (FP.i2d v1)), .second, .val (.int q2), .val (.double (FP.i2d v2)), .second, .val (.int q3), .val (.double (FP.i2d v3)), .second, .val (.double (18442240474082181120 : UInt64)), .second] [(.double (18442240474082181120 : UInt64))]))
            exact own_ret (w := (.double (18442240474082181120 : UInt64))) X0 hx hnl Bd.returns rfl (Or.inr (Or.inr (Or.inl ⟨rfl, rfl, _, rfl⟩))) (hb hby own_d7_58) ⟨(by simp [own_step, c7_122, c23_140, c31_141, c41_144, c49_145]), N0, e0⟩ (by decide) (by decide)
        · skip
          refine own_st (fun t_ k_ => XS.icmpYes X0.here hx rfl (pc0 := 41) (pc' := 56) rfl (hb hby own_d7_41) rfl (flt c41_144).2.1 (by decide) (by decide) k_) ?_
          show own_Go p.tables e below _ (s₁.setTop (mkF m 56 #[.val (.int e_), .val (.int q1), .val (.double (FP.i2d v1)), .second, .val (.int q2), .val (.double (FP.i2d v2)), .second, .val (.int q3), .val (.double (FP.i2d v3)), .second, .val (.double (18442240474082181120 : UInt64)), .second] []))
          refine own_st (fun t_ k_ => XS.dload X0.here hx rfl (hb hby own_d7_56) rfl k_) ?_
          show own_Go p.tables e below _ (s₁.setTop (mkF m 58 #[.val (.int e_), .val (.int q1), .val (.double (FP.i2d v1)), .second, .val (.int q2), .val (.double (FP.i2d v2)), .second, .val (.int q3), .val (.double (FP.i2d v3)), .second, .val (.double (18442240474082181120 : UInt64)), .second] [(.double (18442240474082181120 : UInt64))]))
          exact own_ret (w := (.double (18442240474082181120 : UInt64))) X0 hx hnl Bd.returns rfl (Or.inr (Or.inr (Or.inl ⟨rfl, rfl, _, rfl⟩))) (hb hby own_d7_58) ⟨(by simp [own_step, c7_122, c23_140, c31_141, c41_144]), N0, e0⟩ (by decide) (by decide)
    · skip
      refine own_st (fun t_ k_ => XS.icmpYes X0.here hx rfl (pc0 := 23) (pc' := 38) rfl (hb hby own_d7_23) rfl (flt c23_140).2.1 (by decide) (by decide) k_) ?_
      show own_Go p.tables e below _ (s₁.setTop (mkF m 38 #[.val (.int e_), .val (.int q1), .val (.double (FP.i2d v1)), .second, .val (.int q2), .val (.double (FP.i2d v2)), .second, .val (.int q3), .val (.double (FP.i2d v3)), .second, .val (.double (18442240474082181120 : UInt64)), .second] []))
      refine own_st (fun t_ k_ => XS.iload X0.here hx rfl (hb hby own_d7_38) rfl k_) ?_
      show own_Go p.tables e below _ (s₁.setTop (mkF m 40 #[.val (.int e_), .val (.int q1), .val (.double (FP.i2d v1)), .second, .val (.int q2), .val (.double (FP.i2d v2)), .second, .val (.int q3), .val (.double (FP.i2d v3)), .second, .val (.double (18442240474082181120 : UInt64)), .second] [(.int q3)]))
      refine own_st (fun t_ k_ => XS.iloadN X0.here hx rfl (hb hby own_d7_40) rfl k_) ?_
      show own_Go p.tables e below _ (s₁.setTop (mkF m 41 #[.val (.int e_), .val (.int q1), .val (.double (FP.i2d v1)), .second, .val (.int q2), .val (.double (FP.i2d v2)), .second, .val (.int q3), .val (.double (FP.i2d v3)), .second, .val (.double (18442240474082181120 : UInt64)), .second] [(.int e_), (.int q3)]))
      by_cases c41_146 : q3 < e_
      · skip
        refine own_st (fun t_ k_ => XS.icmpNo X0.here hx rfl (hb hby own_d7_41) rfl (tlt c41_146).2.1 k_) ?_
        show own_Go p.tables e below _ (s₁.setTop (mkF m 44 #[.val (.int e_), .val (.int q1), .val (.double (FP.i2d v1)), .second, .val (.int q2), .val (.double (FP.i2d v2)), .second, .val (.int q3), .val (.double (FP.i2d v3)), .second, .val (.double (18442240474082181120 : UInt64)), .second] []))
        refine own_st (fun t_ k_ => XS.dload X0.here hx rfl (hb hby own_d7_44) rfl k_) ?_
        show own_Go p.tables e below _ (s₁.setTop (mkF m 46 #[.val (.int e_), .val (.int q1), .val (.double (FP.i2d v1)), .second, .val (.int q2), .val (.double (FP.i2d v2)), .second, .val (.int q3), .val (.double (FP.i2d v3)), .second, .val (.double (18442240474082181120 : UInt64)), .second] [(.double (FP.i2d v3))]))
        refine own_st (fun t_ k_ => XS.dload X0.here hx rfl (hb hby own_d7_46) rfl k_) ?_
        show own_Go p.tables e below _ (s₁.setTop (mkF m 48 #[.val (.int e_), .val (.int q1), .val (.double (FP.i2d v1)), .second, .val (.int q2), .val (.double (FP.i2d v2)), .second, .val (.int q3), .val (.double (FP.i2d v3)), .second, .val (.double (18442240474082181120 : UInt64)), .second] [(.double (18442240474082181120 : UInt64)), (.double (FP.i2d v3))]))
        refine own_st (fun t_ k_ => XS.dcmpS X0.here hx rfl (hb hby own_d7_48) rfl rfl k_) ?_
        show own_Go p.tables e below _ (s₁.setTop (mkF m 49 #[.val (.int e_), .val (.int q1), .val (.double (FP.i2d v1)), .second, .val (.int q2), .val (.double (FP.i2d v2)), .second, .val (.int q3), .val (.double (FP.i2d v3)), .second, .val (.double (18442240474082181120 : UInt64)), .second] [(.int (cmpValue (FP.dcmp (FP.i2d v3) (18442240474082181120 : UInt64)) .l))]))
        by_cases c49_147 : (0 : Int32) < (cmpValue (FP.dcmp (FP.i2d v3) (18442240474082181120 : UInt64)) .l)
        · skip
          refine own_st (fun t_ k_ => XS.ifNo X0.here hx rfl (hb hby own_d7_49) rfl ((if0 _ _).trans (tlt c49_147).2.2.2) k_) ?_
          show own_Go p.tables e below _ (s₁.setTop (mkF m 52 #[.val (.int e_), .val (.int q1), .val (.double (FP.i2d v1)), .second, .val (.int q2), .val (.double (FP.i2d v2)), .second, .val (.int q3), .val (.double (FP.i2d v3)), .second, .val (.double (18442240474082181120 : UInt64)), .second] []))
          refine own_st (fun t_ k_ => XS.dload X0.here hx rfl (hb hby own_d7_52) rfl k_) ?_
          show own_Go p.tables e below _ (s₁.setTop (mkF m 54 #[.val (.int e_), .val (.int q1), .val (.double (FP.i2d v1)), .second, .val (.int q2), .val (.double (FP.i2d v2)), .second, .val (.int q3), .val (.double (FP.i2d v3)), .second, .val (.double (18442240474082181120 : UInt64)), .second] [(.double (FP.i2d v3))]))
          refine own_st (fun t_ k_ => XS.dstore X0.here hx rfl (hb hby own_d7_54) rfl (l' := #[.val (.int e_), .val (.int q1), .val (.double (FP.i2d v1)), .second, .val (.int q2), .val (.double (FP.i2d v2)), .second, .val (.int q3), .val (.double (FP.i2d v3)), .second, .val (.double (FP.i2d v3)), .second]) rfl k_) ?_
          show own_Go p.tables e below _ (s₁.setTop (mkF m 56 #[.val (.int e_), .val (.int q1), .val (.double (FP.i2d v1)), .second, .val (.int q2), .val (.double (FP.i2d v2)), .second, .val (.int q3), .val (.double (FP.i2d v3)), .second, .val (.double (FP.i2d v3)), .second] []))
          refine own_st (fun t_ k_ => XS.dload X0.here hx rfl (hb hby own_d7_56) rfl k_) ?_
          show own_Go p.tables e below _ (s₁.setTop (mkF m 58 #[.val (.int e_), .val (.int q1), .val (.double (FP.i2d v1)), .second, .val (.int q2), .val (.double (FP.i2d v2)), .second, .val (.int q3), .val (.double (FP.i2d v3)), .second, .val (.double (FP.i2d v3)), .second] [(.double (FP.i2d v3))]))
          exact own_ret (w := (.double (FP.i2d v3))) X0 hx hnl Bd.returns rfl (Or.inr (Or.inr (Or.inl ⟨rfl, rfl, _, rfl⟩))) (hb hby own_d7_58) ⟨(by simp [own_step, c7_122, c23_140, c41_146, c49_147]), N0, e0⟩ (by decide) (by decide)
        · skip
          refine own_st (fun t_ k_ => XS.ifYes X0.here hx rfl (pc0 := 49) (pc' := 56) rfl (hb hby own_d7_49) rfl ((if0 _ _).trans (flt c49_147).2.2.2) (by decide) (by decide) k_) ?_
          show own_Go p.tables e below _ (s₁.setTop (mkF m 56 #[.val (.int e_), .val (.int q1), .val (.double (FP.i2d v1)), .second, .val (.int q2), .val (.double (FP.i2d v2)), .second, .val (.int q3), .val (.double (FP.i2d v3)), .second, .val (.double (18442240474082181120 : UInt64)), .second] []))
          refine own_st (fun t_ k_ => XS.dload X0.here hx rfl (hb hby own_d7_56) rfl k_) ?_
          show own_Go p.tables e below _ (s₁.setTop (mkF m 58 #[.val (.int e_), .val (.int q1), .val (.double (FP.i2d v1)), .second, .val (.int q2), .val (.double (FP.i2d v2)), .second, .val (.int q3), .val (.double (FP.i2d v3)), .second, .val (.double (18442240474082181120 : UInt64)), .second] [(.double (18442240474082181120 : UInt64))]))
          exact own_ret (w := (.double (18442240474082181120 : UInt64))) X0 hx hnl Bd.returns rfl (Or.inr (Or.inr (Or.inl ⟨rfl, rfl, _, rfl⟩))) (hb hby own_d7_58) ⟨(by simp [own_step, c7_122, c23_140, c41_146, c49_147]), N0, e0⟩ (by decide) (by decide)
      · skip
        refine own_st (fun t_ k_ => XS.icmpYes X0.here hx rfl (pc0 := 41) (pc' := 56) rfl (hb hby own_d7_41) rfl (flt c41_146).2.1 (by decide) (by decide) k_) ?_
        show own_Go p.tables e below _ (s₁.setTop (mkF m 56 #[.val (.int e_), .val (.int q1), .val (.double (FP.i2d v1)), .second, .val (.int q2), .val (.double (FP.i2d v2)), .second, .val (.int q3), .val (.double (FP.i2d v3)), .second, .val (.double (18442240474082181120 : UInt64)), .second] []))
        refine own_st (fun t_ k_ => XS.dload X0.here hx rfl (hb hby own_d7_56) rfl k_) ?_
        show own_Go p.tables e below _ (s₁.setTop (mkF m 58 #[.val (.int e_), .val (.int q1), .val (.double (FP.i2d v1)), .second, .val (.int q2), .val (.double (FP.i2d v2)), .second, .val (.int q3), .val (.double (FP.i2d v3)), .second, .val (.double (18442240474082181120 : UInt64)), .second] [(.double (18442240474082181120 : UInt64))]))
        exact own_ret (w := (.double (18442240474082181120 : UInt64))) X0 hx hnl Bd.returns rfl (Or.inr (Or.inr (Or.inl ⟨rfl, rfl, _, rfl⟩))) (hb hby own_d7_58) ⟨(by simp [own_step, c7_122, c23_140, c41_146]), N0, e0⟩ (by decide) (by decide)

theorem own_pd2 : parseMethodDescriptor "(I)V" = some ⟨[.int], none⟩ := by decide +kernel
theorem own_pd3 : parseMethodDescriptor "(ID)V" = some ⟨[.int, .double], none⟩ := by decide +kernel
theorem own_pd4 : parseMethodDescriptor "(I)D" = some ⟨[.int], some .double⟩ := by decide +kernel
theorem own_pd5 : parseMethodDescriptor "(IIDIDID)D" = some ⟨[.int, .int, .double, .int, .double, .int, .double], some .double⟩ := by decide +kernel
theorem own_ef0 (m : MethodId) (x0 : Int32) (x1 : Int32) (x2 : Int32) (x3 : Int32) (x4 : Int32) : entryFrame m #[(.int x0), (.int x1), (.int x2), (.int x3), (.int x4)] maxLocals = mkF m 0 #[.val (.int x0), .val (.int x1), .val (.int x2), .val (.int x3), .val (.int x4), .unset, .unset, .unset, .unset, .unset, .unset, .unset, .unset, .unset, .unset, .unset, .unset, .unset, .unset, .unset, .unset, .unset, .unset, .unset, .unset] [] := by first | (simp [entryFrame, mkF, argsToLocals, Value.category, maxLocals]; done) | rfl
def own_Q0 (Z : State) (p0 : Int32) (p1 : Int32) (p2 : Int32) (p3 : Int32) (p4 : Int32) (h0 : Heap) (n0 : Nat) (v : Option Value) (h : Heap) (L : List Loc) : Prop := v = some (.int (1 : Int32)) ∧ Fr n0 L ∧ Keep h0 h []
set_option maxRecDepth 65536 in
set_option maxHeartbeats 40000000 in
theorem own_rm0 (l : Launch) (Z : State) (a0 : Array Value) (hw : ∀ d ∈ tables_1, d.before a0 Z = true) (ws : List Jvm.Cond) (p0 : Int32) (p1 : Int32) (p2 : Int32) (p3 : Int32) (p4 : Int32) (h0 : Heap) (n0 : Nat) (Z0 : n0 ≤ h0.size)  :
    MetFree l x (head1 (Jvm.Cond.code x code maxLocals ret :: ws) room_1) (fun a U => a = #[(.int p0), (.int p1), (.int p2), (.int p3), (.int p4)] ∧ Z.Warmed39 U.vm ∧ U.heap = h0) (fun _ _ _ _ _ => True) (fun _ U o U' => ∃ v L, o = .returned v ∧ own_Q0 Z p0 p1 p2 p3 p4 h0 n0 v U'.heap L ∧ FrameEnd U o U' L room_1.cells room_1.slots) := by
  refine MetFree.of_bodySF (plainFor_of_name own_pn2) hisR ?_
  intro p e s m args below meth c s₁ Bd hml0 hP hK
  obtain ⟨rfl, hZ, hh⟩ := hP
  have hx := Bd.exec
  have hby := Bd.bytes
  have hml : c.maxLocals = 25 := hml0
  have hown : s.vm.findClass "com/example/seshat/seshat/layout/PrefixMaximumRaisePinLaw" = some m.cls := findClass_of_methodNamed Bd.named
  have hnm := (name_of_methodNamed Bd.named Bd.method).1
  have hnl : meth.locks = false := Bd.notSynchronized
  have X0 : Stand p l e room_1 s m #[(.int p0), (.int p1), (.int p2), (.int p3), (.int p4)] below meth c s₁ [] 0 0 := Stand.of_body Bd
  have e0 : s₁.heap = h0 := by rw [← hh, Bd.state]; rfl
  have N0 := Fr.nil n0
  show own_Go p.tables e below (own_P below s (own_Q0 Z p0 p1 p2 p3 p4 h0 n0) room_1.cells room_1.slots) _
  refine own_st (fun t_ k_ => castTop (own_ef0 m p0 p1 p2 p3 p4) k_) ?_
  show own_Go p.tables e below _ (s₁.setTop (mkF m 0 #[.val (.int p0), .val (.int p1), .val (.int p2), .val (.int p3), .val (.int p4), .unset, .unset, .unset, .unset, .unset, .unset, .unset, .unset, .unset, .unset, .unset, .unset, .unset, .unset, .unset, .unset, .unset, .unset, .unset, .unset] []))
  obtain ⟨sz, hsz⟩ : ∃ z, z = (1 : Int32) + (p4 &&& 7) := ⟨_, rfl⟩
  have bs : 1 ≤ sz.toInt ∧ sz.toInt ≤ 8 := by have q := own_and7 p4; have i1 : (1 : Int32).toInt = 1 := (by decide); rw [hsz, Int32.toInt_add, i1, bmod32 (by omega) (by omega)]; omega
  obtain ⟨sn, hsn⟩ : ∃ k : Nat, sz.toInt = (k : Int) := ⟨sz.toInt.toNat, by omega⟩
  have bs1 : 1 ≤ sn ∧ sn ≤ 8 := by omega
  have hs1 : (sz + 1).toInt = ((sn + 1 : Nat) : Int) := own_inc hsn (by omega)
  obtain ⟨ee, hee⟩ : ∃ z, z = (((p4.toUInt32 >>> ((3 : Int32) &&& 31).toUInt32).toInt32) &&& 15) % (sz + 1) := ⟨_, rfl⟩
  obtain ⟨en, ben, hen⟩ := own_remN (own_and15 ((p4.toUInt32 >>> ((3 : Int32) &&& 31).toUInt32).toInt32)).1 hs1 (by omega)
  rw [← hee] at hen
  obtain ⟨qq1, hqq1⟩ : ∃ z, z = (p0 &&& 7) % sz := ⟨_, rfl⟩
  obtain ⟨qm1, bqm1, hqm1⟩ := own_remN (own_and7 p0).1 hsn (by omega)
  rw [← hqq1] at hqm1
  obtain ⟨qq2, hqq2⟩ : ∃ z, z = (((p0.toUInt32 >>> ((3 : Int32) &&& 31).toUInt32).toInt32) &&& 7) % sz := ⟨_, rfl⟩
  obtain ⟨qm2, bqm2, hqm2⟩ := own_remN (own_and7 ((p0.toUInt32 >>> ((3 : Int32) &&& 31).toUInt32).toInt32)).1 hsn (by omega)
  rw [← hqq2] at hqm2
  obtain ⟨qq3, hqq3⟩ : ∃ z, z = (((p0.toUInt32 >>> ((6 : Int32) &&& 31).toUInt32).toInt32) &&& 7) % sz := ⟨_, rfl⟩
  obtain ⟨qm3, bqm3, hqm3⟩ := own_remN (own_and7 ((p0.toUInt32 >>> ((6 : Int32) &&& 31).toUInt32).toInt32)).1 hsn (by omega)
  rw [← hqq3] at hqm3
  have nsz : sz ≠ 0 := fun q => by rw [q] at hsn; have z32 : (0 : Int32).toInt = 0 := (by decide); omega
  have nsz1 : sz + 1 ≠ 0 := fun q => by rw [q] at hs1; have z32 : (0 : Int32).toInt = 0 := (by decide); omega
  refine own_st (fun t_ k_ => XS.iconst X0.here hx rfl (hb hby at_0) k_) ?_
  show own_Go p.tables e below _ (s₁.setTop (mkF m 1 #[.val (.int p0), .val (.int p1), .val (.int p2), .val (.int p3), .val (.int p4), .unset, .unset, .unset, .unset, .unset, .unset, .unset, .unset, .unset, .unset, .unset, .unset, .unset, .unset, .unset, .unset, .unset, .unset, .unset, .unset] [(.int (1 : Int32))]))
  refine own_st (fun t_ k_ => XS.iload X0.here hx rfl (hb hby at_1) rfl k_) ?_
  show own_Go p.tables e below _ (s₁.setTop (mkF m 3 #[.val (.int p0), .val (.int p1), .val (.int p2), .val (.int p3), .val (.int p4), .unset, .unset, .unset, .unset, .unset, .unset, .unset, .unset, .unset, .unset, .unset, .unset, .unset, .unset, .unset, .unset, .unset, .unset, .unset, .unset] [(.int p4), (.int (1 : Int32))]))
  refine own_st (fun t_ k_ => XS.bipush X0.here hx rfl (hb hby at_3) k_) ?_
  show own_Go p.tables e below _ (s₁.setTop (mkF m 5 #[.val (.int p0), .val (.int p1), .val (.int p2), .val (.int p3), .val (.int p4), .unset, .unset, .unset, .unset, .unset, .unset, .unset, .unset, .unset, .unset, .unset, .unset, .unset, .unset, .unset, .unset, .unset, .unset, .unset, .unset] [(.int (7 : Int32)), (.int p4), (.int (1 : Int32))]))
  refine own_st (fun t_ k_ => XS.iand X0.here hx rfl (hb hby at_5) rfl k_) ?_
  show own_Go p.tables e below _ (s₁.setTop (mkF m 6 #[.val (.int p0), .val (.int p1), .val (.int p2), .val (.int p3), .val (.int p4), .unset, .unset, .unset, .unset, .unset, .unset, .unset, .unset, .unset, .unset, .unset, .unset, .unset, .unset, .unset, .unset, .unset, .unset, .unset, .unset] [(.int (p4 &&& (7 : Int32))), (.int (1 : Int32))]))
  refine own_st (fun t_ k_ => XS.iadd X0.here hx rfl (hb hby at_6) rfl k_) ?_
  show own_Go p.tables e below _ (s₁.setTop (mkF m 7 #[.val (.int p0), .val (.int p1), .val (.int p2), .val (.int p3), .val (.int p4), .unset, .unset, .unset, .unset, .unset, .unset, .unset, .unset, .unset, .unset, .unset, .unset, .unset, .unset, .unset, .unset, .unset, .unset, .unset, .unset] [(.int ((1 : Int32) + (p4 &&& (7 : Int32))))]))
  rw [show ((1 : Int32) + (p4 &&& (7 : Int32))) = sz from hsz.symm]
  show own_Go p.tables e below _ (s₁.setTop (mkF m 7 #[.val (.int p0), .val (.int p1), .val (.int p2), .val (.int p3), .val (.int p4), .unset, .unset, .unset, .unset, .unset, .unset, .unset, .unset, .unset, .unset, .unset, .unset, .unset, .unset, .unset, .unset, .unset, .unset, .unset, .unset] [(.int sz)]))
  refine own_st (fun t_ k_ => XS.istore X0.here hx rfl (hb hby at_7) rfl (l' := #[.val (.int p0), .val (.int p1), .val (.int p2), .val (.int p3), .val (.int p4), .val (.int sz), .unset, .unset, .unset, .unset, .unset, .unset, .unset, .unset, .unset, .unset, .unset, .unset, .unset, .unset, .unset, .unset, .unset, .unset, .unset]) rfl k_) ?_
  show own_Go p.tables e below _ (s₁.setTop (mkF m 9 #[.val (.int p0), .val (.int p1), .val (.int p2), .val (.int p3), .val (.int p4), .val (.int sz), .unset, .unset, .unset, .unset, .unset, .unset, .unset, .unset, .unset, .unset, .unset, .unset, .unset, .unset, .unset, .unset, .unset, .unset, .unset] []))
  refine own_st (fun t_ k_ => XS.iload X0.here hx rfl (hb hby at_9) rfl k_) ?_
  show own_Go p.tables e below _ (s₁.setTop (mkF m 11 #[.val (.int p0), .val (.int p1), .val (.int p2), .val (.int p3), .val (.int p4), .val (.int sz), .unset, .unset, .unset, .unset, .unset, .unset, .unset, .unset, .unset, .unset, .unset, .unset, .unset, .unset, .unset, .unset, .unset, .unset, .unset] [(.int p4)]))
  refine own_st (fun t_ k_ => XS.iconst X0.here hx rfl (hb hby at_11) k_) ?_
  show own_Go p.tables e below _ (s₁.setTop (mkF m 12 #[.val (.int p0), .val (.int p1), .val (.int p2), .val (.int p3), .val (.int p4), .val (.int sz), .unset, .unset, .unset, .unset, .unset, .unset, .unset, .unset, .unset, .unset, .unset, .unset, .unset, .unset, .unset, .unset, .unset, .unset, .unset] [(.int (3 : Int32)), (.int p4)]))
  refine own_st (fun t_ k_ => XS.iushr X0.here hx rfl (hb hby at_12) rfl k_) ?_
  show own_Go p.tables e below _ (s₁.setTop (mkF m 13 #[.val (.int p0), .val (.int p1), .val (.int p2), .val (.int p3), .val (.int p4), .val (.int sz), .unset, .unset, .unset, .unset, .unset, .unset, .unset, .unset, .unset, .unset, .unset, .unset, .unset, .unset, .unset, .unset, .unset, .unset, .unset] [(.int ((p4.toUInt32 >>> ((3 : Int32) &&& 31).toUInt32).toInt32))]))
  refine own_st (fun t_ k_ => XS.bipush X0.here hx rfl (hb hby at_13) k_) ?_
  show own_Go p.tables e below _ (s₁.setTop (mkF m 15 #[.val (.int p0), .val (.int p1), .val (.int p2), .val (.int p3), .val (.int p4), .val (.int sz), .unset, .unset, .unset, .unset, .unset, .unset, .unset, .unset, .unset, .unset, .unset, .unset, .unset, .unset, .unset, .unset, .unset, .unset, .unset] [(.int (15 : Int32)), (.int ((p4.toUInt32 >>> ((3 : Int32) &&& 31).toUInt32).toInt32))]))
  refine own_st (fun t_ k_ => XS.iand X0.here hx rfl (hb hby at_15) rfl k_) ?_
  show own_Go p.tables e below _ (s₁.setTop (mkF m 16 #[.val (.int p0), .val (.int p1), .val (.int p2), .val (.int p3), .val (.int p4), .val (.int sz), .unset, .unset, .unset, .unset, .unset, .unset, .unset, .unset, .unset, .unset, .unset, .unset, .unset, .unset, .unset, .unset, .unset, .unset, .unset] [(.int (((p4.toUInt32 >>> ((3 : Int32) &&& 31).toUInt32).toInt32) &&& (15 : Int32)))]))
  refine own_st (fun t_ k_ => XS.iload X0.here hx rfl (hb hby at_16) rfl k_) ?_
  show own_Go p.tables e below _ (s₁.setTop (mkF m 18 #[.val (.int p0), .val (.int p1), .val (.int p2), .val (.int p3), .val (.int p4), .val (.int sz), .unset, .unset, .unset, .unset, .unset, .unset, .unset, .unset, .unset, .unset, .unset, .unset, .unset, .unset, .unset, .unset, .unset, .unset, .unset] [(.int sz), (.int (((p4.toUInt32 >>> ((3 : Int32) &&& 31).toUInt32).toInt32) &&& (15 : Int32)))]))
  refine own_st (fun t_ k_ => XS.iconst X0.here hx rfl (hb hby at_18) k_) ?_
  show own_Go p.tables e below _ (s₁.setTop (mkF m 19 #[.val (.int p0), .val (.int p1), .val (.int p2), .val (.int p3), .val (.int p4), .val (.int sz), .unset, .unset, .unset, .unset, .unset, .unset, .unset, .unset, .unset, .unset, .unset, .unset, .unset, .unset, .unset, .unset, .unset, .unset, .unset] [(.int (1 : Int32)), (.int sz), (.int (((p4.toUInt32 >>> ((3 : Int32) &&& 31).toUInt32).toInt32) &&& (15 : Int32)))]))
  refine own_st (fun t_ k_ => XS.iadd X0.here hx rfl (hb hby at_19) rfl k_) ?_
  show own_Go p.tables e below _ (s₁.setTop (mkF m 20 #[.val (.int p0), .val (.int p1), .val (.int p2), .val (.int p3), .val (.int p4), .val (.int sz), .unset, .unset, .unset, .unset, .unset, .unset, .unset, .unset, .unset, .unset, .unset, .unset, .unset, .unset, .unset, .unset, .unset, .unset, .unset] [(.int (sz + (1 : Int32))), (.int (((p4.toUInt32 >>> ((3 : Int32) &&& 31).toUInt32).toInt32) &&& (15 : Int32)))]))
  refine own_st (fun t_ k_ => iremM X0 hx rfl (hb hby at_20) rfl nsz1 k_) ?_
  show own_Go p.tables e below _ (s₁.setTop (mkF m 21 #[.val (.int p0), .val (.int p1), .val (.int p2), .val (.int p3), .val (.int p4), .val (.int sz), .unset, .unset, .unset, .unset, .unset, .unset, .unset, .unset, .unset, .unset, .unset, .unset, .unset, .unset, .unset, .unset, .unset, .unset, .unset] [(.int ((((p4.toUInt32 >>> ((3 : Int32) &&& 31).toUInt32).toInt32) &&& (15 : Int32)) % (sz + (1 : Int32))))]))
  rw [show ((((p4.toUInt32 >>> ((3 : Int32) &&& 31).toUInt32).toInt32) &&& (15 : Int32)) % (sz + (1 : Int32))) = ee from hee.symm]
  show own_Go p.tables e below _ (s₁.setTop (mkF m 21 #[.val (.int p0), .val (.int p1), .val (.int p2), .val (.int p3), .val (.int p4), .val (.int sz), .unset, .unset, .unset, .unset, .unset, .unset, .unset, .unset, .unset, .unset, .unset, .unset, .unset, .unset, .unset, .unset, .unset, .unset, .unset] [(.int ee)]))
  refine own_st (fun t_ k_ => XS.istore X0.here hx rfl (hb hby at_21) rfl (l' := #[.val (.int p0), .val (.int p1), .val (.int p2), .val (.int p3), .val (.int p4), .val (.int sz), .val (.int ee), .unset, .unset, .unset, .unset, .unset, .unset, .unset, .unset, .unset, .unset, .unset, .unset, .unset, .unset, .unset, .unset, .unset, .unset]) rfl k_) ?_
  show own_Go p.tables e below _ (s₁.setTop (mkF m 23 #[.val (.int p0), .val (.int p1), .val (.int p2), .val (.int p3), .val (.int p4), .val (.int sz), .val (.int ee), .unset, .unset, .unset, .unset, .unset, .unset, .unset, .unset, .unset, .unset, .unset, .unset, .unset, .unset, .unset, .unset, .unset, .unset] []))
  refine own_st (fun t_ k_ => XS.iloadN X0.here hx rfl (hb hby at_23) rfl k_) ?_
  show own_Go p.tables e below _ (s₁.setTop (mkF m 24 #[.val (.int p0), .val (.int p1), .val (.int p2), .val (.int p3), .val (.int p4), .val (.int sz), .val (.int ee), .unset, .unset, .unset, .unset, .unset, .unset, .unset, .unset, .unset, .unset, .unset, .unset, .unset, .unset, .unset, .unset, .unset, .unset] [(.int p0)]))
  refine own_st (fun t_ k_ => XS.bipush X0.here hx rfl (hb hby at_24) k_) ?_
  show own_Go p.tables e below _ (s₁.setTop (mkF m 26 #[.val (.int p0), .val (.int p1), .val (.int p2), .val (.int p3), .val (.int p4), .val (.int sz), .val (.int ee), .unset, .unset, .unset, .unset, .unset, .unset, .unset, .unset, .unset, .unset, .unset, .unset, .unset, .unset, .unset, .unset, .unset, .unset] [(.int (7 : Int32)), (.int p0)]))
  refine own_st (fun t_ k_ => XS.iand X0.here hx rfl (hb hby at_26) rfl k_) ?_
  show own_Go p.tables e below _ (s₁.setTop (mkF m 27 #[.val (.int p0), .val (.int p1), .val (.int p2), .val (.int p3), .val (.int p4), .val (.int sz), .val (.int ee), .unset, .unset, .unset, .unset, .unset, .unset, .unset, .unset, .unset, .unset, .unset, .unset, .unset, .unset, .unset, .unset, .unset, .unset] [(.int (p0 &&& (7 : Int32)))]))
  refine own_st (fun t_ k_ => XS.iload X0.here hx rfl (hb hby at_27) rfl k_) ?_
  show own_Go p.tables e below _ (s₁.setTop (mkF m 29 #[.val (.int p0), .val (.int p1), .val (.int p2), .val (.int p3), .val (.int p4), .val (.int sz), .val (.int ee), .unset, .unset, .unset, .unset, .unset, .unset, .unset, .unset, .unset, .unset, .unset, .unset, .unset, .unset, .unset, .unset, .unset, .unset] [(.int sz), (.int (p0 &&& (7 : Int32)))]))
  refine own_st (fun t_ k_ => iremM X0 hx rfl (hb hby at_29) rfl nsz k_) ?_
  show own_Go p.tables e below _ (s₁.setTop (mkF m 30 #[.val (.int p0), .val (.int p1), .val (.int p2), .val (.int p3), .val (.int p4), .val (.int sz), .val (.int ee), .unset, .unset, .unset, .unset, .unset, .unset, .unset, .unset, .unset, .unset, .unset, .unset, .unset, .unset, .unset, .unset, .unset, .unset] [(.int ((p0 &&& (7 : Int32)) % sz))]))
  rw [show ((p0 &&& (7 : Int32)) % sz) = qq1 from hqq1.symm]
  show own_Go p.tables e below _ (s₁.setTop (mkF m 30 #[.val (.int p0), .val (.int p1), .val (.int p2), .val (.int p3), .val (.int p4), .val (.int sz), .val (.int ee), .unset, .unset, .unset, .unset, .unset, .unset, .unset, .unset, .unset, .unset, .unset, .unset, .unset, .unset, .unset, .unset, .unset, .unset] [(.int qq1)]))
  refine own_st (fun t_ k_ => XS.istore X0.here hx rfl (hb hby at_30) rfl (l' := #[.val (.int p0), .val (.int p1), .val (.int p2), .val (.int p3), .val (.int p4), .val (.int sz), .val (.int ee), .val (.int qq1), .unset, .unset, .unset, .unset, .unset, .unset, .unset, .unset, .unset, .unset, .unset, .unset, .unset, .unset, .unset, .unset, .unset]) rfl k_) ?_
  show own_Go p.tables e below _ (s₁.setTop (mkF m 32 #[.val (.int p0), .val (.int p1), .val (.int p2), .val (.int p3), .val (.int p4), .val (.int sz), .val (.int ee), .val (.int qq1), .unset, .unset, .unset, .unset, .unset, .unset, .unset, .unset, .unset, .unset, .unset, .unset, .unset, .unset, .unset, .unset, .unset] []))
  refine own_st (fun t_ k_ => XS.iloadN X0.here hx rfl (hb hby at_32) rfl k_) ?_
  show own_Go p.tables e below _ (s₁.setTop (mkF m 33 #[.val (.int p0), .val (.int p1), .val (.int p2), .val (.int p3), .val (.int p4), .val (.int sz), .val (.int ee), .val (.int qq1), .unset, .unset, .unset, .unset, .unset, .unset, .unset, .unset, .unset, .unset, .unset, .unset, .unset, .unset, .unset, .unset, .unset] [(.int p0)]))
  refine own_st (fun t_ k_ => XS.iconst X0.here hx rfl (hb hby at_33) k_) ?_
  show own_Go p.tables e below _ (s₁.setTop (mkF m 34 #[.val (.int p0), .val (.int p1), .val (.int p2), .val (.int p3), .val (.int p4), .val (.int sz), .val (.int ee), .val (.int qq1), .unset, .unset, .unset, .unset, .unset, .unset, .unset, .unset, .unset, .unset, .unset, .unset, .unset, .unset, .unset, .unset, .unset] [(.int (3 : Int32)), (.int p0)]))
  refine own_st (fun t_ k_ => XS.iushr X0.here hx rfl (hb hby at_34) rfl k_) ?_
  show own_Go p.tables e below _ (s₁.setTop (mkF m 35 #[.val (.int p0), .val (.int p1), .val (.int p2), .val (.int p3), .val (.int p4), .val (.int sz), .val (.int ee), .val (.int qq1), .unset, .unset, .unset, .unset, .unset, .unset, .unset, .unset, .unset, .unset, .unset, .unset, .unset, .unset, .unset, .unset, .unset] [(.int ((p0.toUInt32 >>> ((3 : Int32) &&& 31).toUInt32).toInt32))]))
  refine own_st (fun t_ k_ => XS.bipush X0.here hx rfl (hb hby at_35) k_) ?_
  show own_Go p.tables e below _ (s₁.setTop (mkF m 37 #[.val (.int p0), .val (.int p1), .val (.int p2), .val (.int p3), .val (.int p4), .val (.int sz), .val (.int ee), .val (.int qq1), .unset, .unset, .unset, .unset, .unset, .unset, .unset, .unset, .unset, .unset, .unset, .unset, .unset, .unset, .unset, .unset, .unset] [(.int (7 : Int32)), (.int ((p0.toUInt32 >>> ((3 : Int32) &&& 31).toUInt32).toInt32))]))
  refine own_st (fun t_ k_ => XS.iand X0.here hx rfl (hb hby at_37) rfl k_) ?_
  show own_Go p.tables e below _ (s₁.setTop (mkF m 38 #[.val (.int p0), .val (.int p1), .val (.int p2), .val (.int p3), .val (.int p4), .val (.int sz), .val (.int ee), .val (.int qq1), .unset, .unset, .unset, .unset, .unset, .unset, .unset, .unset, .unset, .unset, .unset, .unset, .unset, .unset, .unset, .unset, .unset] [(.int (((p0.toUInt32 >>> ((3 : Int32) &&& 31).toUInt32).toInt32) &&& (7 : Int32)))]))
  refine own_st (fun t_ k_ => XS.iload X0.here hx rfl (hb hby at_38) rfl k_) ?_
  show own_Go p.tables e below _ (s₁.setTop (mkF m 40 #[.val (.int p0), .val (.int p1), .val (.int p2), .val (.int p3), .val (.int p4), .val (.int sz), .val (.int ee), .val (.int qq1), .unset, .unset, .unset, .unset, .unset, .unset, .unset, .unset, .unset, .unset, .unset, .unset, .unset, .unset, .unset, .unset, .unset] [(.int sz), (.int (((p0.toUInt32 >>> ((3 : Int32) &&& 31).toUInt32).toInt32) &&& (7 : Int32)))]))
  refine own_st (fun t_ k_ => iremM X0 hx rfl (hb hby at_40) rfl nsz k_) ?_
  show own_Go p.tables e below _ (s₁.setTop (mkF m 41 #[.val (.int p0), .val (.int p1), .val (.int p2), .val (.int p3), .val (.int p4), .val (.int sz), .val (.int ee), .val (.int qq1), .unset, .unset, .unset, .unset, .unset, .unset, .unset, .unset, .unset, .unset, .unset, .unset, .unset, .unset, .unset, .unset, .unset] [(.int ((((p0.toUInt32 >>> ((3 : Int32) &&& 31).toUInt32).toInt32) &&& (7 : Int32)) % sz))]))
  rw [show ((((p0.toUInt32 >>> ((3 : Int32) &&& 31).toUInt32).toInt32) &&& (7 : Int32)) % sz) = qq2 from hqq2.symm]
  show own_Go p.tables e below _ (s₁.setTop (mkF m 41 #[.val (.int p0), .val (.int p1), .val (.int p2), .val (.int p3), .val (.int p4), .val (.int sz), .val (.int ee), .val (.int qq1), .unset, .unset, .unset, .unset, .unset, .unset, .unset, .unset, .unset, .unset, .unset, .unset, .unset, .unset, .unset, .unset, .unset] [(.int qq2)]))
  refine own_st (fun t_ k_ => XS.istore X0.here hx rfl (hb hby at_41) rfl (l' := #[.val (.int p0), .val (.int p1), .val (.int p2), .val (.int p3), .val (.int p4), .val (.int sz), .val (.int ee), .val (.int qq1), .val (.int qq2), .unset, .unset, .unset, .unset, .unset, .unset, .unset, .unset, .unset, .unset, .unset, .unset, .unset, .unset, .unset, .unset]) rfl k_) ?_
  show own_Go p.tables e below _ (s₁.setTop (mkF m 43 #[.val (.int p0), .val (.int p1), .val (.int p2), .val (.int p3), .val (.int p4), .val (.int sz), .val (.int ee), .val (.int qq1), .val (.int qq2), .unset, .unset, .unset, .unset, .unset, .unset, .unset, .unset, .unset, .unset, .unset, .unset, .unset, .unset, .unset, .unset] []))
  refine own_st (fun t_ k_ => XS.iloadN X0.here hx rfl (hb hby at_43) rfl k_) ?_
  show own_Go p.tables e below _ (s₁.setTop (mkF m 44 #[.val (.int p0), .val (.int p1), .val (.int p2), .val (.int p3), .val (.int p4), .val (.int sz), .val (.int ee), .val (.int qq1), .val (.int qq2), .unset, .unset, .unset, .unset, .unset, .unset, .unset, .unset, .unset, .unset, .unset, .unset, .unset, .unset, .unset, .unset] [(.int p0)]))
  refine own_st (fun t_ k_ => XS.bipush X0.here hx rfl (hb hby at_44) k_) ?_
  show own_Go p.tables e below _ (s₁.setTop (mkF m 46 #[.val (.int p0), .val (.int p1), .val (.int p2), .val (.int p3), .val (.int p4), .val (.int sz), .val (.int ee), .val (.int qq1), .val (.int qq2), .unset, .unset, .unset, .unset, .unset, .unset, .unset, .unset, .unset, .unset, .unset, .unset, .unset, .unset, .unset, .unset] [(.int (6 : Int32)), (.int p0)]))
  refine own_st (fun t_ k_ => XS.iushr X0.here hx rfl (hb hby at_46) rfl k_) ?_
  show own_Go p.tables e below _ (s₁.setTop (mkF m 47 #[.val (.int p0), .val (.int p1), .val (.int p2), .val (.int p3), .val (.int p4), .val (.int sz), .val (.int ee), .val (.int qq1), .val (.int qq2), .unset, .unset, .unset, .unset, .unset, .unset, .unset, .unset, .unset, .unset, .unset, .unset, .unset, .unset, .unset, .unset] [(.int ((p0.toUInt32 >>> ((6 : Int32) &&& 31).toUInt32).toInt32))]))
  refine own_st (fun t_ k_ => XS.bipush X0.here hx rfl (hb hby at_47) k_) ?_
  show own_Go p.tables e below _ (s₁.setTop (mkF m 49 #[.val (.int p0), .val (.int p1), .val (.int p2), .val (.int p3), .val (.int p4), .val (.int sz), .val (.int ee), .val (.int qq1), .val (.int qq2), .unset, .unset, .unset, .unset, .unset, .unset, .unset, .unset, .unset, .unset, .unset, .unset, .unset, .unset, .unset, .unset] [(.int (7 : Int32)), (.int ((p0.toUInt32 >>> ((6 : Int32) &&& 31).toUInt32).toInt32))]))
  refine own_st (fun t_ k_ => XS.iand X0.here hx rfl (hb hby at_49) rfl k_) ?_
  show own_Go p.tables e below _ (s₁.setTop (mkF m 50 #[.val (.int p0), .val (.int p1), .val (.int p2), .val (.int p3), .val (.int p4), .val (.int sz), .val (.int ee), .val (.int qq1), .val (.int qq2), .unset, .unset, .unset, .unset, .unset, .unset, .unset, .unset, .unset, .unset, .unset, .unset, .unset, .unset, .unset, .unset] [(.int (((p0.toUInt32 >>> ((6 : Int32) &&& 31).toUInt32).toInt32) &&& (7 : Int32)))]))
  refine own_st (fun t_ k_ => XS.iload X0.here hx rfl (hb hby at_50) rfl k_) ?_
  show own_Go p.tables e below _ (s₁.setTop (mkF m 52 #[.val (.int p0), .val (.int p1), .val (.int p2), .val (.int p3), .val (.int p4), .val (.int sz), .val (.int ee), .val (.int qq1), .val (.int qq2), .unset, .unset, .unset, .unset, .unset, .unset, .unset, .unset, .unset, .unset, .unset, .unset, .unset, .unset, .unset, .unset] [(.int sz), (.int (((p0.toUInt32 >>> ((6 : Int32) &&& 31).toUInt32).toInt32) &&& (7 : Int32)))]))
  refine own_st (fun t_ k_ => iremM X0 hx rfl (hb hby at_52) rfl nsz k_) ?_
  show own_Go p.tables e below _ (s₁.setTop (mkF m 53 #[.val (.int p0), .val (.int p1), .val (.int p2), .val (.int p3), .val (.int p4), .val (.int sz), .val (.int ee), .val (.int qq1), .val (.int qq2), .unset, .unset, .unset, .unset, .unset, .unset, .unset, .unset, .unset, .unset, .unset, .unset, .unset, .unset, .unset, .unset] [(.int ((((p0.toUInt32 >>> ((6 : Int32) &&& 31).toUInt32).toInt32) &&& (7 : Int32)) % sz))]))
  rw [show ((((p0.toUInt32 >>> ((6 : Int32) &&& 31).toUInt32).toInt32) &&& (7 : Int32)) % sz) = qq3 from hqq3.symm]
  show own_Go p.tables e below _ (s₁.setTop (mkF m 53 #[.val (.int p0), .val (.int p1), .val (.int p2), .val (.int p3), .val (.int p4), .val (.int sz), .val (.int ee), .val (.int qq1), .val (.int qq2), .unset, .unset, .unset, .unset, .unset, .unset, .unset, .unset, .unset, .unset, .unset, .unset, .unset, .unset, .unset, .unset] [(.int qq3)]))
  refine own_st (fun t_ k_ => XS.istore X0.here hx rfl (hb hby at_53) rfl (l' := #[.val (.int p0), .val (.int p1), .val (.int p2), .val (.int p3), .val (.int p4), .val (.int sz), .val (.int ee), .val (.int qq1), .val (.int qq2), .val (.int qq3), .unset, .unset, .unset, .unset, .unset, .unset, .unset, .unset, .unset, .unset, .unset, .unset, .unset, .unset, .unset]) rfl k_) ?_
  show own_Go p.tables e below _ (s₁.setTop (mkF m 55 #[.val (.int p0), .val (.int p1), .val (.int p2), .val (.int p3), .val (.int p4), .val (.int sz), .val (.int ee), .val (.int qq1), .val (.int qq2), .val (.int qq3), .unset, .unset, .unset, .unset, .unset, .unset, .unset, .unset, .unset, .unset, .unset, .unset, .unset, .unset, .unset] []))
  refine own_st (fun t_ k_ => XS.iloadN X0.here hx rfl (hb hby at_55) rfl k_) ?_
  show own_Go p.tables e below _ (s₁.setTop (mkF m 56 #[.val (.int p0), .val (.int p1), .val (.int p2), .val (.int p3), .val (.int p4), .val (.int sz), .val (.int ee), .val (.int qq1), .val (.int qq2), .val (.int qq3), .unset, .unset, .unset, .unset, .unset, .unset, .unset, .unset, .unset, .unset, .unset, .unset, .unset, .unset, .unset] [(.int p1)]))
  refine own_st (fun t_ k_ => XS.i2dS X0.here hx rfl (hb hby at_56) rfl rfl k_) ?_
  show own_Go p.tables e below _ (s₁.setTop (mkF m 57 #[.val (.int p0), .val (.int p1), .val (.int p2), .val (.int p3), .val (.int p4), .val (.int sz), .val (.int ee), .val (.int qq1), .val (.int qq2), .val (.int qq3), .unset, .unset, .unset, .unset, .unset, .unset, .unset, .unset, .unset, .unset, .unset, .unset, .unset, .unset, .unset] [(.double (FP.i2d p1))]))
  refine own_st (fun t_ k_ => XS.dstore X0.here hx rfl (hb hby at_57) rfl (l' := #[.val (.int p0), .val (.int p1), .val (.int p2), .val (.int p3), .val (.int p4), .val (.int sz), .val (.int ee), .val (.int qq1), .val (.int qq2), .val (.int qq3), .val (.double (FP.i2d p1)), .second, .unset, .unset, .unset, .unset, .unset, .unset, .unset, .unset, .unset, .unset, .unset, .unset, .unset]) rfl k_) ?_
  show own_Go p.tables e below _ (s₁.setTop (mkF m 59 #[.val (.int p0), .val (.int p1), .val (.int p2), .val (.int p3), .val (.int p4), .val (.int sz), .val (.int ee), .val (.int qq1), .val (.int qq2), .val (.int qq3), .val (.double (FP.i2d p1)), .second, .unset, .unset, .unset, .unset, .unset, .unset, .unset, .unset, .unset, .unset, .unset, .unset, .unset] []))
  refine own_st (fun t_ k_ => XS.iloadN X0.here hx rfl (hb hby at_59) rfl k_) ?_
  show own_Go p.tables e below _ (s₁.setTop (mkF m 60 #[.val (.int p0), .val (.int p1), .val (.int p2), .val (.int p3), .val (.int p4), .val (.int sz), .val (.int ee), .val (.int qq1), .val (.int qq2), .val (.int qq3), .val (.double (FP.i2d p1)), .second, .unset, .unset, .unset, .unset, .unset, .unset, .unset, .unset, .unset, .unset, .unset, .unset, .unset] [(.int p2)]))
  refine own_st (fun t_ k_ => XS.i2dS X0.here hx rfl (hb hby at_60) rfl rfl k_) ?_
  show own_Go p.tables e below _ (s₁.setTop (mkF m 61 #[.val (.int p0), .val (.int p1), .val (.int p2), .val (.int p3), .val (.int p4), .val (.int sz), .val (.int ee), .val (.int qq1), .val (.int qq2), .val (.int qq3), .val (.double (FP.i2d p1)), .second, .unset, .unset, .unset, .unset, .unset, .unset, .unset, .unset, .unset, .unset, .unset, .unset, .unset] [(.double (FP.i2d p2))]))
  refine own_st (fun t_ k_ => XS.dstore X0.here hx rfl (hb hby at_61) rfl (l' := #[.val (.int p0), .val (.int p1), .val (.int p2), .val (.int p3), .val (.int p4), .val (.int sz), .val (.int ee), .val (.int qq1), .val (.int qq2), .val (.int qq3), .val (.double (FP.i2d p1)), .second, .val (.double (FP.i2d p2)), .second, .unset, .unset, .unset, .unset, .unset, .unset, .unset, .unset, .unset, .unset, .unset]) rfl k_) ?_
  show own_Go p.tables e below _ (s₁.setTop (mkF m 63 #[.val (.int p0), .val (.int p1), .val (.int p2), .val (.int p3), .val (.int p4), .val (.int sz), .val (.int ee), .val (.int qq1), .val (.int qq2), .val (.int qq3), .val (.double (FP.i2d p1)), .second, .val (.double (FP.i2d p2)), .second, .unset, .unset, .unset, .unset, .unset, .unset, .unset, .unset, .unset, .unset, .unset] []))
  refine own_st (fun t_ k_ => XS.iloadN X0.here hx rfl (hb hby at_63) rfl k_) ?_
  show own_Go p.tables e below _ (s₁.setTop (mkF m 64 #[.val (.int p0), .val (.int p1), .val (.int p2), .val (.int p3), .val (.int p4), .val (.int sz), .val (.int ee), .val (.int qq1), .val (.int qq2), .val (.int qq3), .val (.double (FP.i2d p1)), .second, .val (.double (FP.i2d p2)), .second, .unset, .unset, .unset, .unset, .unset, .unset, .unset, .unset, .unset, .unset, .unset] [(.int p3)]))
  refine own_st (fun t_ k_ => XS.i2dS X0.here hx rfl (hb hby at_64) rfl rfl k_) ?_
  show own_Go p.tables e below _ (s₁.setTop (mkF m 65 #[.val (.int p0), .val (.int p1), .val (.int p2), .val (.int p3), .val (.int p4), .val (.int sz), .val (.int ee), .val (.int qq1), .val (.int qq2), .val (.int qq3), .val (.double (FP.i2d p1)), .second, .val (.double (FP.i2d p2)), .second, .unset, .unset, .unset, .unset, .unset, .unset, .unset, .unset, .unset, .unset, .unset] [(.double (FP.i2d p3))]))
  refine own_st (fun t_ k_ => XS.dstore X0.here hx rfl (hb hby at_65) rfl (l' := #[.val (.int p0), .val (.int p1), .val (.int p2), .val (.int p3), .val (.int p4), .val (.int sz), .val (.int ee), .val (.int qq1), .val (.int qq2), .val (.int qq3), .val (.double (FP.i2d p1)), .second, .val (.double (FP.i2d p2)), .second, .val (.double (FP.i2d p3)), .second, .unset, .unset, .unset, .unset, .unset, .unset, .unset, .unset, .unset]) rfl k_) ?_
  show own_Go p.tables e below _ (s₁.setTop (mkF m 67 #[.val (.int p0), .val (.int p1), .val (.int p2), .val (.int p3), .val (.int p4), .val (.int sz), .val (.int ee), .val (.int qq1), .val (.int qq2), .val (.int qq3), .val (.double (FP.i2d p1)), .second, .val (.double (FP.i2d p2)), .second, .val (.double (FP.i2d p3)), .second, .unset, .unset, .unset, .unset, .unset, .unset, .unset, .unset, .unset] []))
  obtain ⟨T148, h148, X148, e148, E148, A148, D148, -, st148⟩ := newO X0 hx hZ hown (hw _ (List.mem_of_getElem? (i := 0) rfl)) (hw _ (List.mem_of_getElem? (i := 1) rfl)) (hw _ (List.mem_of_getElem? (i := 2) rfl)) e0 (g := (mkF m 67 #[.val (.int p0), .val (.int p1), .val (.int p2), .val (.int p3), .val (.int p4), .val (.int sz), .val (.int ee), .val (.int qq1), .val (.int qq2), .val (.int qq3), .val (.double (FP.i2d p1)), .second, .val (.double (FP.i2d p2)), .second, .val (.double (FP.i2d p3)), .second, .unset, .unset, .unset, .unset, .unset, .unset, .unset, .unset, .unset] [])) rfl (hb hby at_67) (by decide) (by decide)
  obtain ⟨b148, g148⟩ : ∃ z, z = h0.size := ⟨_, rfl⟩
  rw [← g148] at A148 D148 st148
  have fr148 : h0.size ≤ b148 := Nat.le_trans (Keep.refl h0 []).1 (Nat.le_of_eq g148.symm)
  have ge148 : n0 ≤ b148 := Nat.le_trans Z0 fr148
  have K148 : Keep h0 h148 [] := (Keep.refl h0 []).ext E148
  have F148_11 : Fld Z h148 b148 "com/example/seshat/seshat/layout/PrefixMaximum" "nodes" "[D" .null := D148 (Or.inr (hw _ (List.mem_of_getElem? (i := 11) rfl))) (ty := (.array .double)) (by decide)
  refine own_st (st148) ?_
  show own_Go p.tables e below _ (T148.setTop (mkF m 70 #[.val (.int p0), .val (.int p1), .val (.int p2), .val (.int p3), .val (.int p4), .val (.int sz), .val (.int ee), .val (.int qq1), .val (.int qq2), .val (.int qq3), .val (.double (FP.i2d p1)), .second, .val (.double (FP.i2d p2)), .second, .val (.double (FP.i2d p3)), .second, .unset, .unset, .unset, .unset, .unset, .unset, .unset, .unset, .unset] [(.ref b148)]))
  refine own_st (fun t_ k_ => XS.dup X148.here hx rfl (hb hby at_70) rfl rfl k_) ?_
  show own_Go p.tables e below _ (T148.setTop (mkF m 71 #[.val (.int p0), .val (.int p1), .val (.int p2), .val (.int p3), .val (.int p4), .val (.int sz), .val (.int ee), .val (.int qq1), .val (.int qq2), .val (.int qq3), .val (.double (FP.i2d p1)), .second, .val (.double (FP.i2d p2)), .second, .val (.double (FP.i2d p3)), .second, .unset, .unset, .unset, .unset, .unset, .unset, .unset, .unset, .unset] [(.ref b148), (.ref b148)]))
  refine own_st (fun t_ k_ => XS.iload X148.here hx rfl (hb hby at_71) rfl k_) ?_
  show own_Go p.tables e below _ (T148.setTop (mkF m 73 #[.val (.int p0), .val (.int p1), .val (.int p2), .val (.int p3), .val (.int p4), .val (.int sz), .val (.int ee), .val (.int qq1), .val (.int qq2), .val (.int qq3), .val (.double (FP.i2d p1)), .second, .val (.double (FP.i2d p2)), .second, .val (.double (FP.i2d p3)), .second, .unset, .unset, .unset, .unset, .unset, .unset, .unset, .unset, .unset] [(.int sz), (.ref b148), (.ref b148)]))
  obtain ⟨_, _, ⟨T149, L149, k149, n149⟩, -, X149, ⟨Lc149, hQ149, l149, y149, z149⟩, st149⟩ := X148.specialBack hx (y := (⟨"com/example/seshat/seshat/layout/PrefixMaximum", "<init>", "(I)V"⟩ : MethodName)) rfl hown (mvT hZ (hw _ (List.mem_of_getElem? (i := 3) rfl))) (mvT hZ (hw _ (List.mem_of_getElem? (i := 4) rfl))) (mvT hZ (hw _ (List.mem_of_getElem? (i := 5) rfl))) (by decide) (backOf (W := 1) (own_rm1 l Z a0 hw [] b148 sz sn h148 n0 (Nat.le_trans Z0 K148.1) A148 F148_11 ge148 ⟨hsn, (by omega)⟩) hZ (hw _ (List.mem_of_getElem? (i := 5) rfl)) (hw _ (List.mem_of_getElem? (i := 2) rfl)) (by decide) (by decide)) (g := (mkF m 73 #[.val (.int p0), .val (.int p1), .val (.int p2), .val (.int p3), .val (.int p4), .val (.int sz), .val (.int ee), .val (.int qq1), .val (.int qq2), .val (.int qq3), .val (.double (FP.i2d p1)), .second, .val (.double (FP.i2d p2)), .second, .val (.double (FP.i2d p3)), .second, .unset, .unset, .unset, .unset, .unset, .unset, .unset, .unset, .unset] [(.int sz), (.ref b148), (.ref b148)])) rfl (by rw [hml]; rfl) (Steps.refl _) (a := b148) (argsL := [(.int sz)]) (rest := [(.ref b148)]) (lenOf own_pd2 rfl) rfl (by show 2 * 0 + _ ≤ _; exact Nat.le_of_eq rfl) (hb hby at_73) (fun _ _ => ⟨rfl, e148, (by decide : 1 + 1 ≤ _), (by decide : 1 + 17 ≤ _)⟩)
  dsimp only [Pt.U, Pt.locs, Pt.cells, Pt.slots] at X149 l149 y149 z149 st149 hQ149
  subst l149 y149 z149
  obtain ⟨b_149, kb_149, rfl, N149q, Kq149, P149_0, P149_1, P149_2⟩ := hQ149
  have N149 := Fr.app N0 N149q
  have K149 : Keep h0 T149.heap [] := K148.trans Kq149 (allS (P := fun x => x ∈ [] ∨ h0.size ≤ x) (Or.inr fr148) all0)
  have fr149_0 : h0.size ≤ b_149 := Nat.le_trans K148.1 P149_0
  have ge149_0 : n0 ≤ b_149 := Nat.le_trans Z0 fr149_0
  refine own_tr st149 ?_
  show own_Go p.tables e below _ (T149.setTop (mkF m 76 #[.val (.int p0), .val (.int p1), .val (.int p2), .val (.int p3), .val (.int p4), .val (.int sz), .val (.int ee), .val (.int qq1), .val (.int qq2), .val (.int qq3), .val (.double (FP.i2d p1)), .second, .val (.double (FP.i2d p2)), .second, .val (.double (FP.i2d p3)), .second, .unset, .unset, .unset, .unset, .unset, .unset, .unset, .unset, .unset] [(.ref b148)]))
  refine own_st (fun t_ k_ => XS.astore X149.here hx rfl (hb hby at_76) rfl rfl (l' := #[.val (.int p0), .val (.int p1), .val (.int p2), .val (.int p3), .val (.int p4), .val (.int sz), .val (.int ee), .val (.int qq1), .val (.int qq2), .val (.int qq3), .val (.double (FP.i2d p1)), .second, .val (.double (FP.i2d p2)), .second, .val (.double (FP.i2d p3)), .second, .val (.ref b148), .unset, .unset, .unset, .unset, .unset, .unset, .unset, .unset]) rfl k_) ?_
  show own_Go p.tables e below _ (T149.setTop (mkF m 78 #[.val (.int p0), .val (.int p1), .val (.int p2), .val (.int p3), .val (.int p4), .val (.int sz), .val (.int ee), .val (.int qq1), .val (.int qq2), .val (.int qq3), .val (.double (FP.i2d p1)), .second, .val (.double (FP.i2d p2)), .second, .val (.double (FP.i2d p3)), .second, .val (.ref b148), .unset, .unset, .unset, .unset, .unset, .unset, .unset, .unset] []))
  refine own_st (fun t_ k_ => XS.aload X149.here hx rfl (hb hby at_78) rfl rfl k_) ?_
  show own_Go p.tables e below _ (T149.setTop (mkF m 80 #[.val (.int p0), .val (.int p1), .val (.int p2), .val (.int p3), .val (.int p4), .val (.int sz), .val (.int ee), .val (.int qq1), .val (.int qq2), .val (.int qq3), .val (.double (FP.i2d p1)), .second, .val (.double (FP.i2d p2)), .second, .val (.double (FP.i2d p3)), .second, .val (.ref b148), .unset, .unset, .unset, .unset, .unset, .unset, .unset, .unset] [(.ref b148)]))
  refine own_st (fun t_ k_ => XS.iload X149.here hx rfl (hb hby at_80) rfl k_) ?_
  show own_Go p.tables e below _ (T149.setTop (mkF m 82 #[.val (.int p0), .val (.int p1), .val (.int p2), .val (.int p3), .val (.int p4), .val (.int sz), .val (.int ee), .val (.int qq1), .val (.int qq2), .val (.int qq3), .val (.double (FP.i2d p1)), .second, .val (.double (FP.i2d p2)), .second, .val (.double (FP.i2d p3)), .second, .val (.ref b148), .unset, .unset, .unset, .unset, .unset, .unset, .unset, .unset] [(.int qq1), (.ref b148)]))
  refine own_st (fun t_ k_ => XS.dload X149.here hx rfl (hb hby at_82) rfl k_) ?_
  show own_Go p.tables e below _ (T149.setTop (mkF m 84 #[.val (.int p0), .val (.int p1), .val (.int p2), .val (.int p3), .val (.int p4), .val (.int sz), .val (.int ee), .val (.int qq1), .val (.int qq2), .val (.int qq3), .val (.double (FP.i2d p1)), .second, .val (.double (FP.i2d p2)), .second, .val (.double (FP.i2d p3)), .second, .val (.ref b148), .unset, .unset, .unset, .unset, .unset, .unset, .unset, .unset] [(.double (FP.i2d p1)), (.int qq1), (.ref b148)]))
  obtain ⟨cq150, kq150, q150a, q150b, q150c⟩ := isOf hZ rfl (A148.keep Kq149)
  obtain ⟨_, _, ⟨T150, L150, k150, n150⟩, -, X150, ⟨Lc150, hQ150, l150, y150, z150⟩, st150⟩ := X149.virtualBack hx (y := (⟨"com/example/seshat/seshat/layout/PrefixMaximum", "raise", "(ID)V"⟩ : MethodName)) (z := (⟨"com/example/seshat/seshat/layout/PrefixMaximum", "raise", "(ID)V"⟩ : MethodName)) hown (mvT hZ (hw _ (List.mem_of_getElem? (i := 17) rfl))) (mvT hZ (hw _ (List.mem_of_getElem? (i := 18) rfl))) (notFace_of_selects (args := #[]) (mvT hZ (hw _ (List.mem_of_getElem? (i := 20) rfl)))) (mvT hZ (hw _ (List.mem_of_getElem? (i := 20) rfl))) (mvT hZ (hw _ (List.mem_of_getElem? (i := 19) rfl))) (by decide) (backOf (W := 0) (own_rm4 l Z a0 hw [] b148 qq1 (FP.i2d p1) b_149 kb_149 (sn + 1) (fun _ => none) (some p1) qm1 T149.heap n0 (Nat.le_trans Z0 K149.1) P149_1 P149_2 ge149_0 (Nat.ne_of_lt (Nat.lt_of_lt_of_le A148.lt P149_0)) rfl ⟨hqm1, (by omega), (by omega)⟩) hZ (hw _ (List.mem_of_getElem? (i := 21) rfl)) (hw _ (List.mem_of_getElem? (i := 2) rfl)) (by decide) (by decide)) q150a q150c (g := (mkF m 84 #[.val (.int p0), .val (.int p1), .val (.int p2), .val (.int p3), .val (.int p4), .val (.int sz), .val (.int ee), .val (.int qq1), .val (.int qq2), .val (.int qq3), .val (.double (FP.i2d p1)), .second, .val (.double (FP.i2d p2)), .second, .val (.double (FP.i2d p3)), .second, .val (.ref b148), .unset, .unset, .unset, .unset, .unset, .unset, .unset, .unset] [(.double (FP.i2d p1)), (.int qq1), (.ref b148)])) rfl (by rw [hml]; rfl) (Steps.refl _) (argsL := [(.int qq1), (.double (FP.i2d p1))]) (rest := []) (lenOf own_pd3 rfl) rfl (by show 2 * 0 + _ ≤ _; exact Nat.le_of_eq rfl) (hb hby at_84) (fun _ _ => ⟨rfl, rfl, (by decide : 2 + 0 ≤ _), (by decide : 18 + 0 ≤ _)⟩)
  dsimp only [Pt.U, Pt.locs, Pt.cells, Pt.slots] at X150 l150 y150 z150 st150 hQ150
  subst l150 y150 z150
  obtain ⟨rfl, N150q, Kq150, P150_0⟩ := hQ150
  have N150 := Fr.app N149 N150q
  have K150 : Keep h0 T150.heap [] := K149.trans Kq150 (allS (P := fun x => x ∈ [] ∨ h0.size ≤ x) (Or.inr fr149_0) all0)
  refine own_tr st150 ?_
  show own_Go p.tables e below _ (T150.setTop (mkF m 87 #[.val (.int p0), .val (.int p1), .val (.int p2), .val (.int p3), .val (.int p4), .val (.int sz), .val (.int ee), .val (.int qq1), .val (.int qq2), .val (.int qq3), .val (.double (FP.i2d p1)), .second, .val (.double (FP.i2d p2)), .second, .val (.double (FP.i2d p3)), .second, .val (.ref b148), .unset, .unset, .unset, .unset, .unset, .unset, .unset, .unset] []))
  refine own_st (fun t_ k_ => XS.aload X150.here hx rfl (hb hby at_87) rfl rfl k_) ?_
  show own_Go p.tables e below _ (T150.setTop (mkF m 89 #[.val (.int p0), .val (.int p1), .val (.int p2), .val (.int p3), .val (.int p4), .val (.int sz), .val (.int ee), .val (.int qq1), .val (.int qq2), .val (.int qq3), .val (.double (FP.i2d p1)), .second, .val (.double (FP.i2d p2)), .second, .val (.double (FP.i2d p3)), .second, .val (.ref b148), .unset, .unset, .unset, .unset, .unset, .unset, .unset, .unset] [(.ref b148)]))
  refine own_st (fun t_ k_ => XS.iload X150.here hx rfl (hb hby at_89) rfl k_) ?_
  show own_Go p.tables e below _ (T150.setTop (mkF m 91 #[.val (.int p0), .val (.int p1), .val (.int p2), .val (.int p3), .val (.int p4), .val (.int sz), .val (.int ee), .val (.int qq1), .val (.int qq2), .val (.int qq3), .val (.double (FP.i2d p1)), .second, .val (.double (FP.i2d p2)), .second, .val (.double (FP.i2d p3)), .second, .val (.ref b148), .unset, .unset, .unset, .unset, .unset, .unset, .unset, .unset] [(.int qq2), (.ref b148)]))
  refine own_st (fun t_ k_ => XS.dload X150.here hx rfl (hb hby at_91) rfl k_) ?_
  show own_Go p.tables e below _ (T150.setTop (mkF m 93 #[.val (.int p0), .val (.int p1), .val (.int p2), .val (.int p3), .val (.int p4), .val (.int sz), .val (.int ee), .val (.int qq1), .val (.int qq2), .val (.int qq3), .val (.double (FP.i2d p1)), .second, .val (.double (FP.i2d p2)), .second, .val (.double (FP.i2d p3)), .second, .val (.ref b148), .unset, .unset, .unset, .unset, .unset, .unset, .unset, .unset] [(.double (FP.i2d p2)), (.int qq2), (.ref b148)]))
  obtain ⟨cq151, kq151, q151a, q151b, q151c⟩ := isOf hZ rfl ((A148.keep Kq149).keep Kq150)
  obtain ⟨_, _, ⟨T151, L151, k151, n151⟩, -, X151, ⟨Lc151, hQ151, l151, y151, z151⟩, st151⟩ := X150.virtualBack hx (y := (⟨"com/example/seshat/seshat/layout/PrefixMaximum", "raise", "(ID)V"⟩ : MethodName)) (z := (⟨"com/example/seshat/seshat/layout/PrefixMaximum", "raise", "(ID)V"⟩ : MethodName)) hown (mvT hZ (hw _ (List.mem_of_getElem? (i := 17) rfl))) (mvT hZ (hw _ (List.mem_of_getElem? (i := 18) rfl))) (notFace_of_selects (args := #[]) (mvT hZ (hw _ (List.mem_of_getElem? (i := 20) rfl)))) (mvT hZ (hw _ (List.mem_of_getElem? (i := 20) rfl))) (mvT hZ (hw _ (List.mem_of_getElem? (i := 19) rfl))) (by decide) (backOf (W := 0) (own_rm4 l Z a0 hw [] b148 qq2 (FP.i2d p2) b_149 kb_149 (sn + 1) (own_rs (sn + 1) (some p1) 17 (qm1 + 1) (fun _ => none)) (some p2) qm2 T150.heap n0 (Nat.le_trans Z0 K150.1) (P149_1.keep Kq150 (ninS (Nat.ne_of_lt (Nat.lt_of_lt_of_le A148.lt P149_0)) nin0)) P150_0 ge149_0 (Nat.ne_of_lt (Nat.lt_of_lt_of_le A148.lt P149_0)) rfl ⟨hqm2, (by omega), (by omega)⟩) hZ (hw _ (List.mem_of_getElem? (i := 21) rfl)) (hw _ (List.mem_of_getElem? (i := 2) rfl)) (by decide) (by decide)) q151a q151c (g := (mkF m 93 #[.val (.int p0), .val (.int p1), .val (.int p2), .val (.int p3), .val (.int p4), .val (.int sz), .val (.int ee), .val (.int qq1), .val (.int qq2), .val (.int qq3), .val (.double (FP.i2d p1)), .second, .val (.double (FP.i2d p2)), .second, .val (.double (FP.i2d p3)), .second, .val (.ref b148), .unset, .unset, .unset, .unset, .unset, .unset, .unset, .unset] [(.double (FP.i2d p2)), (.int qq2), (.ref b148)])) rfl (by rw [hml]; rfl) (Steps.refl _) (argsL := [(.int qq2), (.double (FP.i2d p2))]) (rest := []) (lenOf own_pd3 rfl) rfl (by show 2 * 0 + _ ≤ _; exact Nat.le_of_eq rfl) (hb hby at_93) (fun _ _ => ⟨rfl, rfl, (by decide : 2 + 0 ≤ _), (by decide : 18 + 0 ≤ _)⟩)
  dsimp only [Pt.U, Pt.locs, Pt.cells, Pt.slots] at X151 l151 y151 z151 st151 hQ151
  subst l151 y151 z151
  obtain ⟨rfl, N151q, Kq151, P151_0⟩ := hQ151
  have N151 := Fr.app N150 N151q
  have K151 : Keep h0 T151.heap [] := K150.trans Kq151 (allS (P := fun x => x ∈ [] ∨ h0.size ≤ x) (Or.inr fr149_0) all0)
  refine own_tr st151 ?_
  show own_Go p.tables e below _ (T151.setTop (mkF m 96 #[.val (.int p0), .val (.int p1), .val (.int p2), .val (.int p3), .val (.int p4), .val (.int sz), .val (.int ee), .val (.int qq1), .val (.int qq2), .val (.int qq3), .val (.double (FP.i2d p1)), .second, .val (.double (FP.i2d p2)), .second, .val (.double (FP.i2d p3)), .second, .val (.ref b148), .unset, .unset, .unset, .unset, .unset, .unset, .unset, .unset] []))
  refine own_st (fun t_ k_ => XS.aload X151.here hx rfl (hb hby at_96) rfl rfl k_) ?_
  show own_Go p.tables e below _ (T151.setTop (mkF m 98 #[.val (.int p0), .val (.int p1), .val (.int p2), .val (.int p3), .val (.int p4), .val (.int sz), .val (.int ee), .val (.int qq1), .val (.int qq2), .val (.int qq3), .val (.double (FP.i2d p1)), .second, .val (.double (FP.i2d p2)), .second, .val (.double (FP.i2d p3)), .second, .val (.ref b148), .unset, .unset, .unset, .unset, .unset, .unset, .unset, .unset] [(.ref b148)]))
  refine own_st (fun t_ k_ => XS.iload X151.here hx rfl (hb hby at_98) rfl k_) ?_
  show own_Go p.tables e below _ (T151.setTop (mkF m 100 #[.val (.int p0), .val (.int p1), .val (.int p2), .val (.int p3), .val (.int p4), .val (.int sz), .val (.int ee), .val (.int qq1), .val (.int qq2), .val (.int qq3), .val (.double (FP.i2d p1)), .second, .val (.double (FP.i2d p2)), .second, .val (.double (FP.i2d p3)), .second, .val (.ref b148), .unset, .unset, .unset, .unset, .unset, .unset, .unset, .unset] [(.int qq3), (.ref b148)]))
  refine own_st (fun t_ k_ => XS.dload X151.here hx rfl (hb hby at_100) rfl k_) ?_
  show own_Go p.tables e below _ (T151.setTop (mkF m 102 #[.val (.int p0), .val (.int p1), .val (.int p2), .val (.int p3), .val (.int p4), .val (.int sz), .val (.int ee), .val (.int qq1), .val (.int qq2), .val (.int qq3), .val (.double (FP.i2d p1)), .second, .val (.double (FP.i2d p2)), .second, .val (.double (FP.i2d p3)), .second, .val (.ref b148), .unset, .unset, .unset, .unset, .unset, .unset, .unset, .unset] [(.double (FP.i2d p3)), (.int qq3), (.ref b148)]))
  obtain ⟨cq152, kq152, q152a, q152b, q152c⟩ := isOf hZ rfl (((A148.keep Kq149).keep Kq150).keep Kq151)
  obtain ⟨_, _, ⟨T152, L152, k152, n152⟩, -, X152, ⟨Lc152, hQ152, l152, y152, z152⟩, st152⟩ := X151.virtualBack hx (y := (⟨"com/example/seshat/seshat/layout/PrefixMaximum", "raise", "(ID)V"⟩ : MethodName)) (z := (⟨"com/example/seshat/seshat/layout/PrefixMaximum", "raise", "(ID)V"⟩ : MethodName)) hown (mvT hZ (hw _ (List.mem_of_getElem? (i := 17) rfl))) (mvT hZ (hw _ (List.mem_of_getElem? (i := 18) rfl))) (notFace_of_selects (args := #[]) (mvT hZ (hw _ (List.mem_of_getElem? (i := 20) rfl)))) (mvT hZ (hw _ (List.mem_of_getElem? (i := 20) rfl))) (mvT hZ (hw _ (List.mem_of_getElem? (i := 19) rfl))) (by decide) (backOf (W := 0) (own_rm4 l Z a0 hw [] b148 qq3 (FP.i2d p3) b_149 kb_149 (sn + 1) (own_rs (sn + 1) (some p2) 17 (qm2 + 1) (own_rs (sn + 1) (some p1) 17 (qm1 + 1) (fun _ => none))) (some p3) qm3 T151.heap n0 (Nat.le_trans Z0 K151.1) ((P149_1.keep Kq150 (ninS (Nat.ne_of_lt (Nat.lt_of_lt_of_le A148.lt P149_0)) nin0)).keep Kq151 (ninS (Nat.ne_of_lt (Nat.lt_of_lt_of_le A148.lt P149_0)) nin0)) P151_0 ge149_0 (Nat.ne_of_lt (Nat.lt_of_lt_of_le A148.lt P149_0)) rfl ⟨hqm3, (by omega), (by omega)⟩) hZ (hw _ (List.mem_of_getElem? (i := 21) rfl)) (hw _ (List.mem_of_getElem? (i := 2) rfl)) (by decide) (by decide)) q152a q152c (g := (mkF m 102 #[.val (.int p0), .val (.int p1), .val (.int p2), .val (.int p3), .val (.int p4), .val (.int sz), .val (.int ee), .val (.int qq1), .val (.int qq2), .val (.int qq3), .val (.double (FP.i2d p1)), .second, .val (.double (FP.i2d p2)), .second, .val (.double (FP.i2d p3)), .second, .val (.ref b148), .unset, .unset, .unset, .unset, .unset, .unset, .unset, .unset] [(.double (FP.i2d p3)), (.int qq3), (.ref b148)])) rfl (by rw [hml]; rfl) (Steps.refl _) (argsL := [(.int qq3), (.double (FP.i2d p3))]) (rest := []) (lenOf own_pd3 rfl) rfl (by show 2 * 0 + _ ≤ _; exact Nat.le_of_eq rfl) (hb hby at_102) (fun _ _ => ⟨rfl, rfl, (by decide : 2 + 0 ≤ _), (by decide : 18 + 0 ≤ _)⟩)
  dsimp only [Pt.U, Pt.locs, Pt.cells, Pt.slots] at X152 l152 y152 z152 st152 hQ152
  subst l152 y152 z152
  obtain ⟨rfl, N152q, Kq152, P152_0⟩ := hQ152
  have N152 := Fr.app N151 N152q
  have K152 : Keep h0 T152.heap [] := K151.trans Kq152 (allS (P := fun x => x ∈ [] ∨ h0.size ≤ x) (Or.inr fr149_0) all0)
  refine own_tr st152 ?_
  show own_Go p.tables e below _ (T152.setTop (mkF m 105 #[.val (.int p0), .val (.int p1), .val (.int p2), .val (.int p3), .val (.int p4), .val (.int sz), .val (.int ee), .val (.int qq1), .val (.int qq2), .val (.int qq3), .val (.double (FP.i2d p1)), .second, .val (.double (FP.i2d p2)), .second, .val (.double (FP.i2d p3)), .second, .val (.ref b148), .unset, .unset, .unset, .unset, .unset, .unset, .unset, .unset] []))
  refine own_st (fun t_ k_ => XS.aload X152.here hx rfl (hb hby at_105) rfl rfl k_) ?_
  show own_Go p.tables e below _ (T152.setTop (mkF m 107 #[.val (.int p0), .val (.int p1), .val (.int p2), .val (.int p3), .val (.int p4), .val (.int sz), .val (.int ee), .val (.int qq1), .val (.int qq2), .val (.int qq3), .val (.double (FP.i2d p1)), .second, .val (.double (FP.i2d p2)), .second, .val (.double (FP.i2d p3)), .second, .val (.ref b148), .unset, .unset, .unset, .unset, .unset, .unset, .unset, .unset] [(.ref b148)]))
  refine own_st (fun t_ k_ => XS.iload X152.here hx rfl (hb hby at_107) rfl k_) ?_
  show own_Go p.tables e below _ (T152.setTop (mkF m 109 #[.val (.int p0), .val (.int p1), .val (.int p2), .val (.int p3), .val (.int p4), .val (.int sz), .val (.int ee), .val (.int qq1), .val (.int qq2), .val (.int qq3), .val (.double (FP.i2d p1)), .second, .val (.double (FP.i2d p2)), .second, .val (.double (FP.i2d p3)), .second, .val (.ref b148), .unset, .unset, .unset, .unset, .unset, .unset, .unset, .unset] [(.int ee), (.ref b148)]))
  obtain ⟨cq153, kq153, q153a, q153b, q153c⟩ := isOf hZ rfl ((((A148.keep Kq149).keep Kq150).keep Kq151).keep Kq152)
  obtain ⟨_, _, ⟨T153, L153, k153, n153⟩, -, X153, ⟨Lc153, hQ153, l153, y153, z153⟩, st153⟩ := X152.virtualBack hx (y := (⟨"com/example/seshat/seshat/layout/PrefixMaximum", "before", "(I)D"⟩ : MethodName)) (z := (⟨"com/example/seshat/seshat/layout/PrefixMaximum", "before", "(I)D"⟩ : MethodName)) hown (mvT hZ (hw _ (List.mem_of_getElem? (i := 26) rfl))) (mvT hZ (hw _ (List.mem_of_getElem? (i := 27) rfl))) (notFace_of_selects (args := #[]) (mvT hZ (hw _ (List.mem_of_getElem? (i := 29) rfl)))) (mvT hZ (hw _ (List.mem_of_getElem? (i := 29) rfl))) (mvT hZ (hw _ (List.mem_of_getElem? (i := 28) rfl))) (by decide) (backOf (W := 0) (own_rm6 l Z a0 hw [] b148 ee b_149 kb_149 (sn + 1) (own_rs (sn + 1) (some p3) 17 (qm3 + 1) (own_rs (sn + 1) (some p2) 17 (qm2 + 1) (own_rs (sn + 1) (some p1) 17 (qm1 + 1) (fun _ => none)))) en T152.heap n0 (Nat.le_trans Z0 K152.1) (((P149_1.keep Kq150 (ninS (Nat.ne_of_lt (Nat.lt_of_lt_of_le A148.lt P149_0)) nin0)).keep Kq151 (ninS (Nat.ne_of_lt (Nat.lt_of_lt_of_le A148.lt P149_0)) nin0)).keep Kq152 (ninS (Nat.ne_of_lt (Nat.lt_of_lt_of_le A148.lt P149_0)) nin0)) P152_0 ⟨hen, (by omega), (by omega)⟩) hZ (hw _ (List.mem_of_getElem? (i := 30) rfl)) (hw _ (List.mem_of_getElem? (i := 2) rfl)) (by decide) (by decide)) q153a q153c (g := (mkF m 109 #[.val (.int p0), .val (.int p1), .val (.int p2), .val (.int p3), .val (.int p4), .val (.int sz), .val (.int ee), .val (.int qq1), .val (.int qq2), .val (.int qq3), .val (.double (FP.i2d p1)), .second, .val (.double (FP.i2d p2)), .second, .val (.double (FP.i2d p3)), .second, .val (.ref b148), .unset, .unset, .unset, .unset, .unset, .unset, .unset, .unset] [(.int ee), (.ref b148)])) rfl (by rw [hml]; rfl) (Steps.refl _) (argsL := [(.int ee)]) (rest := []) (lenOf own_pd4 rfl) rfl (by show 2 * 0 + _ ≤ _; exact Nat.le_of_eq rfl) (hb hby at_109) (fun _ _ => ⟨rfl, rfl, (by decide : 2 + 0 ≤ _), (by decide : 18 + 0 ≤ _)⟩)
  dsimp only [Pt.U, Pt.locs, Pt.cells, Pt.slots] at X153 l153 y153 z153 st153 hQ153
  subst l153 y153 z153
  obtain ⟨rfl, N153q, eq153⟩ := hQ153
  have N153 := Fr.app N152 N153q
  refine own_tr st153 ?_
  show own_Go p.tables e below _ (T153.setTop (mkF m 112 #[.val (.int p0), .val (.int p1), .val (.int p2), .val (.int p3), .val (.int p4), .val (.int sz), .val (.int ee), .val (.int qq1), .val (.int qq2), .val (.int qq3), .val (.double (FP.i2d p1)), .second, .val (.double (FP.i2d p2)), .second, .val (.double (FP.i2d p3)), .second, .val (.ref b148), .unset, .unset, .unset, .unset, .unset, .unset, .unset, .unset] [(.double (own_enc (own_bf (own_rs (sn + 1) (some p3) 17 (qm3 + 1) (own_rs (sn + 1) (some p2) 17 (qm2 + 1) (own_rs (sn + 1) (some p1) 17 (qm1 + 1) (fun _ => none)))) 17 en none)))]))
  refine own_st (fun t_ k_ => XS.dstore X153.here hx rfl (hb hby at_112) rfl (l' := #[.val (.int p0), .val (.int p1), .val (.int p2), .val (.int p3), .val (.int p4), .val (.int sz), .val (.int ee), .val (.int qq1), .val (.int qq2), .val (.int qq3), .val (.double (FP.i2d p1)), .second, .val (.double (FP.i2d p2)), .second, .val (.double (FP.i2d p3)), .second, .val (.ref b148), .val (.double (own_enc (own_bf (own_rs (sn + 1) (some p3) 17 (qm3 + 1) (own_rs (sn + 1) (some p2) 17 (qm2 + 1) (own_rs (sn + 1) (some p1) 17 (qm1 + 1) (fun _ => none)))) 17 en none))), .second, .unset, .unset, .unset, .unset, .unset, .unset]) rfl k_) ?_
  show own_Go p.tables e below _ (T153.setTop (mkF m 114 #[.val (.int p0), .val (.int p1), .val (.int p2), .val (.int p3), .val (.int p4), .val (.int sz), .val (.int ee), .val (.int qq1), .val (.int qq2), .val (.int qq3), .val (.double (FP.i2d p1)), .second, .val (.double (FP.i2d p2)), .second, .val (.double (FP.i2d p3)), .second, .val (.ref b148), .val (.double (own_enc (own_bf (own_rs (sn + 1) (some p3) 17 (qm3 + 1) (own_rs (sn + 1) (some p2) 17 (qm2 + 1) (own_rs (sn + 1) (some p1) 17 (qm1 + 1) (fun _ => none)))) 17 en none))), .second, .unset, .unset, .unset, .unset, .unset, .unset] []))
  refine own_st (fun t_ k_ => XS.aload X153.here hx rfl (hb hby at_114) rfl rfl k_) ?_
  show own_Go p.tables e below _ (T153.setTop (mkF m 116 #[.val (.int p0), .val (.int p1), .val (.int p2), .val (.int p3), .val (.int p4), .val (.int sz), .val (.int ee), .val (.int qq1), .val (.int qq2), .val (.int qq3), .val (.double (FP.i2d p1)), .second, .val (.double (FP.i2d p2)), .second, .val (.double (FP.i2d p3)), .second, .val (.ref b148), .val (.double (own_enc (own_bf (own_rs (sn + 1) (some p3) 17 (qm3 + 1) (own_rs (sn + 1) (some p2) 17 (qm2 + 1) (own_rs (sn + 1) (some p1) 17 (qm1 + 1) (fun _ => none)))) 17 en none))), .second, .unset, .unset, .unset, .unset, .unset, .unset] [(.ref b148)]))
  refine own_st (fun t_ k_ => XS.iload X153.here hx rfl (hb hby at_116) rfl k_) ?_
  show own_Go p.tables e below _ (T153.setTop (mkF m 118 #[.val (.int p0), .val (.int p1), .val (.int p2), .val (.int p3), .val (.int p4), .val (.int sz), .val (.int ee), .val (.int qq1), .val (.int qq2), .val (.int qq3), .val (.double (FP.i2d p1)), .second, .val (.double (FP.i2d p2)), .second, .val (.double (FP.i2d p3)), .second, .val (.ref b148), .val (.double (own_enc (own_bf (own_rs (sn + 1) (some p3) 17 (qm3 + 1) (own_rs (sn + 1) (some p2) 17 (qm2 + 1) (own_rs (sn + 1) (some p1) 17 (qm1 + 1) (fun _ => none)))) 17 en none))), .second, .unset, .unset, .unset, .unset, .unset, .unset] [(.int sz), (.ref b148)]))
  obtain ⟨cq154, kq154, q154a, q154b, q154c⟩ := isOf hZ eq153 ((((A148.keep Kq149).keep Kq150).keep Kq151).keep Kq152)
  obtain ⟨_, _, ⟨T154, L154, k154, n154⟩, -, X154, ⟨Lc154, hQ154, l154, y154, z154⟩, st154⟩ := X153.virtualBack hx (y := (⟨"com/example/seshat/seshat/layout/PrefixMaximum", "before", "(I)D"⟩ : MethodName)) (z := (⟨"com/example/seshat/seshat/layout/PrefixMaximum", "before", "(I)D"⟩ : MethodName)) hown (mvT hZ (hw _ (List.mem_of_getElem? (i := 26) rfl))) (mvT hZ (hw _ (List.mem_of_getElem? (i := 27) rfl))) (notFace_of_selects (args := #[]) (mvT hZ (hw _ (List.mem_of_getElem? (i := 29) rfl)))) (mvT hZ (hw _ (List.mem_of_getElem? (i := 29) rfl))) (mvT hZ (hw _ (List.mem_of_getElem? (i := 28) rfl))) (by decide) (backOf (W := 0) (own_rm6 l Z a0 hw [] b148 sz b_149 kb_149 (sn + 1) (own_rs (sn + 1) (some p3) 17 (qm3 + 1) (own_rs (sn + 1) (some p2) 17 (qm2 + 1) (own_rs (sn + 1) (some p1) 17 (qm1 + 1) (fun _ => none)))) sn T152.heap n0 (Nat.le_trans Z0 K152.1) (((P149_1.keep Kq150 (ninS (Nat.ne_of_lt (Nat.lt_of_lt_of_le A148.lt P149_0)) nin0)).keep Kq151 (ninS (Nat.ne_of_lt (Nat.lt_of_lt_of_le A148.lt P149_0)) nin0)).keep Kq152 (ninS (Nat.ne_of_lt (Nat.lt_of_lt_of_le A148.lt P149_0)) nin0)) P152_0 ⟨hsn, (by omega), (by omega)⟩) hZ (hw _ (List.mem_of_getElem? (i := 30) rfl)) (hw _ (List.mem_of_getElem? (i := 2) rfl)) (by decide) (by decide)) q154a q154c (g := (mkF m 118 #[.val (.int p0), .val (.int p1), .val (.int p2), .val (.int p3), .val (.int p4), .val (.int sz), .val (.int ee), .val (.int qq1), .val (.int qq2), .val (.int qq3), .val (.double (FP.i2d p1)), .second, .val (.double (FP.i2d p2)), .second, .val (.double (FP.i2d p3)), .second, .val (.ref b148), .val (.double (own_enc (own_bf (own_rs (sn + 1) (some p3) 17 (qm3 + 1) (own_rs (sn + 1) (some p2) 17 (qm2 + 1) (own_rs (sn + 1) (some p1) 17 (qm1 + 1) (fun _ => none)))) 17 en none))), .second, .unset, .unset, .unset, .unset, .unset, .unset] [(.int sz), (.ref b148)])) rfl (by rw [hml]; rfl) (Steps.refl _) (argsL := [(.int sz)]) (rest := []) (lenOf own_pd4 rfl) rfl (by show 2 * 0 + _ ≤ _; exact Nat.le_of_eq rfl) (hb hby at_118) (fun _ _ => ⟨rfl, eq153, (by decide : 2 + 0 ≤ _), (by decide : 18 + 0 ≤ _)⟩)
  dsimp only [Pt.U, Pt.locs, Pt.cells, Pt.slots] at X154 l154 y154 z154 st154 hQ154
  subst l154 y154 z154
  obtain ⟨rfl, N154q, eq154⟩ := hQ154
  have N154 := Fr.app N153 N154q
  refine own_tr st154 ?_
  show own_Go p.tables e below _ (T154.setTop (mkF m 121 #[.val (.int p0), .val (.int p1), .val (.int p2), .val (.int p3), .val (.int p4), .val (.int sz), .val (.int ee), .val (.int qq1), .val (.int qq2), .val (.int qq3), .val (.double (FP.i2d p1)), .second, .val (.double (FP.i2d p2)), .second, .val (.double (FP.i2d p3)), .second, .val (.ref b148), .val (.double (own_enc (own_bf (own_rs (sn + 1) (some p3) 17 (qm3 + 1) (own_rs (sn + 1) (some p2) 17 (qm2 + 1) (own_rs (sn + 1) (some p1) 17 (qm1 + 1) (fun _ => none)))) 17 en none))), .second, .unset, .unset, .unset, .unset, .unset, .unset] [(.double (own_enc (own_bf (own_rs (sn + 1) (some p3) 17 (qm3 + 1) (own_rs (sn + 1) (some p2) 17 (qm2 + 1) (own_rs (sn + 1) (some p1) 17 (qm1 + 1) (fun _ => none)))) 17 sn none)))]))
  refine own_st (fun t_ k_ => XS.dstore X154.here hx rfl (hb hby at_121) rfl (l' := #[.val (.int p0), .val (.int p1), .val (.int p2), .val (.int p3), .val (.int p4), .val (.int sz), .val (.int ee), .val (.int qq1), .val (.int qq2), .val (.int qq3), .val (.double (FP.i2d p1)), .second, .val (.double (FP.i2d p2)), .second, .val (.double (FP.i2d p3)), .second, .val (.ref b148), .val (.double (own_enc (own_bf (own_rs (sn + 1) (some p3) 17 (qm3 + 1) (own_rs (sn + 1) (some p2) 17 (qm2 + 1) (own_rs (sn + 1) (some p1) 17 (qm1 + 1) (fun _ => none)))) 17 en none))), .second, .val (.double (own_enc (own_bf (own_rs (sn + 1) (some p3) 17 (qm3 + 1) (own_rs (sn + 1) (some p2) 17 (qm2 + 1) (own_rs (sn + 1) (some p1) 17 (qm1 + 1) (fun _ => none)))) 17 sn none))), .second, .unset, .unset, .unset, .unset]) rfl k_) ?_
  show own_Go p.tables e below _ (T154.setTop (mkF m 123 #[.val (.int p0), .val (.int p1), .val (.int p2), .val (.int p3), .val (.int p4), .val (.int sz), .val (.int ee), .val (.int qq1), .val (.int qq2), .val (.int qq3), .val (.double (FP.i2d p1)), .second, .val (.double (FP.i2d p2)), .second, .val (.double (FP.i2d p3)), .second, .val (.ref b148), .val (.double (own_enc (own_bf (own_rs (sn + 1) (some p3) 17 (qm3 + 1) (own_rs (sn + 1) (some p2) 17 (qm2 + 1) (own_rs (sn + 1) (some p1) 17 (qm1 + 1) (fun _ => none)))) 17 en none))), .second, .val (.double (own_enc (own_bf (own_rs (sn + 1) (some p3) 17 (qm3 + 1) (own_rs (sn + 1) (some p2) 17 (qm2 + 1) (own_rs (sn + 1) (some p1) 17 (qm1 + 1) (fun _ => none)))) 17 sn none))), .second, .unset, .unset, .unset, .unset] []))
  refine own_st (fun t_ k_ => XS.iload X154.here hx rfl (hb hby at_123) rfl k_) ?_
  show own_Go p.tables e below _ (T154.setTop (mkF m 125 #[.val (.int p0), .val (.int p1), .val (.int p2), .val (.int p3), .val (.int p4), .val (.int sz), .val (.int ee), .val (.int qq1), .val (.int qq2), .val (.int qq3), .val (.double (FP.i2d p1)), .second, .val (.double (FP.i2d p2)), .second, .val (.double (FP.i2d p3)), .second, .val (.ref b148), .val (.double (own_enc (own_bf (own_rs (sn + 1) (some p3) 17 (qm3 + 1) (own_rs (sn + 1) (some p2) 17 (qm2 + 1) (own_rs (sn + 1) (some p1) 17 (qm1 + 1) (fun _ => none)))) 17 en none))), .second, .val (.double (own_enc (own_bf (own_rs (sn + 1) (some p3) 17 (qm3 + 1) (own_rs (sn + 1) (some p2) 17 (qm2 + 1) (own_rs (sn + 1) (some p1) 17 (qm1 + 1) (fun _ => none)))) 17 sn none))), .second, .unset, .unset, .unset, .unset] [(.int ee)]))
  refine own_st (fun t_ k_ => XS.iload X154.here hx rfl (hb hby at_125) rfl k_) ?_
  show own_Go p.tables e below _ (T154.setTop (mkF m 127 #[.val (.int p0), .val (.int p1), .val (.int p2), .val (.int p3), .val (.int p4), .val (.int sz), .val (.int ee), .val (.int qq1), .val (.int qq2), .val (.int qq3), .val (.double (FP.i2d p1)), .second, .val (.double (FP.i2d p2)), .second, .val (.double (FP.i2d p3)), .second, .val (.ref b148), .val (.double (own_enc (own_bf (own_rs (sn + 1) (some p3) 17 (qm3 + 1) (own_rs (sn + 1) (some p2) 17 (qm2 + 1) (own_rs (sn + 1) (some p1) 17 (qm1 + 1) (fun _ => none)))) 17 en none))), .second, .val (.double (own_enc (own_bf (own_rs (sn + 1) (some p3) 17 (qm3 + 1) (own_rs (sn + 1) (some p2) 17 (qm2 + 1) (own_rs (sn + 1) (some p1) 17 (qm1 + 1) (fun _ => none)))) 17 sn none))), .second, .unset, .unset, .unset, .unset] [(.int qq1), (.int ee)]))
  refine own_st (fun t_ k_ => XS.dload X154.here hx rfl (hb hby at_127) rfl k_) ?_
  show own_Go p.tables e below _ (T154.setTop (mkF m 129 #[.val (.int p0), .val (.int p1), .val (.int p2), .val (.int p3), .val (.int p4), .val (.int sz), .val (.int ee), .val (.int qq1), .val (.int qq2), .val (.int qq3), .val (.double (FP.i2d p1)), .second, .val (.double (FP.i2d p2)), .second, .val (.double (FP.i2d p3)), .second, .val (.ref b148), .val (.double (own_enc (own_bf (own_rs (sn + 1) (some p3) 17 (qm3 + 1) (own_rs (sn + 1) (some p2) 17 (qm2 + 1) (own_rs (sn + 1) (some p1) 17 (qm1 + 1) (fun _ => none)))) 17 en none))), .second, .val (.double (own_enc (own_bf (own_rs (sn + 1) (some p3) 17 (qm3 + 1) (own_rs (sn + 1) (some p2) 17 (qm2 + 1) (own_rs (sn + 1) (some p1) 17 (qm1 + 1) (fun _ => none)))) 17 sn none))), .second, .unset, .unset, .unset, .unset] [(.double (FP.i2d p1)), (.int qq1), (.int ee)]))
  refine own_st (fun t_ k_ => XS.iload X154.here hx rfl (hb hby at_129) rfl k_) ?_
  show own_Go p.tables e below _ (T154.setTop (mkF m 131 #[.val (.int p0), .val (.int p1), .val (.int p2), .val (.int p3), .val (.int p4), .val (.int sz), .val (.int ee), .val (.int qq1), .val (.int qq2), .val (.int qq3), .val (.double (FP.i2d p1)), .second, .val (.double (FP.i2d p2)), .second, .val (.double (FP.i2d p3)), .second, .val (.ref b148), .val (.double (own_enc (own_bf (own_rs (sn + 1) (some p3) 17 (qm3 + 1) (own_rs (sn + 1) (some p2) 17 (qm2 + 1) (own_rs (sn + 1) (some p1) 17 (qm1 + 1) (fun _ => none)))) 17 en none))), .second, .val (.double (own_enc (own_bf (own_rs (sn + 1) (some p3) 17 (qm3 + 1) (own_rs (sn + 1) (some p2) 17 (qm2 + 1) (own_rs (sn + 1) (some p1) 17 (qm1 + 1) (fun _ => none)))) 17 sn none))), .second, .unset, .unset, .unset, .unset] [(.int qq2), (.double (FP.i2d p1)), (.int qq1), (.int ee)]))
  refine own_st (fun t_ k_ => XS.dload X154.here hx rfl (hb hby at_131) rfl k_) ?_
  show own_Go p.tables e below _ (T154.setTop (mkF m 133 #[.val (.int p0), .val (.int p1), .val (.int p2), .val (.int p3), .val (.int p4), .val (.int sz), .val (.int ee), .val (.int qq1), .val (.int qq2), .val (.int qq3), .val (.double (FP.i2d p1)), .second, .val (.double (FP.i2d p2)), .second, .val (.double (FP.i2d p3)), .second, .val (.ref b148), .val (.double (own_enc (own_bf (own_rs (sn + 1) (some p3) 17 (qm3 + 1) (own_rs (sn + 1) (some p2) 17 (qm2 + 1) (own_rs (sn + 1) (some p1) 17 (qm1 + 1) (fun _ => none)))) 17 en none))), .second, .val (.double (own_enc (own_bf (own_rs (sn + 1) (some p3) 17 (qm3 + 1) (own_rs (sn + 1) (some p2) 17 (qm2 + 1) (own_rs (sn + 1) (some p1) 17 (qm1 + 1) (fun _ => none)))) 17 sn none))), .second, .unset, .unset, .unset, .unset] [(.double (FP.i2d p2)), (.int qq2), (.double (FP.i2d p1)), (.int qq1), (.int ee)]))
  refine own_st (fun t_ k_ => XS.iload X154.here hx rfl (hb hby at_133) rfl k_) ?_
  show own_Go p.tables e below _ (T154.setTop (mkF m 135 #[.val (.int p0), .val (.int p1), .val (.int p2), .val (.int p3), .val (.int p4), .val (.int sz), .val (.int ee), .val (.int qq1), .val (.int qq2), .val (.int qq3), .val (.double (FP.i2d p1)), .second, .val (.double (FP.i2d p2)), .second, .val (.double (FP.i2d p3)), .second, .val (.ref b148), .val (.double (own_enc (own_bf (own_rs (sn + 1) (some p3) 17 (qm3 + 1) (own_rs (sn + 1) (some p2) 17 (qm2 + 1) (own_rs (sn + 1) (some p1) 17 (qm1 + 1) (fun _ => none)))) 17 en none))), .second, .val (.double (own_enc (own_bf (own_rs (sn + 1) (some p3) 17 (qm3 + 1) (own_rs (sn + 1) (some p2) 17 (qm2 + 1) (own_rs (sn + 1) (some p1) 17 (qm1 + 1) (fun _ => none)))) 17 sn none))), .second, .unset, .unset, .unset, .unset] [(.int qq3), (.double (FP.i2d p2)), (.int qq2), (.double (FP.i2d p1)), (.int qq1), (.int ee)]))
  refine own_st (fun t_ k_ => XS.dload X154.here hx rfl (hb hby at_135) rfl k_) ?_
  show own_Go p.tables e below _ (T154.setTop (mkF m 137 #[.val (.int p0), .val (.int p1), .val (.int p2), .val (.int p3), .val (.int p4), .val (.int sz), .val (.int ee), .val (.int qq1), .val (.int qq2), .val (.int qq3), .val (.double (FP.i2d p1)), .second, .val (.double (FP.i2d p2)), .second, .val (.double (FP.i2d p3)), .second, .val (.ref b148), .val (.double (own_enc (own_bf (own_rs (sn + 1) (some p3) 17 (qm3 + 1) (own_rs (sn + 1) (some p2) 17 (qm2 + 1) (own_rs (sn + 1) (some p1) 17 (qm1 + 1) (fun _ => none)))) 17 en none))), .second, .val (.double (own_enc (own_bf (own_rs (sn + 1) (some p3) 17 (qm3 + 1) (own_rs (sn + 1) (some p2) 17 (qm2 + 1) (own_rs (sn + 1) (some p1) 17 (qm1 + 1) (fun _ => none)))) 17 sn none))), .second, .unset, .unset, .unset, .unset] [(.double (FP.i2d p3)), (.int qq3), (.double (FP.i2d p2)), (.int qq2), (.double (FP.i2d p1)), (.int qq1), (.int ee)]))
  obtain ⟨_, _, ⟨T155, L155, k155, n155⟩, -, X155, ⟨Lc155, hQ155, l155, y155, z155⟩, st155⟩ := Jvm.LawKit.callS X154 hx (y := (⟨"com/example/seshat/seshat/layout/PrefixMaximumRaisePinLaw", "ref", "(IIDIDID)D"⟩ : MethodName)) hown (mvT hZ (hw _ (List.mem_of_getElem? (i := 31) rfl))) (mvT hZ (hw _ (List.mem_of_getElem? (i := 32) rfl))) (mvT hZ (hw _ (List.mem_of_getElem? (i := 33) rfl))) (mvT hZ (hw _ (List.mem_of_getElem? (i := 34) rfl))) (by decide) (backOf (W := 0) (own_rm7 l Z a0 hw [] ee qq1 p1 qq2 p2 qq3 p3 T152.heap n0 (Nat.le_trans Z0 K152.1)) hZ (hw _ (List.mem_of_getElem? (i := 34) rfl)) (hw _ (List.mem_of_getElem? (i := 33) rfl)) (by decide) (by decide)) (g := (mkF m 137 #[.val (.int p0), .val (.int p1), .val (.int p2), .val (.int p3), .val (.int p4), .val (.int sz), .val (.int ee), .val (.int qq1), .val (.int qq2), .val (.int qq3), .val (.double (FP.i2d p1)), .second, .val (.double (FP.i2d p2)), .second, .val (.double (FP.i2d p3)), .second, .val (.ref b148), .val (.double (own_enc (own_bf (own_rs (sn + 1) (some p3) 17 (qm3 + 1) (own_rs (sn + 1) (some p2) 17 (qm2 + 1) (own_rs (sn + 1) (some p1) 17 (qm1 + 1) (fun _ => none)))) 17 en none))), .second, .val (.double (own_enc (own_bf (own_rs (sn + 1) (some p3) 17 (qm3 + 1) (own_rs (sn + 1) (some p2) 17 (qm2 + 1) (own_rs (sn + 1) (some p1) 17 (qm1 + 1) (fun _ => none)))) 17 sn none))), .second, .unset, .unset, .unset, .unset] [(.double (FP.i2d p3)), (.int qq3), (.double (FP.i2d p2)), (.int qq2), (.double (FP.i2d p1)), (.int qq1), (.int ee)])) rfl (by rw [hml]; rfl) (argsL := [(.int ee), (.int qq1), (.double (FP.i2d p1)), (.int qq2), (.double (FP.i2d p2)), (.int qq3), (.double (FP.i2d p3))]) (rest := []) (lenOf own_pd5 rfl) rfl (by show 2 * 0 + _ ≤ _; exact Nat.le_of_eq rfl) (hb hby at_137) (fun _ _ => ⟨rfl, eq154, (by decide : 2 + 0 ≤ _), (by decide : 18 + 0 ≤ _)⟩)
  dsimp only [Pt.U, Pt.locs, Pt.cells, Pt.slots] at X155 l155 y155 z155 st155 hQ155
  subst l155 y155 z155
  obtain ⟨rfl, N155q, eq155⟩ := hQ155
  have N155 := Fr.app N154 N155q
  refine own_st (st155) ?_
  show own_Go p.tables e below _ (T155.setTop (mkF m 140 #[.val (.int p0), .val (.int p1), .val (.int p2), .val (.int p3), .val (.int p4), .val (.int sz), .val (.int ee), .val (.int qq1), .val (.int qq2), .val (.int qq3), .val (.double (FP.i2d p1)), .second, .val (.double (FP.i2d p2)), .second, .val (.double (FP.i2d p3)), .second, .val (.ref b148), .val (.double (own_enc (own_bf (own_rs (sn + 1) (some p3) 17 (qm3 + 1) (own_rs (sn + 1) (some p2) 17 (qm2 + 1) (own_rs (sn + 1) (some p1) 17 (qm1 + 1) (fun _ => none)))) 17 en none))), .second, .val (.double (own_enc (own_bf (own_rs (sn + 1) (some p3) 17 (qm3 + 1) (own_rs (sn + 1) (some p2) 17 (qm2 + 1) (own_rs (sn + 1) (some p1) 17 (qm1 + 1) (fun _ => none)))) 17 sn none))), .second, .unset, .unset, .unset, .unset] [(.double (own_step ee qq3 p3 (own_step ee qq2 p2 (own_step ee qq1 p1 (18442240474082181120 : UInt64)))))]))
  refine own_st (fun t_ k_ => XS.dstore X155.here hx rfl (hb hby at_140) rfl (l' := #[.val (.int p0), .val (.int p1), .val (.int p2), .val (.int p3), .val (.int p4), .val (.int sz), .val (.int ee), .val (.int qq1), .val (.int qq2), .val (.int qq3), .val (.double (FP.i2d p1)), .second, .val (.double (FP.i2d p2)), .second, .val (.double (FP.i2d p3)), .second, .val (.ref b148), .val (.double (own_enc (own_bf (own_rs (sn + 1) (some p3) 17 (qm3 + 1) (own_rs (sn + 1) (some p2) 17 (qm2 + 1) (own_rs (sn + 1) (some p1) 17 (qm1 + 1) (fun _ => none)))) 17 en none))), .second, .val (.double (own_enc (own_bf (own_rs (sn + 1) (some p3) 17 (qm3 + 1) (own_rs (sn + 1) (some p2) 17 (qm2 + 1) (own_rs (sn + 1) (some p1) 17 (qm1 + 1) (fun _ => none)))) 17 sn none))), .second, .val (.double (own_step ee qq3 p3 (own_step ee qq2 p2 (own_step ee qq1 p1 (18442240474082181120 : UInt64))))), .second, .unset, .unset]) rfl k_) ?_
  show own_Go p.tables e below _ (T155.setTop (mkF m 142 #[.val (.int p0), .val (.int p1), .val (.int p2), .val (.int p3), .val (.int p4), .val (.int sz), .val (.int ee), .val (.int qq1), .val (.int qq2), .val (.int qq3), .val (.double (FP.i2d p1)), .second, .val (.double (FP.i2d p2)), .second, .val (.double (FP.i2d p3)), .second, .val (.ref b148), .val (.double (own_enc (own_bf (own_rs (sn + 1) (some p3) 17 (qm3 + 1) (own_rs (sn + 1) (some p2) 17 (qm2 + 1) (own_rs (sn + 1) (some p1) 17 (qm1 + 1) (fun _ => none)))) 17 en none))), .second, .val (.double (own_enc (own_bf (own_rs (sn + 1) (some p3) 17 (qm3 + 1) (own_rs (sn + 1) (some p2) 17 (qm2 + 1) (own_rs (sn + 1) (some p1) 17 (qm1 + 1) (fun _ => none)))) 17 sn none))), .second, .val (.double (own_step ee qq3 p3 (own_step ee qq2 p2 (own_step ee qq1 p1 (18442240474082181120 : UInt64))))), .second, .unset, .unset] []))
  refine own_st (fun t_ k_ => XS.iload X155.here hx rfl (hb hby at_142) rfl k_) ?_
  show own_Go p.tables e below _ (T155.setTop (mkF m 144 #[.val (.int p0), .val (.int p1), .val (.int p2), .val (.int p3), .val (.int p4), .val (.int sz), .val (.int ee), .val (.int qq1), .val (.int qq2), .val (.int qq3), .val (.double (FP.i2d p1)), .second, .val (.double (FP.i2d p2)), .second, .val (.double (FP.i2d p3)), .second, .val (.ref b148), .val (.double (own_enc (own_bf (own_rs (sn + 1) (some p3) 17 (qm3 + 1) (own_rs (sn + 1) (some p2) 17 (qm2 + 1) (own_rs (sn + 1) (some p1) 17 (qm1 + 1) (fun _ => none)))) 17 en none))), .second, .val (.double (own_enc (own_bf (own_rs (sn + 1) (some p3) 17 (qm3 + 1) (own_rs (sn + 1) (some p2) 17 (qm2 + 1) (own_rs (sn + 1) (some p1) 17 (qm1 + 1) (fun _ => none)))) 17 sn none))), .second, .val (.double (own_step ee qq3 p3 (own_step ee qq2 p2 (own_step ee qq1 p1 (18442240474082181120 : UInt64))))), .second, .unset, .unset] [(.int sz)]))
  refine own_st (fun t_ k_ => XS.iload X155.here hx rfl (hb hby at_144) rfl k_) ?_
  show own_Go p.tables e below _ (T155.setTop (mkF m 146 #[.val (.int p0), .val (.int p1), .val (.int p2), .val (.int p3), .val (.int p4), .val (.int sz), .val (.int ee), .val (.int qq1), .val (.int qq2), .val (.int qq3), .val (.double (FP.i2d p1)), .second, .val (.double (FP.i2d p2)), .second, .val (.double (FP.i2d p3)), .second, .val (.ref b148), .val (.double (own_enc (own_bf (own_rs (sn + 1) (some p3) 17 (qm3 + 1) (own_rs (sn + 1) (some p2) 17 (qm2 + 1) (own_rs (sn + 1) (some p1) 17 (qm1 + 1) (fun _ => none)))) 17 en none))), .second, .val (.double (own_enc (own_bf (own_rs (sn + 1) (some p3) 17 (qm3 + 1) (own_rs (sn + 1) (some p2) 17 (qm2 + 1) (own_rs (sn + 1) (some p1) 17 (qm1 + 1) (fun _ => none)))) 17 sn none))), .second, .val (.double (own_step ee qq3 p3 (own_step ee qq2 p2 (own_step ee qq1 p1 (18442240474082181120 : UInt64))))), .second, .unset, .unset] [(.int qq1), (.int sz)]))
  refine own_st (fun t_ k_ => XS.dload X155.here hx rfl (hb hby at_146) rfl k_) ?_
  show own_Go p.tables e below _ (T155.setTop (mkF m 148 #[.val (.int p0), .val (.int p1), .val (.int p2), .val (.int p3), .val (.int p4), .val (.int sz), .val (.int ee), .val (.int qq1), .val (.int qq2), .val (.int qq3), .val (.double (FP.i2d p1)), .second, .val (.double (FP.i2d p2)), .second, .val (.double (FP.i2d p3)), .second, .val (.ref b148), .val (.double (own_enc (own_bf (own_rs (sn + 1) (some p3) 17 (qm3 + 1) (own_rs (sn + 1) (some p2) 17 (qm2 + 1) (own_rs (sn + 1) (some p1) 17 (qm1 + 1) (fun _ => none)))) 17 en none))), .second, .val (.double (own_enc (own_bf (own_rs (sn + 1) (some p3) 17 (qm3 + 1) (own_rs (sn + 1) (some p2) 17 (qm2 + 1) (own_rs (sn + 1) (some p1) 17 (qm1 + 1) (fun _ => none)))) 17 sn none))), .second, .val (.double (own_step ee qq3 p3 (own_step ee qq2 p2 (own_step ee qq1 p1 (18442240474082181120 : UInt64))))), .second, .unset, .unset] [(.double (FP.i2d p1)), (.int qq1), (.int sz)]))
  refine own_st (fun t_ k_ => XS.iload X155.here hx rfl (hb hby at_148) rfl k_) ?_
  show own_Go p.tables e below _ (T155.setTop (mkF m 150 #[.val (.int p0), .val (.int p1), .val (.int p2), .val (.int p3), .val (.int p4), .val (.int sz), .val (.int ee), .val (.int qq1), .val (.int qq2), .val (.int qq3), .val (.double (FP.i2d p1)), .second, .val (.double (FP.i2d p2)), .second, .val (.double (FP.i2d p3)), .second, .val (.ref b148), .val (.double (own_enc (own_bf (own_rs (sn + 1) (some p3) 17 (qm3 + 1) (own_rs (sn + 1) (some p2) 17 (qm2 + 1) (own_rs (sn + 1) (some p1) 17 (qm1 + 1) (fun _ => none)))) 17 en none))), .second, .val (.double (own_enc (own_bf (own_rs (sn + 1) (some p3) 17 (qm3 + 1) (own_rs (sn + 1) (some p2) 17 (qm2 + 1) (own_rs (sn + 1) (some p1) 17 (qm1 + 1) (fun _ => none)))) 17 sn none))), .second, .val (.double (own_step ee qq3 p3 (own_step ee qq2 p2 (own_step ee qq1 p1 (18442240474082181120 : UInt64))))), .second, .unset, .unset] [(.int qq2), (.double (FP.i2d p1)), (.int qq1), (.int sz)]))
  refine own_st (fun t_ k_ => XS.dload X155.here hx rfl (hb hby at_150) rfl k_) ?_
  show own_Go p.tables e below _ (T155.setTop (mkF m 152 #[.val (.int p0), .val (.int p1), .val (.int p2), .val (.int p3), .val (.int p4), .val (.int sz), .val (.int ee), .val (.int qq1), .val (.int qq2), .val (.int qq3), .val (.double (FP.i2d p1)), .second, .val (.double (FP.i2d p2)), .second, .val (.double (FP.i2d p3)), .second, .val (.ref b148), .val (.double (own_enc (own_bf (own_rs (sn + 1) (some p3) 17 (qm3 + 1) (own_rs (sn + 1) (some p2) 17 (qm2 + 1) (own_rs (sn + 1) (some p1) 17 (qm1 + 1) (fun _ => none)))) 17 en none))), .second, .val (.double (own_enc (own_bf (own_rs (sn + 1) (some p3) 17 (qm3 + 1) (own_rs (sn + 1) (some p2) 17 (qm2 + 1) (own_rs (sn + 1) (some p1) 17 (qm1 + 1) (fun _ => none)))) 17 sn none))), .second, .val (.double (own_step ee qq3 p3 (own_step ee qq2 p2 (own_step ee qq1 p1 (18442240474082181120 : UInt64))))), .second, .unset, .unset] [(.double (FP.i2d p2)), (.int qq2), (.double (FP.i2d p1)), (.int qq1), (.int sz)]))
  refine own_st (fun t_ k_ => XS.iload X155.here hx rfl (hb hby at_152) rfl k_) ?_
  show own_Go p.tables e below _ (T155.setTop (mkF m 154 #[.val (.int p0), .val (.int p1), .val (.int p2), .val (.int p3), .val (.int p4), .val (.int sz), .val (.int ee), .val (.int qq1), .val (.int qq2), .val (.int qq3), .val (.double (FP.i2d p1)), .second, .val (.double (FP.i2d p2)), .second, .val (.double (FP.i2d p3)), .second, .val (.ref b148), .val (.double (own_enc (own_bf (own_rs (sn + 1) (some p3) 17 (qm3 + 1) (own_rs (sn + 1) (some p2) 17 (qm2 + 1) (own_rs (sn + 1) (some p1) 17 (qm1 + 1) (fun _ => none)))) 17 en none))), .second, .val (.double (own_enc (own_bf (own_rs (sn + 1) (some p3) 17 (qm3 + 1) (own_rs (sn + 1) (some p2) 17 (qm2 + 1) (own_rs (sn + 1) (some p1) 17 (qm1 + 1) (fun _ => none)))) 17 sn none))), .second, .val (.double (own_step ee qq3 p3 (own_step ee qq2 p2 (own_step ee qq1 p1 (18442240474082181120 : UInt64))))), .second, .unset, .unset] [(.int qq3), (.double (FP.i2d p2)), (.int qq2), (.double (FP.i2d p1)), (.int qq1), (.int sz)]))
  refine own_st (fun t_ k_ => XS.dload X155.here hx rfl (hb hby at_154) rfl k_) ?_
  show own_Go p.tables e below _ (T155.setTop (mkF m 156 #[.val (.int p0), .val (.int p1), .val (.int p2), .val (.int p3), .val (.int p4), .val (.int sz), .val (.int ee), .val (.int qq1), .val (.int qq2), .val (.int qq3), .val (.double (FP.i2d p1)), .second, .val (.double (FP.i2d p2)), .second, .val (.double (FP.i2d p3)), .second, .val (.ref b148), .val (.double (own_enc (own_bf (own_rs (sn + 1) (some p3) 17 (qm3 + 1) (own_rs (sn + 1) (some p2) 17 (qm2 + 1) (own_rs (sn + 1) (some p1) 17 (qm1 + 1) (fun _ => none)))) 17 en none))), .second, .val (.double (own_enc (own_bf (own_rs (sn + 1) (some p3) 17 (qm3 + 1) (own_rs (sn + 1) (some p2) 17 (qm2 + 1) (own_rs (sn + 1) (some p1) 17 (qm1 + 1) (fun _ => none)))) 17 sn none))), .second, .val (.double (own_step ee qq3 p3 (own_step ee qq2 p2 (own_step ee qq1 p1 (18442240474082181120 : UInt64))))), .second, .unset, .unset] [(.double (FP.i2d p3)), (.int qq3), (.double (FP.i2d p2)), (.int qq2), (.double (FP.i2d p1)), (.int qq1), (.int sz)]))
  obtain ⟨_, _, ⟨T156, L156, k156, n156⟩, -, X156, ⟨Lc156, hQ156, l156, y156, z156⟩, st156⟩ := Jvm.LawKit.callS X155 hx (y := (⟨"com/example/seshat/seshat/layout/PrefixMaximumRaisePinLaw", "ref", "(IIDIDID)D"⟩ : MethodName)) hown (mvT hZ (hw _ (List.mem_of_getElem? (i := 31) rfl))) (mvT hZ (hw _ (List.mem_of_getElem? (i := 32) rfl))) (mvT hZ (hw _ (List.mem_of_getElem? (i := 33) rfl))) (mvT hZ (hw _ (List.mem_of_getElem? (i := 34) rfl))) (by decide) (backOf (W := 0) (own_rm7 l Z a0 hw [] sz qq1 p1 qq2 p2 qq3 p3 T152.heap n0 (Nat.le_trans Z0 K152.1)) hZ (hw _ (List.mem_of_getElem? (i := 34) rfl)) (hw _ (List.mem_of_getElem? (i := 33) rfl)) (by decide) (by decide)) (g := (mkF m 156 #[.val (.int p0), .val (.int p1), .val (.int p2), .val (.int p3), .val (.int p4), .val (.int sz), .val (.int ee), .val (.int qq1), .val (.int qq2), .val (.int qq3), .val (.double (FP.i2d p1)), .second, .val (.double (FP.i2d p2)), .second, .val (.double (FP.i2d p3)), .second, .val (.ref b148), .val (.double (own_enc (own_bf (own_rs (sn + 1) (some p3) 17 (qm3 + 1) (own_rs (sn + 1) (some p2) 17 (qm2 + 1) (own_rs (sn + 1) (some p1) 17 (qm1 + 1) (fun _ => none)))) 17 en none))), .second, .val (.double (own_enc (own_bf (own_rs (sn + 1) (some p3) 17 (qm3 + 1) (own_rs (sn + 1) (some p2) 17 (qm2 + 1) (own_rs (sn + 1) (some p1) 17 (qm1 + 1) (fun _ => none)))) 17 sn none))), .second, .val (.double (own_step ee qq3 p3 (own_step ee qq2 p2 (own_step ee qq1 p1 (18442240474082181120 : UInt64))))), .second, .unset, .unset] [(.double (FP.i2d p3)), (.int qq3), (.double (FP.i2d p2)), (.int qq2), (.double (FP.i2d p1)), (.int qq1), (.int sz)])) rfl (by rw [hml]; rfl) (argsL := [(.int sz), (.int qq1), (.double (FP.i2d p1)), (.int qq2), (.double (FP.i2d p2)), (.int qq3), (.double (FP.i2d p3))]) (rest := []) (lenOf own_pd5 rfl) rfl (by show 2 * 0 + _ ≤ _; exact Nat.le_of_eq rfl) (hb hby at_156) (fun _ _ => ⟨rfl, eq155, (by decide : 2 + 0 ≤ _), (by decide : 18 + 0 ≤ _)⟩)
  dsimp only [Pt.U, Pt.locs, Pt.cells, Pt.slots] at X156 l156 y156 z156 st156 hQ156
  subst l156 y156 z156
  obtain ⟨rfl, N156q, eq156⟩ := hQ156
  have N156 := Fr.app N155 N156q
  refine own_st (st156) ?_
  show own_Go p.tables e below _ (T156.setTop (mkF m 159 #[.val (.int p0), .val (.int p1), .val (.int p2), .val (.int p3), .val (.int p4), .val (.int sz), .val (.int ee), .val (.int qq1), .val (.int qq2), .val (.int qq3), .val (.double (FP.i2d p1)), .second, .val (.double (FP.i2d p2)), .second, .val (.double (FP.i2d p3)), .second, .val (.ref b148), .val (.double (own_enc (own_bf (own_rs (sn + 1) (some p3) 17 (qm3 + 1) (own_rs (sn + 1) (some p2) 17 (qm2 + 1) (own_rs (sn + 1) (some p1) 17 (qm1 + 1) (fun _ => none)))) 17 en none))), .second, .val (.double (own_enc (own_bf (own_rs (sn + 1) (some p3) 17 (qm3 + 1) (own_rs (sn + 1) (some p2) 17 (qm2 + 1) (own_rs (sn + 1) (some p1) 17 (qm1 + 1) (fun _ => none)))) 17 sn none))), .second, .val (.double (own_step ee qq3 p3 (own_step ee qq2 p2 (own_step ee qq1 p1 (18442240474082181120 : UInt64))))), .second, .unset, .unset] [(.double (own_step sz qq3 p3 (own_step sz qq2 p2 (own_step sz qq1 p1 (18442240474082181120 : UInt64)))))]))
  refine own_st (fun t_ k_ => XS.dstore X156.here hx rfl (hb hby at_159) rfl (l' := #[.val (.int p0), .val (.int p1), .val (.int p2), .val (.int p3), .val (.int p4), .val (.int sz), .val (.int ee), .val (.int qq1), .val (.int qq2), .val (.int qq3), .val (.double (FP.i2d p1)), .second, .val (.double (FP.i2d p2)), .second, .val (.double (FP.i2d p3)), .second, .val (.ref b148), .val (.double (own_enc (own_bf (own_rs (sn + 1) (some p3) 17 (qm3 + 1) (own_rs (sn + 1) (some p2) 17 (qm2 + 1) (own_rs (sn + 1) (some p1) 17 (qm1 + 1) (fun _ => none)))) 17 en none))), .second, .val (.double (own_enc (own_bf (own_rs (sn + 1) (some p3) 17 (qm3 + 1) (own_rs (sn + 1) (some p2) 17 (qm2 + 1) (own_rs (sn + 1) (some p1) 17 (qm1 + 1) (fun _ => none)))) 17 sn none))), .second, .val (.double (own_step ee qq3 p3 (own_step ee qq2 p2 (own_step ee qq1 p1 (18442240474082181120 : UInt64))))), .second, .val (.double (own_step sz qq3 p3 (own_step sz qq2 p2 (own_step sz qq1 p1 (18442240474082181120 : UInt64))))), .second]) rfl k_) ?_
  show own_Go p.tables e below _ (T156.setTop (mkF m 161 #[.val (.int p0), .val (.int p1), .val (.int p2), .val (.int p3), .val (.int p4), .val (.int sz), .val (.int ee), .val (.int qq1), .val (.int qq2), .val (.int qq3), .val (.double (FP.i2d p1)), .second, .val (.double (FP.i2d p2)), .second, .val (.double (FP.i2d p3)), .second, .val (.ref b148), .val (.double (own_enc (own_bf (own_rs (sn + 1) (some p3) 17 (qm3 + 1) (own_rs (sn + 1) (some p2) 17 (qm2 + 1) (own_rs (sn + 1) (some p1) 17 (qm1 + 1) (fun _ => none)))) 17 en none))), .second, .val (.double (own_enc (own_bf (own_rs (sn + 1) (some p3) 17 (qm3 + 1) (own_rs (sn + 1) (some p2) 17 (qm2 + 1) (own_rs (sn + 1) (some p1) 17 (qm1 + 1) (fun _ => none)))) 17 sn none))), .second, .val (.double (own_step ee qq3 p3 (own_step ee qq2 p2 (own_step ee qq1 p1 (18442240474082181120 : UInt64))))), .second, .val (.double (own_step sz qq3 p3 (own_step sz qq2 p2 (own_step sz qq1 p1 (18442240474082181120 : UInt64))))), .second] []))
  refine own_st (fun t_ k_ => XS.dload X156.here hx rfl (hb hby at_161) rfl k_) ?_
  show own_Go p.tables e below _ (T156.setTop (mkF m 163 #[.val (.int p0), .val (.int p1), .val (.int p2), .val (.int p3), .val (.int p4), .val (.int sz), .val (.int ee), .val (.int qq1), .val (.int qq2), .val (.int qq3), .val (.double (FP.i2d p1)), .second, .val (.double (FP.i2d p2)), .second, .val (.double (FP.i2d p3)), .second, .val (.ref b148), .val (.double (own_enc (own_bf (own_rs (sn + 1) (some p3) 17 (qm3 + 1) (own_rs (sn + 1) (some p2) 17 (qm2 + 1) (own_rs (sn + 1) (some p1) 17 (qm1 + 1) (fun _ => none)))) 17 en none))), .second, .val (.double (own_enc (own_bf (own_rs (sn + 1) (some p3) 17 (qm3 + 1) (own_rs (sn + 1) (some p2) 17 (qm2 + 1) (own_rs (sn + 1) (some p1) 17 (qm1 + 1) (fun _ => none)))) 17 sn none))), .second, .val (.double (own_step ee qq3 p3 (own_step ee qq2 p2 (own_step ee qq1 p1 (18442240474082181120 : UInt64))))), .second, .val (.double (own_step sz qq3 p3 (own_step sz qq2 p2 (own_step sz qq1 p1 (18442240474082181120 : UInt64))))), .second] [(.double (own_enc (own_bf (own_rs (sn + 1) (some p3) 17 (qm3 + 1) (own_rs (sn + 1) (some p2) 17 (qm2 + 1) (own_rs (sn + 1) (some p1) 17 (qm1 + 1) (fun _ => none)))) 17 en none)))]))
  refine own_st (fun t_ k_ => XS.dload X156.here hx rfl (hb hby at_163) rfl k_) ?_
  show own_Go p.tables e below _ (T156.setTop (mkF m 165 #[.val (.int p0), .val (.int p1), .val (.int p2), .val (.int p3), .val (.int p4), .val (.int sz), .val (.int ee), .val (.int qq1), .val (.int qq2), .val (.int qq3), .val (.double (FP.i2d p1)), .second, .val (.double (FP.i2d p2)), .second, .val (.double (FP.i2d p3)), .second, .val (.ref b148), .val (.double (own_enc (own_bf (own_rs (sn + 1) (some p3) 17 (qm3 + 1) (own_rs (sn + 1) (some p2) 17 (qm2 + 1) (own_rs (sn + 1) (some p1) 17 (qm1 + 1) (fun _ => none)))) 17 en none))), .second, .val (.double (own_enc (own_bf (own_rs (sn + 1) (some p3) 17 (qm3 + 1) (own_rs (sn + 1) (some p2) 17 (qm2 + 1) (own_rs (sn + 1) (some p1) 17 (qm1 + 1) (fun _ => none)))) 17 sn none))), .second, .val (.double (own_step ee qq3 p3 (own_step ee qq2 p2 (own_step ee qq1 p1 (18442240474082181120 : UInt64))))), .second, .val (.double (own_step sz qq3 p3 (own_step sz qq2 p2 (own_step sz qq1 p1 (18442240474082181120 : UInt64))))), .second] [(.double (own_step ee qq3 p3 (own_step ee qq2 p2 (own_step ee qq1 p1 (18442240474082181120 : UInt64))))), (.double (own_enc (own_bf (own_rs (sn + 1) (some p3) 17 (qm3 + 1) (own_rs (sn + 1) (some p2) 17 (qm2 + 1) (own_rs (sn + 1) (some p1) 17 (qm1 + 1) (fun _ => none)))) 17 en none)))]))
  refine own_st (fun t_ k_ => XS.dcmpS X156.here hx rfl (hb hby at_165) rfl rfl k_) ?_
  show own_Go p.tables e below _ (T156.setTop (mkF m 166 #[.val (.int p0), .val (.int p1), .val (.int p2), .val (.int p3), .val (.int p4), .val (.int sz), .val (.int ee), .val (.int qq1), .val (.int qq2), .val (.int qq3), .val (.double (FP.i2d p1)), .second, .val (.double (FP.i2d p2)), .second, .val (.double (FP.i2d p3)), .second, .val (.ref b148), .val (.double (own_enc (own_bf (own_rs (sn + 1) (some p3) 17 (qm3 + 1) (own_rs (sn + 1) (some p2) 17 (qm2 + 1) (own_rs (sn + 1) (some p1) 17 (qm1 + 1) (fun _ => none)))) 17 en none))), .second, .val (.double (own_enc (own_bf (own_rs (sn + 1) (some p3) 17 (qm3 + 1) (own_rs (sn + 1) (some p2) 17 (qm2 + 1) (own_rs (sn + 1) (some p1) 17 (qm1 + 1) (fun _ => none)))) 17 sn none))), .second, .val (.double (own_step ee qq3 p3 (own_step ee qq2 p2 (own_step ee qq1 p1 (18442240474082181120 : UInt64))))), .second, .val (.double (own_step sz qq3 p3 (own_step sz qq2 p2 (own_step sz qq1 p1 (18442240474082181120 : UInt64))))), .second] [(.int (cmpValue (FP.dcmp (own_enc (own_bf (own_rs (sn + 1) (some p3) 17 (qm3 + 1) (own_rs (sn + 1) (some p2) 17 (qm2 + 1) (own_rs (sn + 1) (some p1) 17 (qm1 + 1) (fun _ => none)))) 17 en none)) (own_step ee qq3 p3 (own_step ee qq2 p2 (own_step ee qq1 p1 (18442240474082181120 : UInt64))))) .l))]))
  refine own_st (fun t_ k_ => XS.ifNo X156.here hx rfl (hb hby at_166) rfl ((if0 _ _).trans (teq (by rw [own_law (by omega) (by omega) bqm1 bqm2 bqm3, (show (18442240474082181120 : UInt64) = own_enc none from rfl), own_stepE hen hqm1, own_stepE hen hqm2, own_stepE hen hqm3]; exact own_same _ .l : (cmpValue (FP.dcmp (own_enc (own_bf (own_rs (sn + 1) (some p3) 17 (qm3 + 1) (own_rs (sn + 1) (some p2) 17 (qm2 + 1) (own_rs (sn + 1) (some p1) 17 (qm1 + 1) (fun _ => none)))) 17 en none)) (own_step ee qq3 p3 (own_step ee qq2 p2 (own_step ee qq1 p1 (18442240474082181120 : UInt64))))) .l) = (0 : Int32))).2) k_) ?_
  show own_Go p.tables e below _ (T156.setTop (mkF m 169 #[.val (.int p0), .val (.int p1), .val (.int p2), .val (.int p3), .val (.int p4), .val (.int sz), .val (.int ee), .val (.int qq1), .val (.int qq2), .val (.int qq3), .val (.double (FP.i2d p1)), .second, .val (.double (FP.i2d p2)), .second, .val (.double (FP.i2d p3)), .second, .val (.ref b148), .val (.double (own_enc (own_bf (own_rs (sn + 1) (some p3) 17 (qm3 + 1) (own_rs (sn + 1) (some p2) 17 (qm2 + 1) (own_rs (sn + 1) (some p1) 17 (qm1 + 1) (fun _ => none)))) 17 en none))), .second, .val (.double (own_enc (own_bf (own_rs (sn + 1) (some p3) 17 (qm3 + 1) (own_rs (sn + 1) (some p2) 17 (qm2 + 1) (own_rs (sn + 1) (some p1) 17 (qm1 + 1) (fun _ => none)))) 17 sn none))), .second, .val (.double (own_step ee qq3 p3 (own_step ee qq2 p2 (own_step ee qq1 p1 (18442240474082181120 : UInt64))))), .second, .val (.double (own_step sz qq3 p3 (own_step sz qq2 p2 (own_step sz qq1 p1 (18442240474082181120 : UInt64))))), .second] []))
  refine own_st (fun t_ k_ => XS.dload X156.here hx rfl (hb hby at_169) rfl k_) ?_
  show own_Go p.tables e below _ (T156.setTop (mkF m 171 #[.val (.int p0), .val (.int p1), .val (.int p2), .val (.int p3), .val (.int p4), .val (.int sz), .val (.int ee), .val (.int qq1), .val (.int qq2), .val (.int qq3), .val (.double (FP.i2d p1)), .second, .val (.double (FP.i2d p2)), .second, .val (.double (FP.i2d p3)), .second, .val (.ref b148), .val (.double (own_enc (own_bf (own_rs (sn + 1) (some p3) 17 (qm3 + 1) (own_rs (sn + 1) (some p2) 17 (qm2 + 1) (own_rs (sn + 1) (some p1) 17 (qm1 + 1) (fun _ => none)))) 17 en none))), .second, .val (.double (own_enc (own_bf (own_rs (sn + 1) (some p3) 17 (qm3 + 1) (own_rs (sn + 1) (some p2) 17 (qm2 + 1) (own_rs (sn + 1) (some p1) 17 (qm1 + 1) (fun _ => none)))) 17 sn none))), .second, .val (.double (own_step ee qq3 p3 (own_step ee qq2 p2 (own_step ee qq1 p1 (18442240474082181120 : UInt64))))), .second, .val (.double (own_step sz qq3 p3 (own_step sz qq2 p2 (own_step sz qq1 p1 (18442240474082181120 : UInt64))))), .second] [(.double (own_enc (own_bf (own_rs (sn + 1) (some p3) 17 (qm3 + 1) (own_rs (sn + 1) (some p2) 17 (qm2 + 1) (own_rs (sn + 1) (some p1) 17 (qm1 + 1) (fun _ => none)))) 17 sn none)))]))
  refine own_st (fun t_ k_ => XS.dload X156.here hx rfl (hb hby at_171) rfl k_) ?_
  show own_Go p.tables e below _ (T156.setTop (mkF m 173 #[.val (.int p0), .val (.int p1), .val (.int p2), .val (.int p3), .val (.int p4), .val (.int sz), .val (.int ee), .val (.int qq1), .val (.int qq2), .val (.int qq3), .val (.double (FP.i2d p1)), .second, .val (.double (FP.i2d p2)), .second, .val (.double (FP.i2d p3)), .second, .val (.ref b148), .val (.double (own_enc (own_bf (own_rs (sn + 1) (some p3) 17 (qm3 + 1) (own_rs (sn + 1) (some p2) 17 (qm2 + 1) (own_rs (sn + 1) (some p1) 17 (qm1 + 1) (fun _ => none)))) 17 en none))), .second, .val (.double (own_enc (own_bf (own_rs (sn + 1) (some p3) 17 (qm3 + 1) (own_rs (sn + 1) (some p2) 17 (qm2 + 1) (own_rs (sn + 1) (some p1) 17 (qm1 + 1) (fun _ => none)))) 17 sn none))), .second, .val (.double (own_step ee qq3 p3 (own_step ee qq2 p2 (own_step ee qq1 p1 (18442240474082181120 : UInt64))))), .second, .val (.double (own_step sz qq3 p3 (own_step sz qq2 p2 (own_step sz qq1 p1 (18442240474082181120 : UInt64))))), .second] [(.double (own_step sz qq3 p3 (own_step sz qq2 p2 (own_step sz qq1 p1 (18442240474082181120 : UInt64))))), (.double (own_enc (own_bf (own_rs (sn + 1) (some p3) 17 (qm3 + 1) (own_rs (sn + 1) (some p2) 17 (qm2 + 1) (own_rs (sn + 1) (some p1) 17 (qm1 + 1) (fun _ => none)))) 17 sn none)))]))
  refine own_st (fun t_ k_ => XS.dcmpS X156.here hx rfl (hb hby at_173) rfl rfl k_) ?_
  show own_Go p.tables e below _ (T156.setTop (mkF m 174 #[.val (.int p0), .val (.int p1), .val (.int p2), .val (.int p3), .val (.int p4), .val (.int sz), .val (.int ee), .val (.int qq1), .val (.int qq2), .val (.int qq3), .val (.double (FP.i2d p1)), .second, .val (.double (FP.i2d p2)), .second, .val (.double (FP.i2d p3)), .second, .val (.ref b148), .val (.double (own_enc (own_bf (own_rs (sn + 1) (some p3) 17 (qm3 + 1) (own_rs (sn + 1) (some p2) 17 (qm2 + 1) (own_rs (sn + 1) (some p1) 17 (qm1 + 1) (fun _ => none)))) 17 en none))), .second, .val (.double (own_enc (own_bf (own_rs (sn + 1) (some p3) 17 (qm3 + 1) (own_rs (sn + 1) (some p2) 17 (qm2 + 1) (own_rs (sn + 1) (some p1) 17 (qm1 + 1) (fun _ => none)))) 17 sn none))), .second, .val (.double (own_step ee qq3 p3 (own_step ee qq2 p2 (own_step ee qq1 p1 (18442240474082181120 : UInt64))))), .second, .val (.double (own_step sz qq3 p3 (own_step sz qq2 p2 (own_step sz qq1 p1 (18442240474082181120 : UInt64))))), .second] [(.int (cmpValue (FP.dcmp (own_enc (own_bf (own_rs (sn + 1) (some p3) 17 (qm3 + 1) (own_rs (sn + 1) (some p2) 17 (qm2 + 1) (own_rs (sn + 1) (some p1) 17 (qm1 + 1) (fun _ => none)))) 17 sn none)) (own_step sz qq3 p3 (own_step sz qq2 p2 (own_step sz qq1 p1 (18442240474082181120 : UInt64))))) .l))]))
  refine own_st (fun t_ k_ => XS.ifNo X156.here hx rfl (hb hby at_174) rfl ((if0 _ _).trans (teq (by rw [own_law (by omega) (Nat.le_refl _) bqm1 bqm2 bqm3, (show (18442240474082181120 : UInt64) = own_enc none from rfl), own_stepE hsn hqm1, own_stepE hsn hqm2, own_stepE hsn hqm3]; exact own_same _ .l : (cmpValue (FP.dcmp (own_enc (own_bf (own_rs (sn + 1) (some p3) 17 (qm3 + 1) (own_rs (sn + 1) (some p2) 17 (qm2 + 1) (own_rs (sn + 1) (some p1) 17 (qm1 + 1) (fun _ => none)))) 17 sn none)) (own_step sz qq3 p3 (own_step sz qq2 p2 (own_step sz qq1 p1 (18442240474082181120 : UInt64))))) .l) = (0 : Int32))).2) k_) ?_
  show own_Go p.tables e below _ (T156.setTop (mkF m 177 #[.val (.int p0), .val (.int p1), .val (.int p2), .val (.int p3), .val (.int p4), .val (.int sz), .val (.int ee), .val (.int qq1), .val (.int qq2), .val (.int qq3), .val (.double (FP.i2d p1)), .second, .val (.double (FP.i2d p2)), .second, .val (.double (FP.i2d p3)), .second, .val (.ref b148), .val (.double (own_enc (own_bf (own_rs (sn + 1) (some p3) 17 (qm3 + 1) (own_rs (sn + 1) (some p2) 17 (qm2 + 1) (own_rs (sn + 1) (some p1) 17 (qm1 + 1) (fun _ => none)))) 17 en none))), .second, .val (.double (own_enc (own_bf (own_rs (sn + 1) (some p3) 17 (qm3 + 1) (own_rs (sn + 1) (some p2) 17 (qm2 + 1) (own_rs (sn + 1) (some p1) 17 (qm1 + 1) (fun _ => none)))) 17 sn none))), .second, .val (.double (own_step ee qq3 p3 (own_step ee qq2 p2 (own_step ee qq1 p1 (18442240474082181120 : UInt64))))), .second, .val (.double (own_step sz qq3 p3 (own_step sz qq2 p2 (own_step sz qq1 p1 (18442240474082181120 : UInt64))))), .second] []))
  refine own_st (fun t_ k_ => XS.iconst X156.here hx rfl (hb hby at_177) k_) ?_
  show own_Go p.tables e below _ (T156.setTop (mkF m 178 #[.val (.int p0), .val (.int p1), .val (.int p2), .val (.int p3), .val (.int p4), .val (.int sz), .val (.int ee), .val (.int qq1), .val (.int qq2), .val (.int qq3), .val (.double (FP.i2d p1)), .second, .val (.double (FP.i2d p2)), .second, .val (.double (FP.i2d p3)), .second, .val (.ref b148), .val (.double (own_enc (own_bf (own_rs (sn + 1) (some p3) 17 (qm3 + 1) (own_rs (sn + 1) (some p2) 17 (qm2 + 1) (own_rs (sn + 1) (some p1) 17 (qm1 + 1) (fun _ => none)))) 17 en none))), .second, .val (.double (own_enc (own_bf (own_rs (sn + 1) (some p3) 17 (qm3 + 1) (own_rs (sn + 1) (some p2) 17 (qm2 + 1) (own_rs (sn + 1) (some p1) 17 (qm1 + 1) (fun _ => none)))) 17 sn none))), .second, .val (.double (own_step ee qq3 p3 (own_step ee qq2 p2 (own_step ee qq1 p1 (18442240474082181120 : UInt64))))), .second, .val (.double (own_step sz qq3 p3 (own_step sz qq2 p2 (own_step sz qq1 p1 (18442240474082181120 : UInt64))))), .second] [(.int (1 : Int32))]))
  refine own_st (fun t_ k_ => XS.goto X156.here hx rfl (pc0 := 178) (pc' := 182) rfl (hb hby at_178) (by decide) (by decide) k_) ?_
  show own_Go p.tables e below _ (T156.setTop (mkF m 182 #[.val (.int p0), .val (.int p1), .val (.int p2), .val (.int p3), .val (.int p4), .val (.int sz), .val (.int ee), .val (.int qq1), .val (.int qq2), .val (.int qq3), .val (.double (FP.i2d p1)), .second, .val (.double (FP.i2d p2)), .second, .val (.double (FP.i2d p3)), .second, .val (.ref b148), .val (.double (own_enc (own_bf (own_rs (sn + 1) (some p3) 17 (qm3 + 1) (own_rs (sn + 1) (some p2) 17 (qm2 + 1) (own_rs (sn + 1) (some p1) 17 (qm1 + 1) (fun _ => none)))) 17 en none))), .second, .val (.double (own_enc (own_bf (own_rs (sn + 1) (some p3) 17 (qm3 + 1) (own_rs (sn + 1) (some p2) 17 (qm2 + 1) (own_rs (sn + 1) (some p1) 17 (qm1 + 1) (fun _ => none)))) 17 sn none))), .second, .val (.double (own_step ee qq3 p3 (own_step ee qq2 p2 (own_step ee qq1 p1 (18442240474082181120 : UInt64))))), .second, .val (.double (own_step sz qq3 p3 (own_step sz qq2 p2 (own_step sz qq1 p1 (18442240474082181120 : UInt64))))), .second] [(.int (1 : Int32))]))
  exact own_ret (w := (.int (1 : Int32))) X156 hx hnl Bd.returns rfl (Or.inl ⟨rfl, by decide, _, rfl⟩) (hb hby at_182) ⟨rfl, N156, (by rw [eq156]; exact K152)⟩ (by decide) (by decide)

set_option maxRecDepth 65536 in
set_option maxHeartbeats 40000000 in
theorem comes_1 {Post : Tables → Env → Array Value → State → Outcome → State → Prop} (hpost : ∀ tb e args s v u, (limb_1_1.after args s (.returned v) u = true ∧ limb_1_2.after args s (.returned v) u = true ∧ True) → FrameEnd s (.returned v) u (Jvm.fieldLocs frame_1_writes args s ++ Jvm.arrayLocs frame_1_arrays args s ++ Jvm.staticLocs frame_1_statics s) 16 128 → Post tb e args s (.returned v) u) :
    ArmFor flags0 classFile x code maxLocals ret World_1 tables_1 room_1 Calls_1 rest_1 Pre_1 Post := by
  intro l hfl _ _ p e ha hc hk s m args below hf hA hF happ hP
  obtain ⟨hcalls, hrest, hpre⟩ := hP
  obtain ⟨-, -, -, hnamed, -, -, -, hat⟩ := (Spec.applies_iff hf).mp happ
  obtain ⟨hg, hn⟩ := and_e (Cond.before_iff.mp (show (Jvm.Cond.and given_1 narrow_1).before args s = true from hpre))
  obtain ⟨hcount, g0⟩ := and_e hg
  obtain ⟨v0, g1⟩ := and_e g0
  obtain ⟨v1, g2⟩ := and_e g1
  obtain ⟨v2, g3⟩ := and_e g2
  obtain ⟨v3, g4⟩ := and_e g3
  have v4 := g4
  obtain ⟨w0, w1, w2, w3, w4, rfl⟩ : ∃ w0 w1 w2 w3 w4 : Value, args = #[w0, w1, w2, w3, w4] := by
    have hs : args.size = 5 := by simpa [Cond.value, given_1] using hcount
    obtain ⟨L⟩ := args
    match L, hs with
    | [w0, w1, w2, w3, w4], _ => exact ⟨w0, w1, w2, w3, w4, rfl⟩
  have hw := fun d (hd : d ∈ tables_1) => atoms_spec (ws := Jvm.Cond.code x code maxLocals ret :: tables_1) hat d (List.mem_cons_of_mem _ hd)
  have hfit : Fit s := fun {y c} hc i hi => by
    obtain ⟨ha, rfl⟩ := Array.getElem?_eq_some_iff.mp hc
    have q := List.all_eq_true.mp ((Array.all_eq_true_iff_forall_mem.mp hF) _ (Array.getElem_mem ha)) i (List.mem_range.mpr hi)
    simpa [Array.getElem?_eq_getElem hi] using q
  obtain ⟨i0, ei0⟩ := is_v v0
  obtain rfl : w0 = (.int i0) := Option.some.inj ei0
  obtain ⟨i1, ei1⟩ := is_v v1
  obtain rfl : w1 = (.int i1) := Option.some.inj ei1
  obtain ⟨i2, ei2⟩ := is_v v2
  obtain rfl : w2 = (.int i2) := Option.some.inj ei2
  obtain ⟨i3, ei3⟩ := is_v v3
  obtain rfl : w3 = (.int i3) := Option.some.inj ei3
  obtain ⟨i4, ei4⟩ := is_v v4
  obtain rfl : w4 = (.int i4) := Option.some.inj ei4
  obtain ⟨n, o, h1, h2, h3, _, L, rfl, ⟨rfl, N, -⟩, hq⟩ := own_rm0 l s _ hw tables_1 i0 i1 i2 i3 i4 s.heap s.heap.size (Nat.le_refl _) p e ha hc hk s m _ below hf ((Spec.applies_iff_loose hf).mp happ).1 ⟨rfl, State.Warmed39.refl s, rfl⟩ trivial
  refine ⟨n, _, h1, h2, h3, hpost _ _ _ _ _ _ ⟨Cond.after_iff.mpr rfl, Cond.after_iff.mpr (eq_i res_at (Term.int_eval (1)) rfl), trivial⟩ ⟨hq.1, hq.2.1, (hq.2.2.sift fun y hy => Or.inr (N y hy)).mono (by decide) (by decide)⟩⟩
theorem main_1_1 : Claimed_1_1 := comes_1 fun _ _ _ _ _ _ h hF => ⟨h.1, hF⟩
theorem main_1_2 : Claimed_1_2 := comes_1 fun _ _ _ _ _ _ h hF => ⟨h.2.1, hF⟩

end Jvm.Pilot.@@N@@
namespace Jvm.Pilot.@@N@@
open Jvm Jvm.ClassFile Sem Op Lib Jvm.Free Jvm.Stand Jvm.Pilot.@@N@@.Jvm.D
/-! MADE BY PROGRAM (witnessworld.py) out of the Statement's table words and the real class files: 13 classes; the members and pool entries that the words name. The judged class is class 1, her method 2. -/
namespace start1
open Jvm.ClassFile
def u (s : String) : CpInfo := .utf8 (stringToUtf16 s)
/-- a pool by its gaps: so many unusable entries, then the entry; so many at the end -/
def gap : Nat → List CpInfo → List CpInfo
  | 0, r => r
  | n + 1, r => .unusable :: gap n r
def poolList (es : List (Nat × CpInfo)) (last : Nat) : List CpInfo := es.foldr (fun e r => gap e.1 (e.2 :: r)) (gap last [])
def pool (es : List (Nat × CpInfo)) (last : Nat) : Array CpInfo := ⟨poolList es last⟩
def fileOf (pool : Array CpInfo) (this : Nat) (attrs : Array Attribute := #[]) (ms : Array MethodInfo := #[]) (fl : Nat := 33) (sup : Nat := 0) (ifs : Array Nat := #[]) (fds : Array FieldInfo := #[]) : ClassFile where
  minorVersion := 0
  majorVersion := 65
  constantPool := pool
  accessFlags := fl
  thisClass := this
  superClass := sup
  interfaces := ifs
  fields := fds
  methods := ms
  attributes := attrs
def plain (name : String) (sup : Option ClassId) : Class where
  name := name
  kind := .ordinary
  loader := none
  accessFlags := 33
  super := sup
  interfaces := #[]
  cf := none
  fields := #[]
  methods := #[]
  instanceTypes := #[]
  staticTypes := #[]
  resolved := #[]
  callSites := []
  init := .initialized
  statics := none
  mirror := none

def pool0 : Array CpInfo := pool [(5, u "<init>"), (0, u "()V"), (1, .class_ 10), (1, u "java/lang/Object")] 113

def k0c0 : Code := { maxStack := 0, maxLocals := 1, code := object_method_1_code, exceptionTable := #[], attributes := #[] }
def k0m0 : Method := { name := "<init>", desc := "()V", sig := { parameters := [], returnType := none }, accessFlags := 1, code := some k0c0 }
/-- java/lang/Object -/
def k0 : Class := { plain "java/lang/Object" none with
  accessFlags := 33
  interfaces := #[]
  cf := some (fileOf pool0 8 #[] #[{ accessFlags := 1, nameIndex := 5, descriptorIndex := 6, attributes := #[] }] 33 0 #[] #[])
  fields := #[]
  methods := #[k0m0]
  instanceTypes := #[]
  staticTypes := #[]
  resolved := Array.replicate 124 none
  statics := none }

def pool1 : Array CpInfo := pool [(2, .class_ 4), (1, u "java/lang/Object"), (0, u "<init>"), (0, u "()V"), (2, .double 18442240474082181120), (1, .class_ 12), (0, u "com/example/seshat/seshat/layout/PrefixMaximum"), (0, .methodref 11 14), (0, .nameAndType 5 15), (0, u "(I)V"), (0, .methodref 11 17), (0, .nameAndType 18 19), (0, u "raise"), (0, u "(ID)V"), (0, .methodref 11 21), (0, .nameAndType 22 23), (0, u "before"), (0, u "(I)D"), (0, .methodref 25 26), (0, .class_ 27), (0, .nameAndType 28 29), (0, u "com/example/seshat/seshat/layout/PrefixMaximumRaisePinLaw"), (0, u "ref"), (0, u "(IIDIDID)D"), (3, u "law"), (0, u "(IIIII)Z")] 2

def k1m0 : Method := { name := "<init>", desc := "()V", sig := { parameters := [], returnType := none }, accessFlags := 1, code := none }
def k1c1 : Code := { maxStack := 4, maxLocals := 12, code := method_2_code, exceptionTable := #[], attributes := #[] }
def k1m1 : Method := { name := "ref", desc := "(IIDIDID)D", sig := { parameters := [.int, .int, .double, .int, .double, .int, .double], returnType := some .double }, accessFlags := 10, code := some k1c1 }
def k1c2 : Code := { maxStack := 10, maxLocals := 25, code := code, exceptionTable := #[], attributes := #[] }
def k1m2 : Method := { name := "law", desc := "(IIIII)Z", sig := { parameters := [.int, .int, .int, .int, .int], returnType := some .boolean }, accessFlags := 9, code := some k1c2 }
/-- com/example/seshat/seshat/layout/PrefixMaximumRaisePinLaw -/
def k1 : Class := { plain "com/example/seshat/seshat/layout/PrefixMaximumRaisePinLaw" (some 0) with
  accessFlags := 49
  interfaces := #[]
  cf := some (fileOf pool1 25 #[] #[{ accessFlags := 1, nameIndex := 5, descriptorIndex := 6, attributes := #[] }, { accessFlags := 10, nameIndex := 28, descriptorIndex := 29, attributes := #[] }, { accessFlags := 9, nameIndex := 33, descriptorIndex := 34, attributes := #[] }] 49 2 #[] #[])
  fields := #[]
  methods := #[k1m0, k1m1, k1m2]
  instanceTypes := #[]
  staticTypes := #[]
  resolved := Array.replicate 37 none
  statics := none }

def pool2 : Array CpInfo := pool [(1, .methodref 2 3), (0, .class_ 4), (0, .nameAndType 5 6), (0, u "java/lang/Object"), (0, u "<init>"), (0, u "()V"), (0, .fieldref 8 9), (0, .class_ 10), (0, .nameAndType 11 12), (0, u "com/example/seshat/seshat/layout/PrefixMaximum"), (0, u "nodes"), (0, u "[D"), (2, .double 18442240474082181120), (1, .methodref 18 19), (0, .class_ 20), (0, .nameAndType 21 22), (0, u "java/util/Arrays"), (0, u "fill"), (0, u "([DD)V"), (0, .methodref 24 25), (0, .class_ 26), (0, .nameAndType 27 28), (0, u "java/lang/Math"), (0, u "max"), (0, u "(DD)D"), (0, u "(I)V"), (2, u "raise"), (0, u "(ID)V"), (1, u "before"), (0, u "(I)D")] 2

def k2c0 : Code := { maxStack := 3, maxLocals := 2, code := prog_20_method_1_code, exceptionTable := #[], attributes := #[] }
def k2m0 : Method := { name := "<init>", desc := "(I)V", sig := { parameters := [.int], returnType := none }, accessFlags := 0, code := some k2c0 }
def k2c1 : Code := { maxStack := 6, maxLocals := 5, code := prog_20_method_2_code, exceptionTable := #[], attributes := #[] }
def k2m1 : Method := { name := "raise", desc := "(ID)V", sig := { parameters := [.int, .double], returnType := none }, accessFlags := 0, code := some k2c1 }
def k2c2 : Code := { maxStack := 4, maxLocals := 5, code := prog_20_method_3_code, exceptionTable := #[], attributes := #[] }
def k2m2 : Method := { name := "before", desc := "(I)D", sig := { parameters := [.int], returnType := some .double }, accessFlags := 0, code := some k2c2 }
/-- com/example/seshat/seshat/layout/PrefixMaximum -/
def k2 : Class := { plain "com/example/seshat/seshat/layout/PrefixMaximum" (some 0) with
  accessFlags := 32
  interfaces := #[]
  cf := some (fileOf pool2 8 #[] #[{ accessFlags := 0, nameIndex := 5, descriptorIndex := 29, attributes := #[] }, { accessFlags := 0, nameIndex := 32, descriptorIndex := 33, attributes := #[] }, { accessFlags := 0, nameIndex := 35, descriptorIndex := 36, attributes := #[] }] 32 2 #[] #[{ accessFlags := 18, nameIndex := 11, descriptorIndex := 12, attributes := #[] }])
  fields := #[{ name := "nodes", type := (.array .double), accessFlags := 18, slot := 0, constantValue := 0 }]
  methods := #[k2m0, k2m1, k2m2]
  instanceTypes := #[(.array .double)]
  staticTypes := #[]
  resolved := Array.replicate 39 none
  statics := none }

def pool3 : Array CpInfo := pool [(2, .class_ 4), (1, u "java/lang/Object"), (0, u "<init>"), (0, u "()V"), (7, .class_ 16), (1, u "java/util/Arrays"), (57, .class_ 76), (1, u "java/util/Arrays$NaturalOrder"), (36, .class_ 115), (1, u "java/util/Arrays$LegacyMergeSort"), (1, u "Z"), (257, .class_ 376), (0, u "java/util/Arrays$ArrayList"), (68, u "$assertionsDisabled"), (269, u "MIN_ARRAY_SORT_GRAN"), (0, u "I"), (2, u "INSERTIONSORT_THRESHOLD"), (120, u "fill"), (13, u "([DD)V"), (120, .class_ 976), (0, u "java/util/Arrays$ArrayItr")] 52

def k3m0 : Method := { name := "<init>", desc := "()V", sig := { parameters := [], returnType := none }, accessFlags := 2, code := none }
def k3c1 : Code := { maxStack := 4, maxLocals := 5, code := jdk_65_method_113_code, exceptionTable := #[], attributes := #[] }
def k3m1 : Method := { name := "fill", desc := "([DD)V", sig := { parameters := [(.array .double), .double], returnType := none }, accessFlags := 9, code := some k3c1 }
/-- java/util/Arrays -/
def k3 : Class := { plain "java/util/Arrays" (some 0) with
  accessFlags := 49
  interfaces := #[]
  cf := some (fileOf pool3 14 #[.nestMembers #[975, 375, 113, 74]] #[{ accessFlags := 2, nameIndex := 5, descriptorIndex := 6, attributes := #[] }, { accessFlags := 9, nameIndex := 840, descriptorIndex := 854, attributes := #[] }] 49 2 #[] #[{ accessFlags := 26, nameIndex := 715, descriptorIndex := 716, attributes := #[] }, { accessFlags := 26, nameIndex := 719, descriptorIndex := 716, attributes := #[] }, { accessFlags := 4120, nameIndex := 445, descriptorIndex := 117, attributes := #[] }])
  fields := #[{ name := "MIN_ARRAY_SORT_GRAN", type := .int, accessFlags := 26, slot := 0, constantValue := 0 }, { name := "INSERTIONSORT_THRESHOLD", type := .int, accessFlags := 26, slot := 1, constantValue := 0 }, { name := "$assertionsDisabled", type := .boolean, accessFlags := 4120, slot := 2, constantValue := 0 }]
  methods := #[k3m0, k3m1]
  instanceTypes := #[]
  staticTypes := #[.int, .int, .boolean]
  resolved := Array.replicate 1029 none
  statics := none }

def pool4 : Array CpInfo := pool [(1, .class_ 2), (0, u "java/lang/Math"), (1, .class_ 6), (1, u "java/lang/Object"), (0, u "<init>"), (0, u "()V"), (43, u "(DD)D"), (45, .class_ 100), (1, u "java/lang/Math$RandomNumberGeneratorHolder"), (71, u "negativeZeroFloatBits"), (0, u "J"), (2, u "negativeZeroDoubleBits"), (21, u "max"), (46, u "$assertionsDisabled"), (0, u "Z"), (91, u "twoToTheDoubleScaleDown"), (0, u "D"), (4, u "twoToTheDoubleScaleUp"), (9, u "E"), (3, u "PI"), (2, u "TAU"), (2, u "DEGREES_TO_RADIANS"), (0, u "RADIANS_TO_DEGREES")] 94

def k4m0 : Method := { name := "<init>", desc := "()V", sig := { parameters := [], returnType := none }, accessFlags := 2, code := none }
def k4c1 : Code := { maxStack := 4, maxLocals := 4, code := jdk_29_method_68_code, exceptionTable := #[], attributes := #[] }
def k4m1 : Method := { name := "max", desc := "(DD)D", sig := { parameters := [.double, .double], returnType := some .double }, accessFlags := 9, code := some k4c1 }
/-- java/lang/Math -/
def k4 : Class := { plain "java/lang/Math" (some 0) with
  accessFlags := 49
  interfaces := #[]
  cf := some (fileOf pool4 1 #[.nestMembers #[98]] #[{ accessFlags := 2, nameIndex := 7, descriptorIndex := 8, attributes := #[] }, { accessFlags := 9, nameIndex := 198, descriptorIndex := 52, attributes := #[] }] 49 4 #[] #[{ accessFlags := 25, nameIndex := 354, descriptorIndex := 339, attributes := #[] }, { accessFlags := 25, nameIndex := 358, descriptorIndex := 339, attributes := #[] }, { accessFlags := 25, nameIndex := 361, descriptorIndex := 339, attributes := #[] }, { accessFlags := 26, nameIndex := 364, descriptorIndex := 339, attributes := #[] }, { accessFlags := 26, nameIndex := 365, descriptorIndex := 339, attributes := #[] }, { accessFlags := 26, nameIndex := 172, descriptorIndex := 173, attributes := #[] }, { accessFlags := 26, nameIndex := 176, descriptorIndex := 173, attributes := #[] }, { accessFlags := 8, nameIndex := 344, descriptorIndex := 339, attributes := #[] }, { accessFlags := 8, nameIndex := 338, descriptorIndex := 339, attributes := #[] }, { accessFlags := 4120, nameIndex := 245, descriptorIndex := 246, attributes := #[] }])
  fields := #[{ name := "E", type := .double, accessFlags := 25, slot := 0, constantValue := 0 }, { name := "PI", type := .double, accessFlags := 25, slot := 1, constantValue := 0 }, { name := "TAU", type := .double, accessFlags := 25, slot := 2, constantValue := 0 }, { name := "DEGREES_TO_RADIANS", type := .double, accessFlags := 26, slot := 3, constantValue := 0 }, { name := "RADIANS_TO_DEGREES", type := .double, accessFlags := 26, slot := 4, constantValue := 0 }, { name := "negativeZeroFloatBits", type := .long, accessFlags := 26, slot := 5, constantValue := 0 }, { name := "negativeZeroDoubleBits", type := .long, accessFlags := 26, slot := 6, constantValue := 0 }, { name := "twoToTheDoubleScaleUp", type := .double, accessFlags := 8, slot := 7, constantValue := 0 }, { name := "twoToTheDoubleScaleDown", type := .double, accessFlags := 8, slot := 8, constantValue := 0 }, { name := "$assertionsDisabled", type := .boolean, accessFlags := 4120, slot := 9, constantValue := 0 }]
  methods := #[k4m0, k4m1]
  instanceTypes := #[]
  staticTypes := #[.double, .double, .double, .double, .double, .long, .long, .double, .double, .boolean]
  resolved := Array.replicate 460 none
  statics := none }

def pool5 : Array CpInfo := pool [(1, u "java/lang/Cloneable"), (0, .class_ 1), (0, u "java/lang/Object"), (0, .class_ 3)] 3

/-- java/lang/Cloneable -/
def k5 : Class := { plain "java/lang/Cloneable" (some 0) with
  accessFlags := 1537
  interfaces := #[]
  cf := some (fileOf pool5 2 #[] #[] 1537 4 #[] #[])
  fields := #[]
  methods := #[]
  instanceTypes := #[]
  staticTypes := #[]
  resolved := Array.replicate 8 none
  statics := none }

def pool6 : Array CpInfo := pool [(1, u "java/io/Serializable"), (0, .class_ 1), (0, u "java/lang/Object"), (0, .class_ 3)] 3

/-- java/io/Serializable -/
def k6 : Class := { plain "java/io/Serializable" (some 0) with
  accessFlags := 1537
  interfaces := #[]
  cf := some (fileOf pool6 2 #[] #[] 1537 4 #[] #[])
  fields := #[]
  methods := #[]
  instanceTypes := #[]
  staticTypes := #[]
  resolved := Array.replicate 8 none
  statics := none }

/-- the primitive byte -/
def k7 : Class := { plain "byte" none with kind := .primitive 'B', accessFlags := 0x411 }
/-- [B -/
def k8 : Class := { plain "[B" (some 0) with kind := .array 7 .byte, interfaces := #[5, 6], accessFlags := 1041 }

/-- the primitive double -/
def k9 : Class := { plain "double" none with kind := .primitive 'D', accessFlags := 0x411 }
/-- [D -/
def k10 : Class := { plain "[D" (some 0) with kind := .array 9 .double, interfaces := #[5, 6], accessFlags := 1041 }

/-- the primitive int -/
def k11 : Class := { plain "int" none with kind := .primitive 'I', accessFlags := 0x411 }
/-- [I -/
def k12 : Class := { plain "[I" (some 0) with kind := .array 11 .int, interfaces := #[5, 6], accessFlags := 1041 }

def heap : Heap := #[]
def classes : Array Class := #[k0, k1, k2, k3, k4, k5, k6, k7, k8, k9, k10, k11, k12]
def interned : List (Array UInt16 × Addr) := []
def slotsUsed : Nat := 0
def theMethod : MethodId := ⟨1, 2⟩
def args0 : Array Value := #[.int 3, .int 6, .int 7, .int 8, .int 9]
def aboutOver (below : List Frame) : State where
  vm := { classes := classes, interned := interned.toArray }
  heap := heap
  slotsUsed := slotsUsed
  threads := #[{ frames := .invoking theMethod args0 :: below }]
def below0 : List Frame := [.native { method := ⟨0, 0⟩, args := #[] }]
def about1 : State := aboutOver below0
def p0 : Program := .bare "" "" ""
def e0 : Env := launch0.env 0 0 0
theorem w_frames : about1.frames = Frame.invoking theMethod args0 :: below0 := rfl
set_option maxRecDepth 65536 in
theorem w_args : argsFit about1.vm theMethod args0 = true := by decide +kernel
set_option maxRecDepth 65536 in
theorem w_heap : heapFits about1 = true := by decide +kernel
set_option maxRecDepth 65536 in
theorem w_runnable : about1.curStatus? = some .runnable := by decide +kernel
set_option maxRecDepth 65536 in
theorem w_alone : about1.alone = true := by decide +kernel
set_option maxRecDepth 65536 in
theorem w_named : about1.methodNamed? x = some theMethod := by decide +kernel
set_option maxRecDepth 65536 in
theorem w_hears : about1.hears theMethod below0 = true := by decide +kernel
set_option maxRecDepth 65536 in
theorem w_ripe : about1.ripe theMethod args0 below0 = true := by decide +kernel
theorem w_running : about1.status = .running := rfl
set_option maxRecDepth 65536 in
theorem w_room : about1.hasRoom e0.platform room_1 = true :=
  launch0.hasRoom_least _ room_1 (by decide +kernel) (by decide +kernel) (by decide +kernel) (by decide +kernel) (by decide +kernel) (by decide +kernel)
theorem allAtoms_all (ts : List Jvm.Cond) (a : Array Jvm.Value) (st : Jvm.State) : (allAtoms ts).before a st = ts.all (fun c => c.before a st) := by
  induction ts with
  | nil => rfl
  | cons c t ih =>
    show (Jvm.Cond.and c (allAtoms t)).before a st = _
    rw [Jvm.Cond.before_and, ih, List.all_cons]
def words1 : List Jvm.Cond := Jvm.Cond.code x code maxLocals ret :: tables_1
/-- a 'code' word, met by the world's own term for the bytes: nothing is compared byte by byte -/
theorem code_word {y : MethodName} {bytes : ByteArray} {mx : Nat} {rt : Option FieldType} {a : Array Value} {s : State} {m : MethodId} {meth : Method} {c : Code} (h1 : s.methodNamed? y = some m) (h2 : s.vm.method? m = some meth) (h3 : meth.code = some c) (h4 : c.code = bytes)
    (h5 : (c.maxLocals == mx && c.exceptionTable.isEmpty && decide (c.maxStack ≤ mostOperands) && decide (meth.sig.returnType = rt) && !meth.locks && decide (parseMethodDescriptor y.desc = some meth.sig)) = true) : (Jvm.Cond.code y bytes mx rt).before a s = true := by
  simp only [Bool.and_eq_true, beq_iff_eq, Bool.not_eq_true', decide_eq_true_eq] at h5
  obtain ⟨⟨⟨⟨⟨g1, g2⟩, g3⟩, g4⟩, g5⟩, g6⟩ := h5
  simp [Cond.before, Cond.holds, Cond.value, h1, h2, h3, h4, g1, g2, g3, g4, g5, g6]
def isCode : Jvm.Cond → Bool
  | .code _ _ _ _ => true
  | _ => false
theorem all_split {L : List Jvm.Cond} {P : Jvm.Cond → Bool} (h1 : L.all (fun c => isCode c || P c) = true) (h2 : ∀ c ∈ L.filter isCode, P c = true) : L.all P = true := by
  refine List.all_eq_true.mpr fun c hc => ?_
  have h := List.all_eq_true.mp h1 c hc
  rcases Bool.eq_false_or_eq_true (isCode c) with hi | hi
  · exact h2 c (List.mem_filter.mpr ⟨hc, hi⟩)
  · simpa [hi] using h
set_option maxRecDepth 65536 in
theorem w_c0 : (Jvm.Cond.code x code maxLocals ret).before args0 about1 = true := code_word (m := ⟨1, 2⟩) (meth := k1m2) (c := k1c2) (by decide +kernel) rfl rfl rfl (by decide +kernel)
set_option maxRecDepth 65536 in
theorem w_c1 : (Jvm.Cond.code ({ cls := "com/example/seshat/seshat/layout/PrefixMaximum", name := "<init>", desc := "(I)V" } : Jvm.MethodName) prog_20_method_1_code (2 : Nat) (Option.none : Option Jvm.ClassFile.FieldType)).before args0 about1 = true := code_word (m := ⟨2, 0⟩) (meth := k2m0) (c := k2c0) (by decide +kernel) rfl rfl rfl (by decide +kernel)
set_option maxRecDepth 65536 in
theorem w_c2 : (Jvm.Cond.code ({ cls := "java/lang/Object", name := "<init>", desc := "()V" } : Jvm.MethodName) object_method_1_code (1 : Nat) (Option.none : Option Jvm.ClassFile.FieldType)).before args0 about1 = true := code_word (m := ⟨0, 0⟩) (meth := k0m0) (c := k0c0) (by decide +kernel) rfl rfl rfl (by decide +kernel)
set_option maxRecDepth 65536 in
theorem w_c3 : (Jvm.Cond.code ({ cls := "java/util/Arrays", name := "fill", desc := "([DD)V" } : Jvm.MethodName) jdk_65_method_113_code (5 : Nat) (Option.none : Option Jvm.ClassFile.FieldType)).before args0 about1 = true := code_word (m := ⟨3, 1⟩) (meth := k3m1) (c := k3c1) (by decide +kernel) rfl rfl rfl (by decide +kernel)
set_option maxRecDepth 65536 in
theorem w_c4 : (Jvm.Cond.code ({ cls := "com/example/seshat/seshat/layout/PrefixMaximum", name := "raise", desc := "(ID)V" } : Jvm.MethodName) prog_20_method_2_code (5 : Nat) (Option.none : Option Jvm.ClassFile.FieldType)).before args0 about1 = true := code_word (m := ⟨2, 1⟩) (meth := k2m1) (c := k2c1) (by decide +kernel) rfl rfl rfl (by decide +kernel)
set_option maxRecDepth 65536 in
theorem w_c5 : (Jvm.Cond.code ({ cls := "java/lang/Math", name := "max", desc := "(DD)D" } : Jvm.MethodName) jdk_29_method_68_code (4 : Nat) (Option.some Jvm.ClassFile.FieldType.double)).before args0 about1 = true := code_word (m := ⟨4, 1⟩) (meth := k4m1) (c := k4c1) (by decide +kernel) rfl rfl rfl (by decide +kernel)
set_option maxRecDepth 65536 in
theorem w_c6 : (Jvm.Cond.code ({ cls := "com/example/seshat/seshat/layout/PrefixMaximum", name := "before", desc := "(I)D" } : Jvm.MethodName) prog_20_method_3_code (5 : Nat) (Option.some Jvm.ClassFile.FieldType.double)).before args0 about1 = true := code_word (m := ⟨2, 2⟩) (meth := k2m2) (c := k2c2) (by decide +kernel) rfl rfl rfl (by decide +kernel)
set_option maxRecDepth 65536 in
theorem w_c7 : (Jvm.Cond.code ({ cls := "com/example/seshat/seshat/layout/PrefixMaximumRaisePinLaw", name := "ref", desc := "(IIDIDID)D" } : Jvm.MethodName) method_2_code (12 : Nat) (Option.some Jvm.ClassFile.FieldType.double)).before args0 about1 = true := code_word (m := ⟨1, 1⟩) (meth := k1m1) (c := k1c1) (by decide +kernel) rfl rfl rfl (by decide +kernel)
def codes1 : List Jvm.Cond := [Jvm.Cond.code x code maxLocals ret, Jvm.Cond.code ({ cls := "com/example/seshat/seshat/layout/PrefixMaximum", name := "<init>", desc := "(I)V" } : Jvm.MethodName) prog_20_method_1_code (2 : Nat) (Option.none : Option Jvm.ClassFile.FieldType), Jvm.Cond.code ({ cls := "java/lang/Object", name := "<init>", desc := "()V" } : Jvm.MethodName) object_method_1_code (1 : Nat) (Option.none : Option Jvm.ClassFile.FieldType), Jvm.Cond.code ({ cls := "java/util/Arrays", name := "fill", desc := "([DD)V" } : Jvm.MethodName) jdk_65_method_113_code (5 : Nat) (Option.none : Option Jvm.ClassFile.FieldType), Jvm.Cond.code ({ cls := "com/example/seshat/seshat/layout/PrefixMaximum", name := "raise", desc := "(ID)V" } : Jvm.MethodName) prog_20_method_2_code (5 : Nat) (Option.none : Option Jvm.ClassFile.FieldType), Jvm.Cond.code ({ cls := "java/lang/Math", name := "max", desc := "(DD)D" } : Jvm.MethodName) jdk_29_method_68_code (4 : Nat) (Option.some Jvm.ClassFile.FieldType.double), Jvm.Cond.code ({ cls := "com/example/seshat/seshat/layout/PrefixMaximum", name := "before", desc := "(I)D" } : Jvm.MethodName) prog_20_method_3_code (5 : Nat) (Option.some Jvm.ClassFile.FieldType.double), Jvm.Cond.code ({ cls := "com/example/seshat/seshat/layout/PrefixMaximumRaisePinLaw", name := "ref", desc := "(IIDIDID)D" } : Jvm.MethodName) method_2_code (12 : Nat) (Option.some Jvm.ClassFile.FieldType.double)]
set_option maxRecDepth 65536 in
theorem codes_eq : words1.filter isCode = codes1 := rfl
theorem w_codes : ∀ c ∈ words1.filter isCode, c.before args0 about1 = true := by
  rw [codes_eq]
  intro c hc
  simp only [codes1, List.mem_cons, List.not_mem_nil, or_false] at hc
  rcases hc with rfl | rfl | rfl | rfl | rfl | rfl | rfl | rfl
  · exact w_c0
  · exact w_c1
  · exact w_c2
  · exact w_c3
  · exact w_c4
  · exact w_c5
  · exact w_c6
  · exact w_c7
set_option maxRecDepth 65536 in
theorem w_t1 : (words1.take 24).all (fun c => isCode c || c.before args0 about1) = true := by decide +kernel
set_option maxRecDepth 65536 in
theorem w_t2 : (words1.drop 24).all (fun c => isCode c || c.before args0 about1) = true := by decide +kernel
theorem w_tables : (allAtoms (Jvm.Cond.code x code maxLocals ret :: tables_1)).before args0 about1 = true := by
  rw [allAtoms_all]
  show words1.all (fun c => c.before args0 about1) = true
  refine all_split ?_ w_codes
  rw [← List.take_append_drop 24 words1, List.all_append, w_t1, w_t2]
  rfl
set_option maxRecDepth 65536 in
theorem w_case : (Jvm.Cond.and given_1 narrow_1).before args0 about1 = true := by decide +kernel
theorem w_applies : (headSpec (Jvm.Cond.code x code maxLocals ret :: tables_1) room_1).applies x e0.platform about1 = true :=
  (Spec.applies_iff w_frames).mpr ⟨w_running, w_runnable, w_alone, w_named, w_hears, w_ripe, w_room, w_tables⟩
theorem atStart : AtStart classFile x code maxLocals ret World_1 tables_1 room_1 Calls_1 rest_1 Pre_1 launch0 p0 e0 about1 theMethod args0 below0 :=
  ⟨lists_1, trivial, launch0.admits_env _ _ _, launch0.least_env, fairChoices_fair.cas, fairChoices_fair.clock, w_frames, w_args, w_heap, w_applies, trivial, trivial, w_case⟩
end start1
theorem witness_1 : WitnessClaimed_1 := ⟨start1.p0, start1.e0, start1.about1, start1.theMethod, start1.args0, start1.below0, start1.atStart⟩
end Jvm.Pilot.@@N@@
