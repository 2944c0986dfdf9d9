import JvmDerived
import JvmDerived.Pilot.@@N@@Statement
import JvmDerived.Pilot.@@N@@Code
set_option linter.unusedVariables false
set_option linter.unusedSimpArgs false
namespace Jvm.Pilot.@@N@@
open Jvm Jvm.ClassFile Sem Op Lib Jvm.Free Jvm.Stand Jvm.LawKit Jvm.RoadKit Bundle Jvm.Pilot.@@N@@.Jvm.D

section Own
variable {p : Program} {l : Launch} {e : Env} {R : Room} {s : State} {m : MethodId} {args : Array Value} {below : List Frame} {meth : Method} {c : Code} {T : State} {locs : List Loc} {cells slots : Nat} {Z : State} {h h' : Heap}
def own_Go (tb : Tables) (e : Env) (below : List Frame) (P : State → Outcome → Prop) (A : State) : Prop := ∃ t o, Steps tb e below A t ∧ P t o
def own_P (below : List Frame) (s : State) (Q : Option Value → Heap → List Loc → Prop) (kc ks : Nat) (t : State) (o : Outcome) : Prop := t.status = .running ∧ Ended t below o ∧ ∃ v L, o = .returned v ∧ Q v t.heap L ∧ FrameEnd s o t L kc ks
theorem own_st {tb : Tables} {P : State → Outcome → Prop} {A B : State} (k : ∀ t, Steps tb e below B t → Steps tb e below A t) (h : own_Go tb e below P B) : own_Go tb e below P A := by
  obtain ⟨t, o, h1, h2⟩ := h
  exact ⟨t, o, k t h1, h2⟩
theorem own_tr {tb : Tables} {P : State → Outcome → Prop} {A B : State} (k : Steps tb e below A B) (h : own_Go tb e below P B) : own_Go tb e below P A := by
  obtain ⟨t, o, h1, h2⟩ := h
  exact ⟨t, o, k.trans h1, h2⟩
theorem own_ret (X : Stand p l e R s m args below meth c T locs cells slots) (hx : p.tables.exec = Jvm.exec) (hnl : meth.locks = false) {pc : Nat} {Ls : Array Slot} {w : Value} {t : FieldType} {i : Instr} {rest : List Value} (hret : meth.sig.returnType = some t) (hn : narrow t w = w)
    (hi : (i = .ireturn ∧ (t = .int ∨ t = .boolean ∨ t = .byte ∨ t = .char ∨ t = .short) ∧ ∃ z, w = .int z) ∨ (i = .lreturn ∧ t = .long ∧ ∃ z, w = .long z) ∨ (i = .dreturn ∧ t = .double ∧ ∃ z, w = .double z) ∨ (i = .freturn ∧ t = .float ∧ ∃ z, w = .float z) ∨ (i = .areturn ∧ t.isReference = true ∧ w.isRef = true))
    (hd : decode c.code pc = .ok (i, 1)) {Q : Option Value → Heap → List Loc → Prop} {kc ks : Nat} (hq : Q (some w) T.heap locs) (hc : cells ≤ kc) (hs : slots ≤ ks) : own_Go p.tables e below (own_P below s Q kc ks) (T.setTop (mkF m pc Ls (w :: rest))) := by
  obtain ⟨fs, hr, hrun, hended, hW, hsame⟩ := X.leave (v := some w) (fun h => by rw [hret] at h; cases h) hnl
  exact ⟨_, _, retOut X hx hret hn hi hd hr, hrun, hended, _, _, rfl, hq, ⟨_, rfl⟩, hW, hsame.mono hc hs⟩
theorem own_ret0 (X : Stand p l e R s m args below meth c T locs cells slots) (hx : p.tables.exec = Jvm.exec) (hnl : meth.locks = false) {pc : Nat} {Ls : Array Slot} (hret : meth.sig.returnType = none)
    (hd : decode c.code pc = .ok (.return_, 1)) {Q : Option Value → Heap → List Loc → Prop} {kc ks : Nat} (hq : Q none T.heap locs) (hc : cells ≤ kc) (hs : slots ≤ ks) : own_Go p.tables e below (own_P below s Q kc ks) (T.setTop (mkF m pc Ls [])) := by
  obtain ⟨fs, hr, hrun, hended, hW, hsame⟩ := X.leave (v := none) (fun _ => rfl) hnl
  exact ⟨_, _, X.returnOut hx hret hd hr, hrun, hended, _, _, rfl, hq, ⟨_, rfl⟩, hW, hsame.mono hc hs⟩
theorem own_lrem {g : JFrame} {target : State} (X : Stand p l e R s m args below meth c T locs cells slots) (hx : p.tables.exec = Jvm.exec) (hg : g.method = m) {x y : Int64} {rest : List Value} (hd : decode c.code g.pc = .ok (.lrem, 1)) (hs : g.stack = .long y :: .long x :: rest) (hy : y ≠ 0)
    (hr : Steps p.tables e below (T.setTop { g with pc := g.pc + 1, stack := .long (x % y) :: rest }) target) : Steps p.tables e below (T.setTop g) target := by
  exact XS.lrem X.here hx hg hd hs hy (by rw [lrem_mod]; exact hr)
end Own

section OwnA
variable {p : Program} {l : Launch} {e : Env} {R : Room} {s : State} {m : MethodId} {args : Array Value} {below : List Frame} {meth : Method} {c : Code} {T : State} {locs : List Loc} {cells slots : Nat} {Z : State} {h h' : Heap} {a b : Addr} {k : ClassId} {ty : FieldType} {n : Nat} {f : Nat → Value} {sl : Nat} {v : Value} {ws : List Addr}
def own_A (Z : State) (h : Heap) (a : Addr) (k : ClassId) (ty : FieldType) (n : Nat) (f : Nat → Value) : Prop := ∃ c : Cell, Arr Z h a c ty ∧ c.cls = k ∧ c.slots.size = n ∧ n < 2 ^ 31 ∧ (∀ i, i < n → c.slots[i]? = some (f i)) ∧ ∀ i, i < n → fits ty (f i) = true
def own_upd {α : Type} (f : Nat → α) (i : Nat) (x : α) : Nat → α := fun j => if j = i then x else f j
theorem own_A.lt (F : own_A Z h a k ty n f) : a < h.size := by obtain ⟨c, A, -⟩ := F; exact A.lt
theorem own_A.ext (F : own_A Z h a k ty n f) (E : Ext h h') : own_A Z h' a k ty n f := by obtain ⟨c, A, r⟩ := F; exact ⟨c, A.ext E, r⟩
theorem own_A.other (F : own_A Z h b k ty n f) (W : Wr h h' a sl v) (q : b ≠ a) : own_A Z h' b k ty n f := by obtain ⟨c, A, r⟩ := F; exact ⟨c, A.other W q, r⟩
theorem own_A.keep (F : own_A Z h a k ty n f) (K : Keep h h' ws) (q : a ∉ ws) : own_A Z h' a k ty n f := by obtain ⟨c, A, r⟩ := F; exact ⟨c, ⟨K.2.1 a c A.1 q, A.2⟩, r⟩
theorem own_A.congr (F : own_A Z h a k ty n f) {g : Nat → Value} (q : ∀ i, i < n → g i = f i) : own_A Z h a k ty n g := by
  obtain ⟨c, A, r1, r2, r3, H, G⟩ := F
  exact ⟨c, A, r1, r2, r3, fun i hi => by rw [q i hi]; exact H i hi, fun i hi => by rw [q i hi]; exact G i hi⟩
theorem own_A.small (F : own_A Z h a k ty n f) : n < 2 ^ 31 := by obtain ⟨c, A, r1, r2, r3, -⟩ := F; exact r3
theorem own_A.fit (F : own_A Z h a k ty n f) {i : Nat} (hi : i < n) : fits ty (f i) = true := by obtain ⟨c, A, r1, r2, r3, H, G⟩ := F; exact G i hi
theorem own_A.new {z : Int32} (A : Arr Z h a (newA k ty z) ty) (hz : z = Int32.ofNat n) (q : ¬ z < 0) {g : Nat → Value} (hg : ∀ i, g i = defaultValue ty := by intro i; rfl) (hn : n < 2 ^ 31 := by decide) : own_A Z h a k ty n g := by
  have e : z.toNatClampNeg = n := by rw [hz]; simp [Int32.toNatClampNeg, Int32.toInt_ofNat_of_lt hn]
  refine ⟨_, A, rfl, by rw [sz_new]; exact e, hn, fun i hi => ?_, fun i hi => ?_⟩
  · rw [hg]; simp [newA, e, hi]
  · rw [hg]; cases ty <;> rfl
theorem own_idx {j : Int32} {i n : Nat} (h1 : j.toInt = (i : Int)) (h2 : i < n) : ¬ (j < 0 ∨ n ≤ j.toNatClampNeg) ∧ j.toNatClampNeg = i := by
  have e : j.toNatClampNeg = i := by simp [Int32.toNatClampNeg, h1]
  refine ⟨fun q => ?_, e⟩
  rcases q with q | q
  · rw [Int32.lt_iff_toInt_lt, h1] at q; simp at q; omega
  · rw [e] at q; omega
theorem own_len (X : Stand p l e R s m args below meth c T locs cells slots) (hx : p.tables.exec = Jvm.exec) (hZ : Z.Warmed39 s.vm) (eT : T.heap = h) (F : own_A Z h a k ty n f) {g : JFrame} (hg : g.method = m) {rest : List Value} (hs : g.stack = .ref a :: rest) (hd : decode c.code g.pc = .ok (.arraylength, 1)) (t : State)
    (k : Steps p.tables e below (T.setTop { g with pc := g.pc + 1, stack := .int (Int32.ofNat n) :: rest }) t) : Steps p.tables e below (T.setTop g) t := by
  obtain ⟨cl, A, r1, r2, r3, H, G⟩ := F
  refine X.arraylength hx (cell := cl) (by rw [eT]; exact A.1) (State.isArrayOf_alike hZ.alike A.2.1) hg hs hd t ?_
  rw [r2]; exact k
theorem own_setA (F : own_A Z h a k ty n f) {i : Nat} (hi : i < n) (W : Wr h h' a i v) (hv : fits ty v = true) : own_A Z h' a k ty n (own_upd f i v) := by
  obtain ⟨cl, A, r1, r2, r3, H, G⟩ := F
  refine ⟨_, A.same W, r1, by rw [sz_set]; exact r2, r3, fun j hj => ?_, fun j hj => ?_⟩
  · by_cases q : j = i
    · subst q; simp [own_upd, Cell.setSlot, r2, hj]
    · simp only [own_upd, if_neg q, Cell.setSlot]
      rw [Array.getElem?_setIfInBounds_ne (Ne.symm q)]; exact H j hj
  · by_cases q : j = i
    · simp only [own_upd, if_pos q]; exact hv
    · simp only [own_upd, if_neg q]; exact G j hj
theorem own_updI (f : Nat → Int32) (i : Nat) (x : Int32) : own_upd (fun j => Value.int (f j)) i (.int x) = fun j => .int (own_upd f i x j) := by funext j; simp only [own_upd]; split <;> rfl
theorem own_updJ (f : Nat → Int64) (i : Nat) (x : Int64) : own_upd (fun j => Value.long (f j)) i (.long x) = fun j => .long (own_upd f i x j) := by funext j; simp only [own_upd]; split <;> rfl
theorem own_updD (f : Nat → UInt64) (i : Nat) (x : UInt64) : own_upd (fun j => Value.double (f j)) i (.double x) = fun j => .double (own_upd f i x j) := by funext j; simp only [own_upd]; split <;> rfl
theorem own_iaload (X : Stand p l e R s m args below meth c T locs cells slots) (hx : p.tables.exec = Jvm.exec) (hZ : Z.Warmed39 s.vm) (eT : T.heap = h) {f : Nat → Int32} (F : own_A Z h a k .int n (fun i => .int (f i))) {j : Int32} {i : Nat} (h1 : j.toInt = (i : Int)) (h2 : i < n) {g : JFrame} (hg : g.method = m) {rest : List Value} (hs : g.stack = .int j :: .ref a :: rest) (hd : decode c.code g.pc = .ok (.iaload, 1)) (t : State)
    (k : Steps p.tables e below (T.setTop { g with pc := g.pc + 1, stack := .int (f i) :: rest }) t) : Steps p.tables e below (T.setTop g) t := by
  obtain ⟨cl, A, r1, r2, r3, H, G⟩ := F
  obtain ⟨q1, q2⟩ := own_idx h1 (r2 ▸ h2)
  exact X.iaload hx (j := j) (v := .int (f i)) (by rw [eT]; exact A.1) (State.isArrayOf_alike hZ.alike A.2.1) A.2.2 q1 (by rw [q2]; exact H i h2) hg hs hd t k
theorem own_laload (X : Stand p l e R s m args below meth c T locs cells slots) (hx : p.tables.exec = Jvm.exec) (hZ : Z.Warmed39 s.vm) (eT : T.heap = h) {f : Nat → Int64} (F : own_A Z h a k .long n (fun i => .long (f i))) {j : Int32} {i : Nat} (h1 : j.toInt = (i : Int)) (h2 : i < n) {g : JFrame} (hg : g.method = m) {rest : List Value} (hs : g.stack = .int j :: .ref a :: rest) (hd : decode c.code g.pc = .ok (.laload, 1)) (t : State)
    (k : Steps p.tables e below (T.setTop { g with pc := g.pc + 1, stack := .long (f i) :: rest }) t) : Steps p.tables e below (T.setTop g) t := by
  obtain ⟨cl, A, r1, r2, r3, H, G⟩ := F
  obtain ⟨q1, q2⟩ := own_idx h1 (r2 ▸ h2)
  exact X.laload hx (j := j) (v := .long (f i)) (by rw [eT]; exact A.1) (State.isArrayOf_alike hZ.alike A.2.1) A.2.2 q1 (by rw [q2]; exact H i h2) hg hs hd t k
theorem own_daload (X : Stand p l e R s m args below meth c T locs cells slots) (hx : p.tables.exec = Jvm.exec) (hZ : Z.Warmed39 s.vm) (eT : T.heap = h) {f : Nat → UInt64} (F : own_A Z h a k .double n (fun i => .double (f i))) {j : Int32} {i : Nat} (h1 : j.toInt = (i : Int)) (h2 : i < n) {g : JFrame} (hg : g.method = m) {rest : List Value} (hs : g.stack = .int j :: .ref a :: rest) (hd : decode c.code g.pc = .ok (.daload, 1)) (t : State)
    (k : Steps p.tables e below (T.setTop { g with pc := g.pc + 1, stack := .double (f i) :: rest }) t) : Steps p.tables e below (T.setTop g) t := by
  obtain ⟨cl, A, r1, r2, r3, H, G⟩ := F
  obtain ⟨q1, q2⟩ := own_idx h1 (r2 ▸ h2)
  exact X.daload hx (j := j) (v := .double (f i)) (by rw [eT]; exact A.1) (State.isArrayOf_alike hZ.alike A.2.1) A.2.2 q1 (by rw [q2]; exact H i h2) hg hs hd t k
theorem own_caload (X : Stand p l e R s m args below meth c T locs cells slots) (hx : p.tables.exec = Jvm.exec) (hZ : Z.Warmed39 s.vm) (eT : T.heap = h) {f : Nat → Int32} (F : own_A Z h a k .char n (fun i => .int (f i))) {j : Int32} {i : Nat} (h1 : j.toInt = (i : Int)) (h2 : i < n) {g : JFrame} (hg : g.method = m) {rest : List Value} (hs : g.stack = .int j :: .ref a :: rest) (hd : decode c.code g.pc = .ok (.caload, 1)) (t : State)
    (k : Steps p.tables e below (T.setTop { g with pc := g.pc + 1, stack := .int (f i) :: rest }) t) : Steps p.tables e below (T.setTop g) t := by
  obtain ⟨cl, A, r1, r2, r3, H, G⟩ := F
  obtain ⟨q1, q2⟩ := own_idx h1 (r2 ▸ h2)
  exact X.caload hx (j := j) (v := .int (f i)) (by rw [eT]; exact A.1) (State.isArrayOf_alike hZ.alike A.2.1) A.2.2 q1 (by rw [q2]; exact H i h2) hg hs hd t k
theorem own_saload (X : Stand p l e R s m args below meth c T locs cells slots) (hx : p.tables.exec = Jvm.exec) (hZ : Z.Warmed39 s.vm) (eT : T.heap = h) {f : Nat → Int32} (F : own_A Z h a k .short n (fun i => .int (f i))) {j : Int32} {i : Nat} (h1 : j.toInt = (i : Int)) (h2 : i < n) {g : JFrame} (hg : g.method = m) {rest : List Value} (hs : g.stack = .int j :: .ref a :: rest) (hd : decode c.code g.pc = .ok (.saload, 1)) (t : State)
    (k : Steps p.tables e below (T.setTop { g with pc := g.pc + 1, stack := .int (f i) :: rest }) t) : Steps p.tables e below (T.setTop g) t := by
  obtain ⟨cl, A, r1, r2, r3, H, G⟩ := F
  obtain ⟨q1, q2⟩ := own_idx h1 (r2 ▸ h2)
  exact X.saload hx (j := j) (v := .int (f i)) (by rw [eT]; exact A.1) (State.isArrayOf_alike hZ.alike A.2.1) A.2.2 q1 (by rw [q2]; exact H i h2) hg hs hd t k
theorem own_baload (X : Stand p l e R s m args below meth c T locs cells slots) (hx : p.tables.exec = Jvm.exec) (hZ : Z.Warmed39 s.vm) (eT : T.heap = h) {f : Nat → Int32} (F : own_A Z h a k .byte n (fun i => .int (f i))) {j : Int32} {i : Nat} (h1 : j.toInt = (i : Int)) (h2 : i < n) {g : JFrame} (hg : g.method = m) {rest : List Value} (hs : g.stack = .int j :: .ref a :: rest) (hd : decode c.code g.pc = .ok (.baload, 1)) (t : State)
    (k : Steps p.tables e below (T.setTop { g with pc := g.pc + 1, stack := .int (f i) :: rest }) t) : Steps p.tables e below (T.setTop g) t := by
  obtain ⟨cl, A, r1, r2, r3, H, G⟩ := F
  obtain ⟨q1, q2⟩ := own_idx h1 (r2 ▸ h2)
  exact X.baloadBytes hx (j := j) (v := .int (f i)) (by rw [eT]; exact A.1) (State.isArrayOf_alike hZ.alike A.2.1) A.2.2 q1 (by rw [q2]; exact H i h2) hg hs hd t k
theorem own_zaload (X : Stand p l e R s m args below meth c T locs cells slots) (hx : p.tables.exec = Jvm.exec) (hZ : Z.Warmed39 s.vm) (eT : T.heap = h) {f : Nat → Int32} (F : own_A Z h a k .boolean n (fun i => .int (f i))) {j : Int32} {i : Nat} (h1 : j.toInt = (i : Int)) (h2 : i < n) {g : JFrame} (hg : g.method = m) {rest : List Value} (hs : g.stack = .int j :: .ref a :: rest) (hd : decode c.code g.pc = .ok (.baload, 1)) (t : State)
    (k : Steps p.tables e below (T.setTop { g with pc := g.pc + 1, stack := .int (f i) :: rest }) t) : Steps p.tables e below (T.setTop g) t := by
  obtain ⟨cl, A, r1, r2, r3, H, G⟩ := F
  obtain ⟨q1, q2⟩ := own_idx h1 (r2 ▸ h2)
  exact X.baloadBooleans hx (j := j) (v := .int (f i)) (by rw [eT]; exact A.1) (State.isArrayOf_alike hZ.alike A.2.1) A.2.2 q1 (by rw [q2]; exact H i h2) hg hs hd t k
theorem own_aaload (X : Stand p l e R s m args below meth c T locs cells slots) (hx : p.tables.exec = Jvm.exec) (hZ : Z.Warmed39 s.vm) (eT : T.heap = h) (F : own_A Z h a k ty n f) {j : Int32} {i : Nat} (h1 : j.toInt = (i : Int)) (h2 : i < n) (hty : ty.isReference = true) {g : JFrame} (hg : g.method = m) {rest : List Value} (hs : g.stack = .int j :: .ref a :: rest) (hd : decode c.code g.pc = .ok (.aaload, 1)) (t : State)
    (k : Steps p.tables e below (T.setTop { g with pc := g.pc + 1, stack := f i :: rest }) t) : Steps p.tables e below (T.setTop g) t := by
  obtain ⟨cl, A, r1, r2, r3, H, G⟩ := F
  obtain ⟨q1, q2⟩ := own_idx h1 (r2 ▸ h2)
  exact X.aaload hx (j := j) (v := f i) (by rw [eT]; exact A.1) (State.isArrayOf_alike hZ.alike A.2.1) hty A.2.2 q1 (by rw [q2]; exact H i h2) hg hs hd t k
theorem own_iastore (X : Stand p l e R s m args below meth c T locs cells slots) (hx : p.tables.exec = Jvm.exec) (hZ : Z.Warmed39 s.vm) (eT : T.heap = h) {f : Nat → Int32} (F : own_A Z h a k .int n (fun i => .int (f i))) {j : Int32} {x : Int32} {i : Nat} (h1 : j.toInt = (i : Int)) (h2 : i < n) {g : JFrame} (hg : g.method = m) {rest : List Value} (hs : g.stack = .int x :: .int j :: .ref a :: rest) (hd : decode c.code g.pc = .ok (.iastore, 1)) :
    ∃ T' h', Stand p l e R s m args below meth c T' (locs ++ [⟨a, i⟩]) cells slots ∧ T'.heap = h' ∧ Wr h h' a i (.int x) ∧ own_A Z h' a k .int n (fun q => .int (own_upd f i x q)) ∧ ∀ target, Steps p.tables e below (T'.setTop { g with pc := g.pc + 1, stack := rest }) target → Steps p.tables e below (T.setTop g) target := by
  have F0 := F
  obtain ⟨cl, A, r1, r2, r3, H, G⟩ := F
  obtain ⟨q1, q2⟩ := own_idx h1 (r2 ▸ h2)
  obtain ⟨T', h', X', e', W', st⟩ := stI X hx hZ eT A q1 hg hs hd
  rw [q2] at X' W'
  exact ⟨T', h', X', e', W', by rw [← own_updI]; exact own_setA F0 h2 W' rfl, st⟩
theorem own_lastore (X : Stand p l e R s m args below meth c T locs cells slots) (hx : p.tables.exec = Jvm.exec) (hZ : Z.Warmed39 s.vm) (eT : T.heap = h) {f : Nat → Int64} (F : own_A Z h a k .long n (fun i => .long (f i))) {j : Int32} {x : Int64} {i : Nat} (h1 : j.toInt = (i : Int)) (h2 : i < n) {g : JFrame} (hg : g.method = m) {rest : List Value} (hs : g.stack = .long x :: .int j :: .ref a :: rest) (hd : decode c.code g.pc = .ok (.lastore, 1)) :
    ∃ T' h', Stand p l e R s m args below meth c T' (locs ++ [⟨a, i⟩]) cells slots ∧ T'.heap = h' ∧ Wr h h' a i (.long x) ∧ own_A Z h' a k .long n (fun q => .long (own_upd f i x q)) ∧ ∀ target, Steps p.tables e below (T'.setTop { g with pc := g.pc + 1, stack := rest }) target → Steps p.tables e below (T.setTop g) target := by
  have F0 := F
  obtain ⟨cl, A, r1, r2, r3, H, G⟩ := F
  obtain ⟨q1, q2⟩ := own_idx h1 (r2 ▸ h2)
  obtain ⟨T', h', X', e', W', st⟩ := stJ X hx hZ eT A q1 hg hs hd
  rw [q2] at X' W'
  exact ⟨T', h', X', e', W', by rw [← own_updJ]; exact own_setA F0 h2 W' rfl, st⟩
theorem own_dastore (X : Stand p l e R s m args below meth c T locs cells slots) (hx : p.tables.exec = Jvm.exec) (hZ : Z.Warmed39 s.vm) (eT : T.heap = h) {f : Nat → UInt64} (F : own_A Z h a k .double n (fun i => .double (f i))) {j : Int32} {x : UInt64} {i : Nat} (h1 : j.toInt = (i : Int)) (h2 : i < n) {g : JFrame} (hg : g.method = m) {rest : List Value} (hs : g.stack = .double x :: .int j :: .ref a :: rest) (hd : decode c.code g.pc = .ok (.dastore, 1)) :
    ∃ T' h', Stand p l e R s m args below meth c T' (locs ++ [⟨a, i⟩]) cells slots ∧ T'.heap = h' ∧ Wr h h' a i (.double x) ∧ own_A Z h' a k .double n (fun q => .double (own_upd f i x q)) ∧ ∀ target, Steps p.tables e below (T'.setTop { g with pc := g.pc + 1, stack := rest }) target → Steps p.tables e below (T.setTop g) target := by
  have F0 := F
  obtain ⟨cl, A, r1, r2, r3, H, G⟩ := F
  obtain ⟨q1, q2⟩ := own_idx h1 (r2 ▸ h2)
  obtain ⟨T', h', X', e', W', st⟩ := stD X hx hZ eT A q1 hg hs hd
  rw [q2] at X' W'
  exact ⟨T', h', X', e', W', by rw [← own_updD]; exact own_setA F0 h2 W' rfl, st⟩
theorem own_castore (X : Stand p l e R s m args below meth c T locs cells slots) (hx : p.tables.exec = Jvm.exec) (hZ : Z.Warmed39 s.vm) (eT : T.heap = h) {f : Nat → Int32} (F : own_A Z h a k .char n (fun i => .int (f i))) {j x v' : Int32} {i : Nat} (h1 : j.toInt = (i : Int)) (h2 : i < n) (hv : nar .char x = v') {g : JFrame} (hg : g.method = m) {rest : List Value} (hs : g.stack = .int x :: .int j :: .ref a :: rest) (hd : decode c.code g.pc = .ok (.castore, 1)) :
    ∃ T' h', Stand p l e R s m args below meth c T' (locs ++ [⟨a, i⟩]) cells slots ∧ T'.heap = h' ∧ Wr h h' a i (.int v') ∧ own_A Z h' a k .char n (fun q => .int (own_upd f i v' q)) ∧ ∀ target, Steps p.tables e below (T'.setTop { g with pc := g.pc + 1, stack := rest }) target → Steps p.tables e below (T.setTop g) target := by
  have F0 := F
  obtain ⟨cl, A, r1, r2, r3, H, G⟩ := F
  obtain ⟨q1, q2⟩ := own_idx h1 (r2 ▸ h2)
  obtain ⟨T', h', X', e', W', st⟩ := stC X hx hZ eT A q1 hg hs hd
  rw [q2] at X' W'
  subst hv
  exact ⟨T', h', X', e', W', by rw [← own_updI]; exact own_setA F0 h2 W' (fits_nar_char _), st⟩
theorem own_bastore (X : Stand p l e R s m args below meth c T locs cells slots) (hx : p.tables.exec = Jvm.exec) (hZ : Z.Warmed39 s.vm) (eT : T.heap = h) {f : Nat → Int32} (F : own_A Z h a k .byte n (fun i => .int (f i))) {j x v' : Int32} {i : Nat} (h1 : j.toInt = (i : Int)) (h2 : i < n) (hv : nar .byte x = v') {g : JFrame} (hg : g.method = m) {rest : List Value} (hs : g.stack = .int x :: .int j :: .ref a :: rest) (hd : decode c.code g.pc = .ok (.bastore, 1)) :
    ∃ T' h', Stand p l e R s m args below meth c T' (locs ++ [⟨a, i⟩]) cells slots ∧ T'.heap = h' ∧ Wr h h' a i (.int v') ∧ own_A Z h' a k .byte n (fun q => .int (own_upd f i v' q)) ∧ ∀ target, Steps p.tables e below (T'.setTop { g with pc := g.pc + 1, stack := rest }) target → Steps p.tables e below (T.setTop g) target := by
  have F0 := F
  obtain ⟨cl, A, r1, r2, r3, H, G⟩ := F
  obtain ⟨q1, q2⟩ := own_idx h1 (r2 ▸ h2)
  obtain ⟨T', h', X', e', W', st⟩ := stB X hx hZ eT A q1 hg hs hd
  rw [q2] at X' W'
  subst hv
  exact ⟨T', h', X', e', W', by rw [← own_updI]; exact own_setA F0 h2 W' (fits_nar_byte _), st⟩
theorem own_zastore (X : Stand p l e R s m args below meth c T locs cells slots) (hx : p.tables.exec = Jvm.exec) (hZ : Z.Warmed39 s.vm) (eT : T.heap = h) {f : Nat → Int32} (F : own_A Z h a k .boolean n (fun i => .int (f i))) {j x v' : Int32} {i : Nat} (h1 : j.toInt = (i : Int)) (h2 : i < n) (hv : nar .boolean x = v') {g : JFrame} (hg : g.method = m) {rest : List Value} (hs : g.stack = .int x :: .int j :: .ref a :: rest) (hd : decode c.code g.pc = .ok (.bastore, 1)) :
    ∃ T' h', Stand p l e R s m args below meth c T' (locs ++ [⟨a, i⟩]) cells slots ∧ T'.heap = h' ∧ Wr h h' a i (.int v') ∧ own_A Z h' a k .boolean n (fun q => .int (own_upd f i v' q)) ∧ ∀ target, Steps p.tables e below (T'.setTop { g with pc := g.pc + 1, stack := rest }) target → Steps p.tables e below (T.setTop g) target := by
  have F0 := F
  obtain ⟨cl, A, r1, r2, r3, H, G⟩ := F
  obtain ⟨q1, q2⟩ := own_idx h1 (r2 ▸ h2)
  obtain ⟨T', h', X', e', W', st⟩ := stZ X hx hZ eT A q1 hg hs hd
  rw [q2] at X' W'
  subst hv
  exact ⟨T', h', X', e', W', by rw [← own_updI]; exact own_setA F0 h2 W' (fits_nar_bool _), st⟩
theorem own_sastore (X : Stand p l e R s m args below meth c T locs cells slots) (hx : p.tables.exec = Jvm.exec) (hZ : Z.Warmed39 s.vm) (eT : T.heap = h) {f : Nat → Int32} (F : own_A Z h a k .short n (fun i => .int (f i))) {j x v' : Int32} {i : Nat} (h1 : j.toInt = (i : Int)) (h2 : i < n) (hv : nar .short x = v') {g : JFrame} (hg : g.method = m) {rest : List Value} (hs : g.stack = .int x :: .int j :: .ref a :: rest) (hd : decode c.code g.pc = .ok (.sastore, 1)) :
    ∃ T' h', Stand p l e R s m args below meth c T' (locs ++ [⟨a, i⟩]) cells slots ∧ T'.heap = h' ∧ Wr h h' a i (.int v') ∧ own_A Z h' a k .short n (fun q => .int (own_upd f i v' q)) ∧ ∀ target, Steps p.tables e below (T'.setTop { g with pc := g.pc + 1, stack := rest }) target → Steps p.tables e below (T.setTop g) target := by
  have F0 := F
  obtain ⟨cl, A, r1, r2, r3, H, G⟩ := F
  obtain ⟨q1, q2⟩ := own_idx h1 (r2 ▸ h2)
  obtain ⟨T', h', X', e', W', st⟩ := stS X hx hZ eT A q1 hg hs hd
  rw [q2] at X' W'
  subst hv
  exact ⟨T', h', X', e', W', by rw [← own_updI]; exact own_setA F0 h2 W' (fits_nar_short _), st⟩
theorem own_aastore (X : Stand p l e R s m args below meth c T locs cells slots) (hx : p.tables.exec = Jvm.exec) (hZ : Z.Warmed39 s.vm) (eT : T.heap = h) (F : own_A Z h a k ty n f) {j : Int32} {i : Nat} (h1 : j.toInt = (i : Int)) (h2 : i < n) (hq : ty.isReference = true ∧ Sto Z h a v ∧ fits ty v = true) {g : JFrame} (hg : g.method = m) {rest : List Value} (hs : g.stack = v :: .int j :: .ref a :: rest) (hd : decode c.code g.pc = .ok (.aastore, 1)) :
    ∃ T' h', Stand p l e R s m args below meth c T' (locs ++ [⟨a, i⟩]) cells slots ∧ T'.heap = h' ∧ Wr h h' a i v ∧ own_A Z h' a k ty n (own_upd f i v) ∧ ∀ target, Steps p.tables e below (T'.setTop { g with pc := g.pc + 1, stack := rest }) target → Steps p.tables e below (T.setTop g) target := by
  have F0 := F
  obtain ⟨cl, A, r1, r2, r3, H, G⟩ := F
  obtain ⟨q1, q2⟩ := own_idx h1 (r2 ▸ h2)
  obtain ⟨T', h', X', e', W', st⟩ := stR X hx hZ eT A q1 hq.1 hq.2.1 hg hs hd
  rw [q2] at X' W'
  exact ⟨T', h', X', e', W', own_setA F0 h2 W' hq.2.2, st⟩
end OwnA

section OwnN
theorem own_inc {i : Int32} {k : Nat} (h : i.toInt = (k : Int)) (hk : k < 2147483647) : (i + 1).toInt = ((k + 1 : Nat) : Int) := by
  have e1 : (1 : Int32).toInt = 1 := by decide
  rw [Int32.toInt_add, h, e1, bmod32 (by omega) (by omega)]
  omega
theorem own_lt {i : Int32} {k n : Nat} (h : i.toInt = (k : Int)) (hn : n < 2147483648) : i < Int32.ofNat n ↔ k < n := by
  rw [Int32.lt_iff_toInt_lt, h, Int32.toInt_ofNat_of_lt (by omega)]
  omega
end OwnN

section OwnW
variable {args : Array Value} {first s : State} {o : Option Outcome} {idx : List Nat} {t : Term}
theorem own_eqI {k : Int32} (h : (Cond.eq t (.int k)).value args first o s idx = some true) : t.eval args first o idx s = some (.int k) := by
  simp only [Cond.value, Term.eval] at h; cases ht : t.eval args first o idx s with | none => simp [ht] at h | some x => cases x <;> simp [ht] at h ⊢; exact h
theorem own_eqJ {k : Int64} (h : (Cond.eq t (.long k)).value args first o s idx = some true) : t.eval args first o idx s = some (.long k) := by
  simp only [Cond.value, Term.eval] at h; cases ht : t.eval args first o idx s with | none => simp [ht] at h | some x => cases x <;> simp [ht] at h ⊢; exact h
theorem own_eqD {k : Int64} (h : (Cond.eq t (.op1 .bitsD (.long k))).value args first o s idx = some true) : t.eval args first o idx s = some (.double k.toUInt64) := by
  simp only [Cond.value, Term.eval, Unary.apply, Option.bind_eq_bind, Option.bind_some] at h; cases ht : t.eval args first o idx s with | none => simp [ht] at h | some x => cases x <;> simp [ht] at h ⊢; exact h
theorem own_neq0 {G : Int32} (ev : t.eval args first o idx s = some (.int G)) (h : (Cond.not (.eq t (.int 0))).value args first o s idx = some true) : ¬ G = (0 : Int32) := by
  intro q; subst q; simp [Cond.value, ev, Term.eval] at h
end OwnW

section OwnS
def own_bl (cd : Int32) (n : Nat) : Nat := if cd = 0 then n else n + n
def own_u16 (cs : Nat → Int32) : Nat → Int32 := fun i => if i % 2 = 0 then (cs (i / 2) >>> ((0 : Int32) &&& 31)).toInt8.toInt32 else (cs (i / 2) >>> ((8 : Int32) &&& 31)).toInt8.toInt32
def own_by (cd : Int32) (cs : Nat → Int32) : Nat → Int32 := if cd = 0 then (fun i => (cs i).toInt8.toInt32) else own_u16 cs
def own_cb (cs f : Nat → Int32) (j : Nat) : Nat → Int32 := fun i => if i < j then (cs i).toInt8.toInt32 else f i
theorem own_ltp {i p_ : Int32} {k n : Nat} (h : i.toInt = (k : Int)) (hp : p_.toInt = (n : Int)) : i < p_ ↔ k < n := by
  rw [Int32.lt_iff_toInt_lt, h, hp]; omega
theorem own_asN {i : Int32} {k : Nat} (h : i.toInt = (k : Int)) : i = Int32.ofNat k := Int32.toInt_inj.mp (by
  have := rng32 i
  rw [h, Int32.toInt_ofNat_of_lt (by omega)])
theorem own_i8 (x : Int32) : x.toInt8.toInt32.toInt8.toInt32 = x.toInt8.toInt32 := by
  apply Int32.toInt_inj.mp
  have a := c_i2b x
  have b := c_i2b x.toInt8.toInt32
  omega
theorem own_narb (x : Int32) : nar .byte (x.toInt8.toInt32) = x.toInt8.toInt32 := own_i8 x
theorem own_i16 {c : Int32} (h0 : 0 ≤ c.toInt) (h1 : c.toInt ≤ 65535) : c.toUInt32.toUInt16.toUInt32.toInt32 = c := by
  apply Int32.toInt_inj.mp
  have a := c_i2c c
  omega
theorem own_narc {c : Int32} (h0 : 0 ≤ c.toInt) (h1 : c.toInt ≤ 65535) : nar .char c = c := own_i16 h0 h1
theorem own_nwc {c : Int32} (h0 : 0 ≤ c.toInt) (h1 : c.toInt ≤ 65535) : narrow .char (.int c) = .int c := congrArg Value.int (own_i16 h0 h1)
theorem own_char {c : Int32} (h : fits .char (.int c) = true) : 0 ≤ c.toInt ∧ c.toInt ≤ 65535 := by
  have q := rng_char h
  have z : (0 : Int32).toInt = 0 := by decide
  have w : (65535 : Int32).toInt = 65535 := by decide
  simp only [Int32.lt_iff_toInt_lt] at q
  omega
theorem own_charf {c : Int32} (h0 : 0 ≤ c.toInt) (h1 : c.toInt ≤ 65535) : fits .char (.int c) = true := by
  have z : (0 : Int32).toInt = 0 := by decide
  have w : (65535 : Int32).toInt = 65535 := by decide
  simp only [fits, Bool.and_eq_true, decide_eq_true_eq, Int32.le_iff_toInt_le]
  omega
theorem own_shr0 (x : Int32) : (x >>> ((0 : Int32) &&& 31)).toInt = x.toInt := by
  rw [c_ishr x 0 0 (by decide)]; simp
/-- the two bytes of a char, joined -/
theorem own_join {c x y : Int32} (h0 : 0 ≤ c.toInt) (h1 : c.toInt ≤ 65535) (hx : x = (c >>> ((0 : Int32) &&& 31)).toInt8.toInt32) (hy : y = (c >>> ((8 : Int32) &&& 31)).toInt8.toInt32) :
    ((((x &&& (255 : Int32)) <<< ((0 : Int32) &&& 31)) ||| ((y &&& (255 : Int32)) <<< ((8 : Int32) &&& 31))).toUInt32.toUInt16.toUInt32.toInt32) = c := by
  have e0 := own_shr0 c
  have e8 := c_ishr c 8 8 (by decide)
  have b0 := c_i2b (c >>> ((0 : Int32) &&& 31))
  have b8 := c_i2b (c >>> ((8 : Int32) &&& 31))
  rw [← hx] at b0; rw [← hy] at b8
  have m0 := c_mask x 255 8 (by decide) (by decide)
  have m8 := c_mask y 255 8 (by decide) (by decide)
  have s0 := c_ishl (x &&& 255) 0 0 (by decide)
  have s8 := c_ishl (y &&& 255) 8 8 (by decide)
  have p8 : ((2 ^ 8 : Nat) : Int) = 256 := by decide
  have p0 : ((2 ^ 0 : Nat) : Int) = 1 := by decide
  rw [p8] at e8 m0 m8 s8
  rw [p0] at s0
  have r0 := rng32 ((x &&& 255) <<< ((0 : Int32) &&& 31))
  have r8 := rng32 ((y &&& 255) <<< ((8 : Int32) &&& 31))
  have o := c_or' ((x &&& 255) <<< ((0 : Int32) &&& 31)) ((y &&& 255) <<< ((8 : Int32) &&& 31)) 8 (by decide) 256 (by decide)
  have v0 : ((x &&& 255) <<< ((0 : Int32) &&& 31)).toInt = c.toInt % 256 := by omega
  have v8 : ((y &&& 255) <<< ((8 : Int32) &&& 31)).toInt = (c.toInt / 256) * 256 := by omega
  have ro := rng32 (((x &&& 255) <<< ((0 : Int32) &&& 31)) ||| ((y &&& 255) <<< ((8 : Int32) &&& 31)))
  have o' := o (by omega) (by omega) (by omega)
  apply Int32.toInt_inj.mp
  have i := c_i2c (((x &&& 255) <<< ((0 : Int32) &&& 31)) ||| ((y &&& 255) <<< ((8 : Int32) &&& 31)))
  omega
/-- a byte of a Latin-1 string, widened -/
theorem own_lat {c : Int32} (h0 : 0 ≤ c.toInt) (h1 : ¬ (255 : Int32) < c) : ((c.toInt8.toInt32 &&& (255 : Int32)).toUInt32.toUInt16.toUInt32.toInt32) = c := by
  have w : (255 : Int32).toInt = 255 := by decide
  rw [Int32.lt_iff_toInt_lt, w] at h1
  have b := c_i2b c
  have m0 := c_mask c.toInt8.toInt32 255 8 (by decide) (by decide)
  have p8 : ((2 ^ 8 : Nat) : Int) = 256 := by decide
  rw [p8] at m0
  apply Int32.toInt_inj.mp
  have i := c_i2c (c.toInt8.toInt32 &&& 255)
  omega
theorem own_shl1 {q : Int32} {k : Nat} (h : q.toInt = (k : Int)) (hk : k < 100000) : (q <<< ((1 : Int32) &&& 31)).toInt = ((k + k : Nat) : Int) := by
  have s := c_ishl q 1 1 (by decide)
  have p1 : ((2 ^ 1 : Nat) : Int) = 2 := by decide
  have r := rng32 (q <<< ((1 : Int32) &&& 31))
  rw [p1, h] at s
  omega
theorem own_cdl {cd p_ : Int32} {n : Nat} (hcd : cd = 0 ∨ cd = 1) (hp : p_.toInt = (n : Int)) (hn : 1 ≤ n ∧ n < 100000) : ((((p_ - (Int32.ofNat (own_bl cd n))).toUInt32 >>> ((31 : Int32) &&& 31).toUInt32).toInt32).toInt8.toInt32) = cd := by
  have hz : p_ = Int32.ofNat n := own_asN hp
  apply Int32.toInt_inj.mp
  have e := c_iushr (p_ - Int32.ofNat (own_bl cd n)) 31 31 (by decide) (by decide)
  have p31 : ((2 ^ 31 : Nat) : Int) = 2147483648 := by decide
  rw [p31] at e
  have b := c_i2b (((p_ - (Int32.ofNat (own_bl cd n))).toUInt32 >>> ((31 : Int32) &&& 31).toUInt32).toInt32)
  have s := c_isub p_ (Int32.ofNat (own_bl cd n))
  have r := rng32 (p_ - Int32.ofNat (own_bl cd n))
  rcases hcd with rfl | rfl
  · have l : own_bl 0 n = n := by simp [own_bl]
    rw [l] at e b s r ⊢
    rw [Int32.toInt_ofNat_of_lt (by omega), hp] at s
    have z : (0 : Int32).toInt = 0 := by decide
    omega
  · have l : own_bl 1 n = n + n := by simp [own_bl]
    rw [l] at e b s r ⊢
    rw [Int32.toInt_ofNat_of_lt (by omega), hp] at s
    have z : (1 : Int32).toInt = 1 := by decide
    omega
end OwnS

section OwnT
theorem own_bl0 (n : Nat) : own_bl 0 n = n := by simp [own_bl]
theorem own_bl1 (n : Nat) : own_bl 1 n = n + n := by simp [own_bl]
theorem own_by0 (cs : Nat → Int32) (i : Nat) : own_by 0 cs i = (cs i).toInt8.toInt32 := by simp [own_by]
theorem own_by1 (cs : Nat → Int32) (i : Nat) : own_by 1 cs i = own_u16 cs i := by simp [own_by]
theorem own_cb_up (cs f : Nat → Int32) (k j : Nat) : own_cb cs f (k + 1) j = own_upd (own_cb cs f k) k (cs k).toInt8.toInt32 j := by
  simp only [own_cb, own_upd]
  by_cases e : j = k
  · subst e; simp
  · simp only [e, if_false]
    by_cases q : j < k
    · rw [if_pos q, if_pos (by omega)]
    · rw [if_neg q, if_neg (by omega)]
theorem own_narcc (y : Int32) : nar .char (y.toUInt32.toUInt16.toUInt32.toInt32) = y.toUInt32.toUInt16.toUInt32.toInt32 := by
  have a := c_i2c y
  exact own_narc (by omega) (by omega)
theorem own_nw01 {b : Int32} (h : b = 0 ∨ b = 1) : narrow .byte (.int b) = .int b := by rcases h with rfl | rfl <;> rfl
theorem own_f01 {b : Int32} (h : b = 0 ∨ b = 1) : fits .byte (.int b) = true := by rcases h with rfl | rfl <;> rfl
theorem own_c01 {cd : Int32} {P : Prop} (h : (cd = 0 ∧ P) ∨ cd = 1) : cd = 0 ∨ cd = 1 := h.imp (·.1) id
theorem own_ofN {j n : Nat} {p_ : Int32} (hp : p_.toInt = (n : Int)) (hj : j ≤ n) (e : Int32.ofNat j = p_) : j = n := by
  have q := congrArg Int32.toInt e
  have r := rng32 p_
  rw [hp, Int32.toInt_ofNat_of_lt (by omega)] at q
  omega
theorem own_ofNn {j n : Nat} {p_ : Int32} (hp : p_.toInt = (n : Int)) (hj : j ≤ n) (e : ¬ Int32.ofNat j = p_) : j < n := by
  refine Nat.lt_of_le_of_ne hj fun q => e ?_
  rw [q]; exact (own_asN hp).symm
theorem own_toN {n : Nat} (h : n < 100000) : (Int32.ofNat n).toInt = (n : Int) := Int32.toInt_ofNat_of_lt (by omega)
theorem own_nz {p_ : Int32} {n : Nat} (hp : p_.toInt = (n : Int)) (hn : 1 ≤ n) : ¬ p_ = (0 : Int32) := fun q => by
  have z : (0 : Int32).toInt = 0 := by decide
  rw [q, z] at hp; omega
theorem own_nn {p_ : Int32} {n : Nat} (hp : p_.toInt = (n : Int)) : ¬ p_ < (0 : Int32) := by
  have z : (0 : Int32).toInt = 0 := by decide
  rw [Int32.lt_iff_toInt_lt, hp, z]; omega
theorem own_cl {p_ : Int32} {n c : Nat} (hp : p_.toInt = (n : Int)) (hc : n ≤ c) : p_.toNatClampNeg ≤ c := by
  simp [Int32.toNatClampNeg, hp]; omega
end OwnT
section OwnU
def own_l8 (cs : Nat → Int32) : Nat → Int32 := fun i => (cs i).toInt8.toInt32
def own_pb (cs : Nat → Int32) (k : Nat) : Nat → Int32 := fun i => if i < k + k then own_u16 cs i else 0
theorem own_u16e (cs : Nat → Int32) (k : Nat) : own_u16 cs (k + k) = (cs k >>> ((0 : Int32) &&& 31)).toInt8.toInt32 := by
  unfold own_u16
  rw [if_pos (by omega), show (k + k) / 2 = k by omega]
theorem own_u16o (cs : Nat → Int32) (k : Nat) : own_u16 cs (k + k + 1) = (cs k >>> ((8 : Int32) &&& 31)).toInt8.toInt32 := by
  unfold own_u16
  rw [if_neg (by omega), show (k + k + 1) / 2 = k by omega]
theorem own_pb_up (cs : Nat → Int32) (k j : Nat) : own_pb cs (k + 1) j = own_upd (own_upd (own_pb cs k) (k + k) ((cs k >>> ((0 : Int32) &&& 31)).toInt8.toInt32)) (k + k + 1) ((cs k >>> ((8 : Int32) &&& 31)).toInt8.toInt32) j := by
  simp only [own_pb, own_upd]
  by_cases e1 : j = k + k + 1
  · rw [if_pos (by omega), if_pos e1, e1, own_u16o]
  · rw [if_neg e1]
    by_cases e0 : j = k + k
    · rw [if_pos (by omega), if_pos e0, e0, own_u16e]
    · rw [if_neg e0]
      by_cases q : j < k + k
      · rw [if_pos (by omega), if_pos q]
      · rw [if_neg (by omega), if_neg q]
def own_l1 (cd : Int32) : Int32 := if cd = 0 then 1 else 0
theorem own_shr1 {n : Nat} (h : n < 100000) : ((Int32.ofNat (n + n)) >>> ((1 : Int32) &&& 31)).toInt = (n : Int) := by
  have s := c_ishr (Int32.ofNat (n + n)) 1 1 (by decide)
  have p1 : ((2 ^ 1 : Nat) : Int) = 2 := by decide
  rw [p1, Int32.toInt_ofNat_of_lt (by omega)] at s
  omega
theorem own_bound {p_ : Int32} {n : Nat} (hp : p_.toInt = (n : Int)) (h : n < 1073741823) : p_ < (1073741823 : Int32) := by
  have z : (1073741823 : Int32).toInt = 1073741823 := by decide
  rw [Int32.lt_iff_toInt_lt, hp, z]; omega
end OwnU

theorem own_d6_0 : decode jdk_52_method_21_code 0 = .ok (.iconst 0, 1) := by decide +kernel
theorem own_d6_1 : decode jdk_52_method_21_code 1 = .ok (.istore 5, 2) := by decide +kernel
theorem own_d6_3 : decode jdk_52_method_21_code 3 = .ok (.iload 5, 2) := by decide +kernel
theorem own_d6_5 : decode jdk_52_method_21_code 5 = .ok (.iload 4, 2) := by decide +kernel
theorem own_d6_7 : decode jdk_52_method_21_code 7 = .ok (.if_icmp .ge 37, 3) := by decide +kernel
theorem own_d6_10 : decode jdk_52_method_21_code 10 = .ok (.aload_n 0, 1) := by decide +kernel
theorem own_d6_11 : decode jdk_52_method_21_code 11 = .ok (.iload_n 1, 1) := by decide +kernel
theorem own_d6_12 : decode jdk_52_method_21_code 12 = .ok (.caload, 1) := by decide +kernel
theorem own_d6_13 : decode jdk_52_method_21_code 13 = .ok (.istore 6, 2) := by decide +kernel
theorem own_d6_15 : decode jdk_52_method_21_code 15 = .ok (.iload 6, 2) := by decide +kernel
theorem own_d6_17 : decode jdk_52_method_21_code 17 = .ok (.sipush 255, 3) := by decide +kernel
theorem own_d6_20 : decode jdk_52_method_21_code 20 = .ok (.if_icmp .le 6, 3) := by decide +kernel
theorem own_d6_23 : decode jdk_52_method_21_code 23 = .ok (.iload 5, 2) := by decide +kernel
theorem own_d6_25 : decode jdk_52_method_21_code 25 = .ok (.ireturn, 1) := by decide +kernel
theorem own_d6_26 : decode jdk_52_method_21_code 26 = .ok (.aload_n 2, 1) := by decide +kernel
theorem own_d6_27 : decode jdk_52_method_21_code 27 = .ok (.iload_n 3, 1) := by decide +kernel
theorem own_d6_28 : decode jdk_52_method_21_code 28 = .ok (.iload 6, 2) := by decide +kernel
theorem own_d6_30 : decode jdk_52_method_21_code 30 = .ok (.i2b, 1) := by decide +kernel
theorem own_d6_31 : decode jdk_52_method_21_code 31 = .ok (.bastore, 1) := by decide +kernel
theorem own_d6_32 : decode jdk_52_method_21_code 32 = .ok (.iinc 1 1, 3) := by decide +kernel
theorem own_d6_35 : decode jdk_52_method_21_code 35 = .ok (.iinc 3 1, 3) := by decide +kernel
theorem own_d6_38 : decode jdk_52_method_21_code 38 = .ok (.iinc 5 1, 3) := by decide +kernel
theorem own_d6_41 : decode jdk_52_method_21_code 41 = .ok (.goto (-38), 3) := by decide +kernel
theorem own_d6_44 : decode jdk_52_method_21_code 44 = .ok (.iload 4, 2) := by decide +kernel
theorem own_d6_46 : decode jdk_52_method_21_code 46 = .ok (.ireturn, 1) := by decide +kernel
theorem own_pn0 : plainName "java/lang/StringUTF16" = true := by first | (simp [plainName, overriddenIn]; done) | decide +kernel
theorem own_ef6 (m : MethodId) (x0 : Addr) (x1 : Int32) (x2 : Addr) (x3 : Int32) (x4 : Int32) : entryFrame m #[(.ref x0), (.int x1), (.ref x2), (.int x3), (.int x4)] 7 = mkF m 0 #[.val (.ref x0), .val (.int x1), .val (.ref x2), .val (.int x3), .val (.int x4), .unset, .unset] [] := by first | (simp [entryFrame, mkF, argsToLocals, Value.category]; done) | rfl
def own_Q6 (Z : State) (a1 : Addr) (a2 : Addr) (p_ : Int32) (k1 : ClassId) (k2 : ClassId) (n1 : Nat) (cs : Nat → Int32) (f2 : Nat → Int32) (h0 : Heap) (n0 : Nat) (v : Option Value) (h : Heap) (L : List Loc) : Prop := ∃ (j : Nat), v = some (.int (Int32.ofNat j)) ∧ Fr n0 L ∧ Keep h0 h [a2] ∧ own_A Z h a2 k2 .byte n1 (fun i => .int ((own_cb cs f2 j) i)) ∧ (j ≤ n1 ∧ (∀ q : Nat, q < j → ¬ (255 : Int32) < cs q) ∧ (j < n1 → (255 : Int32) < cs j))
set_option maxRecDepth 65536 in
set_option maxHeartbeats 40000000 in
theorem own_rm6 (l : Launch) (Z : State) (a0 : Array Value) (hw : ∀ d ∈ tables_1, d.before a0 Z = true) (ws : List Jvm.Cond) (a1 : Addr) (a2 : Addr) (p_ : Int32) (k1 : ClassId) (k2 : ClassId) (n1 : Nat) (cs : Nat → Int32) (f2 : Nat → Int32) (h0 : Heap) (n0 : Nat) (Z0 : n0 ≤ h0.size) (q0 : own_A Z h0 a1 k1 .char n1 (fun i => .int (cs i))) (q1 : own_A Z h0 a2 k2 .byte n1 (fun i => .int (f2 i))) (q2 : n0 ≤ a2) (hne : (a1 ≠ a2)) (hp : (p_.toInt = (n1 : Int) ∧ n1 ≤ 4000)) :
    MetFree l (⟨"java/lang/StringUTF16", "compress", "([CI[BII)I"⟩ : MethodName) (head1 (Jvm.Cond.code (⟨"java/lang/StringUTF16", "compress", "([CI[BII)I"⟩ : MethodName) jdk_52_method_21_code 7 (some .int) :: ws) ({ frames := 0, cells := 0, slots := 0, locals := 0 } : Room)) (fun a U => a = #[(.ref a1), (.int (0 : Int32)), (.ref a2), (.int (0 : Int32)), (.int p_)] ∧ Z.Warmed39 U.vm ∧ U.heap = h0) (fun _ _ _ _ _ => True) (fun _ U o U' => ∃ v L, o = .returned v ∧ own_Q6 Z a1 a2 p_ k1 k2 n1 cs f2 h0 n0 v U'.heap L ∧ FrameEnd U o U' L ({ frames := 0, cells := 0, slots := 0, locals := 0 } : Room).cells ({ frames := 0, cells := 0, slots := 0, locals := 0 } : Room).slots) := by
  refine MetFree.of_bodySF (plainFor_of_name own_pn0) hisR ?_
  intro p e s m args below meth c s₁ Bd hml0 hP hK
  obtain ⟨rfl, hZ, hh⟩ := hP
  have hx := Bd.exec
  have hby := Bd.bytes
  have hml : c.maxLocals = 7 := hml0
  have hown : s.vm.findClass "java/lang/StringUTF16" = some m.cls := findClass_of_methodNamed Bd.named
  have hnm := (name_of_methodNamed Bd.named Bd.method).1
  have hnl : meth.locks = false := Bd.notSynchronized
  have X0 : Stand p l e ({ frames := 0, cells := 0, slots := 0, locals := 0 } : Room) s m #[(.ref a1), (.int (0 : Int32)), (.ref a2), (.int (0 : Int32)), (.int p_)] below meth c s₁ [] 0 0 := Stand.of_body Bd
  have e0 : s₁.heap = h0 := by rw [← hh, Bd.state]; rfl
  have N0 := Fr.nil n0
  show own_Go p.tables e below (own_P below s (own_Q6 Z a1 a2 p_ k1 k2 n1 cs f2 h0 n0) ({ frames := 0, cells := 0, slots := 0, locals := 0 } : Room).cells ({ frames := 0, cells := 0, slots := 0, locals := 0 } : Room).slots) _
  refine own_st (fun t_ k_ => castTop (own_ef6 m a1 (0 : Int32) a2 (0 : Int32) p_) k_) ?_
  show own_Go p.tables e below _ (s₁.setTop (mkF m 0 #[.val (.ref a1), .val (.int (0 : Int32)), .val (.ref a2), .val (.int (0 : Int32)), .val (.int p_), .unset, .unset] []))
  refine own_st (fun t_ k_ => XS.iconst X0.here hx rfl (hb hby own_d6_0) k_) ?_
  show own_Go p.tables e below _ (s₁.setTop (mkF m 1 #[.val (.ref a1), .val (.int (0 : Int32)), .val (.ref a2), .val (.int (0 : Int32)), .val (.int p_), .unset, .unset] [(.int (0 : Int32))]))
  refine own_st (fun t_ k_ => XS.istore X0.here hx rfl (hb hby own_d6_1) rfl (l' := #[.val (.ref a1), .val (.int (0 : Int32)), .val (.ref a2), .val (.int (0 : Int32)), .val (.int p_), .val (.int (0 : Int32)), .unset]) rfl k_) ?_
  show own_Go p.tables e below _ (s₁.setTop (mkF m 3 #[.val (.ref a1), .val (.int (0 : Int32)), .val (.ref a2), .val (.int (0 : Int32)), .val (.int p_), .val (.int (0 : Int32)), .unset] []))
  have qb0 : own_A Z h0 a2 k2 .byte n1 (fun i => .int ((own_cb cs f2 0) i)) := q1.congr (fun q _ => by simp [own_cb])
  have loop101 : ∀ (mm : Nat) (k : Nat) (i : Int32) (s6 : Slot) (T101 : State) (Lo101 : List Loc) (h101 : Heap), n1 - k = mm → Stand p l e ({ frames := 0, cells := 0, slots := 0, locals := 0 } : Room) s m #[(.ref a1), (.int (0 : Int32)), (.ref a2), (.int (0 : Int32)), (.int p_)] below meth c T101 Lo101 0 0 → T101.heap = h101 → Fr n0 Lo101 → Keep h0 h101 [a2] → own_A Z h101 a1 k1 .char n1 (fun i => .int (cs i)) → own_A Z h101 a2 k2 .byte n1 (fun i => .int ((own_cb cs f2 k) i)) → (i.toInt = (k : Int)) → (k ≤ n1) → (One s6) → (∀ q : Nat, q < k → ¬ (255 : Int32) < cs q) → own_Go p.tables e below (own_P below s (own_Q6 Z a1 a2 p_ k1 k2 n1 cs f2 h0 n0) ({ frames := 0, cells := 0, slots := 0, locals := 0 } : Room).cells ({ frames := 0, cells := 0, slots := 0, locals := 0 } : Room).slots) (T101.setTop (mkF m 3 #[.val (.ref a1), .val (.int i), .val (.ref a2), .val (.int i), .val (.int p_), .val (.int i), s6] [])) := by
    intro mm
    induction mm using Nat.strongRecOn with
    | _ mm ih101 =>
      intro k i s6 T101 Lo101 h101 hm101 X101 e101 N101 K101 fa101_0 fa101_1 hi hk hs6 hall
      show own_Go p.tables e below _ (T101.setTop (mkF m 3 #[.val (.ref a1), .val (.int i), .val (.ref a2), .val (.int i), .val (.int p_), .val (.int i), s6] []))
      refine own_st (fun t_ k_ => XS.iload X101.here hx rfl (hb hby own_d6_3) rfl k_) ?_
      show own_Go p.tables e below _ (T101.setTop (mkF m 5 #[.val (.ref a1), .val (.int i), .val (.ref a2), .val (.int i), .val (.int p_), .val (.int i), s6] [(.int i)]))
      refine own_st (fun t_ k_ => XS.iload X101.here hx rfl (hb hby own_d6_5) rfl k_) ?_
      show own_Go p.tables e below _ (T101.setTop (mkF m 7 #[.val (.ref a1), .val (.int i), .val (.ref a2), .val (.int i), .val (.int p_), .val (.int i), s6] [(.int p_), (.int i)]))
      by_cases c7_102 : i < p_
      · skip
        have hkn : k < n1 := (own_ltp hi hp.1).mp c7_102
        refine own_st (fun t_ k_ => XS.icmpNo X101.here hx rfl (hb hby own_d6_7) rfl (tlt c7_102).2.1 k_) ?_
        show own_Go p.tables e below _ (T101.setTop (mkF m 10 #[.val (.ref a1), .val (.int i), .val (.ref a2), .val (.int i), .val (.int p_), .val (.int i), s6] []))
        refine own_st (fun t_ k_ => XS.aloadN X101.here hx rfl (hb hby own_d6_10) rfl rfl k_) ?_
        show own_Go p.tables e below _ (T101.setTop (mkF m 11 #[.val (.ref a1), .val (.int i), .val (.ref a2), .val (.int i), .val (.int p_), .val (.int i), s6] [(.ref a1)]))
        refine own_st (fun t_ k_ => XS.iloadN X101.here hx rfl (hb hby own_d6_11) rfl k_) ?_
        show own_Go p.tables e below _ (T101.setTop (mkF m 12 #[.val (.ref a1), .val (.int i), .val (.ref a2), .val (.int i), .val (.int p_), .val (.int i), s6] [(.int i), (.ref a1)]))
        refine own_st (own_caload X101 hx hZ e101 fa101_0 (i := k) hi hkn (g := (mkF m 12 #[.val (.ref a1), .val (.int i), .val (.ref a2), .val (.int i), .val (.int p_), .val (.int i), s6] [(.int i), (.ref a1)])) rfl rfl (hb hby own_d6_12)) ?_
        show own_Go p.tables e below _ (T101.setTop (mkF m 13 #[.val (.ref a1), .val (.int i), .val (.ref a2), .val (.int i), .val (.int p_), .val (.int i), s6] [(.int (cs k))]))
        refine own_st (fun t_ k_ => XS.istoreS X101.here hx rfl (hb hby own_d6_13) rfl rfl hs6 k_) ?_
        show own_Go p.tables e below _ (T101.setTop (mkF m 15 #[.val (.ref a1), .val (.int i), .val (.ref a2), .val (.int i), .val (.int p_), .val (.int i), .val (.int (cs k))] []))
        refine own_st (fun t_ k_ => XS.iload X101.here hx rfl (hb hby own_d6_15) rfl k_) ?_
        show own_Go p.tables e below _ (T101.setTop (mkF m 17 #[.val (.ref a1), .val (.int i), .val (.ref a2), .val (.int i), .val (.int p_), .val (.int i), .val (.int (cs k))] [(.int (cs k))]))
        refine own_st (fun t_ k_ => XS.sipush X101.here hx rfl (hb hby own_d6_17) k_) ?_
        show own_Go p.tables e below _ (T101.setTop (mkF m 20 #[.val (.ref a1), .val (.int i), .val (.ref a2), .val (.int i), .val (.int p_), .val (.int i), .val (.int (cs k))] [(.int (255 : Int32)), (.int (cs k))]))
        by_cases c20_103 : (255 : Int32) < (cs k)
        · skip
          have hle := c20_103
          refine own_st (fun t_ k_ => XS.icmpNo X101.here hx rfl (hb hby own_d6_20) rfl (tlt c20_103).2.2.2 k_) ?_
          show own_Go p.tables e below _ (T101.setTop (mkF m 23 #[.val (.ref a1), .val (.int i), .val (.ref a2), .val (.int i), .val (.int p_), .val (.int i), .val (.int (cs k))] []))
          refine own_st (fun t_ k_ => XS.iload X101.here hx rfl (hb hby own_d6_23) rfl k_) ?_
          show own_Go p.tables e below _ (T101.setTop (mkF m 25 #[.val (.ref a1), .val (.int i), .val (.ref a2), .val (.int i), .val (.int p_), .val (.int i), .val (.int (cs k))] [(.int i)]))
          exact own_ret (w := (.int i)) X101 hx hnl Bd.returns rfl (Or.inl ⟨rfl, by decide, _, rfl⟩) (hb hby own_d6_25) ⟨k, (by rw [own_asN hi]), N101, (by rw [e101]; exact K101), (by rw [e101]; exact fa101_1), ⟨hk, hall, fun _ => hle⟩⟩ (by decide) (by decide)
        · skip
          have hle := c20_103
          refine own_st (fun t_ k_ => XS.icmpYes X101.here hx rfl (pc0 := 20) (pc' := 26) rfl (hb hby own_d6_20) rfl (flt c20_103).2.2.2 (by decide) (by decide) k_) ?_
          show own_Go p.tables e below _ (T101.setTop (mkF m 26 #[.val (.ref a1), .val (.int i), .val (.ref a2), .val (.int i), .val (.int p_), .val (.int i), .val (.int (cs k))] []))
          refine own_st (fun t_ k_ => XS.aloadN X101.here hx rfl (hb hby own_d6_26) rfl rfl k_) ?_
          show own_Go p.tables e below _ (T101.setTop (mkF m 27 #[.val (.ref a1), .val (.int i), .val (.ref a2), .val (.int i), .val (.int p_), .val (.int i), .val (.int (cs k))] [(.ref a2)]))
          refine own_st (fun t_ k_ => XS.iloadN X101.here hx rfl (hb hby own_d6_27) rfl k_) ?_
          show own_Go p.tables e below _ (T101.setTop (mkF m 28 #[.val (.ref a1), .val (.int i), .val (.ref a2), .val (.int i), .val (.int p_), .val (.int i), .val (.int (cs k))] [(.int i), (.ref a2)]))
          refine own_st (fun t_ k_ => XS.iload X101.here hx rfl (hb hby own_d6_28) rfl k_) ?_
          show own_Go p.tables e below _ (T101.setTop (mkF m 30 #[.val (.ref a1), .val (.int i), .val (.ref a2), .val (.int i), .val (.int p_), .val (.int i), .val (.int (cs k))] [(.int (cs k)), (.int i), (.ref a2)]))
          refine own_st (fun t_ k_ => XS.i2b X101.here hx rfl (hb hby own_d6_30) rfl k_) ?_
          show own_Go p.tables e below _ (T101.setTop (mkF m 31 #[.val (.ref a1), .val (.int i), .val (.ref a2), .val (.int i), .val (.int p_), .val (.int i), .val (.int (cs k))] [(.int ((cs k).toInt8.toInt32)), (.int i), (.ref a2)]))
          obtain ⟨T104, h104, X104, e104, W104, Aw104, st104⟩ := own_bastore X101 hx hZ e101 fa101_1 (i := k) hi hkn (own_narb _) (v' := ((cs k).toInt8.toInt32)) (g := (mkF m 31 #[.val (.ref a1), .val (.int i), .val (.ref a2), .val (.int i), .val (.int p_), .val (.int i), .val (.int (cs k))] [(.int ((cs k).toInt8.toInt32)), (.int i), (.ref a2)])) rfl rfl (hb hby own_d6_31)
          have N104 := Fr.snoc X104 N101 q2
          have K104 : Keep h0 h104 [a2] := K101.wr W104 (Or.inl (List.mem_of_getElem? (i := 0) rfl))
          refine own_st (st104) ?_
          show own_Go p.tables e below _ (T104.setTop (mkF m 32 #[.val (.ref a1), .val (.int i), .val (.ref a2), .val (.int i), .val (.int p_), .val (.int i), .val (.int (cs k))] []))
          have Ac105 : own_A Z h104 a2 k2 .byte n1 (fun i => .int ((own_cb cs f2 (k + 1)) i)) := Aw104.congr (fun q _ => by rw [own_cb_up])
          refine own_st (fun t_ k_ => XS.iinc X104.here hx rfl (hb hby own_d6_32) rfl (l' := #[.val (.ref a1), .val (.int (i + (1 : Int32))), .val (.ref a2), .val (.int i), .val (.int p_), .val (.int i), .val (.int (cs k))]) rfl k_) ?_
          show own_Go p.tables e below _ (T104.setTop (mkF m 35 #[.val (.ref a1), .val (.int (i + (1 : Int32))), .val (.ref a2), .val (.int i), .val (.int p_), .val (.int i), .val (.int (cs k))] []))
          refine own_st (fun t_ k_ => XS.iinc X104.here hx rfl (hb hby own_d6_35) rfl (l' := #[.val (.ref a1), .val (.int (i + (1 : Int32))), .val (.ref a2), .val (.int (i + (1 : Int32))), .val (.int p_), .val (.int i), .val (.int (cs k))]) rfl k_) ?_
          show own_Go p.tables e below _ (T104.setTop (mkF m 38 #[.val (.ref a1), .val (.int (i + (1 : Int32))), .val (.ref a2), .val (.int (i + (1 : Int32))), .val (.int p_), .val (.int i), .val (.int (cs k))] []))
          refine own_st (fun t_ k_ => XS.iinc X104.here hx rfl (hb hby own_d6_38) rfl (l' := #[.val (.ref a1), .val (.int (i + (1 : Int32))), .val (.ref a2), .val (.int (i + (1 : Int32))), .val (.int p_), .val (.int (i + (1 : Int32))), .val (.int (cs k))]) rfl k_) ?_
          show own_Go p.tables e below _ (T104.setTop (mkF m 41 #[.val (.ref a1), .val (.int (i + (1 : Int32))), .val (.ref a2), .val (.int (i + (1 : Int32))), .val (.int p_), .val (.int (i + (1 : Int32))), .val (.int (cs k))] []))
          refine own_st (fun t_ k_ => XS.goto X104.here hx rfl (pc0 := 41) (pc' := 3) rfl (hb hby own_d6_41) (by decide) (by decide) k_) ?_
          show own_Go p.tables e below _ (T104.setTop (mkF m 3 #[.val (.ref a1), .val (.int (i + (1 : Int32))), .val (.ref a2), .val (.int (i + (1 : Int32))), .val (.int p_), .val (.int (i + (1 : Int32))), .val (.int (cs k))] []))
          exact ih101 _ (by omega) (k + 1) (i + (1 : Int32)) (.val (.int (cs k))) T104 _ h104 rfl X104 e104 N104 K104 ((fa101_0.other W104 hne)) (Ac105) (own_inc hi (by omega)) (by omega) (One.val rfl) (fun q hq => by by_cases e_ : q = k; exact e_ ▸ hle; exact hall q (by omega))
      · skip
        have hkn : k = n1 := by have q := mt (own_ltp hi hp.1).mpr c7_102; omega
        have Af : own_A Z h101 a2 k2 .byte n1 (fun i => .int ((own_cb cs f2 n1) i)) := fa101_1.congr (fun q _ => by rw [hkn])
        refine own_st (fun t_ k_ => XS.icmpYes X101.here hx rfl (pc0 := 7) (pc' := 44) rfl (hb hby own_d6_7) rfl (flt c7_102).2.1 (by decide) (by decide) k_) ?_
        show own_Go p.tables e below _ (T101.setTop (mkF m 44 #[.val (.ref a1), .val (.int i), .val (.ref a2), .val (.int i), .val (.int p_), .val (.int i), s6] []))
        refine own_st (fun t_ k_ => XS.iload X101.here hx rfl (hb hby own_d6_44) rfl k_) ?_
        show own_Go p.tables e below _ (T101.setTop (mkF m 46 #[.val (.ref a1), .val (.int i), .val (.ref a2), .val (.int i), .val (.int p_), .val (.int i), s6] [(.int p_)]))
        exact own_ret (w := (.int p_)) X101 hx hnl Bd.returns rfl (Or.inl ⟨rfl, by decide, _, rfl⟩) (hb hby own_d6_46) ⟨n1, (by rw [own_asN hp.1]), N101, (by rw [e101]; exact K101), (by rw [e101]; exact Af), ⟨Nat.le_refl _, fun q hq => hall q (by omega), fun h_ => absurd h_ (Nat.lt_irrefl _)⟩⟩ (by decide) (by decide)
  exact loop101 _ 0 (0 : Int32) .unset s₁ _ h0 rfl X0 e0 N0 (Keep.refl h0 [a2]) (q0) (qb0) (by decide) (Nat.zero_le _) One.u (fun q hq => absurd hq (Nat.not_lt_zero _))

theorem own_d7_0 : decode jdk_52_method_15_code 0 = .ok (.iload_n 1, 1) := by decide +kernel
theorem own_d7_1 : decode jdk_52_method_15_code 1 = .ok (.aload_n 0, 1) := by decide +kernel
theorem own_d7_2 : decode jdk_52_method_15_code 2 = .ok (.arraylength, 1) := by decide +kernel
theorem own_d7_3 : decode jdk_52_method_15_code 3 = .ok (.isub, 1) := by decide +kernel
theorem own_d7_4 : decode jdk_52_method_15_code 4 = .ok (.bipush 31, 2) := by decide +kernel
theorem own_d7_6 : decode jdk_52_method_15_code 6 = .ok (.iushr, 1) := by decide +kernel
theorem own_d7_7 : decode jdk_52_method_15_code 7 = .ok (.i2b, 1) := by decide +kernel
theorem own_d7_8 : decode jdk_52_method_15_code 8 = .ok (.ireturn, 1) := by decide +kernel
theorem own_ef7 (m : MethodId) (x0 : Addr) (x1 : Int32) : entryFrame m #[(.ref x0), (.int x1)] 2 = mkF m 0 #[.val (.ref x0), .val (.int x1)] [] := by first | (simp [entryFrame, mkF, argsToLocals, Value.category]; done) | rfl
def own_Q7 (Z : State) (t : Addr) (p_ : Int32) (kt : ClassId) (cd : Int32) (n1 : Nat) (gb : Nat → Int32) (h0 : Heap) (n0 : Nat) (v : Option Value) (h : Heap) (L : List Loc) : Prop := v = some (.int cd) ∧ Fr n0 L ∧ h = h0
set_option maxRecDepth 65536 in
set_option maxHeartbeats 40000000 in
theorem own_rm7 (l : Launch) (Z : State) (a0 : Array Value) (hw : ∀ d ∈ tables_1, d.before a0 Z = true) (ws : List Jvm.Cond) (t : Addr) (p_ : Int32) (kt : ClassId) (cd : Int32) (n1 : Nat) (gb : Nat → Int32) (h0 : Heap) (n0 : Nat) (Z0 : n0 ≤ h0.size) (q0 : own_A Z h0 t kt .byte (own_bl cd n1) (fun i => .int (gb i))) (hcd : (cd = 0 ∨ cd = 1)) (hp : (p_.toInt = (n1 : Int) ∧ 1 ≤ n1 ∧ n1 < 100000)) :
    MetFree l (⟨"java/lang/StringUTF16", "coderFromArrayLen", "([BI)B"⟩ : MethodName) (head1 (Jvm.Cond.code (⟨"java/lang/StringUTF16", "coderFromArrayLen", "([BI)B"⟩ : MethodName) jdk_52_method_15_code 2 (some .byte) :: ws) ({ frames := 0, cells := 0, slots := 0, locals := 0 } : Room)) (fun a U => a = #[(.ref t), (.int p_)] ∧ Z.Warmed39 U.vm ∧ U.heap = h0) (fun _ _ _ _ _ => True) (fun _ U o U' => ∃ v L, o = .returned v ∧ own_Q7 Z t p_ kt cd n1 gb h0 n0 v U'.heap L ∧ FrameEnd U o U' L ({ frames := 0, cells := 0, slots := 0, locals := 0 } : Room).cells ({ frames := 0, cells := 0, slots := 0, locals := 0 } : Room).slots) := by
  refine MetFree.of_bodySF (plainFor_of_name own_pn0) hisR ?_
  intro p e s m args below meth c s₁ Bd hml0 hP hK
  obtain ⟨rfl, hZ, hh⟩ := hP
  have hx := Bd.exec
  have hby := Bd.bytes
  have hml : c.maxLocals = 2 := hml0
  have hown : s.vm.findClass "java/lang/StringUTF16" = some m.cls := findClass_of_methodNamed Bd.named
  have hnm := (name_of_methodNamed Bd.named Bd.method).1
  have hnl : meth.locks = false := Bd.notSynchronized
  have X0 : Stand p l e ({ frames := 0, cells := 0, slots := 0, locals := 0 } : Room) s m #[(.ref t), (.int p_)] below meth c s₁ [] 0 0 := Stand.of_body Bd
  have e0 : s₁.heap = h0 := by rw [← hh, Bd.state]; rfl
  have N0 := Fr.nil n0
  show own_Go p.tables e below (own_P below s (own_Q7 Z t p_ kt cd n1 gb h0 n0) ({ frames := 0, cells := 0, slots := 0, locals := 0 } : Room).cells ({ frames := 0, cells := 0, slots := 0, locals := 0 } : Room).slots) _
  refine own_st (fun t_ k_ => castTop (own_ef7 m t p_) k_) ?_
  show own_Go p.tables e below _ (s₁.setTop (mkF m 0 #[.val (.ref t), .val (.int p_)] []))
  refine own_st (fun t_ k_ => XS.iloadN X0.here hx rfl (hb hby own_d7_0) rfl k_) ?_
  show own_Go p.tables e below _ (s₁.setTop (mkF m 1 #[.val (.ref t), .val (.int p_)] [(.int p_)]))
  refine own_st (fun t_ k_ => XS.aloadN X0.here hx rfl (hb hby own_d7_1) rfl rfl k_) ?_
  show own_Go p.tables e below _ (s₁.setTop (mkF m 2 #[.val (.ref t), .val (.int p_)] [(.ref t), (.int p_)]))
  refine own_st (own_len X0 hx hZ e0 q0 (g := (mkF m 2 #[.val (.ref t), .val (.int p_)] [(.ref t), (.int p_)])) rfl rfl (hb hby own_d7_2)) ?_
  show own_Go p.tables e below _ (s₁.setTop (mkF m 3 #[.val (.ref t), .val (.int p_)] [(.int (Int32.ofNat (own_bl cd n1))), (.int p_)]))
  refine own_st (fun t_ k_ => XS.isub X0.here hx rfl (hb hby own_d7_3) rfl k_) ?_
  show own_Go p.tables e below _ (s₁.setTop (mkF m 4 #[.val (.ref t), .val (.int p_)] [(.int (p_ - (Int32.ofNat (own_bl cd n1))))]))
  refine own_st (fun t_ k_ => XS.bipush X0.here hx rfl (hb hby own_d7_4) k_) ?_
  show own_Go p.tables e below _ (s₁.setTop (mkF m 6 #[.val (.ref t), .val (.int p_)] [(.int (31 : Int32)), (.int (p_ - (Int32.ofNat (own_bl cd n1))))]))
  refine own_st (fun t_ k_ => XS.iushr X0.here hx rfl (hb hby own_d7_6) rfl k_) ?_
  show own_Go p.tables e below _ (s₁.setTop (mkF m 7 #[.val (.ref t), .val (.int p_)] [(.int (((p_ - (Int32.ofNat (own_bl cd n1))).toUInt32 >>> ((31 : Int32) &&& 31).toUInt32).toInt32))]))
  refine own_st (fun t_ k_ => XS.i2b X0.here hx rfl (hb hby own_d7_7) rfl k_) ?_
  show own_Go p.tables e below _ (s₁.setTop (mkF m 8 #[.val (.ref t), .val (.int p_)] [(.int ((((p_ - (Int32.ofNat (own_bl cd n1))).toUInt32 >>> ((31 : Int32) &&& 31).toUInt32).toInt32).toInt8.toInt32))]))
  rw [show ((((p_ - (Int32.ofNat (own_bl cd n1))).toUInt32 >>> ((31 : Int32) &&& 31).toUInt32).toInt32).toInt8.toInt32) = cd from own_cdl hcd hp.1 hp.2]
  show own_Go p.tables e below _ (s₁.setTop (mkF m 8 #[.val (.ref t), .val (.int p_)] [(.int cd)]))
  exact own_ret (w := (.int cd)) X0 hx hnl Bd.returns (own_nw01 hcd) (Or.inl ⟨rfl, by decide, _, rfl⟩) (hb hby own_d7_8) ⟨rfl, N0, e0⟩ (by decide) (by decide)

theorem own_d14_0 : decode jdk_52_method_3_code 0 = .ok (.iload_n 0, 1) := by decide +kernel
theorem own_d14_1 : decode jdk_52_method_3_code 1 = .ok (.ifCond .ge 11, 3) := by decide +kernel
theorem own_d14_12 : decode jdk_52_method_3_code 12 = .ok (.iload_n 0, 1) := by decide +kernel
theorem own_d14_13 : decode jdk_52_method_3_code 13 = .ok (.ldc 20, 2) := by decide +kernel
theorem own_d14_15 : decode jdk_52_method_3_code 15 = .ok (.if_icmp .lt 40, 3) := by decide +kernel
theorem own_d14_55 : decode jdk_52_method_3_code 55 = .ok (.iload_n 0, 1) := by decide +kernel
theorem own_d14_56 : decode jdk_52_method_3_code 56 = .ok (.iconst 1, 1) := by decide +kernel
theorem own_d14_57 : decode jdk_52_method_3_code 57 = .ok (.ishl, 1) := by decide +kernel
theorem own_d14_58 : decode jdk_52_method_3_code 58 = .ok (.ireturn, 1) := by decide +kernel
theorem own_ef14 (m : MethodId) (x0 : Int32) : entryFrame m #[(.int x0)] 1 = mkF m 0 #[.val (.int x0)] [] := by first | (simp [entryFrame, mkF, argsToLocals, Value.category]; done) | rfl
def own_Q14 (Z : State) (p_ : Int32) (n1 : Nat) (h0 : Heap) (n0 : Nat) (v : Option Value) (h : Heap) (L : List Loc) : Prop := v = some (.int (p_ <<< ((1 : Int32) &&& 31))) ∧ Fr n0 L ∧ h = h0
set_option maxRecDepth 65536 in
set_option maxHeartbeats 40000000 in
theorem own_rm14 (l : Launch) (Z : State) (a0 : Array Value) (hw : ∀ d ∈ tables_1, d.before a0 Z = true) (ws : List Jvm.Cond) (p_ : Int32) (n1 : Nat) (h0 : Heap) (n0 : Nat) (Z0 : n0 ≤ h0.size) (hp : (p_.toInt = (n1 : Int) ∧ n1 ≤ 6)) :
    MetFree l (⟨"java/lang/StringUTF16", "newBytesLength", "(I)I"⟩ : MethodName) (head1 (Jvm.Cond.code (⟨"java/lang/StringUTF16", "newBytesLength", "(I)I"⟩ : MethodName) jdk_52_method_3_code 1 (some .int) :: ws) ({ frames := 0, cells := 0, slots := 0, locals := 0 } : Room)) (fun a U => a = #[(.int p_)] ∧ Z.Warmed39 U.vm ∧ U.heap = h0) (fun _ _ _ _ _ => True) (fun _ U o U' => ∃ v L, o = .returned v ∧ own_Q14 Z p_ n1 h0 n0 v U'.heap L ∧ FrameEnd U o U' L ({ frames := 0, cells := 0, slots := 0, locals := 0 } : Room).cells ({ frames := 0, cells := 0, slots := 0, locals := 0 } : Room).slots) := by
  refine MetFree.of_bodySF (plainFor_of_name own_pn0) hisR ?_
  intro p e s m args below meth c s₁ Bd hml0 hP hK
  obtain ⟨rfl, hZ, hh⟩ := hP
  have hx := Bd.exec
  have hby := Bd.bytes
  have hml : c.maxLocals = 1 := hml0
  have hown : s.vm.findClass "java/lang/StringUTF16" = some m.cls := findClass_of_methodNamed Bd.named
  have hnm := (name_of_methodNamed Bd.named Bd.method).1
  have hnl : meth.locks = false := Bd.notSynchronized
  have X0 : Stand p l e ({ frames := 0, cells := 0, slots := 0, locals := 0 } : Room) s m #[(.int p_)] below meth c s₁ [] 0 0 := Stand.of_body Bd
  have e0 : s₁.heap = h0 := by rw [← hh, Bd.state]; rfl
  have N0 := Fr.nil n0
  show own_Go p.tables e below (own_P below s (own_Q14 Z p_ n1 h0 n0) ({ frames := 0, cells := 0, slots := 0, locals := 0 } : Room).cells ({ frames := 0, cells := 0, slots := 0, locals := 0 } : Room).slots) _
  refine own_st (fun t_ k_ => castTop (own_ef14 m p_) k_) ?_
  show own_Go p.tables e below _ (s₁.setTop (mkF m 0 #[.val (.int p_)] []))
  refine own_st (fun t_ k_ => XS.iloadN X0.here hx rfl (hb hby own_d14_0) rfl k_) ?_
  show own_Go p.tables e below _ (s₁.setTop (mkF m 1 #[.val (.int p_)] [(.int p_)]))
  refine own_st (fun t_ k_ => XS.ifYes X0.here hx rfl (pc0 := 1) (pc' := 12) rfl (hb hby own_d14_1) rfl ((if0 _ _).trans (flt (own_nn hp.1)).2.1) (by decide) (by decide) k_) ?_
  show own_Go p.tables e below _ (s₁.setTop (mkF m 12 #[.val (.int p_)] []))
  refine own_st (fun t_ k_ => XS.iloadN X0.here hx rfl (hb hby own_d14_12) rfl k_) ?_
  show own_Go p.tables e below _ (s₁.setTop (mkF m 13 #[.val (.int p_)] [(.int p_)]))
  refine own_st (X0.ldcInt hx hown (mvT hZ (hw _ (List.mem_of_getElem? (i := 57) rfl))) (g := (mkF m 13 #[.val (.int p_)] [(.int p_)])) rfl (hb hby own_d14_13)) ?_
  show own_Go p.tables e below _ (s₁.setTop (mkF m 15 #[.val (.int p_)] [(.int (1073741823 : Int32)), (.int p_)]))
  refine own_st (fun t_ k_ => XS.icmpYes X0.here hx rfl (pc0 := 15) (pc' := 55) rfl (hb hby own_d14_15) rfl (tlt (own_bound hp.1 (by omega))).1 (by decide) (by decide) k_) ?_
  show own_Go p.tables e below _ (s₁.setTop (mkF m 55 #[.val (.int p_)] []))
  refine own_st (fun t_ k_ => XS.iloadN X0.here hx rfl (hb hby own_d14_55) rfl k_) ?_
  show own_Go p.tables e below _ (s₁.setTop (mkF m 56 #[.val (.int p_)] [(.int p_)]))
  refine own_st (fun t_ k_ => XS.iconst X0.here hx rfl (hb hby own_d14_56) k_) ?_
  show own_Go p.tables e below _ (s₁.setTop (mkF m 57 #[.val (.int p_)] [(.int (1 : Int32)), (.int p_)]))
  refine own_st (fun t_ k_ => XS.ishl X0.here hx rfl (hb hby own_d14_57) rfl k_) ?_
  show own_Go p.tables e below _ (s₁.setTop (mkF m 58 #[.val (.int p_)] [(.int (p_ <<< ((1 : Int32) &&& 31)))]))
  exact own_ret (w := (.int (p_ <<< ((1 : Int32) &&& 31)))) X0 hx hnl Bd.returns rfl (Or.inl ⟨rfl, by decide, _, rfl⟩) (hb hby own_d14_58) ⟨rfl, N0, e0⟩ (by decide) (by decide)

theorem own_d13_0 : decode jdk_52_method_2_code 0 = .ok (.iload_n 0, 1) := by decide +kernel
theorem own_d13_1 : decode jdk_52_method_2_code 1 = .ok (.invokestatic 11, 3) := by decide +kernel
theorem own_d13_4 : decode jdk_52_method_2_code 4 = .ok (.newarray .byte, 2) := by decide +kernel
theorem own_d13_6 : decode jdk_52_method_2_code 6 = .ok (.areturn, 1) := by decide +kernel
theorem own_pd0 : parseMethodDescriptor "(I)I" = some ⟨[.int], some .int⟩ := by decide +kernel
theorem own_ef13 (m : MethodId) (x0 : Int32) : entryFrame m #[(.int x0)] 1 = mkF m 0 #[.val (.int x0)] [] := by first | (simp [entryFrame, mkF, argsToLocals, Value.category]; done) | rfl
def own_Q13 (Z : State) (p_ : Int32) (n1 : Nat) (h0 : Heap) (n0 : Nat) (v : Option Value) (h : Heap) (L : List Loc) : Prop := ∃ (t : Addr) (kt : ClassId), v = some (.ref t) ∧ Fr n0 L ∧ Keep h0 h [] ∧ h0.size ≤ t ∧ own_A Z h t kt .byte (n1 + n1) (fun i => .int ((fun _ => (0 : Int32)) i))
set_option maxRecDepth 65536 in
set_option maxHeartbeats 40000000 in
theorem own_rm13 (l : Launch) (Z : State) (a0 : Array Value) (hw : ∀ d ∈ tables_1, d.before a0 Z = true) (ws : List Jvm.Cond) (p_ : Int32) (n1 : Nat) (h0 : Heap) (n0 : Nat) (Z0 : n0 ≤ h0.size) (hp : (p_.toInt = (n1 : Int) ∧ n1 ≤ 6)) :
    MetFree l (⟨"java/lang/StringUTF16", "newBytesFor", "(I)[B"⟩ : MethodName) (head1 (Jvm.Cond.code (⟨"java/lang/StringUTF16", "newBytesFor", "(I)[B"⟩ : MethodName) jdk_52_method_2_code 1 (some (.array .byte)) :: ws) ({ frames := 1, cells := 1, slots := 12, locals := 12 } : Room)) (fun a U => a = #[(.int p_)] ∧ Z.Warmed39 U.vm ∧ U.heap = h0) (fun _ _ _ _ _ => True) (fun _ U o U' => ∃ v L, o = .returned v ∧ own_Q13 Z p_ n1 h0 n0 v U'.heap L ∧ FrameEnd U o U' L ({ frames := 1, cells := 1, slots := 12, locals := 12 } : Room).cells ({ frames := 1, cells := 1, slots := 12, locals := 12 } : Room).slots) := by
  refine MetFree.of_bodySF (plainFor_of_name own_pn0) hisR ?_
  intro p e s m args below meth c s₁ Bd hml0 hP hK
  obtain ⟨rfl, hZ, hh⟩ := hP
  have hx := Bd.exec
  have hby := Bd.bytes
  have hml : c.maxLocals = 1 := hml0
  have hown : s.vm.findClass "java/lang/StringUTF16" = some m.cls := findClass_of_methodNamed Bd.named
  have hnm := (name_of_methodNamed Bd.named Bd.method).1
  have hnl : meth.locks = false := Bd.notSynchronized
  have X0 : Stand p l e ({ frames := 1, cells := 1, slots := 12, locals := 12 } : Room) s m #[(.int p_)] below meth c s₁ [] 0 0 := Stand.of_body Bd
  have e0 : s₁.heap = h0 := by rw [← hh, Bd.state]; rfl
  have N0 := Fr.nil n0
  show own_Go p.tables e below (own_P below s (own_Q13 Z p_ n1 h0 n0) ({ frames := 1, cells := 1, slots := 12, locals := 12 } : Room).cells ({ frames := 1, cells := 1, slots := 12, locals := 12 } : Room).slots) _
  refine own_st (fun t_ k_ => castTop (own_ef13 m p_) k_) ?_
  show own_Go p.tables e below _ (s₁.setTop (mkF m 0 #[.val (.int p_)] []))
  refine own_st (fun t_ k_ => XS.iloadN X0.here hx rfl (hb hby own_d13_0) rfl k_) ?_
  show own_Go p.tables e below _ (s₁.setTop (mkF m 1 #[.val (.int p_)] [(.int p_)]))
  obtain ⟨_, _, ⟨T106, L106, k106, n106⟩, -, X106, ⟨Lc106, hQ106, l106, y106, z106⟩, st106⟩ := Jvm.LawKit.callS X0 hx (y := (⟨"java/lang/StringUTF16", "newBytesLength", "(I)I"⟩ : MethodName)) hown (mvT hZ (hw _ (List.mem_of_getElem? (i := 54) rfl))) (mvT hZ (hw _ (List.mem_of_getElem? (i := 55) rfl))) (mvT hZ (hw _ (List.mem_of_getElem? (i := 22) rfl))) (mvT hZ (hw _ (List.mem_of_getElem? (i := 56) rfl))) (by decide) (backOf (W := 0) (own_rm14 l Z a0 hw [] p_ n1 h0 n0 (Nat.le_trans Z0 (Keep.refl h0 []).1) ⟨hp.1, (by omega)⟩) hZ (hw _ (List.mem_of_getElem? (i := 56) rfl)) (hw _ (List.mem_of_getElem? (i := 22) rfl)) (by decide) (by decide)) (g := (mkF m 1 #[.val (.int p_)] [(.int p_)])) rfl (by rw [hml]; rfl) (argsL := [(.int p_)]) (rest := []) (lenOf own_pd0 rfl) rfl (by show 2 * 0 + _ ≤ _; exact Nat.le_of_eq rfl) (hb hby own_d13_1) (fun _ _ => ⟨rfl, e0, (by decide : 0 + 0 ≤ _), (by decide : 0 + 0 ≤ _)⟩)
  dsimp only [Pt.U, Pt.locs, Pt.cells, Pt.slots] at X106 l106 y106 z106 st106 hQ106
  subst y106 z106
  obtain ⟨rfl, N106q, eq106⟩ := hQ106
  have N106 : Fr n0 L106 := by rw [l106]; exact Fr.app N0 N106q
  refine own_st (st106) ?_
  show own_Go p.tables e below _ (T106.setTop (mkF m 4 #[.val (.int p_)] [(.int (p_ <<< ((1 : Int32) &&& 31)))]))
  have hs1 := own_shl1 hp.1 (by omega)
  obtain ⟨T107, h107, k107, X107, e107, E107, A107, st107⟩ := newP X106 hx hZ (hw _ (List.mem_of_getElem? (i := 24) rfl)) eq106 (g := (mkF m 4 #[.val (.int p_)] [(.int (p_ <<< ((1 : Int32) &&& 31)))])) rfl (hb hby own_d13_4) rfl (own_nn hs1) (cap := 12) (own_cl hs1 (by omega)) (by decide) (by decide) (by decide)
  obtain ⟨b107, g107⟩ : ∃ z, z = h0.size := ⟨_, rfl⟩
  rw [← g107] at A107 st107
  have fr107 : h0.size ≤ b107 := Nat.le_trans (Keep.refl h0 []).1 (Nat.le_of_eq g107.symm)
  have ge107 : n0 ≤ b107 := Nat.le_trans Z0 fr107
  have K107 : Keep h0 h107 [] := (Keep.refl h0 []).ext E107
  have Ar107 : own_A Z h107 b107 k107 .byte (n1 + n1) (fun i => .int ((fun _ => (0 : Int32)) i)) := own_A.new A107 (own_asN hs1) (own_nn hs1) (hn := by omega)
  refine own_st (st107) ?_
  show own_Go p.tables e below _ (T107.setTop (mkF m 6 #[.val (.int p_)] [(.ref b107)]))
  exact own_ret (w := (.ref b107)) X107 hx hnl Bd.returns rfl (Or.inr (Or.inr (Or.inr (Or.inr ⟨rfl, rfl, rfl⟩)))) (hb hby own_d13_6) ⟨b107, k107, rfl, N106, (by rw [e107]; exact K107), fr107, (by rw [e107]; exact Ar107)⟩ (by decide) (by decide)

theorem own_d15_0 : decode jdk_52_method_4_code 0 = .ok (.getstatic 44, 3) := by decide +kernel
theorem own_d15_3 : decode jdk_52_method_4_code 3 = .ok (.ifCond .ne 25, 3) := by decide +kernel
theorem own_d15_28 : decode jdk_52_method_4_code 28 = .ok (.iload_n 1, 1) := by decide +kernel
theorem own_d15_29 : decode jdk_52_method_4_code 29 = .ok (.iconst 1, 1) := by decide +kernel
theorem own_d15_30 : decode jdk_52_method_4_code 30 = .ok (.ishl, 1) := by decide +kernel
theorem own_d15_31 : decode jdk_52_method_4_code 31 = .ok (.istore_n 1, 1) := by decide +kernel
theorem own_d15_32 : decode jdk_52_method_4_code 32 = .ok (.aload_n 0, 1) := by decide +kernel
theorem own_d15_33 : decode jdk_52_method_4_code 33 = .ok (.iload_n 1, 1) := by decide +kernel
theorem own_d15_34 : decode jdk_52_method_4_code 34 = .ok (.iinc 1 1, 3) := by decide +kernel
theorem own_d15_37 : decode jdk_52_method_4_code 37 = .ok (.iload_n 2, 1) := by decide +kernel
theorem own_d15_38 : decode jdk_52_method_4_code 38 = .ok (.getstatic 59, 3) := by decide +kernel
theorem own_d15_41 : decode jdk_52_method_4_code 41 = .ok (.ishr, 1) := by decide +kernel
theorem own_d15_42 : decode jdk_52_method_4_code 42 = .ok (.i2b, 1) := by decide +kernel
theorem own_d15_43 : decode jdk_52_method_4_code 43 = .ok (.bastore, 1) := by decide +kernel
theorem own_d15_44 : decode jdk_52_method_4_code 44 = .ok (.aload_n 0, 1) := by decide +kernel
theorem own_d15_45 : decode jdk_52_method_4_code 45 = .ok (.iload_n 1, 1) := by decide +kernel
theorem own_d15_46 : decode jdk_52_method_4_code 46 = .ok (.iload_n 2, 1) := by decide +kernel
theorem own_d15_47 : decode jdk_52_method_4_code 47 = .ok (.getstatic 63, 3) := by decide +kernel
theorem own_d15_50 : decode jdk_52_method_4_code 50 = .ok (.ishr, 1) := by decide +kernel
theorem own_d15_51 : decode jdk_52_method_4_code 51 = .ok (.i2b, 1) := by decide +kernel
theorem own_d15_52 : decode jdk_52_method_4_code 52 = .ok (.bastore, 1) := by decide +kernel
theorem own_d15_53 : decode jdk_52_method_4_code 53 = .ok (.return_, 1) := by decide +kernel
theorem own_ef15 (m : MethodId) (x0 : Addr) (x1 : Int32) (x2 : Int32) : entryFrame m #[(.ref x0), (.int x1), (.int x2)] 3 = mkF m 0 #[.val (.ref x0), .val (.int x1), .val (.int x2)] [] := by first | (simp [entryFrame, mkF, argsToLocals, Value.category]; done) | rfl
def own_Q15 (Z : State) (a1 : Addr) (q_ : Int32) (ch : Int32) (k1 : ClassId) (m1 : Nat) (gb : Nat → Int32) (qn : Nat) (h0 : Heap) (n0 : Nat) (v : Option Value) (h : Heap) (L : List Loc) : Prop := v = none ∧ Fr n0 L ∧ Keep h0 h [a1] ∧ own_A Z h a1 k1 .byte m1 (fun i => .int ((own_upd (own_upd gb (qn + qn) ((ch >>> ((0 : Int32) &&& 31)).toInt8.toInt32)) (qn + qn + 1) ((ch >>> ((8 : Int32) &&& 31)).toInt8.toInt32)) i))
set_option maxRecDepth 65536 in
set_option maxHeartbeats 40000000 in
theorem own_rm15 (l : Launch) (Z : State) (a0 : Array Value) (hw : ∀ d ∈ tables_1, d.before a0 Z = true) (ws : List Jvm.Cond) (a1 : Addr) (q_ : Int32) (ch : Int32) (k1 : ClassId) (m1 : Nat) (gb : Nat → Int32) (qn : Nat) (h0 : Heap) (n0 : Nat) (Z0 : n0 ≤ h0.size) (q0 : Old Z n0 h0) (q1 : Sta Z Z.heap "java/lang/StringUTF16" "$assertionsDisabled" "Z" (.int (1 : Int32))) (q2 : Sta Z Z.heap "java/lang/StringUTF16" "HI_BYTE_SHIFT" "I" (.int (0 : Int32))) (q3 : Sta Z Z.heap "java/lang/StringUTF16" "LO_BYTE_SHIFT" "I" (.int (8 : Int32))) (q4 : own_A Z h0 a1 k1 .byte m1 (fun i => .int (gb i))) (q5 : n0 ≤ a1) (hq : (q_.toInt = (qn : Int) ∧ qn + qn + 1 < m1 ∧ m1 ≤ 10000)) :
    MetFree l (⟨"java/lang/StringUTF16", "putChar", "([BII)V"⟩ : MethodName) (head1 (Jvm.Cond.code (⟨"java/lang/StringUTF16", "putChar", "([BII)V"⟩ : MethodName) jdk_52_method_4_code 3 none :: ws) ({ frames := 0, cells := 0, slots := 0, locals := 0 } : Room)) (fun a U => a = #[(.ref a1), (.int q_), (.int ch)] ∧ Z.Warmed39 U.vm ∧ U.heap = h0) (fun _ _ _ _ _ => True) (fun _ U o U' => ∃ v L, o = .returned v ∧ own_Q15 Z a1 q_ ch k1 m1 gb qn h0 n0 v U'.heap L ∧ FrameEnd U o U' L ({ frames := 0, cells := 0, slots := 0, locals := 0 } : Room).cells ({ frames := 0, cells := 0, slots := 0, locals := 0 } : Room).slots) := by
  refine MetFree.of_bodySF (plainFor_of_name own_pn0) hisR ?_
  intro p e s m args below meth c s₁ Bd hml0 hP hK
  obtain ⟨rfl, hZ, hh⟩ := hP
  have hx := Bd.exec
  have hby := Bd.bytes
  have hml : c.maxLocals = 3 := hml0
  have hown : s.vm.findClass "java/lang/StringUTF16" = some m.cls := findClass_of_methodNamed Bd.named
  have hnm := (name_of_methodNamed Bd.named Bd.method).1
  have hnl : meth.locks = false := Bd.notSynchronized
  have X0 : Stand p l e ({ frames := 0, cells := 0, slots := 0, locals := 0 } : Room) s m #[(.ref a1), (.int q_), (.int ch)] below meth c s₁ [] 0 0 := Stand.of_body Bd
  have e0 : s₁.heap = h0 := by rw [← hh, Bd.state]; rfl
  have N0 := Fr.nil n0
  show own_Go p.tables e below (own_P below s (own_Q15 Z a1 q_ ch k1 m1 gb qn h0 n0) ({ frames := 0, cells := 0, slots := 0, locals := 0 } : Room).cells ({ frames := 0, cells := 0, slots := 0, locals := 0 } : Room).slots) _
  refine own_st (fun t_ k_ => castTop (own_ef15 m a1 q_ ch) k_) ?_
  show own_Go p.tables e below _ (s₁.setTop (mkF m 0 #[.val (.ref a1), .val (.int q_), .val (.int ch)] []))
  obtain ⟨T108, X108, e108, st108⟩ := getS2 X0 hx hZ hown (host := "") (Or.inl (hw _ (List.mem_of_getElem? (i := 61) rfl))) Via.refl e0 (q1.ext q0.2) (g := (mkF m 0 #[.val (.ref a1), .val (.int q_), .val (.int ch)] [])) rfl (hb hby own_d15_0)
  refine own_st (st108) ?_
  show own_Go p.tables e below _ (T108.setTop (mkF m 3 #[.val (.ref a1), .val (.int q_), .val (.int ch)] [(.int (1 : Int32))]))
  refine own_st (fun t_ k_ => XS.ifYes X108.here hx rfl (pc0 := 3) (pc' := 28) rfl (hb hby own_d15_3) rfl ((if0 _ _).trans (feq (by decide : ¬ ((1 : Int32) = (0 : Int32)))).2) (by decide) (by decide) k_) ?_
  show own_Go p.tables e below _ (T108.setTop (mkF m 28 #[.val (.ref a1), .val (.int q_), .val (.int ch)] []))
  refine own_st (fun t_ k_ => XS.iloadN X108.here hx rfl (hb hby own_d15_28) rfl k_) ?_
  show own_Go p.tables e below _ (T108.setTop (mkF m 29 #[.val (.ref a1), .val (.int q_), .val (.int ch)] [(.int q_)]))
  refine own_st (fun t_ k_ => XS.iconst X108.here hx rfl (hb hby own_d15_29) k_) ?_
  show own_Go p.tables e below _ (T108.setTop (mkF m 30 #[.val (.ref a1), .val (.int q_), .val (.int ch)] [(.int (1 : Int32)), (.int q_)]))
  refine own_st (fun t_ k_ => XS.ishl X108.here hx rfl (hb hby own_d15_30) rfl k_) ?_
  show own_Go p.tables e below _ (T108.setTop (mkF m 31 #[.val (.ref a1), .val (.int q_), .val (.int ch)] [(.int (q_ <<< ((1 : Int32) &&& 31)))]))
  refine own_st (fun t_ k_ => XS.istoreN X108.here hx rfl (hb hby own_d15_31) rfl (l' := #[.val (.ref a1), .val (.int (q_ <<< ((1 : Int32) &&& 31))), .val (.int ch)]) rfl k_) ?_
  show own_Go p.tables e below _ (T108.setTop (mkF m 32 #[.val (.ref a1), .val (.int (q_ <<< ((1 : Int32) &&& 31))), .val (.int ch)] []))
  refine own_st (fun t_ k_ => XS.aloadN X108.here hx rfl (hb hby own_d15_32) rfl rfl k_) ?_
  show own_Go p.tables e below _ (T108.setTop (mkF m 33 #[.val (.ref a1), .val (.int (q_ <<< ((1 : Int32) &&& 31))), .val (.int ch)] [(.ref a1)]))
  refine own_st (fun t_ k_ => XS.iloadN X108.here hx rfl (hb hby own_d15_33) rfl k_) ?_
  show own_Go p.tables e below _ (T108.setTop (mkF m 34 #[.val (.ref a1), .val (.int (q_ <<< ((1 : Int32) &&& 31))), .val (.int ch)] [(.int (q_ <<< ((1 : Int32) &&& 31))), (.ref a1)]))
  refine own_st (fun t_ k_ => XS.iinc X108.here hx rfl (hb hby own_d15_34) rfl (l' := #[.val (.ref a1), .val (.int ((q_ <<< ((1 : Int32) &&& 31)) + (1 : Int32))), .val (.int ch)]) rfl k_) ?_
  show own_Go p.tables e below _ (T108.setTop (mkF m 37 #[.val (.ref a1), .val (.int ((q_ <<< ((1 : Int32) &&& 31)) + (1 : Int32))), .val (.int ch)] [(.int (q_ <<< ((1 : Int32) &&& 31))), (.ref a1)]))
  refine own_st (fun t_ k_ => XS.iloadN X108.here hx rfl (hb hby own_d15_37) rfl k_) ?_
  show own_Go p.tables e below _ (T108.setTop (mkF m 38 #[.val (.ref a1), .val (.int ((q_ <<< ((1 : Int32) &&& 31)) + (1 : Int32))), .val (.int ch)] [(.int ch), (.int (q_ <<< ((1 : Int32) &&& 31))), (.ref a1)]))
  obtain ⟨T109, X109, e109, st109⟩ := getS2 X108 hx hZ hown (host := "") (Or.inl (hw _ (List.mem_of_getElem? (i := 62) rfl))) Via.refl e108 (q2.ext q0.2) (g := (mkF m 38 #[.val (.ref a1), .val (.int ((q_ <<< ((1 : Int32) &&& 31)) + (1 : Int32))), .val (.int ch)] [(.int ch), (.int (q_ <<< ((1 : Int32) &&& 31))), (.ref a1)])) rfl (hb hby own_d15_38)
  refine own_st (st109) ?_
  show own_Go p.tables e below _ (T109.setTop (mkF m 41 #[.val (.ref a1), .val (.int ((q_ <<< ((1 : Int32) &&& 31)) + (1 : Int32))), .val (.int ch)] [(.int (0 : Int32)), (.int ch), (.int (q_ <<< ((1 : Int32) &&& 31))), (.ref a1)]))
  refine own_st (fun t_ k_ => XS.ishr X109.here hx rfl (hb hby own_d15_41) rfl k_) ?_
  show own_Go p.tables e below _ (T109.setTop (mkF m 42 #[.val (.ref a1), .val (.int ((q_ <<< ((1 : Int32) &&& 31)) + (1 : Int32))), .val (.int ch)] [(.int (ch >>> ((0 : Int32) &&& 31))), (.int (q_ <<< ((1 : Int32) &&& 31))), (.ref a1)]))
  refine own_st (fun t_ k_ => XS.i2b X109.here hx rfl (hb hby own_d15_42) rfl k_) ?_
  show own_Go p.tables e below _ (T109.setTop (mkF m 43 #[.val (.ref a1), .val (.int ((q_ <<< ((1 : Int32) &&& 31)) + (1 : Int32))), .val (.int ch)] [(.int ((ch >>> ((0 : Int32) &&& 31)).toInt8.toInt32)), (.int (q_ <<< ((1 : Int32) &&& 31))), (.ref a1)]))
  obtain ⟨T110, h110, X110, e110, W110, Aw110, st110⟩ := own_bastore X109 hx hZ e109 q4 (i := (qn + qn)) (own_shl1 hq.1 (by omega)) (by omega) (own_narb _) (v' := ((ch >>> ((0 : Int32) &&& 31)).toInt8.toInt32)) (g := (mkF m 43 #[.val (.ref a1), .val (.int ((q_ <<< ((1 : Int32) &&& 31)) + (1 : Int32))), .val (.int ch)] [(.int ((ch >>> ((0 : Int32) &&& 31)).toInt8.toInt32)), (.int (q_ <<< ((1 : Int32) &&& 31))), (.ref a1)])) rfl rfl (hb hby own_d15_43)
  have N110 := Fr.snoc X110 N0 q5
  have K110 : Keep h0 h110 [a1] := (Keep.refl h0 [a1]).wr W110 (Or.inl (List.mem_of_getElem? (i := 0) rfl))
  refine own_st (st110) ?_
  show own_Go p.tables e below _ (T110.setTop (mkF m 44 #[.val (.ref a1), .val (.int ((q_ <<< ((1 : Int32) &&& 31)) + (1 : Int32))), .val (.int ch)] []))
  refine own_st (fun t_ k_ => XS.aloadN X110.here hx rfl (hb hby own_d15_44) rfl rfl k_) ?_
  show own_Go p.tables e below _ (T110.setTop (mkF m 45 #[.val (.ref a1), .val (.int ((q_ <<< ((1 : Int32) &&& 31)) + (1 : Int32))), .val (.int ch)] [(.ref a1)]))
  refine own_st (fun t_ k_ => XS.iloadN X110.here hx rfl (hb hby own_d15_45) rfl k_) ?_
  show own_Go p.tables e below _ (T110.setTop (mkF m 46 #[.val (.ref a1), .val (.int ((q_ <<< ((1 : Int32) &&& 31)) + (1 : Int32))), .val (.int ch)] [(.int ((q_ <<< ((1 : Int32) &&& 31)) + (1 : Int32))), (.ref a1)]))
  refine own_st (fun t_ k_ => XS.iloadN X110.here hx rfl (hb hby own_d15_46) rfl k_) ?_
  show own_Go p.tables e below _ (T110.setTop (mkF m 47 #[.val (.ref a1), .val (.int ((q_ <<< ((1 : Int32) &&& 31)) + (1 : Int32))), .val (.int ch)] [(.int ch), (.int ((q_ <<< ((1 : Int32) &&& 31)) + (1 : Int32))), (.ref a1)]))
  obtain ⟨T111, X111, e111, st111⟩ := getS2 X110 hx hZ hown (host := "") (Or.inl (hw _ (List.mem_of_getElem? (i := 63) rfl))) Via.refl e110 (q3.ext (q0.wr W110 q5).2) (g := (mkF m 47 #[.val (.ref a1), .val (.int ((q_ <<< ((1 : Int32) &&& 31)) + (1 : Int32))), .val (.int ch)] [(.int ch), (.int ((q_ <<< ((1 : Int32) &&& 31)) + (1 : Int32))), (.ref a1)])) rfl (hb hby own_d15_47)
  refine own_st (st111) ?_
  show own_Go p.tables e below _ (T111.setTop (mkF m 50 #[.val (.ref a1), .val (.int ((q_ <<< ((1 : Int32) &&& 31)) + (1 : Int32))), .val (.int ch)] [(.int (8 : Int32)), (.int ch), (.int ((q_ <<< ((1 : Int32) &&& 31)) + (1 : Int32))), (.ref a1)]))
  refine own_st (fun t_ k_ => XS.ishr X111.here hx rfl (hb hby own_d15_50) rfl k_) ?_
  show own_Go p.tables e below _ (T111.setTop (mkF m 51 #[.val (.ref a1), .val (.int ((q_ <<< ((1 : Int32) &&& 31)) + (1 : Int32))), .val (.int ch)] [(.int (ch >>> ((8 : Int32) &&& 31))), (.int ((q_ <<< ((1 : Int32) &&& 31)) + (1 : Int32))), (.ref a1)]))
  refine own_st (fun t_ k_ => XS.i2b X111.here hx rfl (hb hby own_d15_51) rfl k_) ?_
  show own_Go p.tables e below _ (T111.setTop (mkF m 52 #[.val (.ref a1), .val (.int ((q_ <<< ((1 : Int32) &&& 31)) + (1 : Int32))), .val (.int ch)] [(.int ((ch >>> ((8 : Int32) &&& 31)).toInt8.toInt32)), (.int ((q_ <<< ((1 : Int32) &&& 31)) + (1 : Int32))), (.ref a1)]))
  obtain ⟨T112, h112, X112, e112, W112, Aw112, st112⟩ := own_bastore X111 hx hZ e111 Aw110 (i := (qn + qn + 1)) (own_inc (own_shl1 hq.1 (by omega)) (by omega)) (by omega) (own_narb _) (v' := ((ch >>> ((8 : Int32) &&& 31)).toInt8.toInt32)) (g := (mkF m 52 #[.val (.ref a1), .val (.int ((q_ <<< ((1 : Int32) &&& 31)) + (1 : Int32))), .val (.int ch)] [(.int ((ch >>> ((8 : Int32) &&& 31)).toInt8.toInt32)), (.int ((q_ <<< ((1 : Int32) &&& 31)) + (1 : Int32))), (.ref a1)])) rfl rfl (hb hby own_d15_52)
  have N112 := Fr.snoc X112 N110 q5
  have K112 : Keep h0 h112 [a1] := K110.wr W112 (Or.inl (List.mem_of_getElem? (i := 0) rfl))
  refine own_st (st112) ?_
  show own_Go p.tables e below _ (T112.setTop (mkF m 53 #[.val (.ref a1), .val (.int ((q_ <<< ((1 : Int32) &&& 31)) + (1 : Int32))), .val (.int ch)] []))
  exact own_ret0 X112 hx hnl Bd.returns (hb hby own_d15_53) ⟨rfl, N112, (by rw [e112]; exact K112), (by rw [e112]; exact Aw112)⟩ (by decide) (by decide)

theorem own_d16_0 : decode jdk_52_method_5_code 0 = .ok (.getstatic 44, 3) := by decide +kernel
theorem own_d16_3 : decode jdk_52_method_5_code 3 = .ok (.ifCond .ne 25, 3) := by decide +kernel
theorem own_d16_28 : decode jdk_52_method_5_code 28 = .ok (.iload_n 1, 1) := by decide +kernel
theorem own_d16_29 : decode jdk_52_method_5_code 29 = .ok (.iconst 1, 1) := by decide +kernel
theorem own_d16_30 : decode jdk_52_method_5_code 30 = .ok (.ishl, 1) := by decide +kernel
theorem own_d16_31 : decode jdk_52_method_5_code 31 = .ok (.istore_n 1, 1) := by decide +kernel
theorem own_d16_32 : decode jdk_52_method_5_code 32 = .ok (.aload_n 0, 1) := by decide +kernel
theorem own_d16_33 : decode jdk_52_method_5_code 33 = .ok (.iload_n 1, 1) := by decide +kernel
theorem own_d16_34 : decode jdk_52_method_5_code 34 = .ok (.iinc 1 1, 3) := by decide +kernel
theorem own_d16_37 : decode jdk_52_method_5_code 37 = .ok (.baload, 1) := by decide +kernel
theorem own_d16_38 : decode jdk_52_method_5_code 38 = .ok (.sipush 255, 3) := by decide +kernel
theorem own_d16_41 : decode jdk_52_method_5_code 41 = .ok (.iand, 1) := by decide +kernel
theorem own_d16_42 : decode jdk_52_method_5_code 42 = .ok (.getstatic 59, 3) := by decide +kernel
theorem own_d16_45 : decode jdk_52_method_5_code 45 = .ok (.ishl, 1) := by decide +kernel
theorem own_d16_46 : decode jdk_52_method_5_code 46 = .ok (.aload_n 0, 1) := by decide +kernel
theorem own_d16_47 : decode jdk_52_method_5_code 47 = .ok (.iload_n 1, 1) := by decide +kernel
theorem own_d16_48 : decode jdk_52_method_5_code 48 = .ok (.baload, 1) := by decide +kernel
theorem own_d16_49 : decode jdk_52_method_5_code 49 = .ok (.sipush 255, 3) := by decide +kernel
theorem own_d16_52 : decode jdk_52_method_5_code 52 = .ok (.iand, 1) := by decide +kernel
theorem own_d16_53 : decode jdk_52_method_5_code 53 = .ok (.getstatic 63, 3) := by decide +kernel
theorem own_d16_56 : decode jdk_52_method_5_code 56 = .ok (.ishl, 1) := by decide +kernel
theorem own_d16_57 : decode jdk_52_method_5_code 57 = .ok (.ior, 1) := by decide +kernel
theorem own_d16_58 : decode jdk_52_method_5_code 58 = .ok (.i2c, 1) := by decide +kernel
theorem own_d16_59 : decode jdk_52_method_5_code 59 = .ok (.ireturn, 1) := by decide +kernel
theorem own_ef16 (m : MethodId) (x0 : Addr) (x1 : Int32) : entryFrame m #[(.ref x0), (.int x1)] 2 = mkF m 0 #[.val (.ref x0), .val (.int x1)] [] := by first | (simp [entryFrame, mkF, argsToLocals, Value.category]; done) | rfl
def own_Q16 (Z : State) (a1 : Addr) (q_ : Int32) (k1 : ClassId) (m1 : Nat) (gb : Nat → Int32) (qn : Nat) (ch : Int32) (h0 : Heap) (n0 : Nat) (v : Option Value) (h : Heap) (L : List Loc) : Prop := v = some (.int ch) ∧ Fr n0 L ∧ h = h0
set_option maxRecDepth 65536 in
set_option maxHeartbeats 40000000 in
theorem own_rm16 (l : Launch) (Z : State) (a0 : Array Value) (hw : ∀ d ∈ tables_1, d.before a0 Z = true) (ws : List Jvm.Cond) (a1 : Addr) (q_ : Int32) (k1 : ClassId) (m1 : Nat) (gb : Nat → Int32) (qn : Nat) (ch : Int32) (h0 : Heap) (n0 : Nat) (Z0 : n0 ≤ h0.size) (q0 : Old Z n0 h0) (q1 : Sta Z Z.heap "java/lang/StringUTF16" "$assertionsDisabled" "Z" (.int (1 : Int32))) (q2 : Sta Z Z.heap "java/lang/StringUTF16" "HI_BYTE_SHIFT" "I" (.int (0 : Int32))) (q3 : Sta Z Z.heap "java/lang/StringUTF16" "LO_BYTE_SHIFT" "I" (.int (8 : Int32))) (q4 : own_A Z h0 a1 k1 .byte m1 (fun i => .int (gb i))) (hq : (q_.toInt = (qn : Int) ∧ qn + qn + 1 < m1 ∧ m1 ≤ 10000)) (hch : (0 ≤ ch.toInt ∧ ch.toInt ≤ 65535 ∧ gb (qn + qn) = ((ch >>> ((0 : Int32) &&& 31)).toInt8.toInt32) ∧ gb (qn + qn + 1) = ((ch >>> ((8 : Int32) &&& 31)).toInt8.toInt32))) :
    MetFree l (⟨"java/lang/StringUTF16", "getChar", "([BI)C"⟩ : MethodName) (head1 (Jvm.Cond.code (⟨"java/lang/StringUTF16", "getChar", "([BI)C"⟩ : MethodName) jdk_52_method_5_code 2 (some .char) :: ws) ({ frames := 0, cells := 0, slots := 0, locals := 0 } : Room)) (fun a U => a = #[(.ref a1), (.int q_)] ∧ Z.Warmed39 U.vm ∧ U.heap = h0) (fun _ _ _ _ _ => True) (fun _ U o U' => ∃ v L, o = .returned v ∧ own_Q16 Z a1 q_ k1 m1 gb qn ch h0 n0 v U'.heap L ∧ FrameEnd U o U' L ({ frames := 0, cells := 0, slots := 0, locals := 0 } : Room).cells ({ frames := 0, cells := 0, slots := 0, locals := 0 } : Room).slots) := by
  refine MetFree.of_bodySF (plainFor_of_name own_pn0) hisR ?_
  intro p e s m args below meth c s₁ Bd hml0 hP hK
  obtain ⟨rfl, hZ, hh⟩ := hP
  have hx := Bd.exec
  have hby := Bd.bytes
  have hml : c.maxLocals = 2 := hml0
  have hown : s.vm.findClass "java/lang/StringUTF16" = some m.cls := findClass_of_methodNamed Bd.named
  have hnm := (name_of_methodNamed Bd.named Bd.method).1
  have hnl : meth.locks = false := Bd.notSynchronized
  have X0 : Stand p l e ({ frames := 0, cells := 0, slots := 0, locals := 0 } : Room) s m #[(.ref a1), (.int q_)] below meth c s₁ [] 0 0 := Stand.of_body Bd
  have e0 : s₁.heap = h0 := by rw [← hh, Bd.state]; rfl
  have N0 := Fr.nil n0
  show own_Go p.tables e below (own_P below s (own_Q16 Z a1 q_ k1 m1 gb qn ch h0 n0) ({ frames := 0, cells := 0, slots := 0, locals := 0 } : Room).cells ({ frames := 0, cells := 0, slots := 0, locals := 0 } : Room).slots) _
  refine own_st (fun t_ k_ => castTop (own_ef16 m a1 q_) k_) ?_
  show own_Go p.tables e below _ (s₁.setTop (mkF m 0 #[.val (.ref a1), .val (.int q_)] []))
  obtain ⟨T113, X113, e113, st113⟩ := getS2 X0 hx hZ hown (host := "") (Or.inl (hw _ (List.mem_of_getElem? (i := 61) rfl))) Via.refl e0 (q1.ext q0.2) (g := (mkF m 0 #[.val (.ref a1), .val (.int q_)] [])) rfl (hb hby own_d16_0)
  refine own_st (st113) ?_
  show own_Go p.tables e below _ (T113.setTop (mkF m 3 #[.val (.ref a1), .val (.int q_)] [(.int (1 : Int32))]))
  refine own_st (fun t_ k_ => XS.ifYes X113.here hx rfl (pc0 := 3) (pc' := 28) rfl (hb hby own_d16_3) rfl ((if0 _ _).trans (feq (by decide : ¬ ((1 : Int32) = (0 : Int32)))).2) (by decide) (by decide) k_) ?_
  show own_Go p.tables e below _ (T113.setTop (mkF m 28 #[.val (.ref a1), .val (.int q_)] []))
  refine own_st (fun t_ k_ => XS.iloadN X113.here hx rfl (hb hby own_d16_28) rfl k_) ?_
  show own_Go p.tables e below _ (T113.setTop (mkF m 29 #[.val (.ref a1), .val (.int q_)] [(.int q_)]))
  refine own_st (fun t_ k_ => XS.iconst X113.here hx rfl (hb hby own_d16_29) k_) ?_
  show own_Go p.tables e below _ (T113.setTop (mkF m 30 #[.val (.ref a1), .val (.int q_)] [(.int (1 : Int32)), (.int q_)]))
  refine own_st (fun t_ k_ => XS.ishl X113.here hx rfl (hb hby own_d16_30) rfl k_) ?_
  show own_Go p.tables e below _ (T113.setTop (mkF m 31 #[.val (.ref a1), .val (.int q_)] [(.int (q_ <<< ((1 : Int32) &&& 31)))]))
  refine own_st (fun t_ k_ => XS.istoreN X113.here hx rfl (hb hby own_d16_31) rfl (l' := #[.val (.ref a1), .val (.int (q_ <<< ((1 : Int32) &&& 31)))]) rfl k_) ?_
  show own_Go p.tables e below _ (T113.setTop (mkF m 32 #[.val (.ref a1), .val (.int (q_ <<< ((1 : Int32) &&& 31)))] []))
  refine own_st (fun t_ k_ => XS.aloadN X113.here hx rfl (hb hby own_d16_32) rfl rfl k_) ?_
  show own_Go p.tables e below _ (T113.setTop (mkF m 33 #[.val (.ref a1), .val (.int (q_ <<< ((1 : Int32) &&& 31)))] [(.ref a1)]))
  refine own_st (fun t_ k_ => XS.iloadN X113.here hx rfl (hb hby own_d16_33) rfl k_) ?_
  show own_Go p.tables e below _ (T113.setTop (mkF m 34 #[.val (.ref a1), .val (.int (q_ <<< ((1 : Int32) &&& 31)))] [(.int (q_ <<< ((1 : Int32) &&& 31))), (.ref a1)]))
  refine own_st (fun t_ k_ => XS.iinc X113.here hx rfl (hb hby own_d16_34) rfl (l' := #[.val (.ref a1), .val (.int ((q_ <<< ((1 : Int32) &&& 31)) + (1 : Int32)))]) rfl k_) ?_
  show own_Go p.tables e below _ (T113.setTop (mkF m 37 #[.val (.ref a1), .val (.int ((q_ <<< ((1 : Int32) &&& 31)) + (1 : Int32)))] [(.int (q_ <<< ((1 : Int32) &&& 31))), (.ref a1)]))
  refine own_st (own_baload X113 hx hZ e113 q4 (i := (qn + qn)) (own_shl1 hq.1 (by omega)) (by omega) (g := (mkF m 37 #[.val (.ref a1), .val (.int ((q_ <<< ((1 : Int32) &&& 31)) + (1 : Int32)))] [(.int (q_ <<< ((1 : Int32) &&& 31))), (.ref a1)])) rfl rfl (hb hby own_d16_37)) ?_
  show own_Go p.tables e below _ (T113.setTop (mkF m 38 #[.val (.ref a1), .val (.int ((q_ <<< ((1 : Int32) &&& 31)) + (1 : Int32)))] [(.int (gb (qn + qn)))]))
  refine own_st (fun t_ k_ => XS.sipush X113.here hx rfl (hb hby own_d16_38) k_) ?_
  show own_Go p.tables e below _ (T113.setTop (mkF m 41 #[.val (.ref a1), .val (.int ((q_ <<< ((1 : Int32) &&& 31)) + (1 : Int32)))] [(.int (255 : Int32)), (.int (gb (qn + qn)))]))
  refine own_st (fun t_ k_ => XS.iand X113.here hx rfl (hb hby own_d16_41) rfl k_) ?_
  show own_Go p.tables e below _ (T113.setTop (mkF m 42 #[.val (.ref a1), .val (.int ((q_ <<< ((1 : Int32) &&& 31)) + (1 : Int32)))] [(.int ((gb (qn + qn)) &&& (255 : Int32)))]))
  obtain ⟨T114, X114, e114, st114⟩ := getS2 X113 hx hZ hown (host := "") (Or.inl (hw _ (List.mem_of_getElem? (i := 62) rfl))) Via.refl e113 (q2.ext q0.2) (g := (mkF m 42 #[.val (.ref a1), .val (.int ((q_ <<< ((1 : Int32) &&& 31)) + (1 : Int32)))] [(.int ((gb (qn + qn)) &&& (255 : Int32)))])) rfl (hb hby own_d16_42)
  refine own_st (st114) ?_
  show own_Go p.tables e below _ (T114.setTop (mkF m 45 #[.val (.ref a1), .val (.int ((q_ <<< ((1 : Int32) &&& 31)) + (1 : Int32)))] [(.int (0 : Int32)), (.int ((gb (qn + qn)) &&& (255 : Int32)))]))
  refine own_st (fun t_ k_ => XS.ishl X114.here hx rfl (hb hby own_d16_45) rfl k_) ?_
  show own_Go p.tables e below _ (T114.setTop (mkF m 46 #[.val (.ref a1), .val (.int ((q_ <<< ((1 : Int32) &&& 31)) + (1 : Int32)))] [(.int (((gb (qn + qn)) &&& (255 : Int32)) <<< ((0 : Int32) &&& 31)))]))
  refine own_st (fun t_ k_ => XS.aloadN X114.here hx rfl (hb hby own_d16_46) rfl rfl k_) ?_
  show own_Go p.tables e below _ (T114.setTop (mkF m 47 #[.val (.ref a1), .val (.int ((q_ <<< ((1 : Int32) &&& 31)) + (1 : Int32)))] [(.ref a1), (.int (((gb (qn + qn)) &&& (255 : Int32)) <<< ((0 : Int32) &&& 31)))]))
  refine own_st (fun t_ k_ => XS.iloadN X114.here hx rfl (hb hby own_d16_47) rfl k_) ?_
  show own_Go p.tables e below _ (T114.setTop (mkF m 48 #[.val (.ref a1), .val (.int ((q_ <<< ((1 : Int32) &&& 31)) + (1 : Int32)))] [(.int ((q_ <<< ((1 : Int32) &&& 31)) + (1 : Int32))), (.ref a1), (.int (((gb (qn + qn)) &&& (255 : Int32)) <<< ((0 : Int32) &&& 31)))]))
  refine own_st (own_baload X114 hx hZ e114 q4 (i := (qn + qn + 1)) (own_inc (own_shl1 hq.1 (by omega)) (by omega)) (by omega) (g := (mkF m 48 #[.val (.ref a1), .val (.int ((q_ <<< ((1 : Int32) &&& 31)) + (1 : Int32)))] [(.int ((q_ <<< ((1 : Int32) &&& 31)) + (1 : Int32))), (.ref a1), (.int (((gb (qn + qn)) &&& (255 : Int32)) <<< ((0 : Int32) &&& 31)))])) rfl rfl (hb hby own_d16_48)) ?_
  show own_Go p.tables e below _ (T114.setTop (mkF m 49 #[.val (.ref a1), .val (.int ((q_ <<< ((1 : Int32) &&& 31)) + (1 : Int32)))] [(.int (gb (qn + qn + 1))), (.int (((gb (qn + qn)) &&& (255 : Int32)) <<< ((0 : Int32) &&& 31)))]))
  refine own_st (fun t_ k_ => XS.sipush X114.here hx rfl (hb hby own_d16_49) k_) ?_
  show own_Go p.tables e below _ (T114.setTop (mkF m 52 #[.val (.ref a1), .val (.int ((q_ <<< ((1 : Int32) &&& 31)) + (1 : Int32)))] [(.int (255 : Int32)), (.int (gb (qn + qn + 1))), (.int (((gb (qn + qn)) &&& (255 : Int32)) <<< ((0 : Int32) &&& 31)))]))
  refine own_st (fun t_ k_ => XS.iand X114.here hx rfl (hb hby own_d16_52) rfl k_) ?_
  show own_Go p.tables e below _ (T114.setTop (mkF m 53 #[.val (.ref a1), .val (.int ((q_ <<< ((1 : Int32) &&& 31)) + (1 : Int32)))] [(.int ((gb (qn + qn + 1)) &&& (255 : Int32))), (.int (((gb (qn + qn)) &&& (255 : Int32)) <<< ((0 : Int32) &&& 31)))]))
  obtain ⟨T115, X115, e115, st115⟩ := getS2 X114 hx hZ hown (host := "") (Or.inl (hw _ (List.mem_of_getElem? (i := 63) rfl))) Via.refl e114 (q3.ext q0.2) (g := (mkF m 53 #[.val (.ref a1), .val (.int ((q_ <<< ((1 : Int32) &&& 31)) + (1 : Int32)))] [(.int ((gb (qn + qn + 1)) &&& (255 : Int32))), (.int (((gb (qn + qn)) &&& (255 : Int32)) <<< ((0 : Int32) &&& 31)))])) rfl (hb hby own_d16_53)
  refine own_st (st115) ?_
  show own_Go p.tables e below _ (T115.setTop (mkF m 56 #[.val (.ref a1), .val (.int ((q_ <<< ((1 : Int32) &&& 31)) + (1 : Int32)))] [(.int (8 : Int32)), (.int ((gb (qn + qn + 1)) &&& (255 : Int32))), (.int (((gb (qn + qn)) &&& (255 : Int32)) <<< ((0 : Int32) &&& 31)))]))
  refine own_st (fun t_ k_ => XS.ishl X115.here hx rfl (hb hby own_d16_56) rfl k_) ?_
  show own_Go p.tables e below _ (T115.setTop (mkF m 57 #[.val (.ref a1), .val (.int ((q_ <<< ((1 : Int32) &&& 31)) + (1 : Int32)))] [(.int (((gb (qn + qn + 1)) &&& (255 : Int32)) <<< ((8 : Int32) &&& 31))), (.int (((gb (qn + qn)) &&& (255 : Int32)) <<< ((0 : Int32) &&& 31)))]))
  refine own_st (fun t_ k_ => XS.ior X115.here hx rfl (hb hby own_d16_57) rfl k_) ?_
  show own_Go p.tables e below _ (T115.setTop (mkF m 58 #[.val (.ref a1), .val (.int ((q_ <<< ((1 : Int32) &&& 31)) + (1 : Int32)))] [(.int ((((gb (qn + qn)) &&& (255 : Int32)) <<< ((0 : Int32) &&& 31)) ||| (((gb (qn + qn + 1)) &&& (255 : Int32)) <<< ((8 : Int32) &&& 31))))]))
  refine own_st (fun t_ k_ => XS.i2c X115.here hx rfl (hb hby own_d16_58) rfl k_) ?_
  show own_Go p.tables e below _ (T115.setTop (mkF m 59 #[.val (.ref a1), .val (.int ((q_ <<< ((1 : Int32) &&& 31)) + (1 : Int32)))] [(.int (((((gb (qn + qn)) &&& (255 : Int32)) <<< ((0 : Int32) &&& 31)) ||| (((gb (qn + qn + 1)) &&& (255 : Int32)) <<< ((8 : Int32) &&& 31))).toUInt32.toUInt16.toUInt32.toInt32))]))
  rw [show (((((gb (qn + qn)) &&& (255 : Int32)) <<< ((0 : Int32) &&& 31)) ||| (((gb (qn + qn + 1)) &&& (255 : Int32)) <<< ((8 : Int32) &&& 31))).toUInt32.toUInt16.toUInt32.toInt32) = ch from own_join hch.1 hch.2.1 hch.2.2.1 hch.2.2.2]
  show own_Go p.tables e below _ (T115.setTop (mkF m 59 #[.val (.ref a1), .val (.int ((q_ <<< ((1 : Int32) &&& 31)) + (1 : Int32)))] [(.int ch)]))
  exact own_ret (w := (.int ch)) X115 hx hnl Bd.returns (own_nwc hch.1 hch.2.1) (Or.inl ⟨rfl, by decide, _, rfl⟩) (hb hby own_d16_59) ⟨rfl, N0, e115⟩ (by decide) (by decide)

theorem own_d12_0 : decode jdk_52_method_14_code 0 = .ok (.iload_n 2, 1) := by decide +kernel
theorem own_d12_1 : decode jdk_52_method_14_code 1 = .ok (.invokestatic 107, 3) := by decide +kernel
theorem own_d12_4 : decode jdk_52_method_14_code 4 = .ok (.astore_n 3, 1) := by decide +kernel
theorem own_d12_5 : decode jdk_52_method_14_code 5 = .ok (.iconst 0, 1) := by decide +kernel
theorem own_d12_6 : decode jdk_52_method_14_code 6 = .ok (.istore 4, 2) := by decide +kernel
theorem own_d12_8 : decode jdk_52_method_14_code 8 = .ok (.iload 4, 2) := by decide +kernel
theorem own_d12_10 : decode jdk_52_method_14_code 10 = .ok (.iload_n 2, 1) := by decide +kernel
theorem own_d12_11 : decode jdk_52_method_14_code 11 = .ok (.if_icmp .ge 21, 3) := by decide +kernel
theorem own_d12_14 : decode jdk_52_method_14_code 14 = .ok (.aload_n 3, 1) := by decide +kernel
theorem own_d12_15 : decode jdk_52_method_14_code 15 = .ok (.iload 4, 2) := by decide +kernel
theorem own_d12_17 : decode jdk_52_method_14_code 17 = .ok (.aload_n 0, 1) := by decide +kernel
theorem own_d12_18 : decode jdk_52_method_14_code 18 = .ok (.iload_n 1, 1) := by decide +kernel
theorem own_d12_19 : decode jdk_52_method_14_code 19 = .ok (.caload, 1) := by decide +kernel
theorem own_d12_20 : decode jdk_52_method_14_code 20 = .ok (.invokestatic 111, 3) := by decide +kernel
theorem own_d12_23 : decode jdk_52_method_14_code 23 = .ok (.iinc 1 1, 3) := by decide +kernel
theorem own_d12_26 : decode jdk_52_method_14_code 26 = .ok (.iinc 4 1, 3) := by decide +kernel
theorem own_d12_29 : decode jdk_52_method_14_code 29 = .ok (.goto (-21), 3) := by decide +kernel
theorem own_d12_32 : decode jdk_52_method_14_code 32 = .ok (.aload_n 3, 1) := by decide +kernel
theorem own_d12_33 : decode jdk_52_method_14_code 33 = .ok (.areturn, 1) := by decide +kernel
theorem own_pd1 : parseMethodDescriptor "(I)[B" = some ⟨[.int], some (.array .byte)⟩ := by decide +kernel
theorem own_pd2 : parseMethodDescriptor "([BII)V" = some ⟨[(.array .byte), .int, .int], none⟩ := by decide +kernel
theorem own_ef12 (m : MethodId) (x0 : Addr) (x1 : Int32) (x2 : Int32) : entryFrame m #[(.ref x0), (.int x1), (.int x2)] 5 = mkF m 0 #[.val (.ref x0), .val (.int x1), .val (.int x2), .unset, .unset] [] := by first | (simp [entryFrame, mkF, argsToLocals, Value.category]; done) | rfl
def own_Q12 (Z : State) (a1 : Addr) (p_ : Int32) (k1 : ClassId) (n1 : Nat) (cs : Nat → Int32) (h0 : Heap) (n0 : Nat) (v : Option Value) (h : Heap) (L : List Loc) : Prop := ∃ (t : Addr) (kt : ClassId), v = some (.ref t) ∧ Fr n0 L ∧ Keep h0 h [] ∧ h0.size ≤ t ∧ own_A Z h t kt .byte (n1 + n1) (fun i => .int ((own_u16 cs) i))
set_option maxRecDepth 65536 in
set_option maxHeartbeats 40000000 in
theorem own_rm12 (l : Launch) (Z : State) (a0 : Array Value) (hw : ∀ d ∈ tables_1, d.before a0 Z = true) (ws : List Jvm.Cond) (a1 : Addr) (p_ : Int32) (k1 : ClassId) (n1 : Nat) (cs : Nat → Int32) (h0 : Heap) (n0 : Nat) (Z0 : n0 ≤ h0.size) (q0 : own_A Z h0 a1 k1 .char n1 (fun i => .int (cs i))) (hp : (p_.toInt = (n1 : Int) ∧ n1 ≤ 6)) (q2 : Old Z n0 h0) (q3 : Sta Z Z.heap "java/lang/StringUTF16" "$assertionsDisabled" "Z" (.int (1 : Int32))) (q4 : Sta Z Z.heap "java/lang/StringUTF16" "HI_BYTE_SHIFT" "I" (.int (0 : Int32))) (q5 : Sta Z Z.heap "java/lang/StringUTF16" "LO_BYTE_SHIFT" "I" (.int (8 : Int32))) :
    MetFree l (⟨"java/lang/StringUTF16", "toBytes", "([CII)[B"⟩ : MethodName) (head1 (Jvm.Cond.code (⟨"java/lang/StringUTF16", "toBytes", "([CII)[B"⟩ : MethodName) jdk_52_method_14_code 5 (some (.array .byte)) :: ws) ({ frames := 2, cells := 1, slots := 12, locals := 24 } : Room)) (fun a U => a = #[(.ref a1), (.int (0 : Int32)), (.int p_)] ∧ Z.Warmed39 U.vm ∧ U.heap = h0) (fun _ _ _ _ _ => True) (fun _ U o U' => ∃ v L, o = .returned v ∧ own_Q12 Z a1 p_ k1 n1 cs h0 n0 v U'.heap L ∧ FrameEnd U o U' L ({ frames := 2, cells := 1, slots := 12, locals := 24 } : Room).cells ({ frames := 2, cells := 1, slots := 12, locals := 24 } : Room).slots) := by
  refine MetFree.of_bodySF (plainFor_of_name own_pn0) hisR ?_
  intro p e s m args below meth c s₁ Bd hml0 hP hK
  obtain ⟨rfl, hZ, hh⟩ := hP
  have hx := Bd.exec
  have hby := Bd.bytes
  have hml : c.maxLocals = 5 := hml0
  have hown : s.vm.findClass "java/lang/StringUTF16" = some m.cls := findClass_of_methodNamed Bd.named
  have hnm := (name_of_methodNamed Bd.named Bd.method).1
  have hnl : meth.locks = false := Bd.notSynchronized
  have X0 : Stand p l e ({ frames := 2, cells := 1, slots := 12, locals := 24 } : Room) s m #[(.ref a1), (.int (0 : Int32)), (.int p_)] below meth c s₁ [] 0 0 := Stand.of_body Bd
  have e0 : s₁.heap = h0 := by rw [← hh, Bd.state]; rfl
  have N0 := Fr.nil n0
  show own_Go p.tables e below (own_P below s (own_Q12 Z a1 p_ k1 n1 cs h0 n0) ({ frames := 2, cells := 1, slots := 12, locals := 24 } : Room).cells ({ frames := 2, cells := 1, slots := 12, locals := 24 } : Room).slots) _
  refine own_st (fun t_ k_ => castTop (own_ef12 m a1 (0 : Int32) p_) k_) ?_
  show own_Go p.tables e below _ (s₁.setTop (mkF m 0 #[.val (.ref a1), .val (.int (0 : Int32)), .val (.int p_), .unset, .unset] []))
  refine own_st (fun t_ k_ => XS.iloadN X0.here hx rfl (hb hby own_d12_0) rfl k_) ?_
  show own_Go p.tables e below _ (s₁.setTop (mkF m 1 #[.val (.ref a1), .val (.int (0 : Int32)), .val (.int p_), .unset, .unset] [(.int p_)]))
  obtain ⟨_, _, ⟨T116, L116, k116, n116⟩, -, X116, ⟨Lc116, hQ116, l116, y116, z116⟩, st116⟩ := Jvm.LawKit.callS X0 hx (y := (⟨"java/lang/StringUTF16", "newBytesFor", "(I)[B"⟩ : MethodName)) hown (mvT hZ (hw _ (List.mem_of_getElem? (i := 51) rfl))) (mvT hZ (hw _ (List.mem_of_getElem? (i := 52) rfl))) (mvT hZ (hw _ (List.mem_of_getElem? (i := 22) rfl))) (mvT hZ (hw _ (List.mem_of_getElem? (i := 53) rfl))) (by decide) (backOf (W := 0) (own_rm13 l Z a0 hw [] p_ n1 h0 n0 (Nat.le_trans Z0 (Keep.refl h0 []).1) ⟨hp.1, (by omega)⟩) hZ (hw _ (List.mem_of_getElem? (i := 53) rfl)) (hw _ (List.mem_of_getElem? (i := 22) rfl)) (by decide) (by decide)) (g := (mkF m 1 #[.val (.ref a1), .val (.int (0 : Int32)), .val (.int p_), .unset, .unset] [(.int p_)])) rfl (by rw [hml]; rfl) (argsL := [(.int p_)]) (rest := []) (lenOf own_pd1 rfl) rfl (by show 2 * 0 + _ ≤ _; exact Nat.le_of_eq rfl) (hb hby own_d12_1) (fun _ _ => ⟨rfl, e0, (by decide : 0 + 1 ≤ _), (by decide : 0 + 12 ≤ _)⟩)
  dsimp only [Pt.U, Pt.locs, Pt.cells, Pt.slots] at X116 l116 y116 z116 st116 hQ116
  subst y116 z116
  obtain ⟨t_116, kt_116, rfl, N116q, Kq116, P116_0, P116_1⟩ := hQ116
  have N116 : Fr n0 L116 := by rw [l116]; exact Fr.app N0 N116q
  have K116 : Keep h0 T116.heap [] := (Keep.refl h0 []).trans Kq116 all0
  have fr116_0 : h0.size ≤ t_116 := Nat.le_trans (Keep.refl h0 []).1 P116_0
  have ge116_0 : n0 ≤ t_116 := Nat.le_trans Z0 fr116_0
  refine own_st (st116) ?_
  show own_Go p.tables e below _ (T116.setTop (mkF m 4 #[.val (.ref a1), .val (.int (0 : Int32)), .val (.int p_), .unset, .unset] [(.ref t_116)]))
  refine own_st (fun t_ k_ => XS.astoreN X116.here hx rfl (hb hby own_d12_4) rfl rfl (l' := #[.val (.ref a1), .val (.int (0 : Int32)), .val (.int p_), .val (.ref t_116), .unset]) rfl k_) ?_
  show own_Go p.tables e below _ (T116.setTop (mkF m 5 #[.val (.ref a1), .val (.int (0 : Int32)), .val (.int p_), .val (.ref t_116), .unset] []))
  refine own_st (fun t_ k_ => XS.iconst X116.here hx rfl (hb hby own_d12_5) k_) ?_
  show own_Go p.tables e below _ (T116.setTop (mkF m 6 #[.val (.ref a1), .val (.int (0 : Int32)), .val (.int p_), .val (.ref t_116), .unset] [(.int (0 : Int32))]))
  refine own_st (fun t_ k_ => XS.istore X116.here hx rfl (hb hby own_d12_6) rfl (l' := #[.val (.ref a1), .val (.int (0 : Int32)), .val (.int p_), .val (.ref t_116), .val (.int (0 : Int32))]) rfl k_) ?_
  show own_Go p.tables e below _ (T116.setTop (mkF m 8 #[.val (.ref a1), .val (.int (0 : Int32)), .val (.int p_), .val (.ref t_116), .val (.int (0 : Int32))] []))
  have qb0 : own_A Z T116.heap t_116 kt_116 .byte (n1 + n1) (fun i => .int ((own_pb cs 0) i)) := P116_1.congr (fun q _ => by simp [own_pb])
  have nq117_0 : a1 ≠ t_116 := (Nat.ne_of_lt (Nat.lt_of_lt_of_le q0.lt P116_0))
  have loop117 : ∀ (mm : Nat) (k : Nat) (i : Int32) (T117 : State) (Lo117 : List Loc) (h117 : Heap), n1 - k = mm → Stand p l e ({ frames := 2, cells := 1, slots := 12, locals := 24 } : Room) s m #[(.ref a1), (.int (0 : Int32)), (.int p_)] below meth c T117 Lo117 1 12 → T117.heap = h117 → Fr n0 Lo117 → Keep h0 h117 [] → Old Z n0 h117 → own_A Z h117 a1 k1 .char n1 (fun i => .int (cs i)) → own_A Z h117 t_116 kt_116 .byte (n1 + n1) (fun i => .int ((own_pb cs k) i)) → (i.toInt = (k : Int)) → (k ≤ n1) → own_Go p.tables e below (own_P below s (own_Q12 Z a1 p_ k1 n1 cs h0 n0) ({ frames := 2, cells := 1, slots := 12, locals := 24 } : Room).cells ({ frames := 2, cells := 1, slots := 12, locals := 24 } : Room).slots) (T117.setTop (mkF m 8 #[.val (.ref a1), .val (.int i), .val (.int p_), .val (.ref t_116), .val (.int i)] [])) := by
    intro mm
    induction mm using Nat.strongRecOn with
    | _ mm ih117 =>
      intro k i T117 Lo117 h117 hm117 X117 e117 N117 K117 fa117_0 fa117_1 fa117_2 hi hk
      show own_Go p.tables e below _ (T117.setTop (mkF m 8 #[.val (.ref a1), .val (.int i), .val (.int p_), .val (.ref t_116), .val (.int i)] []))
      refine own_st (fun t_ k_ => XS.iload X117.here hx rfl (hb hby own_d12_8) rfl k_) ?_
      show own_Go p.tables e below _ (T117.setTop (mkF m 10 #[.val (.ref a1), .val (.int i), .val (.int p_), .val (.ref t_116), .val (.int i)] [(.int i)]))
      refine own_st (fun t_ k_ => XS.iloadN X117.here hx rfl (hb hby own_d12_10) rfl k_) ?_
      show own_Go p.tables e below _ (T117.setTop (mkF m 11 #[.val (.ref a1), .val (.int i), .val (.int p_), .val (.ref t_116), .val (.int i)] [(.int p_), (.int i)]))
      by_cases c11_118 : i < p_
      · skip
        have hkn : k < n1 := (own_ltp hi hp.1).mp c11_118
        refine own_st (fun t_ k_ => XS.icmpNo X117.here hx rfl (hb hby own_d12_11) rfl (tlt c11_118).2.1 k_) ?_
        show own_Go p.tables e below _ (T117.setTop (mkF m 14 #[.val (.ref a1), .val (.int i), .val (.int p_), .val (.ref t_116), .val (.int i)] []))
        refine own_st (fun t_ k_ => XS.aloadN X117.here hx rfl (hb hby own_d12_14) rfl rfl k_) ?_
        show own_Go p.tables e below _ (T117.setTop (mkF m 15 #[.val (.ref a1), .val (.int i), .val (.int p_), .val (.ref t_116), .val (.int i)] [(.ref t_116)]))
        refine own_st (fun t_ k_ => XS.iload X117.here hx rfl (hb hby own_d12_15) rfl k_) ?_
        show own_Go p.tables e below _ (T117.setTop (mkF m 17 #[.val (.ref a1), .val (.int i), .val (.int p_), .val (.ref t_116), .val (.int i)] [(.int i), (.ref t_116)]))
        refine own_st (fun t_ k_ => XS.aloadN X117.here hx rfl (hb hby own_d12_17) rfl rfl k_) ?_
        show own_Go p.tables e below _ (T117.setTop (mkF m 18 #[.val (.ref a1), .val (.int i), .val (.int p_), .val (.ref t_116), .val (.int i)] [(.ref a1), (.int i), (.ref t_116)]))
        refine own_st (fun t_ k_ => XS.iloadN X117.here hx rfl (hb hby own_d12_18) rfl k_) ?_
        show own_Go p.tables e below _ (T117.setTop (mkF m 19 #[.val (.ref a1), .val (.int i), .val (.int p_), .val (.ref t_116), .val (.int i)] [(.int i), (.ref a1), (.int i), (.ref t_116)]))
        refine own_st (own_caload X117 hx hZ e117 fa117_1 (i := k) hi hkn (g := (mkF m 19 #[.val (.ref a1), .val (.int i), .val (.int p_), .val (.ref t_116), .val (.int i)] [(.int i), (.ref a1), (.int i), (.ref t_116)])) rfl rfl (hb hby own_d12_19)) ?_
        show own_Go p.tables e below _ (T117.setTop (mkF m 20 #[.val (.ref a1), .val (.int i), .val (.int p_), .val (.ref t_116), .val (.int i)] [(.int (cs k)), (.int i), (.ref t_116)]))
        obtain ⟨_, _, ⟨T119, L119, k119, n119⟩, -, X119, ⟨Lc119, hQ119, l119, y119, z119⟩, st119⟩ := Jvm.LawKit.callS X117 hx (y := (⟨"java/lang/StringUTF16", "putChar", "([BII)V"⟩ : MethodName)) hown (mvT hZ (hw _ (List.mem_of_getElem? (i := 58) rfl))) (mvT hZ (hw _ (List.mem_of_getElem? (i := 59) rfl))) (mvT hZ (hw _ (List.mem_of_getElem? (i := 22) rfl))) (mvT hZ (hw _ (List.mem_of_getElem? (i := 60) rfl))) (by decide) (backOf (W := 0) (own_rm15 l Z a0 hw [] t_116 i (cs k) kt_116 (n1 + n1) (own_pb cs k) k h117 n0 (Nat.le_trans Z0 K117.1) fa117_0 q3 q4 q5 fa117_2 ge116_0 ⟨hi, (by omega), (by omega)⟩) hZ (hw _ (List.mem_of_getElem? (i := 60) rfl)) (hw _ (List.mem_of_getElem? (i := 22) rfl)) (by decide) (by decide)) (g := (mkF m 20 #[.val (.ref a1), .val (.int i), .val (.int p_), .val (.ref t_116), .val (.int i)] [(.int (cs k)), (.int i), (.ref t_116)])) rfl (by rw [hml]; rfl) (argsL := [(.ref t_116), (.int i), (.int (cs k))]) (rest := []) (lenOf own_pd2 rfl) rfl (by show 2 * 0 + _ ≤ _; exact Nat.le_of_eq rfl) (hb hby own_d12_20) (fun _ _ => ⟨rfl, e117, (by decide : 1 + 0 ≤ _), (by decide : 12 + 0 ≤ _)⟩)
        dsimp only [Pt.U, Pt.locs, Pt.cells, Pt.slots] at X119 l119 y119 z119 st119 hQ119
        subst y119 z119
        obtain ⟨rfl, N119q, Kq119, P119_0⟩ := hQ119
        have N119 : Fr n0 L119 := by rw [l119]; exact Fr.app N117 N119q
        have K119 : Keep h0 T119.heap [] := K117.trans Kq119 (allS (P := fun x => x ∈ [] ∨ h0.size ≤ x) (Or.inr fr116_0) all0)
        refine own_st (st119) ?_
        show own_Go p.tables e below _ (T119.setTop (mkF m 23 #[.val (.ref a1), .val (.int i), .val (.int p_), .val (.ref t_116), .val (.int i)] []))
        have Ac120 : own_A Z T119.heap t_116 kt_116 .byte (n1 + n1) (fun i => .int ((own_pb cs (k + 1)) i)) := P119_0.congr (fun q _ => by rw [own_pb_up])
        refine own_st (fun t_ k_ => XS.iinc X119.here hx rfl (hb hby own_d12_23) rfl (l' := #[.val (.ref a1), .val (.int (i + (1 : Int32))), .val (.int p_), .val (.ref t_116), .val (.int i)]) rfl k_) ?_
        show own_Go p.tables e below _ (T119.setTop (mkF m 26 #[.val (.ref a1), .val (.int (i + (1 : Int32))), .val (.int p_), .val (.ref t_116), .val (.int i)] []))
        refine own_st (fun t_ k_ => XS.iinc X119.here hx rfl (hb hby own_d12_26) rfl (l' := #[.val (.ref a1), .val (.int (i + (1 : Int32))), .val (.int p_), .val (.ref t_116), .val (.int (i + (1 : Int32)))]) rfl k_) ?_
        show own_Go p.tables e below _ (T119.setTop (mkF m 29 #[.val (.ref a1), .val (.int (i + (1 : Int32))), .val (.int p_), .val (.ref t_116), .val (.int (i + (1 : Int32)))] []))
        refine own_st (fun t_ k_ => XS.goto X119.here hx rfl (pc0 := 29) (pc' := 8) rfl (hb hby own_d12_29) (by decide) (by decide) k_) ?_
        show own_Go p.tables e below _ (T119.setTop (mkF m 8 #[.val (.ref a1), .val (.int (i + (1 : Int32))), .val (.int p_), .val (.ref t_116), .val (.int (i + (1 : Int32)))] []))
        exact ih117 _ (by omega) (k + 1) (i + (1 : Int32)) T119 _ T119.heap rfl X119 rfl N119 K119 ((fa117_0.keep Kq119 (allS ge116_0 all0))) ((fa117_1.keep Kq119 (ninS nq117_0 nin0))) (Ac120) (own_inc hi (by omega)) (by omega)
      · skip
        have hkn : k = n1 := by have q := mt (own_ltp hi hp.1).mpr c11_118; omega
        have Af : own_A Z h117 t_116 kt_116 .byte (n1 + n1) (fun i => .int ((own_u16 cs) i)) := fa117_2.congr (fun q hq => by simp only [own_pb]; rw [if_pos (by omega)])
        refine own_st (fun t_ k_ => XS.icmpYes X117.here hx rfl (pc0 := 11) (pc' := 32) rfl (hb hby own_d12_11) rfl (flt c11_118).2.1 (by decide) (by decide) k_) ?_
        show own_Go p.tables e below _ (T117.setTop (mkF m 32 #[.val (.ref a1), .val (.int i), .val (.int p_), .val (.ref t_116), .val (.int i)] []))
        refine own_st (fun t_ k_ => XS.aloadN X117.here hx rfl (hb hby own_d12_32) rfl rfl k_) ?_
        show own_Go p.tables e below _ (T117.setTop (mkF m 33 #[.val (.ref a1), .val (.int i), .val (.int p_), .val (.ref t_116), .val (.int i)] [(.ref t_116)]))
        exact own_ret (w := (.ref t_116)) X117 hx hnl Bd.returns rfl (Or.inr (Or.inr (Or.inr (Or.inr ⟨rfl, rfl, rfl⟩)))) (hb hby own_d12_33) ⟨t_116, kt_116, rfl, N117, (by rw [e117]; exact K117), fr116_0, (by rw [e117]; exact Af)⟩ (by decide) (by decide)
  exact loop117 _ 0 (0 : Int32) T116 _ T116.heap rfl X116 rfl N116 K116 ((q2.keep Kq116 all0)) ((q0.keep Kq116 nin0)) (qb0) (by decide) (Nat.zero_le _)

theorem own_d5_0 : decode jdk_52_method_16_code 0 = .ok (.iload_n 2, 1) := by decide +kernel
theorem own_d5_1 : decode jdk_52_method_16_code 1 = .ok (.newarray .byte, 2) := by decide +kernel
theorem own_d5_3 : decode jdk_52_method_16_code 3 = .ok (.astore_n 3, 1) := by decide +kernel
theorem own_d5_4 : decode jdk_52_method_16_code 4 = .ok (.aload_n 0, 1) := by decide +kernel
theorem own_d5_5 : decode jdk_52_method_16_code 5 = .ok (.iload_n 1, 1) := by decide +kernel
theorem own_d5_6 : decode jdk_52_method_16_code 6 = .ok (.aload_n 3, 1) := by decide +kernel
theorem own_d5_7 : decode jdk_52_method_16_code 7 = .ok (.iconst 0, 1) := by decide +kernel
theorem own_d5_8 : decode jdk_52_method_16_code 8 = .ok (.iload_n 2, 1) := by decide +kernel
theorem own_d5_9 : decode jdk_52_method_16_code 9 = .ok (.invokestatic 115, 3) := by decide +kernel
theorem own_d5_12 : decode jdk_52_method_16_code 12 = .ok (.istore 4, 2) := by decide +kernel
theorem own_d5_14 : decode jdk_52_method_16_code 14 = .ok (.iload 4, 2) := by decide +kernel
theorem own_d5_16 : decode jdk_52_method_16_code 16 = .ok (.iload_n 2, 1) := by decide +kernel
theorem own_d5_17 : decode jdk_52_method_16_code 17 = .ok (.if_icmp .eq 40, 3) := by decide +kernel
theorem own_d5_20 : decode jdk_52_method_16_code 20 = .ok (.aload_n 0, 1) := by decide +kernel
theorem own_d5_21 : decode jdk_52_method_16_code 21 = .ok (.iload_n 1, 1) := by decide +kernel
theorem own_d5_22 : decode jdk_52_method_16_code 22 = .ok (.iload_n 2, 1) := by decide +kernel
theorem own_d5_23 : decode jdk_52_method_16_code 23 = .ok (.invokestatic 119, 3) := by decide +kernel
theorem own_d5_26 : decode jdk_52_method_16_code 26 = .ok (.astore 5, 2) := by decide +kernel
theorem own_d5_28 : decode jdk_52_method_16_code 28 = .ok (.aload 5, 2) := by decide +kernel
theorem own_d5_30 : decode jdk_52_method_16_code 30 = .ok (.iload 4, 2) := by decide +kernel
theorem own_d5_32 : decode jdk_52_method_16_code 32 = .ok (.invokestatic 71, 3) := by decide +kernel
theorem own_d5_35 : decode jdk_52_method_16_code 35 = .ok (.sipush 255, 3) := by decide +kernel
theorem own_d5_38 : decode jdk_52_method_16_code 38 = .ok (.if_icmp .gt 16, 3) := by decide +kernel
theorem own_d5_54 : decode jdk_52_method_16_code 54 = .ok (.aload 5, 2) := by decide +kernel
theorem own_d5_56 : decode jdk_52_method_16_code 56 = .ok (.areturn, 1) := by decide +kernel
theorem own_d5_57 : decode jdk_52_method_16_code 57 = .ok (.aload_n 3, 1) := by decide +kernel
theorem own_d5_58 : decode jdk_52_method_16_code 58 = .ok (.areturn, 1) := by decide +kernel
theorem own_pd3 : parseMethodDescriptor "([CI[BII)I" = some ⟨[(.array .char), .int, (.array .byte), .int, .int], some .int⟩ := by decide +kernel
theorem own_pd4 : parseMethodDescriptor "([CII)[B" = some ⟨[(.array .char), .int, .int], some (.array .byte)⟩ := by decide +kernel
theorem own_pd5 : parseMethodDescriptor "([BI)C" = some ⟨[(.array .byte), .int], some .char⟩ := by decide +kernel
theorem own_ef5 (m : MethodId) (x0 : Addr) (x1 : Int32) (x2 : Int32) : entryFrame m #[(.ref x0), (.int x1), (.int x2)] 6 = mkF m 0 #[.val (.ref x0), .val (.int x1), .val (.int x2), .unset, .unset, .unset] [] := by first | (simp [entryFrame, mkF, argsToLocals, Value.category]; done) | rfl
def own_Q5 (Z : State) (a1 : Addr) (p_ : Int32) (k1 : ClassId) (n1 : Nat) (cs : Nat → Int32) (h0 : Heap) (n0 : Nat) (v : Option Value) (h : Heap) (L : List Loc) : Prop := ∃ (t : Addr) (kt : ClassId) (cd : Int32), v = some (.ref t) ∧ Fr n0 L ∧ Keep h0 h [] ∧ h0.size ≤ t ∧ own_A Z h t kt .byte (own_bl cd n1) (fun i => .int ((own_by cd cs) i)) ∧ ((cd = 0 ∧ ∀ q : Nat, q < n1 → ¬ (255 : Int32) < cs q) ∨ cd = 1)
set_option maxRecDepth 65536 in
set_option maxHeartbeats 40000000 in
theorem own_rm5 (l : Launch) (Z : State) (a0 : Array Value) (hw : ∀ d ∈ tables_1, d.before a0 Z = true) (ws : List Jvm.Cond) (a1 : Addr) (p_ : Int32) (k1 : ClassId) (n1 : Nat) (cs : Nat → Int32) (h0 : Heap) (n0 : Nat) (Z0 : n0 ≤ h0.size) (q0 : own_A Z h0 a1 k1 .char n1 (fun i => .int (cs i))) (hp : (p_.toInt = (n1 : Int) ∧ 1 ≤ n1 ∧ n1 ≤ 6)) (q2 : Old Z n0 h0) (q3 : Sta Z Z.heap "java/lang/StringUTF16" "$assertionsDisabled" "Z" (.int (1 : Int32))) (q4 : Sta Z Z.heap "java/lang/StringUTF16" "HI_BYTE_SHIFT" "I" (.int (0 : Int32))) (q5 : Sta Z Z.heap "java/lang/StringUTF16" "LO_BYTE_SHIFT" "I" (.int (8 : Int32))) :
    MetFree l (⟨"java/lang/StringUTF16", "compress", "([CII)[B"⟩ : MethodName) (head1 (Jvm.Cond.code (⟨"java/lang/StringUTF16", "compress", "([CII)[B"⟩ : MethodName) jdk_52_method_16_code 6 (some (.array .byte)) :: ws) ({ frames := 3, cells := 2, slots := 18, locals := 40 } : Room)) (fun a U => a = #[(.ref a1), (.int (0 : Int32)), (.int p_)] ∧ Z.Warmed39 U.vm ∧ U.heap = h0) (fun _ _ _ _ _ => True) (fun _ U o U' => ∃ v L, o = .returned v ∧ own_Q5 Z a1 p_ k1 n1 cs h0 n0 v U'.heap L ∧ FrameEnd U o U' L ({ frames := 3, cells := 2, slots := 18, locals := 40 } : Room).cells ({ frames := 3, cells := 2, slots := 18, locals := 40 } : Room).slots) := by
  refine MetFree.of_bodySF (plainFor_of_name own_pn0) hisR ?_
  intro p e s m args below meth c s₁ Bd hml0 hP hK
  obtain ⟨rfl, hZ, hh⟩ := hP
  have hx := Bd.exec
  have hby := Bd.bytes
  have hml : c.maxLocals = 6 := hml0
  have hown : s.vm.findClass "java/lang/StringUTF16" = some m.cls := findClass_of_methodNamed Bd.named
  have hnm := (name_of_methodNamed Bd.named Bd.method).1
  have hnl : meth.locks = false := Bd.notSynchronized
  have X0 : Stand p l e ({ frames := 3, cells := 2, slots := 18, locals := 40 } : Room) s m #[(.ref a1), (.int (0 : Int32)), (.int p_)] below meth c s₁ [] 0 0 := Stand.of_body Bd
  have e0 : s₁.heap = h0 := by rw [← hh, Bd.state]; rfl
  have N0 := Fr.nil n0
  show own_Go p.tables e below (own_P below s (own_Q5 Z a1 p_ k1 n1 cs h0 n0) ({ frames := 3, cells := 2, slots := 18, locals := 40 } : Room).cells ({ frames := 3, cells := 2, slots := 18, locals := 40 } : Room).slots) _
  refine own_st (fun t_ k_ => castTop (own_ef5 m a1 (0 : Int32) p_) k_) ?_
  show own_Go p.tables e below _ (s₁.setTop (mkF m 0 #[.val (.ref a1), .val (.int (0 : Int32)), .val (.int p_), .unset, .unset, .unset] []))
  refine own_st (fun t_ k_ => XS.iloadN X0.here hx rfl (hb hby own_d5_0) rfl k_) ?_
  show own_Go p.tables e below _ (s₁.setTop (mkF m 1 #[.val (.ref a1), .val (.int (0 : Int32)), .val (.int p_), .unset, .unset, .unset] [(.int p_)]))
  obtain ⟨T121, h121, k121, X121, e121, E121, A121, st121⟩ := newP X0 hx hZ (hw _ (List.mem_of_getElem? (i := 24) rfl)) e0 (g := (mkF m 1 #[.val (.ref a1), .val (.int (0 : Int32)), .val (.int p_), .unset, .unset, .unset] [(.int p_)])) rfl (hb hby own_d5_1) rfl (own_nn hp.1) (cap := 6) (own_cl hp.1 hp.2.2) (by decide) (by decide) (by decide)
  obtain ⟨b121, g121⟩ : ∃ z, z = h0.size := ⟨_, rfl⟩
  rw [← g121] at A121 st121
  have fr121 : h0.size ≤ b121 := Nat.le_trans (Keep.refl h0 []).1 (Nat.le_of_eq g121.symm)
  have ge121 : n0 ≤ b121 := Nat.le_trans Z0 fr121
  have K121 : Keep h0 h121 [] := (Keep.refl h0 []).ext E121
  have Ar121 : own_A Z h121 b121 k121 .byte n1 (fun i => .int ((fun _ => (0 : Int32)) i)) := own_A.new A121 (own_asN hp.1) (own_nn hp.1) (hn := by omega)
  refine own_st (st121) ?_
  show own_Go p.tables e below _ (T121.setTop (mkF m 3 #[.val (.ref a1), .val (.int (0 : Int32)), .val (.int p_), .unset, .unset, .unset] [(.ref b121)]))
  refine own_st (fun t_ k_ => XS.astoreN X121.here hx rfl (hb hby own_d5_3) rfl rfl (l' := #[.val (.ref a1), .val (.int (0 : Int32)), .val (.int p_), .val (.ref b121), .unset, .unset]) rfl k_) ?_
  show own_Go p.tables e below _ (T121.setTop (mkF m 4 #[.val (.ref a1), .val (.int (0 : Int32)), .val (.int p_), .val (.ref b121), .unset, .unset] []))
  refine own_st (fun t_ k_ => XS.aloadN X121.here hx rfl (hb hby own_d5_4) rfl rfl k_) ?_
  show own_Go p.tables e below _ (T121.setTop (mkF m 5 #[.val (.ref a1), .val (.int (0 : Int32)), .val (.int p_), .val (.ref b121), .unset, .unset] [(.ref a1)]))
  refine own_st (fun t_ k_ => XS.iloadN X121.here hx rfl (hb hby own_d5_5) rfl k_) ?_
  show own_Go p.tables e below _ (T121.setTop (mkF m 6 #[.val (.ref a1), .val (.int (0 : Int32)), .val (.int p_), .val (.ref b121), .unset, .unset] [(.int (0 : Int32)), (.ref a1)]))
  refine own_st (fun t_ k_ => XS.aloadN X121.here hx rfl (hb hby own_d5_6) rfl rfl k_) ?_
  show own_Go p.tables e below _ (T121.setTop (mkF m 7 #[.val (.ref a1), .val (.int (0 : Int32)), .val (.int p_), .val (.ref b121), .unset, .unset] [(.ref b121), (.int (0 : Int32)), (.ref a1)]))
  refine own_st (fun t_ k_ => XS.iconst X121.here hx rfl (hb hby own_d5_7) k_) ?_
  show own_Go p.tables e below _ (T121.setTop (mkF m 8 #[.val (.ref a1), .val (.int (0 : Int32)), .val (.int p_), .val (.ref b121), .unset, .unset] [(.int (0 : Int32)), (.ref b121), (.int (0 : Int32)), (.ref a1)]))
  refine own_st (fun t_ k_ => XS.iloadN X121.here hx rfl (hb hby own_d5_8) rfl k_) ?_
  show own_Go p.tables e below _ (T121.setTop (mkF m 9 #[.val (.ref a1), .val (.int (0 : Int32)), .val (.int p_), .val (.ref b121), .unset, .unset] [(.int p_), (.int (0 : Int32)), (.ref b121), (.int (0 : Int32)), (.ref a1)]))
  obtain ⟨_, _, ⟨T122, L122, k122, n122⟩, -, X122, ⟨Lc122, hQ122, l122, y122, z122⟩, st122⟩ := Jvm.LawKit.callS X121 hx (y := (⟨"java/lang/StringUTF16", "compress", "([CI[BII)I"⟩ : MethodName)) hown (mvT hZ (hw _ (List.mem_of_getElem? (i := 25) rfl))) (mvT hZ (hw _ (List.mem_of_getElem? (i := 26) rfl))) (mvT hZ (hw _ (List.mem_of_getElem? (i := 22) rfl))) (mvT hZ (hw _ (List.mem_of_getElem? (i := 27) rfl))) (by decide) (backOf (W := 0) (own_rm6 l Z a0 hw [] a1 b121 p_ k1 k121 n1 cs (fun _ => (0 : Int32)) h121 n0 (Nat.le_trans Z0 K121.1) (q0.ext E121) Ar121 ge121 (Nat.ne_of_lt (Nat.lt_of_lt_of_le q0.lt (Nat.le_of_eq g121.symm))) ⟨hp.1, (by omega)⟩) hZ (hw _ (List.mem_of_getElem? (i := 27) rfl)) (hw _ (List.mem_of_getElem? (i := 22) rfl)) (by decide) (by decide)) (g := (mkF m 9 #[.val (.ref a1), .val (.int (0 : Int32)), .val (.int p_), .val (.ref b121), .unset, .unset] [(.int p_), (.int (0 : Int32)), (.ref b121), (.int (0 : Int32)), (.ref a1)])) rfl (by rw [hml]; rfl) (argsL := [(.ref a1), (.int (0 : Int32)), (.ref b121), (.int (0 : Int32)), (.int p_)]) (rest := []) (lenOf own_pd3 rfl) rfl (by show 2 * 0 + _ ≤ _; exact Nat.le_of_eq rfl) (hb hby own_d5_9) (fun _ _ => ⟨rfl, e121, (by decide : 1 + 0 ≤ _), (by decide : 6 + 0 ≤ _)⟩)
  dsimp only [Pt.U, Pt.locs, Pt.cells, Pt.slots] at X122 l122 y122 z122 st122 hQ122
  subst y122 z122
  obtain ⟨j_122, rfl, N122q, Kq122, P122_0, P122_1⟩ := hQ122
  have N122 : Fr n0 L122 := by rw [l122]; exact Fr.app N0 N122q
  have K122 : Keep h0 T122.heap [] := K121.trans Kq122 (allS (P := fun x => x ∈ [] ∨ h0.size ≤ x) (Or.inr fr121) all0)
  refine own_st (st122) ?_
  show own_Go p.tables e below _ (T122.setTop (mkF m 12 #[.val (.ref a1), .val (.int (0 : Int32)), .val (.int p_), .val (.ref b121), .unset, .unset] [(.int (Int32.ofNat j_122))]))
  have hj := P122_1
  refine own_st (fun t_ k_ => XS.istore X122.here hx rfl (hb hby own_d5_12) rfl (l' := #[.val (.ref a1), .val (.int (0 : Int32)), .val (.int p_), .val (.ref b121), .val (.int (Int32.ofNat j_122)), .unset]) rfl k_) ?_
  show own_Go p.tables e below _ (T122.setTop (mkF m 14 #[.val (.ref a1), .val (.int (0 : Int32)), .val (.int p_), .val (.ref b121), .val (.int (Int32.ofNat j_122)), .unset] []))
  refine own_st (fun t_ k_ => XS.iload X122.here hx rfl (hb hby own_d5_14) rfl k_) ?_
  show own_Go p.tables e below _ (T122.setTop (mkF m 16 #[.val (.ref a1), .val (.int (0 : Int32)), .val (.int p_), .val (.ref b121), .val (.int (Int32.ofNat j_122)), .unset] [(.int (Int32.ofNat j_122))]))
  refine own_st (fun t_ k_ => XS.iloadN X122.here hx rfl (hb hby own_d5_16) rfl k_) ?_
  show own_Go p.tables e below _ (T122.setTop (mkF m 17 #[.val (.ref a1), .val (.int (0 : Int32)), .val (.int p_), .val (.ref b121), .val (.int (Int32.ofNat j_122)), .unset] [(.int p_), (.int (Int32.ofNat j_122))]))
  by_cases c17_123 : (Int32.ofNat j_122) = p_
  · skip
    refine own_st (fun t_ k_ => XS.icmpYes X122.here hx rfl (pc0 := 17) (pc' := 57) rfl (hb hby own_d5_17) rfl (teq c17_123).1 (by decide) (by decide) k_) ?_
    show own_Go p.tables e below _ (T122.setTop (mkF m 57 #[.val (.ref a1), .val (.int (0 : Int32)), .val (.int p_), .val (.ref b121), .val (.int (Int32.ofNat j_122)), .unset] []))
    have ej : j_122 = n1 := own_ofN hp.1 hj.1 c17_123
    have Al : own_A Z T122.heap b121 k121 .byte (own_bl (0 : Int32) n1) (fun i => .int ((own_by (0 : Int32) cs) i)) := by rw [own_bl0]; exact (P122_0).congr (fun q hq => by rw [own_by0]; simp only [own_cb]; rw [if_pos (by omega)])
    refine own_st (fun t_ k_ => XS.aloadN X122.here hx rfl (hb hby own_d5_57) rfl rfl k_) ?_
    show own_Go p.tables e below _ (T122.setTop (mkF m 58 #[.val (.ref a1), .val (.int (0 : Int32)), .val (.int p_), .val (.ref b121), .val (.int (Int32.ofNat j_122)), .unset] [(.ref b121)]))
    exact own_ret (w := (.ref b121)) X122 hx hnl Bd.returns rfl (Or.inr (Or.inr (Or.inr (Or.inr ⟨rfl, rfl, rfl⟩)))) (hb hby own_d5_58) ⟨b121, k121, (0 : Int32), rfl, N122, (K122), fr121, (Al), (Or.inl ⟨rfl, fun q hq => hj.2.1 q (by omega)⟩)⟩ (by decide) (by decide)
  · skip
    have hjn : j_122 < n1 := own_ofNn hp.1 hj.1 c17_123
    refine own_st (fun t_ k_ => XS.icmpNo X122.here hx rfl (hb hby own_d5_17) rfl (feq c17_123).1 k_) ?_
    show own_Go p.tables e below _ (T122.setTop (mkF m 20 #[.val (.ref a1), .val (.int (0 : Int32)), .val (.int p_), .val (.ref b121), .val (.int (Int32.ofNat j_122)), .unset] []))
    refine own_st (fun t_ k_ => XS.aloadN X122.here hx rfl (hb hby own_d5_20) rfl rfl k_) ?_
    show own_Go p.tables e below _ (T122.setTop (mkF m 21 #[.val (.ref a1), .val (.int (0 : Int32)), .val (.int p_), .val (.ref b121), .val (.int (Int32.ofNat j_122)), .unset] [(.ref a1)]))
    refine own_st (fun t_ k_ => XS.iloadN X122.here hx rfl (hb hby own_d5_21) rfl k_) ?_
    show own_Go p.tables e below _ (T122.setTop (mkF m 22 #[.val (.ref a1), .val (.int (0 : Int32)), .val (.int p_), .val (.ref b121), .val (.int (Int32.ofNat j_122)), .unset] [(.int (0 : Int32)), (.ref a1)]))
    refine own_st (fun t_ k_ => XS.iloadN X122.here hx rfl (hb hby own_d5_22) rfl k_) ?_
    show own_Go p.tables e below _ (T122.setTop (mkF m 23 #[.val (.ref a1), .val (.int (0 : Int32)), .val (.int p_), .val (.ref b121), .val (.int (Int32.ofNat j_122)), .unset] [(.int p_), (.int (0 : Int32)), (.ref a1)]))
    obtain ⟨_, _, ⟨T124, L124, k124, n124⟩, -, X124, ⟨Lc124, hQ124, l124, y124, z124⟩, st124⟩ := Jvm.LawKit.callS X122 hx (y := (⟨"java/lang/StringUTF16", "toBytes", "([CII)[B"⟩ : MethodName)) hown (mvT hZ (hw _ (List.mem_of_getElem? (i := 48) rfl))) (mvT hZ (hw _ (List.mem_of_getElem? (i := 49) rfl))) (mvT hZ (hw _ (List.mem_of_getElem? (i := 22) rfl))) (mvT hZ (hw _ (List.mem_of_getElem? (i := 50) rfl))) (by decide) (backOf (W := 0) (own_rm12 l Z a0 hw [] a1 p_ k1 n1 cs T122.heap n0 (Nat.le_trans Z0 K122.1) ((q0.ext E121).keep Kq122 (ninS (Nat.ne_of_lt (Nat.lt_of_lt_of_le q0.lt (Nat.le_of_eq g121.symm))) nin0)) ⟨hp.1, (by omega)⟩ ((q2.ext E121).keep Kq122 (allS ge121 all0)) q3 q4 q5) hZ (hw _ (List.mem_of_getElem? (i := 50) rfl)) (hw _ (List.mem_of_getElem? (i := 22) rfl)) (by decide) (by decide)) (g := (mkF m 23 #[.val (.ref a1), .val (.int (0 : Int32)), .val (.int p_), .val (.ref b121), .val (.int (Int32.ofNat j_122)), .unset] [(.int p_), (.int (0 : Int32)), (.ref a1)])) rfl (by rw [hml]; rfl) (argsL := [(.ref a1), (.int (0 : Int32)), (.int p_)]) (rest := []) (lenOf own_pd4 rfl) rfl (by show 2 * 0 + _ ≤ _; exact Nat.le_of_eq rfl) (hb hby own_d5_23) (fun _ _ => ⟨rfl, rfl, (by decide : 1 + 1 ≤ _), (by decide : 6 + 12 ≤ _)⟩)
    dsimp only [Pt.U, Pt.locs, Pt.cells, Pt.slots] at X124 l124 y124 z124 st124 hQ124
    subst y124 z124
    obtain ⟨t_124, kt_124, rfl, N124q, Kq124, P124_0, P124_1⟩ := hQ124
    have N124 : Fr n0 L124 := by rw [l124]; exact Fr.app N122 N124q
    have K124 : Keep h0 T124.heap [] := K122.trans Kq124 all0
    have fr124_0 : h0.size ≤ t_124 := Nat.le_trans K122.1 P124_0
    have ge124_0 : n0 ≤ t_124 := Nat.le_trans Z0 fr124_0
    refine own_st (st124) ?_
    show own_Go p.tables e below _ (T124.setTop (mkF m 26 #[.val (.ref a1), .val (.int (0 : Int32)), .val (.int p_), .val (.ref b121), .val (.int (Int32.ofNat j_122)), .unset] [(.ref t_124)]))
    refine own_st (fun t_ k_ => XS.astore X124.here hx rfl (hb hby own_d5_26) rfl rfl (l' := #[.val (.ref a1), .val (.int (0 : Int32)), .val (.int p_), .val (.ref b121), .val (.int (Int32.ofNat j_122)), .val (.ref t_124)]) rfl k_) ?_
    show own_Go p.tables e below _ (T124.setTop (mkF m 28 #[.val (.ref a1), .val (.int (0 : Int32)), .val (.int p_), .val (.ref b121), .val (.int (Int32.ofNat j_122)), .val (.ref t_124)] []))
    refine own_st (fun t_ k_ => XS.aload X124.here hx rfl (hb hby own_d5_28) rfl rfl k_) ?_
    show own_Go p.tables e below _ (T124.setTop (mkF m 30 #[.val (.ref a1), .val (.int (0 : Int32)), .val (.int p_), .val (.ref b121), .val (.int (Int32.ofNat j_122)), .val (.ref t_124)] [(.ref t_124)]))
    refine own_st (fun t_ k_ => XS.iload X124.here hx rfl (hb hby own_d5_30) rfl k_) ?_
    show own_Go p.tables e below _ (T124.setTop (mkF m 32 #[.val (.ref a1), .val (.int (0 : Int32)), .val (.int p_), .val (.ref b121), .val (.int (Int32.ofNat j_122)), .val (.ref t_124)] [(.int (Int32.ofNat j_122)), (.ref t_124)]))
    obtain ⟨_, _, ⟨T125, L125, k125, n125⟩, -, X125, ⟨Lc125, hQ125, l125, y125, z125⟩, st125⟩ := Jvm.LawKit.callS X124 hx (y := (⟨"java/lang/StringUTF16", "getChar", "([BI)C"⟩ : MethodName)) hown (mvT hZ (hw _ (List.mem_of_getElem? (i := 64) rfl))) (mvT hZ (hw _ (List.mem_of_getElem? (i := 65) rfl))) (mvT hZ (hw _ (List.mem_of_getElem? (i := 22) rfl))) (mvT hZ (hw _ (List.mem_of_getElem? (i := 66) rfl))) (by decide) (backOf (W := 0) (own_rm16 l Z a0 hw [] t_124 (Int32.ofNat j_122) kt_124 (n1 + n1) (own_u16 cs) j_122 (cs j_122) T124.heap n0 (Nat.le_trans Z0 K124.1) (((q2.ext E121).keep Kq122 (allS ge121 all0)).keep Kq124 all0) q3 q4 q5 P124_1 ⟨(own_toN (by omega)), (by omega), (by omega)⟩ ⟨(own_char (q0.fit hjn)).1, (own_char (q0.fit hjn)).2, (own_u16e cs _), (own_u16o cs _)⟩) hZ (hw _ (List.mem_of_getElem? (i := 66) rfl)) (hw _ (List.mem_of_getElem? (i := 22) rfl)) (by decide) (by decide)) (g := (mkF m 32 #[.val (.ref a1), .val (.int (0 : Int32)), .val (.int p_), .val (.ref b121), .val (.int (Int32.ofNat j_122)), .val (.ref t_124)] [(.int (Int32.ofNat j_122)), (.ref t_124)])) rfl (by rw [hml]; rfl) (argsL := [(.ref t_124), (.int (Int32.ofNat j_122))]) (rest := []) (lenOf own_pd5 rfl) rfl (by show 2 * 0 + _ ≤ _; exact Nat.le_of_eq rfl) (hb hby own_d5_32) (fun _ _ => ⟨rfl, rfl, (by decide : 2 + 0 ≤ _), (by decide : 18 + 0 ≤ _)⟩)
    dsimp only [Pt.U, Pt.locs, Pt.cells, Pt.slots] at X125 l125 y125 z125 st125 hQ125
    subst y125 z125
    obtain ⟨rfl, N125q, eq125⟩ := hQ125
    have N125 : Fr n0 L125 := by rw [l125]; exact Fr.app N124 N125q
    refine own_st (st125) ?_
    show own_Go p.tables e below _ (T125.setTop (mkF m 35 #[.val (.ref a1), .val (.int (0 : Int32)), .val (.int p_), .val (.ref b121), .val (.int (Int32.ofNat j_122)), .val (.ref t_124)] [(.int (cs j_122))]))
    refine own_st (fun t_ k_ => XS.sipush X125.here hx rfl (hb hby own_d5_35) k_) ?_
    show own_Go p.tables e below _ (T125.setTop (mkF m 38 #[.val (.ref a1), .val (.int (0 : Int32)), .val (.int p_), .val (.ref b121), .val (.int (Int32.ofNat j_122)), .val (.ref t_124)] [(.int (255 : Int32)), (.int (cs j_122))]))
    refine own_st (fun t_ k_ => XS.icmpYes X125.here hx rfl (pc0 := 38) (pc' := 54) rfl (hb hby own_d5_38) rfl (tlt (hj.2.2 hjn : (255 : Int32) < (cs j_122))).2.2.1 (by decide) (by decide) k_) ?_
    show own_Go p.tables e below _ (T125.setTop (mkF m 54 #[.val (.ref a1), .val (.int (0 : Int32)), .val (.int p_), .val (.ref b121), .val (.int (Int32.ofNat j_122)), .val (.ref t_124)] []))
    have Al : own_A Z T124.heap t_124 kt_124 .byte (own_bl (1 : Int32) n1) (fun i => .int ((own_by (1 : Int32) cs) i)) := by rw [own_bl1]; exact (P124_1).congr (fun q hq => by rw [own_by1])
    refine own_st (fun t_ k_ => XS.aload X125.here hx rfl (hb hby own_d5_54) rfl rfl k_) ?_
    show own_Go p.tables e below _ (T125.setTop (mkF m 56 #[.val (.ref a1), .val (.int (0 : Int32)), .val (.int p_), .val (.ref b121), .val (.int (Int32.ofNat j_122)), .val (.ref t_124)] [(.ref t_124)]))
    exact own_ret (w := (.ref t_124)) X125 hx hnl Bd.returns rfl (Or.inr (Or.inr (Or.inr (Or.inr ⟨rfl, rfl, rfl⟩)))) (hb hby own_d5_56) ⟨t_124, kt_124, (1 : Int32), rfl, N125, (by rw [eq125]; exact K124), fr124_0, (by rw [eq125]; exact Al), (Or.inr rfl)⟩ (by decide) (by decide)

theorem own_d3_0 : decode jdk_42_method_149_code 0 = .ok (.aload_n 0, 1) := by decide +kernel
theorem own_d3_1 : decode jdk_42_method_149_code 1 = .ok (.invokespecial 1, 3) := by decide +kernel
theorem own_d3_4 : decode jdk_42_method_149_code 4 = .ok (.iload_n 3, 1) := by decide +kernel
theorem own_d3_5 : decode jdk_42_method_149_code 5 = .ok (.ifCond .ne 22, 3) := by decide +kernel
theorem own_d3_27 : decode jdk_42_method_149_code 27 = .ok (.getstatic 38, 3) := by decide +kernel
theorem own_d3_30 : decode jdk_42_method_149_code 30 = .ok (.ifCond .eq 28, 3) := by decide +kernel
theorem own_d3_33 : decode jdk_42_method_149_code 33 = .ok (.aload_n 1, 1) := by decide +kernel
theorem own_d3_34 : decode jdk_42_method_149_code 34 = .ok (.iload_n 2, 1) := by decide +kernel
theorem own_d3_35 : decode jdk_42_method_149_code 35 = .ok (.iload_n 3, 1) := by decide +kernel
theorem own_d3_36 : decode jdk_42_method_149_code 36 = .ok (.invokestatic 177, 3) := by decide +kernel
theorem own_d3_39 : decode jdk_42_method_149_code 39 = .ok (.astore 5, 2) := by decide +kernel
theorem own_d3_41 : decode jdk_42_method_149_code 41 = .ok (.aload_n 0, 1) := by decide +kernel
theorem own_d3_42 : decode jdk_42_method_149_code 42 = .ok (.aload 5, 2) := by decide +kernel
theorem own_d3_44 : decode jdk_42_method_149_code 44 = .ok (.iload_n 3, 1) := by decide +kernel
theorem own_d3_45 : decode jdk_42_method_149_code 45 = .ok (.invokestatic 47, 3) := by decide +kernel
theorem own_d3_48 : decode jdk_42_method_149_code 48 = .ok (.putfield 15, 3) := by decide +kernel
theorem own_d3_51 : decode jdk_42_method_149_code 51 = .ok (.aload_n 0, 1) := by decide +kernel
theorem own_d3_52 : decode jdk_42_method_149_code 52 = .ok (.aload 5, 2) := by decide +kernel
theorem own_d3_54 : decode jdk_42_method_149_code 54 = .ok (.putfield 9, 3) := by decide +kernel
theorem own_d3_57 : decode jdk_42_method_149_code 57 = .ok (.return_, 1) := by decide +kernel
theorem own_pn1 : plainName "java/lang/String" = true := by first | (simp [plainName, overriddenIn]; done) | decide +kernel
theorem own_pd6 : parseMethodDescriptor "([BI)B" = some ⟨[(.array .byte), .int], some .byte⟩ := by decide +kernel
theorem own_ef3 (m : MethodId) (x0 : Addr) (x1 : Addr) (x2 : Int32) (x3 : Int32) : entryFrame m #[(.ref x0), (.ref x1), (.int x2), (.int x3), .null] 6 = mkF m 0 #[.val (.ref x0), .val (.ref x1), .val (.int x2), .val (.int x3), .val .null, .unset] [] := by first | (simp [entryFrame, mkF, argsToLocals, Value.category]; done) | rfl
def own_Q3 (Z : State) (a1 : Addr) (b1 : Addr) (p_ : Int32) (k1 : ClassId) (n1 : Nat) (cs : Nat → Int32) (G1 : Int32) (h0 : Heap) (n0 : Nat) (v : Option Value) (h : Heap) (L : List Loc) : Prop := ∃ (t : Addr) (kt : ClassId) (cd : Int32), v = none ∧ Fr n0 L ∧ Keep h0 h [a1] ∧ h0.size ≤ t ∧ Fld Z h a1 "java/lang/String" "value" "[B" (.ref t) ∧ Fld Z h a1 "java/lang/String" "coder" "B" (.int cd) ∧ own_A Z h t kt .byte (own_bl cd n1) (fun i => .int ((own_by cd cs) i)) ∧ ((cd = 0 ∧ ∀ q : Nat, q < n1 → ¬ (255 : Int32) < cs q) ∨ cd = 1)
set_option maxRecDepth 65536 in
set_option maxHeartbeats 40000000 in
theorem own_rm3 (l : Launch) (Z : State) (a0 : Array Value) (hw : ∀ d ∈ tables_1, d.before a0 Z = true) (ws : List Jvm.Cond) (a1 : Addr) (b1 : Addr) (p_ : Int32) (k1 : ClassId) (n1 : Nat) (cs : Nat → Int32) (G1 : Int32) (h0 : Heap) (n0 : Nat) (Z0 : n0 ≤ h0.size) (q0 : Exa Z h0 a1 "java/lang/String") (q1 : Fld Z h0 a1 "java/lang/String" "value" "[B" .null) (q2 : Fld Z h0 a1 "java/lang/String" "coder" "B" (.int (0 : Int32))) (q3 : own_A Z h0 b1 k1 .char n1 (fun i => .int (cs i))) (q4 : n0 ≤ a1) (hne : (a1 ≠ b1)) (hp : (p_.toInt = (n1 : Int) ∧ 1 ≤ n1 ∧ n1 ≤ 6)) (q7 : Old Z n0 h0) (q8 : Sta Z Z.heap "java/lang/String" "COMPACT_STRINGS" "Z" (.int G1)) (hG1 : (¬ G1 = (0 : Int32))) (q10 : Sta Z Z.heap "java/lang/StringUTF16" "$assertionsDisabled" "Z" (.int (1 : Int32))) (q11 : Sta Z Z.heap "java/lang/StringUTF16" "HI_BYTE_SHIFT" "I" (.int (0 : Int32))) (q12 : Sta Z Z.heap "java/lang/StringUTF16" "LO_BYTE_SHIFT" "I" (.int (8 : Int32))) :
    MetFree l (⟨"java/lang/String", "<init>", "([CIILjava/lang/Void;)V"⟩ : MethodName) (head1 (Jvm.Cond.code (⟨"java/lang/String", "<init>", "([CIILjava/lang/Void;)V"⟩ : MethodName) jdk_42_method_149_code 6 none :: ws) ({ frames := 4, cells := 2, slots := 18, locals := 57 } : Room)) (fun a U => a = #[(.ref a1), (.ref b1), (.int (0 : Int32)), (.int p_), .null] ∧ Z.Warmed39 U.vm ∧ U.heap = h0) (fun _ _ _ _ _ => True) (fun _ U o U' => ∃ v L, o = .returned v ∧ own_Q3 Z a1 b1 p_ k1 n1 cs G1 h0 n0 v U'.heap L ∧ FrameEnd U o U' L ({ frames := 4, cells := 2, slots := 18, locals := 57 } : Room).cells ({ frames := 4, cells := 2, slots := 18, locals := 57 } : Room).slots) := by
  refine MetFree.of_bodySF (plainFor_of_name own_pn1) hisR ?_
  intro p e s m args below meth c s₁ Bd hml0 hP hK
  obtain ⟨rfl, hZ, hh⟩ := hP
  have hx := Bd.exec
  have hby := Bd.bytes
  have hml : c.maxLocals = 6 := hml0
  have hown : s.vm.findClass "java/lang/String" = some m.cls := findClass_of_methodNamed Bd.named
  have hnm := (name_of_methodNamed Bd.named Bd.method).1
  have hnl : meth.locks = false := Bd.notSynchronized
  have X0 : Stand p l e ({ frames := 4, cells := 2, slots := 18, locals := 57 } : Room) s m #[(.ref a1), (.ref b1), (.int (0 : Int32)), (.int p_), .null] below meth c s₁ [] 0 0 := Stand.of_body Bd
  have e0 : s₁.heap = h0 := by rw [← hh, Bd.state]; rfl
  have N0 := Fr.nil n0
  show own_Go p.tables e below (own_P below s (own_Q3 Z a1 b1 p_ k1 n1 cs G1 h0 n0) ({ frames := 4, cells := 2, slots := 18, locals := 57 } : Room).cells ({ frames := 4, cells := 2, slots := 18, locals := 57 } : Room).slots) _
  refine own_st (fun t_ k_ => castTop (own_ef3 m a1 b1 (0 : Int32) p_) k_) ?_
  show own_Go p.tables e below _ (s₁.setTop (mkF m 0 #[.val (.ref a1), .val (.ref b1), .val (.int (0 : Int32)), .val (.int p_), .val .null, .unset] []))
  refine own_st (fun t_ k_ => XS.aloadN X0.here hx rfl (hb hby own_d3_0) rfl rfl k_) ?_
  show own_Go p.tables e below _ (s₁.setTop (mkF m 1 #[.val (.ref a1), .val (.ref b1), .val (.int (0 : Int32)), .val (.int p_), .val .null, .unset] [(.ref a1)]))
  obtain ⟨T126, X126, e126, st126⟩ := initO X0 hx hZ hown (hw _ (List.mem_of_getElem? (i := 16) rfl)) (hw _ (List.mem_of_getElem? (i := 17) rfl)) (hw _ (List.mem_of_getElem? (i := 18) rfl)) e0 (g := (mkF m 1 #[.val (.ref a1), .val (.ref b1), .val (.int (0 : Int32)), .val (.int p_), .val .null, .unset] [(.ref a1)])) rfl (by rw [hml]; rfl) rfl (hb hby own_d3_1) (by decide) (W := 0) (by show 2 * 0 + _ ≤ _; exact Nat.le_of_eq rfl) (by decide)
  refine own_st (st126) ?_
  show own_Go p.tables e below _ (T126.setTop (mkF m 4 #[.val (.ref a1), .val (.ref b1), .val (.int (0 : Int32)), .val (.int p_), .val .null, .unset] []))
  refine own_st (fun t_ k_ => XS.iloadN X126.here hx rfl (hb hby own_d3_4) rfl k_) ?_
  show own_Go p.tables e below _ (T126.setTop (mkF m 5 #[.val (.ref a1), .val (.ref b1), .val (.int (0 : Int32)), .val (.int p_), .val .null, .unset] [(.int p_)]))
  refine own_st (fun t_ k_ => XS.ifYes X126.here hx rfl (pc0 := 5) (pc' := 27) rfl (hb hby own_d3_5) rfl ((if0 _ _).trans (feq (own_nz hp.1 hp.2.1)).2) (by decide) (by decide) k_) ?_
  show own_Go p.tables e below _ (T126.setTop (mkF m 27 #[.val (.ref a1), .val (.ref b1), .val (.int (0 : Int32)), .val (.int p_), .val .null, .unset] []))
  obtain ⟨T127, X127, e127, st127⟩ := getS2 X126 hx hZ hown (host := "") (Or.inl (hw _ (List.mem_of_getElem? (i := 19) rfl))) Via.refl e126 (q8.ext q7.2) (g := (mkF m 27 #[.val (.ref a1), .val (.ref b1), .val (.int (0 : Int32)), .val (.int p_), .val .null, .unset] [])) rfl (hb hby own_d3_27)
  refine own_st (st127) ?_
  show own_Go p.tables e below _ (T127.setTop (mkF m 30 #[.val (.ref a1), .val (.ref b1), .val (.int (0 : Int32)), .val (.int p_), .val .null, .unset] [(.int G1)]))
  refine own_st (fun t_ k_ => XS.ifNo X127.here hx rfl (hb hby own_d3_30) rfl ((if0 _ _).trans (feq hG1).1) k_) ?_
  show own_Go p.tables e below _ (T127.setTop (mkF m 33 #[.val (.ref a1), .val (.ref b1), .val (.int (0 : Int32)), .val (.int p_), .val .null, .unset] []))
  refine own_st (fun t_ k_ => XS.aloadN X127.here hx rfl (hb hby own_d3_33) rfl rfl k_) ?_
  show own_Go p.tables e below _ (T127.setTop (mkF m 34 #[.val (.ref a1), .val (.ref b1), .val (.int (0 : Int32)), .val (.int p_), .val .null, .unset] [(.ref b1)]))
  refine own_st (fun t_ k_ => XS.iloadN X127.here hx rfl (hb hby own_d3_34) rfl k_) ?_
  show own_Go p.tables e below _ (T127.setTop (mkF m 35 #[.val (.ref a1), .val (.ref b1), .val (.int (0 : Int32)), .val (.int p_), .val .null, .unset] [(.int (0 : Int32)), (.ref b1)]))
  refine own_st (fun t_ k_ => XS.iloadN X127.here hx rfl (hb hby own_d3_35) rfl k_) ?_
  show own_Go p.tables e below _ (T127.setTop (mkF m 36 #[.val (.ref a1), .val (.ref b1), .val (.int (0 : Int32)), .val (.int p_), .val .null, .unset] [(.int p_), (.int (0 : Int32)), (.ref b1)]))
  obtain ⟨_, _, ⟨T128, L128, k128, n128⟩, -, X128, ⟨Lc128, hQ128, l128, y128, z128⟩, st128⟩ := Jvm.LawKit.callS X127 hx (y := (⟨"java/lang/StringUTF16", "compress", "([CII)[B"⟩ : MethodName)) hown (mvT hZ (hw _ (List.mem_of_getElem? (i := 20) rfl))) (mvT hZ (hw _ (List.mem_of_getElem? (i := 21) rfl))) (mvT hZ (hw _ (List.mem_of_getElem? (i := 22) rfl))) (mvT hZ (hw _ (List.mem_of_getElem? (i := 23) rfl))) (by decide) (backOf (W := 0) (own_rm5 l Z a0 hw [] b1 p_ k1 n1 cs h0 n0 (Nat.le_trans Z0 (Keep.refl h0 [a1]).1) q3 ⟨hp.1, hp.2.1, hp.2.2⟩ q7 q10 q11 q12) hZ (hw _ (List.mem_of_getElem? (i := 23) rfl)) (hw _ (List.mem_of_getElem? (i := 22) rfl)) (by decide) (by decide)) (g := (mkF m 36 #[.val (.ref a1), .val (.ref b1), .val (.int (0 : Int32)), .val (.int p_), .val .null, .unset] [(.int p_), (.int (0 : Int32)), (.ref b1)])) rfl (by rw [hml]; rfl) (argsL := [(.ref b1), (.int (0 : Int32)), (.int p_)]) (rest := []) (lenOf own_pd4 rfl) rfl (by show 2 * 0 + _ ≤ _; exact Nat.le_of_eq rfl) (hb hby own_d3_36) (fun _ _ => ⟨rfl, e127, (by decide : 0 + 2 ≤ _), (by decide : 0 + 18 ≤ _)⟩)
  dsimp only [Pt.U, Pt.locs, Pt.cells, Pt.slots] at X128 l128 y128 z128 st128 hQ128
  subst y128 z128
  obtain ⟨t_128, kt_128, cd_128, rfl, N128q, Kq128, P128_0, P128_1, P128_2⟩ := hQ128
  have N128 : Fr n0 L128 := by rw [l128]; exact Fr.app N0 N128q
  have K128 : Keep h0 T128.heap [a1] := (Keep.refl h0 [a1]).trans Kq128 all0
  have fr128_0 : h0.size ≤ t_128 := Nat.le_trans (Keep.refl h0 [a1]).1 P128_0
  have ge128_0 : n0 ≤ t_128 := Nat.le_trans Z0 fr128_0
  refine own_st (st128) ?_
  show own_Go p.tables e below _ (T128.setTop (mkF m 39 #[.val (.ref a1), .val (.ref b1), .val (.int (0 : Int32)), .val (.int p_), .val .null, .unset] [(.ref t_128)]))
  refine own_st (fun t_ k_ => XS.astore X128.here hx rfl (hb hby own_d3_39) rfl rfl (l' := #[.val (.ref a1), .val (.ref b1), .val (.int (0 : Int32)), .val (.int p_), .val .null, .val (.ref t_128)]) rfl k_) ?_
  show own_Go p.tables e below _ (T128.setTop (mkF m 41 #[.val (.ref a1), .val (.ref b1), .val (.int (0 : Int32)), .val (.int p_), .val .null, .val (.ref t_128)] []))
  refine own_st (fun t_ k_ => XS.aloadN X128.here hx rfl (hb hby own_d3_41) rfl rfl k_) ?_
  show own_Go p.tables e below _ (T128.setTop (mkF m 42 #[.val (.ref a1), .val (.ref b1), .val (.int (0 : Int32)), .val (.int p_), .val .null, .val (.ref t_128)] [(.ref a1)]))
  refine own_st (fun t_ k_ => XS.aload X128.here hx rfl (hb hby own_d3_42) rfl rfl k_) ?_
  show own_Go p.tables e below _ (T128.setTop (mkF m 44 #[.val (.ref a1), .val (.ref b1), .val (.int (0 : Int32)), .val (.int p_), .val .null, .val (.ref t_128)] [(.ref t_128), (.ref a1)]))
  refine own_st (fun t_ k_ => XS.iloadN X128.here hx rfl (hb hby own_d3_44) rfl k_) ?_
  show own_Go p.tables e below _ (T128.setTop (mkF m 45 #[.val (.ref a1), .val (.ref b1), .val (.int (0 : Int32)), .val (.int p_), .val .null, .val (.ref t_128)] [(.int p_), (.ref t_128), (.ref a1)]))
  obtain ⟨_, _, ⟨T129, L129, k129, n129⟩, -, X129, ⟨Lc129, hQ129, l129, y129, z129⟩, st129⟩ := Jvm.LawKit.callS X128 hx (y := (⟨"java/lang/StringUTF16", "coderFromArrayLen", "([BI)B"⟩ : MethodName)) hown (mvT hZ (hw _ (List.mem_of_getElem? (i := 28) rfl))) (mvT hZ (hw _ (List.mem_of_getElem? (i := 29) rfl))) (mvT hZ (hw _ (List.mem_of_getElem? (i := 22) rfl))) (mvT hZ (hw _ (List.mem_of_getElem? (i := 30) rfl))) (by decide) (backOf (W := 1) (own_rm7 l Z a0 hw [] t_128 p_ kt_128 cd_128 n1 (own_by cd_128 cs) T128.heap n0 (Nat.le_trans Z0 K128.1) P128_1 (own_c01 P128_2) ⟨hp.1, hp.2.1, (by omega)⟩) hZ (hw _ (List.mem_of_getElem? (i := 30) rfl)) (hw _ (List.mem_of_getElem? (i := 22) rfl)) (by decide) (by decide)) (g := (mkF m 45 #[.val (.ref a1), .val (.ref b1), .val (.int (0 : Int32)), .val (.int p_), .val .null, .val (.ref t_128)] [(.int p_), (.ref t_128), (.ref a1)])) rfl (by rw [hml]; rfl) (argsL := [(.ref t_128), (.int p_)]) (rest := [(.ref a1)]) (lenOf own_pd6 rfl) rfl (by show 2 * 0 + _ ≤ _; exact Nat.le_of_eq rfl) (hb hby own_d3_45) (fun _ _ => ⟨rfl, rfl, (by decide : 2 + 0 ≤ _), (by decide : 18 + 0 ≤ _)⟩)
  dsimp only [Pt.U, Pt.locs, Pt.cells, Pt.slots] at X129 l129 y129 z129 st129 hQ129
  subst y129 z129
  obtain ⟨rfl, N129q, eq129⟩ := hQ129
  have N129 : Fr n0 L129 := by rw [l129]; exact Fr.app N128 N129q
  refine own_st (st129) ?_
  show own_Go p.tables e below _ (T129.setTop (mkF m 48 #[.val (.ref a1), .val (.ref b1), .val (.int (0 : Int32)), .val (.int p_), .val .null, .val (.ref t_128)] [(.int cd_128), (.ref a1)]))
  obtain ⟨T130, h130, X130, e130, W130, st130⟩ := putFN X129 hx hZ hown (hw _ (List.mem_of_getElem? (i := 31) rfl)) Via.refl eq129 (q2.keep Kq128 nin0) (q0.keep Kq128) (Or.inr ⟨(hw _ (List.mem_of_getElem? (i := 32) rfl)), rfl, hnm⟩) (hw _ (List.mem_of_getElem? (i := 7) rfl)) (ty := .byte) (v' := (.int cd_128)) (by decide) (own_nw01 (own_c01 P128_2)) (own_f01 (own_c01 P128_2)) (g := (mkF m 48 #[.val (.ref a1), .val (.ref b1), .val (.int (0 : Int32)), .val (.int p_), .val .null, .val (.ref t_128)] [(.int cd_128), (.ref a1)])) rfl rfl (hb hby own_d3_48)
  have Fw130 : Fld Z h130 a1 "java/lang/String" "coder" "B" (.int cd_128) := (q2.keep Kq128 nin0).same W130
  have N130 := Fr.snoc X130 N129 q4
  have K130 : Keep h0 h130 [a1] := K128.wr W130 (Or.inl (List.mem_of_getElem? (i := 0) rfl))
  refine own_st (st130) ?_
  show own_Go p.tables e below _ (T130.setTop (mkF m 51 #[.val (.ref a1), .val (.ref b1), .val (.int (0 : Int32)), .val (.int p_), .val .null, .val (.ref t_128)] []))
  refine own_st (fun t_ k_ => XS.aloadN X130.here hx rfl (hb hby own_d3_51) rfl rfl k_) ?_
  show own_Go p.tables e below _ (T130.setTop (mkF m 52 #[.val (.ref a1), .val (.ref b1), .val (.int (0 : Int32)), .val (.int p_), .val .null, .val (.ref t_128)] [(.ref a1)]))
  refine own_st (fun t_ k_ => XS.aload X130.here hx rfl (hb hby own_d3_52) rfl rfl k_) ?_
  show own_Go p.tables e below _ (T130.setTop (mkF m 54 #[.val (.ref a1), .val (.ref b1), .val (.int (0 : Int32)), .val (.int p_), .val .null, .val (.ref t_128)] [(.ref t_128), (.ref a1)]))
  obtain ⟨T131, h131, X131, e131, W131, st131⟩ := putF X130 hx hZ hown (host := "") (Or.inl (hw _ (List.mem_of_getElem? (i := 33) rfl))) Via.refl e130 ((q1.keep Kq128 nin0).other W130 (Or.inr (slot_ne (Or.inr (hw _ (List.mem_of_getElem? (i := 34) rfl))) (Or.inr (hw _ (List.mem_of_getElem? (i := 32) rfl))) (by decide) (t := (.array .byte)) (t' := .byte) (by decide) (by decide)))) ((q0.keep Kq128).wr W130) (Or.inr ⟨(hw _ (List.mem_of_getElem? (i := 34) rfl)), rfl, hnm⟩) (hw _ (List.mem_of_getElem? (i := 7) rfl)) (ty := (.array .byte)) (by decide) rfl rfl (g := (mkF m 54 #[.val (.ref a1), .val (.ref b1), .val (.int (0 : Int32)), .val (.int p_), .val .null, .val (.ref t_128)] [(.ref t_128), (.ref a1)])) rfl rfl (hb hby own_d3_54)
  have Fw131 : Fld Z h131 a1 "java/lang/String" "value" "[B" (.ref t_128) := ((q1.keep Kq128 nin0).other W130 (Or.inr (slot_ne (Or.inr (hw _ (List.mem_of_getElem? (i := 34) rfl))) (Or.inr (hw _ (List.mem_of_getElem? (i := 32) rfl))) (by decide) (t := (.array .byte)) (t' := .byte) (by decide) (by decide)))).same W131
  have N131 := Fr.snoc X131 N130 q4
  have K131 : Keep h0 h131 [a1] := K130.wr W131 (Or.inl (List.mem_of_getElem? (i := 0) rfl))
  refine own_st (st131) ?_
  show own_Go p.tables e below _ (T131.setTop (mkF m 57 #[.val (.ref a1), .val (.ref b1), .val (.int (0 : Int32)), .val (.int p_), .val .null, .val (.ref t_128)] []))
  exact own_ret0 X131 hx hnl Bd.returns (hb hby own_d3_57) ⟨t_128, kt_128, cd_128, rfl, N131, (by rw [e131]; exact K131), fr128_0, (by rw [e131]; exact Fw131), (by rw [e131]; exact (Fw130.other W131 (Or.inr (slot_ne (Or.inr (hw _ (List.mem_of_getElem? (i := 32) rfl))) (Or.inr (hw _ (List.mem_of_getElem? (i := 34) rfl))) (by decide) (t := .byte) (t' := (.array .byte)) (by decide) (by decide))))), (by rw [e131]; exact ((P128_1.other W130 (Ne.symm (Nat.ne_of_lt (Nat.lt_of_lt_of_le q0.lt P128_0)))).other W131 (Ne.symm (Nat.ne_of_lt (Nat.lt_of_lt_of_le q0.lt P128_0))))), P128_2⟩ (by decide) (by decide)

theorem own_d2_0 : decode jdk_42_method_3_code 0 = .ok (.aload_n 0, 1) := by decide +kernel
theorem own_d2_1 : decode jdk_42_method_3_code 1 = .ok (.aload_n 1, 1) := by decide +kernel
theorem own_d2_2 : decode jdk_42_method_3_code 2 = .ok (.iconst 0, 1) := by decide +kernel
theorem own_d2_3 : decode jdk_42_method_3_code 3 = .ok (.aload_n 1, 1) := by decide +kernel
theorem own_d2_4 : decode jdk_42_method_3_code 4 = .ok (.arraylength, 1) := by decide +kernel
theorem own_d2_5 : decode jdk_42_method_3_code 5 = .ok (.aconst_null, 1) := by decide +kernel
theorem own_d2_6 : decode jdk_42_method_3_code 6 = .ok (.invokespecial 27, 3) := by decide +kernel
theorem own_d2_9 : decode jdk_42_method_3_code 9 = .ok (.return_, 1) := by decide +kernel
theorem own_pd7 : parseMethodDescriptor "([CIILjava/lang/Void;)V" = some ⟨[(.array .char), .int, .int, (.object "java/lang/Void")], none⟩ := by decide +kernel
theorem own_ef2 (m : MethodId) (x0 : Addr) (x1 : Addr) : entryFrame m #[(.ref x0), (.ref x1)] 2 = mkF m 0 #[.val (.ref x0), .val (.ref x1)] [] := by first | (simp [entryFrame, mkF, argsToLocals, Value.category]; done) | rfl
def own_Q2 (Z : State) (a1 : Addr) (b1 : Addr) (k1 : ClassId) (n1 : Nat) (cs : Nat → Int32) (G1 : Int32) (h0 : Heap) (n0 : Nat) (v : Option Value) (h : Heap) (L : List Loc) : Prop := ∃ (t : Addr) (kt : ClassId) (cd : Int32), v = none ∧ Fr n0 L ∧ Keep h0 h [a1] ∧ h0.size ≤ t ∧ Fld Z h a1 "java/lang/String" "value" "[B" (.ref t) ∧ Fld Z h a1 "java/lang/String" "coder" "B" (.int cd) ∧ own_A Z h t kt .byte (own_bl cd n1) (fun i => .int ((own_by cd cs) i)) ∧ ((cd = 0 ∧ ∀ q : Nat, q < n1 → ¬ (255 : Int32) < cs q) ∨ cd = 1)
set_option maxRecDepth 65536 in
set_option maxHeartbeats 40000000 in
theorem own_rm2 (l : Launch) (Z : State) (a0 : Array Value) (hw : ∀ d ∈ tables_1, d.before a0 Z = true) (ws : List Jvm.Cond) (a1 : Addr) (b1 : Addr) (k1 : ClassId) (n1 : Nat) (cs : Nat → Int32) (G1 : Int32) (h0 : Heap) (n0 : Nat) (Z0 : n0 ≤ h0.size) (q0 : Exa Z h0 a1 "java/lang/String") (q1 : Fld Z h0 a1 "java/lang/String" "value" "[B" .null) (q2 : Fld Z h0 a1 "java/lang/String" "coder" "B" (.int (0 : Int32))) (q3 : own_A Z h0 b1 k1 .char n1 (fun i => .int (cs i))) (q4 : n0 ≤ a1) (hne : (a1 ≠ b1)) (hn : (1 ≤ n1 ∧ n1 ≤ 6)) (q7 : Old Z n0 h0) (q8 : Sta Z Z.heap "java/lang/String" "COMPACT_STRINGS" "Z" (.int G1)) (hG1 : (¬ G1 = (0 : Int32))) (q10 : Sta Z Z.heap "java/lang/StringUTF16" "$assertionsDisabled" "Z" (.int (1 : Int32))) (q11 : Sta Z Z.heap "java/lang/StringUTF16" "HI_BYTE_SHIFT" "I" (.int (0 : Int32))) (q12 : Sta Z Z.heap "java/lang/StringUTF16" "LO_BYTE_SHIFT" "I" (.int (8 : Int32))) :
    MetFree l (⟨"java/lang/String", "<init>", "([C)V"⟩ : MethodName) (head1 (Jvm.Cond.code (⟨"java/lang/String", "<init>", "([C)V"⟩ : MethodName) jdk_42_method_3_code 2 none :: ws) ({ frames := 5, cells := 2, slots := 18, locals := 74 } : Room)) (fun a U => a = #[(.ref a1), (.ref b1)] ∧ Z.Warmed39 U.vm ∧ U.heap = h0) (fun _ _ _ _ _ => True) (fun _ U o U' => ∃ v L, o = .returned v ∧ own_Q2 Z a1 b1 k1 n1 cs G1 h0 n0 v U'.heap L ∧ FrameEnd U o U' L ({ frames := 5, cells := 2, slots := 18, locals := 74 } : Room).cells ({ frames := 5, cells := 2, slots := 18, locals := 74 } : Room).slots) := by
  refine MetFree.of_bodySF (plainFor_of_name own_pn1) hisR ?_
  intro p e s m args below meth c s₁ Bd hml0 hP hK
  obtain ⟨rfl, hZ, hh⟩ := hP
  have hx := Bd.exec
  have hby := Bd.bytes
  have hml : c.maxLocals = 2 := hml0
  have hown : s.vm.findClass "java/lang/String" = some m.cls := findClass_of_methodNamed Bd.named
  have hnm := (name_of_methodNamed Bd.named Bd.method).1
  have hnl : meth.locks = false := Bd.notSynchronized
  have X0 : Stand p l e ({ frames := 5, cells := 2, slots := 18, locals := 74 } : Room) s m #[(.ref a1), (.ref b1)] below meth c s₁ [] 0 0 := Stand.of_body Bd
  have e0 : s₁.heap = h0 := by rw [← hh, Bd.state]; rfl
  have N0 := Fr.nil n0
  show own_Go p.tables e below (own_P below s (own_Q2 Z a1 b1 k1 n1 cs G1 h0 n0) ({ frames := 5, cells := 2, slots := 18, locals := 74 } : Room).cells ({ frames := 5, cells := 2, slots := 18, locals := 74 } : Room).slots) _
  refine own_st (fun t_ k_ => castTop (own_ef2 m a1 b1) k_) ?_
  show own_Go p.tables e below _ (s₁.setTop (mkF m 0 #[.val (.ref a1), .val (.ref b1)] []))
  have hp : (Int32.ofNat n1).toInt = (n1 : Int) ∧ 1 ≤ n1 ∧ n1 ≤ 6 := ⟨own_toN (by omega), hn.1, hn.2⟩
  refine own_st (fun t_ k_ => XS.aloadN X0.here hx rfl (hb hby own_d2_0) rfl rfl k_) ?_
  show own_Go p.tables e below _ (s₁.setTop (mkF m 1 #[.val (.ref a1), .val (.ref b1)] [(.ref a1)]))
  refine own_st (fun t_ k_ => XS.aloadN X0.here hx rfl (hb hby own_d2_1) rfl rfl k_) ?_
  show own_Go p.tables e below _ (s₁.setTop (mkF m 2 #[.val (.ref a1), .val (.ref b1)] [(.ref b1), (.ref a1)]))
  refine own_st (fun t_ k_ => XS.iconst X0.here hx rfl (hb hby own_d2_2) k_) ?_
  show own_Go p.tables e below _ (s₁.setTop (mkF m 3 #[.val (.ref a1), .val (.ref b1)] [(.int (0 : Int32)), (.ref b1), (.ref a1)]))
  refine own_st (fun t_ k_ => XS.aloadN X0.here hx rfl (hb hby own_d2_3) rfl rfl k_) ?_
  show own_Go p.tables e below _ (s₁.setTop (mkF m 4 #[.val (.ref a1), .val (.ref b1)] [(.ref b1), (.int (0 : Int32)), (.ref b1), (.ref a1)]))
  refine own_st (own_len X0 hx hZ e0 q3 (g := (mkF m 4 #[.val (.ref a1), .val (.ref b1)] [(.ref b1), (.int (0 : Int32)), (.ref b1), (.ref a1)])) rfl rfl (hb hby own_d2_4)) ?_
  show own_Go p.tables e below _ (s₁.setTop (mkF m 5 #[.val (.ref a1), .val (.ref b1)] [(.int (Int32.ofNat n1)), (.int (0 : Int32)), (.ref b1), (.ref a1)]))
  refine own_st (fun t_ k_ => XS.aconstNull X0.here hx rfl (hb hby own_d2_5) k_) ?_
  show own_Go p.tables e below _ (s₁.setTop (mkF m 6 #[.val (.ref a1), .val (.ref b1)] [.null, (.int (Int32.ofNat n1)), (.int (0 : Int32)), (.ref b1), (.ref a1)]))
  obtain ⟨_, _, ⟨T132, L132, k132, n132⟩, -, X132, ⟨Lc132, hQ132, l132, y132, z132⟩, st132⟩ := X0.specialBack hx (y := (⟨"java/lang/String", "<init>", "([CIILjava/lang/Void;)V"⟩ : MethodName)) rfl hown (mvT hZ (hw _ (List.mem_of_getElem? (i := 12) rfl))) (mvT hZ (hw _ (List.mem_of_getElem? (i := 13) rfl))) (mvT hZ (hw _ (List.mem_of_getElem? (i := 15) rfl))) (by decide) (backOf (W := 0) (own_rm3 l Z a0 hw [] a1 b1 (Int32.ofNat n1) k1 n1 cs G1 h0 n0 (Nat.le_trans Z0 (Keep.refl h0 [a1]).1) q0 q1 q2 q3 q4 hne ⟨hp.1, hp.2.1, hp.2.2⟩ q7 q8 hG1 q10 q11 q12) hZ (hw _ (List.mem_of_getElem? (i := 15) rfl)) (hw _ (List.mem_of_getElem? (i := 8) rfl)) (by decide) (by decide)) (g := (mkF m 6 #[.val (.ref a1), .val (.ref b1)] [.null, (.int (Int32.ofNat n1)), (.int (0 : Int32)), (.ref b1), (.ref a1)])) rfl (by rw [hml]; rfl) (Steps.refl _) (a := a1) (argsL := [(.ref b1), (.int (0 : Int32)), (.int (Int32.ofNat n1)), .null]) (rest := []) (lenOf own_pd7 rfl) rfl (by show 2 * 0 + _ ≤ _; exact Nat.le_of_eq rfl) (hb hby own_d2_6) (fun _ _ => ⟨rfl, e0, (by decide : 0 + 2 ≤ _), (by decide : 0 + 18 ≤ _)⟩)
  dsimp only [Pt.U, Pt.locs, Pt.cells, Pt.slots] at X132 l132 y132 z132 st132 hQ132
  subst y132 z132
  obtain ⟨t_132, kt_132, cd_132, rfl, N132q, Kq132, P132_0, P132_1, P132_2, P132_3, P132_4⟩ := hQ132
  have N132 : Fr n0 L132 := by rw [l132]; exact Fr.app N0 N132q
  have K132 : Keep h0 T132.heap [a1] := (Keep.refl h0 [a1]).trans Kq132 (allS (P := fun x => x ∈ [a1] ∨ h0.size ≤ x) (Or.inl (List.mem_of_getElem? (i := 0) rfl)) all0)
  have fr132_0 : h0.size ≤ t_132 := Nat.le_trans (Keep.refl h0 [a1]).1 P132_0
  have ge132_0 : n0 ≤ t_132 := Nat.le_trans Z0 fr132_0
  refine own_tr st132 ?_
  show own_Go p.tables e below _ (T132.setTop (mkF m 9 #[.val (.ref a1), .val (.ref b1)] []))
  exact own_ret0 X132 hx hnl Bd.returns (hb hby own_d2_9) ⟨t_132, kt_132, cd_132, rfl, N132, (K132), fr132_0, (P132_1), (P132_2), (P132_3), P132_4⟩ (by decide) (by decide)

theorem own_d24_0 : decode jdk_41_method_11_code 0 = .ok (.iload_n 0, 1) := by decide +kernel
theorem own_d24_1 : decode jdk_41_method_11_code 1 = .ok (.ifCond .lt 8, 3) := by decide +kernel
theorem own_d24_4 : decode jdk_41_method_11_code 4 = .ok (.iload_n 0, 1) := by decide +kernel
theorem own_d24_5 : decode jdk_41_method_11_code 5 = .ok (.iload_n 1, 1) := by decide +kernel
theorem own_d24_6 : decode jdk_41_method_11_code 6 = .ok (.if_icmp .lt 10, 3) := by decide +kernel
theorem own_d24_16 : decode jdk_41_method_11_code 16 = .ok (.iload_n 0, 1) := by decide +kernel
theorem own_d24_17 : decode jdk_41_method_11_code 17 = .ok (.ireturn, 1) := by decide +kernel
theorem own_pn2 : plainName "jdk/internal/util/Preconditions" = true := by first | (simp [plainName, overriddenIn]; done) | decide +kernel
theorem own_ef24 (m : MethodId) (x0 : Int32) (x1 : Int32) (x2 : Value) (hv2 : x2.isRef = true) : entryFrame m #[(.int x0), (.int x1), x2] 3 = mkF m 0 #[.val (.int x0), .val (.int x1), .val x2] [] := by rcases ref_cases hv2 with rfl | ⟨_, rfl⟩ <;> first | (simp [entryFrame, mkF, argsToLocals, Value.category]; done) | rfl
def own_Q24 (Z : State) (q_ : Int32) (p_ : Int32) (G3 : Value) (qn : Nat) (n1 : Nat) (h0 : Heap) (n0 : Nat) (v : Option Value) (h : Heap) (L : List Loc) : Prop := v = some (.int q_) ∧ Fr n0 L ∧ h = h0
set_option maxRecDepth 65536 in
set_option maxHeartbeats 40000000 in
theorem own_rm24 (l : Launch) (Z : State) (a0 : Array Value) (hw : ∀ d ∈ tables_1, d.before a0 Z = true) (ws : List Jvm.Cond) (q_ : Int32) (p_ : Int32) (G3 : Value) (qn : Nat) (n1 : Nat) (h0 : Heap) (n0 : Nat) (Z0 : n0 ≤ h0.size) (rG3 : (G3.isRef = true)) (hi : (q_.toInt = (qn : Int) ∧ p_.toInt = (n1 : Int) ∧ qn < n1)) :
    MetFree l (⟨"jdk/internal/util/Preconditions", "checkIndex", "(IILjava/util/function/BiFunction;)I"⟩ : MethodName) (head1 (Jvm.Cond.code (⟨"jdk/internal/util/Preconditions", "checkIndex", "(IILjava/util/function/BiFunction;)I"⟩ : MethodName) jdk_41_method_11_code 3 (some .int) :: ws) ({ frames := 0, cells := 0, slots := 0, locals := 0 } : Room)) (fun a U => a = #[(.int q_), (.int p_), G3] ∧ Z.Warmed39 U.vm ∧ U.heap = h0) (fun _ _ _ _ _ => True) (fun _ U o U' => ∃ v L, o = .returned v ∧ own_Q24 Z q_ p_ G3 qn n1 h0 n0 v U'.heap L ∧ FrameEnd U o U' L ({ frames := 0, cells := 0, slots := 0, locals := 0 } : Room).cells ({ frames := 0, cells := 0, slots := 0, locals := 0 } : Room).slots) := by
  refine MetFree.of_bodySF (plainFor_of_name own_pn2) hisR ?_
  intro p e s m args below meth c s₁ Bd hml0 hP hK
  obtain ⟨rfl, hZ, hh⟩ := hP
  have hx := Bd.exec
  have hby := Bd.bytes
  have hml : c.maxLocals = 3 := hml0
  have hown : s.vm.findClass "jdk/internal/util/Preconditions" = some m.cls := findClass_of_methodNamed Bd.named
  have hnm := (name_of_methodNamed Bd.named Bd.method).1
  have hnl : meth.locks = false := Bd.notSynchronized
  have X0 : Stand p l e ({ frames := 0, cells := 0, slots := 0, locals := 0 } : Room) s m #[(.int q_), (.int p_), G3] below meth c s₁ [] 0 0 := Stand.of_body Bd
  have e0 : s₁.heap = h0 := by rw [← hh, Bd.state]; rfl
  have N0 := Fr.nil n0
  show own_Go p.tables e below (own_P below s (own_Q24 Z q_ p_ G3 qn n1 h0 n0) ({ frames := 0, cells := 0, slots := 0, locals := 0 } : Room).cells ({ frames := 0, cells := 0, slots := 0, locals := 0 } : Room).slots) _
  refine own_st (fun t_ k_ => castTop (own_ef24 m q_ p_ G3 rG3) k_) ?_
  show own_Go p.tables e below _ (s₁.setTop (mkF m 0 #[.val (.int q_), .val (.int p_), .val G3] []))
  refine own_st (fun t_ k_ => XS.iloadN X0.here hx rfl (hb hby own_d24_0) rfl k_) ?_
  show own_Go p.tables e below _ (s₁.setTop (mkF m 1 #[.val (.int q_), .val (.int p_), .val G3] [(.int q_)]))
  refine own_st (fun t_ k_ => XS.ifNo X0.here hx rfl (hb hby own_d24_1) rfl ((if0 _ _).trans (flt (own_nn hi.1)).1) k_) ?_
  show own_Go p.tables e below _ (s₁.setTop (mkF m 4 #[.val (.int q_), .val (.int p_), .val G3] []))
  refine own_st (fun t_ k_ => XS.iloadN X0.here hx rfl (hb hby own_d24_4) rfl k_) ?_
  show own_Go p.tables e below _ (s₁.setTop (mkF m 5 #[.val (.int q_), .val (.int p_), .val G3] [(.int q_)]))
  refine own_st (fun t_ k_ => XS.iloadN X0.here hx rfl (hb hby own_d24_5) rfl k_) ?_
  show own_Go p.tables e below _ (s₁.setTop (mkF m 6 #[.val (.int q_), .val (.int p_), .val G3] [(.int p_), (.int q_)]))
  refine own_st (fun t_ k_ => XS.icmpYes X0.here hx rfl (pc0 := 6) (pc' := 16) rfl (hb hby own_d24_6) rfl (tlt ((own_ltp hi.1 hi.2.1).mpr hi.2.2)).1 (by decide) (by decide) k_) ?_
  show own_Go p.tables e below _ (s₁.setTop (mkF m 16 #[.val (.int q_), .val (.int p_), .val G3] []))
  refine own_st (fun t_ k_ => XS.iloadN X0.here hx rfl (hb hby own_d24_16) rfl k_) ?_
  show own_Go p.tables e below _ (s₁.setTop (mkF m 17 #[.val (.int q_), .val (.int p_), .val G3] [(.int q_)]))
  exact own_ret (w := (.int q_)) X0 hx hnl Bd.returns rfl (Or.inl ⟨rfl, by decide, _, rfl⟩) (hb hby own_d24_17) ⟨rfl, N0, e0⟩ (by decide) (by decide)

theorem own_d23_0 : decode jdk_42_method_155_code 0 = .ok (.iload_n 0, 1) := by decide +kernel
theorem own_d23_1 : decode jdk_42_method_155_code 1 = .ok (.iload_n 1, 1) := by decide +kernel
theorem own_d23_2 : decode jdk_42_method_155_code 2 = .ok (.getstatic 1053, 3) := by decide +kernel
theorem own_d23_5 : decode jdk_42_method_155_code 5 = .ok (.invokestatic 1059, 3) := by decide +kernel
theorem own_d23_8 : decode jdk_42_method_155_code 8 = .ok (.pop, 1) := by decide +kernel
theorem own_d23_9 : decode jdk_42_method_155_code 9 = .ok (.return_, 1) := by decide +kernel
theorem own_pd8 : parseMethodDescriptor "(IILjava/util/function/BiFunction;)I" = some ⟨[.int, .int, (.object "java/util/function/BiFunction")], some .int⟩ := by decide +kernel
theorem own_ef23 (m : MethodId) (x0 : Int32) (x1 : Int32) : entryFrame m #[(.int x0), (.int x1)] 2 = mkF m 0 #[.val (.int x0), .val (.int x1)] [] := by first | (simp [entryFrame, mkF, argsToLocals, Value.category]; done) | rfl
def own_Q23 (Z : State) (q_ : Int32) (p_ : Int32) (G3 : Value) (qn : Nat) (n1 : Nat) (h0 : Heap) (n0 : Nat) (v : Option Value) (h : Heap) (L : List Loc) : Prop := v = none ∧ Fr n0 L ∧ h = h0
set_option maxRecDepth 65536 in
set_option maxHeartbeats 40000000 in
theorem own_rm23 (l : Launch) (Z : State) (a0 : Array Value) (hw : ∀ d ∈ tables_1, d.before a0 Z = true) (ws : List Jvm.Cond) (q_ : Int32) (p_ : Int32) (G3 : Value) (qn : Nat) (n1 : Nat) (h0 : Heap) (n0 : Nat) (Z0 : n0 ≤ h0.size) (q0 : Old Z n0 h0) (q1 : Sta Z Z.heap "jdk/internal/util/Preconditions" "SIOOBE_FORMATTER" "Ljava/util/function/BiFunction;" G3) (rG3 : (G3.isRef = true)) (hi : (q_.toInt = (qn : Int) ∧ p_.toInt = (n1 : Int) ∧ qn < n1)) :
    MetFree l (⟨"java/lang/String", "checkIndex", "(II)V"⟩ : MethodName) (head1 (Jvm.Cond.code (⟨"java/lang/String", "checkIndex", "(II)V"⟩ : MethodName) jdk_42_method_155_code 2 none :: ws) ({ frames := 1, cells := 0, slots := 0, locals := 14 } : Room)) (fun a U => a = #[(.int q_), (.int p_)] ∧ Z.Warmed39 U.vm ∧ U.heap = h0) (fun _ _ _ _ _ => True) (fun _ U o U' => ∃ v L, o = .returned v ∧ own_Q23 Z q_ p_ G3 qn n1 h0 n0 v U'.heap L ∧ FrameEnd U o U' L ({ frames := 1, cells := 0, slots := 0, locals := 14 } : Room).cells ({ frames := 1, cells := 0, slots := 0, locals := 14 } : Room).slots) := by
  refine MetFree.of_bodySF (plainFor_of_name own_pn1) hisR ?_
  intro p e s m args below meth c s₁ Bd hml0 hP hK
  obtain ⟨rfl, hZ, hh⟩ := hP
  have hx := Bd.exec
  have hby := Bd.bytes
  have hml : c.maxLocals = 2 := hml0
  have hown : s.vm.findClass "java/lang/String" = some m.cls := findClass_of_methodNamed Bd.named
  have hnm := (name_of_methodNamed Bd.named Bd.method).1
  have hnl : meth.locks = false := Bd.notSynchronized
  have X0 : Stand p l e ({ frames := 1, cells := 0, slots := 0, locals := 14 } : Room) s m #[(.int q_), (.int p_)] below meth c s₁ [] 0 0 := Stand.of_body Bd
  have e0 : s₁.heap = h0 := by rw [← hh, Bd.state]; rfl
  have N0 := Fr.nil n0
  show own_Go p.tables e below (own_P below s (own_Q23 Z q_ p_ G3 qn n1 h0 n0) ({ frames := 1, cells := 0, slots := 0, locals := 14 } : Room).cells ({ frames := 1, cells := 0, slots := 0, locals := 14 } : Room).slots) _
  refine own_st (fun t_ k_ => castTop (own_ef23 m q_ p_) k_) ?_
  show own_Go p.tables e below _ (s₁.setTop (mkF m 0 #[.val (.int q_), .val (.int p_)] []))
  refine own_st (fun t_ k_ => XS.iloadN X0.here hx rfl (hb hby own_d23_0) rfl k_) ?_
  show own_Go p.tables e below _ (s₁.setTop (mkF m 1 #[.val (.int q_), .val (.int p_)] [(.int q_)]))
  refine own_st (fun t_ k_ => XS.iloadN X0.here hx rfl (hb hby own_d23_1) rfl k_) ?_
  show own_Go p.tables e below _ (s₁.setTop (mkF m 2 #[.val (.int q_), .val (.int p_)] [(.int p_), (.int q_)]))
  obtain ⟨T133, X133, e133, st133⟩ := getS2 X0 hx hZ hown (host := "") (Or.inl (hw _ (List.mem_of_getElem? (i := 92) rfl))) Via.refl e0 (q1.ext q0.2) (g := (mkF m 2 #[.val (.int q_), .val (.int p_)] [(.int p_), (.int q_)])) rfl (hb hby own_d23_2)
  refine own_st (st133) ?_
  show own_Go p.tables e below _ (T133.setTop (mkF m 5 #[.val (.int q_), .val (.int p_)] [G3, (.int p_), (.int q_)]))
  obtain ⟨_, _, ⟨T134, L134, k134, n134⟩, -, X134, ⟨Lc134, hQ134, l134, y134, z134⟩, st134⟩ := Jvm.LawKit.callS X133 hx (y := (⟨"jdk/internal/util/Preconditions", "checkIndex", "(IILjava/util/function/BiFunction;)I"⟩ : MethodName)) hown (mvT hZ (hw _ (List.mem_of_getElem? (i := 94) rfl))) (mvT hZ (hw _ (List.mem_of_getElem? (i := 95) rfl))) (mvT hZ (hw _ (List.mem_of_getElem? (i := 93) rfl))) (mvT hZ (hw _ (List.mem_of_getElem? (i := 96) rfl))) (by decide) (backOf (W := 0) (own_rm24 l Z a0 hw [] q_ p_ G3 qn n1 h0 n0 (Nat.le_trans Z0 (Keep.refl h0 []).1) rG3 hi) hZ (hw _ (List.mem_of_getElem? (i := 96) rfl)) (hw _ (List.mem_of_getElem? (i := 93) rfl)) (by decide) (by decide)) (g := (mkF m 5 #[.val (.int q_), .val (.int p_)] [G3, (.int p_), (.int q_)])) rfl (by rw [hml]; rfl) (argsL := [(.int q_), (.int p_), G3]) (rest := []) (lenOf own_pd8 rfl) rfl (by show 2 * 0 + _ ≤ _; exact Nat.le_of_eq rfl) (hb hby own_d23_5) (fun _ _ => ⟨rfl, e133, (by decide : 0 + 0 ≤ _), (by decide : 0 + 0 ≤ _)⟩)
  dsimp only [Pt.U, Pt.locs, Pt.cells, Pt.slots] at X134 l134 y134 z134 st134 hQ134
  subst y134 z134
  obtain ⟨rfl, N134q, eq134⟩ := hQ134
  have N134 : Fr n0 L134 := by rw [l134]; exact Fr.app N0 N134q
  refine own_st (st134) ?_
  show own_Go p.tables e below _ (T134.setTop (mkF m 8 #[.val (.int q_), .val (.int p_)] [(.int q_)]))
  refine own_st (fun t_ k_ => XS.pop X134.here hx rfl (hb hby own_d23_8) rfl rfl k_) ?_
  show own_Go p.tables e below _ (T134.setTop (mkF m 9 #[.val (.int q_), .val (.int p_)] []))
  exact own_ret0 X134 hx hnl Bd.returns (hb hby own_d23_9) ⟨rfl, N134, eq134⟩ (by decide) (by decide)

theorem own_d19_0 : decode jdk_42_method_154_code 0 = .ok (.getstatic 38, 3) := by decide +kernel
theorem own_d19_3 : decode jdk_42_method_154_code 3 = .ok (.ifCond .eq 14, 3) := by decide +kernel
theorem own_d19_6 : decode jdk_42_method_154_code 6 = .ok (.aload_n 0, 1) := by decide +kernel
theorem own_d19_7 : decode jdk_42_method_154_code 7 = .ok (.getfield 15, 3) := by decide +kernel
theorem own_d19_10 : decode jdk_42_method_154_code 10 = .ok (.ifCond .ne 7, 3) := by decide +kernel
theorem own_d19_13 : decode jdk_42_method_154_code 13 = .ok (.iconst 1, 1) := by decide +kernel
theorem own_d19_14 : decode jdk_42_method_154_code 14 = .ok (.goto 4, 3) := by decide +kernel
theorem own_d19_17 : decode jdk_42_method_154_code 17 = .ok (.iconst 0, 1) := by decide +kernel
theorem own_d19_18 : decode jdk_42_method_154_code 18 = .ok (.ireturn, 1) := by decide +kernel
theorem own_ef19 (m : MethodId) (x0 : Addr) : entryFrame m #[(.ref x0)] 1 = mkF m 0 #[.val (.ref x0)] [] := by first | (simp [entryFrame, mkF, argsToLocals, Value.category]; done) | rfl
def own_Q19 (Z : State) (a1 : Addr) (cd : Int32) (G1 : Int32) (h0 : Heap) (n0 : Nat) (v : Option Value) (h : Heap) (L : List Loc) : Prop := v = some (.int (own_l1 cd)) ∧ Fr n0 L ∧ h = h0
set_option maxRecDepth 65536 in
set_option maxHeartbeats 40000000 in
theorem own_rm19 (l : Launch) (Z : State) (a0 : Array Value) (hw : ∀ d ∈ tables_1, d.before a0 Z = true) (ws : List Jvm.Cond) (a1 : Addr) (cd : Int32) (G1 : Int32) (h0 : Heap) (n0 : Nat) (Z0 : n0 ≤ h0.size) (q0 : Fld Z h0 a1 "java/lang/String" "coder" "B" (.int cd)) (q1 : Old Z n0 h0) (q2 : Sta Z Z.heap "java/lang/String" "COMPACT_STRINGS" "Z" (.int G1)) (hG1 : (¬ G1 = (0 : Int32))) :
    MetFree l (⟨"java/lang/String", "isLatin1", "()Z"⟩ : MethodName) (head1 (Jvm.Cond.code (⟨"java/lang/String", "isLatin1", "()Z"⟩ : MethodName) jdk_42_method_154_code 1 (some .boolean) :: ws) ({ frames := 0, cells := 0, slots := 0, locals := 0 } : Room)) (fun a U => a = #[(.ref a1)] ∧ Z.Warmed39 U.vm ∧ U.heap = h0) (fun _ _ _ _ _ => True) (fun _ U o U' => ∃ v L, o = .returned v ∧ own_Q19 Z a1 cd G1 h0 n0 v U'.heap L ∧ FrameEnd U o U' L ({ frames := 0, cells := 0, slots := 0, locals := 0 } : Room).cells ({ frames := 0, cells := 0, slots := 0, locals := 0 } : Room).slots) := by
  refine MetFree.of_bodySF (plainFor_of_name own_pn1) hisR ?_
  intro p e s m args below meth c s₁ Bd hml0 hP hK
  obtain ⟨rfl, hZ, hh⟩ := hP
  have hx := Bd.exec
  have hby := Bd.bytes
  have hml : c.maxLocals = 1 := hml0
  have hown : s.vm.findClass "java/lang/String" = some m.cls := findClass_of_methodNamed Bd.named
  have hnm := (name_of_methodNamed Bd.named Bd.method).1
  have hnl : meth.locks = false := Bd.notSynchronized
  have X0 : Stand p l e ({ frames := 0, cells := 0, slots := 0, locals := 0 } : Room) s m #[(.ref a1)] below meth c s₁ [] 0 0 := Stand.of_body Bd
  have e0 : s₁.heap = h0 := by rw [← hh, Bd.state]; rfl
  have N0 := Fr.nil n0
  show own_Go p.tables e below (own_P below s (own_Q19 Z a1 cd G1 h0 n0) ({ frames := 0, cells := 0, slots := 0, locals := 0 } : Room).cells ({ frames := 0, cells := 0, slots := 0, locals := 0 } : Room).slots) _
  refine own_st (fun t_ k_ => castTop (own_ef19 m a1) k_) ?_
  show own_Go p.tables e below _ (s₁.setTop (mkF m 0 #[.val (.ref a1)] []))
  obtain ⟨T135, X135, e135, st135⟩ := getS2 X0 hx hZ hown (host := "") (Or.inl (hw _ (List.mem_of_getElem? (i := 19) rfl))) Via.refl e0 (q2.ext q1.2) (g := (mkF m 0 #[.val (.ref a1)] [])) rfl (hb hby own_d19_0)
  refine own_st (st135) ?_
  show own_Go p.tables e below _ (T135.setTop (mkF m 3 #[.val (.ref a1)] [(.int G1)]))
  refine own_st (fun t_ k_ => XS.ifNo X135.here hx rfl (hb hby own_d19_3) rfl ((if0 _ _).trans (feq hG1).1) k_) ?_
  show own_Go p.tables e below _ (T135.setTop (mkF m 6 #[.val (.ref a1)] []))
  refine own_st (fun t_ k_ => XS.aloadN X135.here hx rfl (hb hby own_d19_6) rfl rfl k_) ?_
  show own_Go p.tables e below _ (T135.setTop (mkF m 7 #[.val (.ref a1)] [(.ref a1)]))
  obtain ⟨T136, X136, e136, st136⟩ := getF X135 hx hZ hown (host := "") (Or.inl (hw _ (List.mem_of_getElem? (i := 31) rfl))) Via.refl e135 q0 (g := (mkF m 7 #[.val (.ref a1)] [(.ref a1)])) rfl rfl (hb hby own_d19_7)
  refine own_st (st136) ?_
  show own_Go p.tables e below _ (T136.setTop (mkF m 10 #[.val (.ref a1)] [(.int cd)]))
  by_cases c10_137 : cd = (0 : Int32)
  · skip
    refine own_st (fun t_ k_ => XS.ifNo X136.here hx rfl (hb hby own_d19_10) rfl ((if0 _ _).trans (teq c10_137).2) k_) ?_
    show own_Go p.tables e below _ (T136.setTop (mkF m 13 #[.val (.ref a1)] []))
    refine own_st (fun t_ k_ => XS.iconst X136.here hx rfl (hb hby own_d19_13) k_) ?_
    show own_Go p.tables e below _ (T136.setTop (mkF m 14 #[.val (.ref a1)] [(.int (1 : Int32))]))
    refine own_st (fun t_ k_ => XS.goto X136.here hx rfl (pc0 := 14) (pc' := 18) rfl (hb hby own_d19_14) (by decide) (by decide) k_) ?_
    show own_Go p.tables e below _ (T136.setTop (mkF m 18 #[.val (.ref a1)] [(.int (1 : Int32))]))
    exact own_ret (w := (.int (1 : Int32))) X136 hx hnl Bd.returns rfl (Or.inl ⟨rfl, by decide, _, rfl⟩) (hb hby own_d19_18) ⟨(by simp [own_l1, c10_137]), N0, e136⟩ (by decide) (by decide)
  · skip
    refine own_st (fun t_ k_ => XS.ifYes X136.here hx rfl (pc0 := 10) (pc' := 17) rfl (hb hby own_d19_10) rfl ((if0 _ _).trans (feq c10_137).2) (by decide) (by decide) k_) ?_
    show own_Go p.tables e below _ (T136.setTop (mkF m 17 #[.val (.ref a1)] []))
    refine own_st (fun t_ k_ => XS.iconst X136.here hx rfl (hb hby own_d19_17) k_) ?_
    show own_Go p.tables e below _ (T136.setTop (mkF m 18 #[.val (.ref a1)] [(.int (0 : Int32))]))
    exact own_ret (w := (.int (0 : Int32))) X136 hx hnl Bd.returns rfl (Or.inl ⟨rfl, by decide, _, rfl⟩) (hb hby own_d19_18) ⟨(by simp [own_l1, c10_137]), N0, e136⟩ (by decide) (by decide)

theorem own_d25_0 : decode jdk_43_method_2_code 0 = .ok (.iload_n 1, 1) := by decide +kernel
theorem own_d25_1 : decode jdk_43_method_2_code 1 = .ok (.aload_n 0, 1) := by decide +kernel
theorem own_d25_2 : decode jdk_43_method_2_code 2 = .ok (.arraylength, 1) := by decide +kernel
theorem own_d25_3 : decode jdk_43_method_2_code 3 = .ok (.invokestatic 9, 3) := by decide +kernel
theorem own_d25_6 : decode jdk_43_method_2_code 6 = .ok (.aload_n 0, 1) := by decide +kernel
theorem own_d25_7 : decode jdk_43_method_2_code 7 = .ok (.iload_n 1, 1) := by decide +kernel
theorem own_d25_8 : decode jdk_43_method_2_code 8 = .ok (.baload, 1) := by decide +kernel
theorem own_d25_9 : decode jdk_43_method_2_code 9 = .ok (.sipush 255, 3) := by decide +kernel
theorem own_d25_12 : decode jdk_43_method_2_code 12 = .ok (.iand, 1) := by decide +kernel
theorem own_d25_13 : decode jdk_43_method_2_code 13 = .ok (.i2c, 1) := by decide +kernel
theorem own_d25_14 : decode jdk_43_method_2_code 14 = .ok (.ireturn, 1) := by decide +kernel
theorem own_pn3 : plainName "java/lang/StringLatin1" = true := by first | (simp [plainName, overriddenIn]; done) | decide +kernel
theorem own_pd9 : parseMethodDescriptor "(II)V" = some ⟨[.int, .int], none⟩ := by decide +kernel
theorem own_ef25 (m : MethodId) (x0 : Addr) (x1 : Int32) : entryFrame m #[(.ref x0), (.int x1)] 2 = mkF m 0 #[.val (.ref x0), .val (.int x1)] [] := by first | (simp [entryFrame, mkF, argsToLocals, Value.category]; done) | rfl
def own_Q25 (Z : State) (a1 : Addr) (q_ : Int32) (k1 : ClassId) (n1 : Nat) (cs : Nat → Int32) (qn : Nat) (G3 : Value) (h0 : Heap) (n0 : Nat) (v : Option Value) (h : Heap) (L : List Loc) : Prop := v = some (.int (cs qn)) ∧ Fr n0 L ∧ h = h0
set_option maxRecDepth 65536 in
set_option maxHeartbeats 40000000 in
theorem own_rm25 (l : Launch) (Z : State) (a0 : Array Value) (hw : ∀ d ∈ tables_1, d.before a0 Z = true) (ws : List Jvm.Cond) (a1 : Addr) (q_ : Int32) (k1 : ClassId) (n1 : Nat) (cs : Nat → Int32) (qn : Nat) (G3 : Value) (h0 : Heap) (n0 : Nat) (Z0 : n0 ≤ h0.size) (q0 : own_A Z h0 a1 k1 .byte n1 (fun i => .int ((own_l8 cs) i))) (q1 : Old Z n0 h0) (q2 : Sta Z Z.heap "jdk/internal/util/Preconditions" "SIOOBE_FORMATTER" "Ljava/util/function/BiFunction;" G3) (rG3 : (G3.isRef = true)) (hq : (q_.toInt = (qn : Int) ∧ qn < n1 ∧ n1 ≤ 4000)) (hch : (0 ≤ (cs qn).toInt ∧ (cs qn).toInt ≤ 65535)) (hlt : (¬ (255 : Int32) < cs qn)) :
    MetFree l (⟨"java/lang/StringLatin1", "charAt", "([BI)C"⟩ : MethodName) (head1 (Jvm.Cond.code (⟨"java/lang/StringLatin1", "charAt", "([BI)C"⟩ : MethodName) jdk_43_method_2_code 2 (some .char) :: ws) ({ frames := 2, cells := 0, slots := 0, locals := 27 } : Room)) (fun a U => a = #[(.ref a1), (.int q_)] ∧ Z.Warmed39 U.vm ∧ U.heap = h0) (fun _ _ _ _ _ => True) (fun _ U o U' => ∃ v L, o = .returned v ∧ own_Q25 Z a1 q_ k1 n1 cs qn G3 h0 n0 v U'.heap L ∧ FrameEnd U o U' L ({ frames := 2, cells := 0, slots := 0, locals := 27 } : Room).cells ({ frames := 2, cells := 0, slots := 0, locals := 27 } : Room).slots) := by
  refine MetFree.of_bodySF (plainFor_of_name own_pn3) hisR ?_
  intro p e s m args below meth c s₁ Bd hml0 hP hK
  obtain ⟨rfl, hZ, hh⟩ := hP
  have hx := Bd.exec
  have hby := Bd.bytes
  have hml : c.maxLocals = 2 := hml0
  have hown : s.vm.findClass "java/lang/StringLatin1" = some m.cls := findClass_of_methodNamed Bd.named
  have hnm := (name_of_methodNamed Bd.named Bd.method).1
  have hnl : meth.locks = false := Bd.notSynchronized
  have X0 : Stand p l e ({ frames := 2, cells := 0, slots := 0, locals := 27 } : Room) s m #[(.ref a1), (.int q_)] below meth c s₁ [] 0 0 := Stand.of_body Bd
  have e0 : s₁.heap = h0 := by rw [← hh, Bd.state]; rfl
  have N0 := Fr.nil n0
  show own_Go p.tables e below (own_P below s (own_Q25 Z a1 q_ k1 n1 cs qn G3 h0 n0) ({ frames := 2, cells := 0, slots := 0, locals := 27 } : Room).cells ({ frames := 2, cells := 0, slots := 0, locals := 27 } : Room).slots) _
  refine own_st (fun t_ k_ => castTop (own_ef25 m a1 q_) k_) ?_
  show own_Go p.tables e below _ (s₁.setTop (mkF m 0 #[.val (.ref a1), .val (.int q_)] []))
  refine own_st (fun t_ k_ => XS.iloadN X0.here hx rfl (hb hby own_d25_0) rfl k_) ?_
  show own_Go p.tables e below _ (s₁.setTop (mkF m 1 #[.val (.ref a1), .val (.int q_)] [(.int q_)]))
  refine own_st (fun t_ k_ => XS.aloadN X0.here hx rfl (hb hby own_d25_1) rfl rfl k_) ?_
  show own_Go p.tables e below _ (s₁.setTop (mkF m 2 #[.val (.ref a1), .val (.int q_)] [(.ref a1), (.int q_)]))
  refine own_st (own_len X0 hx hZ e0 q0 (g := (mkF m 2 #[.val (.ref a1), .val (.int q_)] [(.ref a1), (.int q_)])) rfl rfl (hb hby own_d25_2)) ?_
  show own_Go p.tables e below _ (s₁.setTop (mkF m 3 #[.val (.ref a1), .val (.int q_)] [(.int (Int32.ofNat n1)), (.int q_)]))
  obtain ⟨_, _, ⟨T138, L138, k138, n138⟩, -, X138, ⟨Lc138, hQ138, l138, y138, z138⟩, st138⟩ := Jvm.LawKit.callS X0 hx (y := (⟨"java/lang/String", "checkIndex", "(II)V"⟩ : MethodName)) hown (mvT hZ (hw _ (List.mem_of_getElem? (i := 102) rfl))) (mvT hZ (hw _ (List.mem_of_getElem? (i := 90) rfl))) (mvT hZ (hw _ (List.mem_of_getElem? (i := 8) rfl))) (mvT hZ (hw _ (List.mem_of_getElem? (i := 91) rfl))) (by decide) (backOf (W := 0) (own_rm23 l Z a0 hw [] q_ (Int32.ofNat n1) G3 qn n1 h0 n0 (Nat.le_trans Z0 (Keep.refl h0 []).1) q1 q2 rG3 ⟨hq.1, (own_toN (by omega)), hq.2.1⟩) hZ (hw _ (List.mem_of_getElem? (i := 91) rfl)) (hw _ (List.mem_of_getElem? (i := 8) rfl)) (by decide) (by decide)) (g := (mkF m 3 #[.val (.ref a1), .val (.int q_)] [(.int (Int32.ofNat n1)), (.int q_)])) rfl (by rw [hml]; rfl) (argsL := [(.int q_), (.int (Int32.ofNat n1))]) (rest := []) (lenOf own_pd9 rfl) rfl (by show 2 * 0 + _ ≤ _; exact Nat.le_of_eq rfl) (hb hby own_d25_3) (fun _ _ => ⟨rfl, e0, (by decide : 0 + 0 ≤ _), (by decide : 0 + 0 ≤ _)⟩)
  dsimp only [Pt.U, Pt.locs, Pt.cells, Pt.slots] at X138 l138 y138 z138 st138 hQ138
  subst y138 z138
  obtain ⟨rfl, N138q, eq138⟩ := hQ138
  have N138 : Fr n0 L138 := by rw [l138]; exact Fr.app N0 N138q
  refine own_st (st138) ?_
  show own_Go p.tables e below _ (T138.setTop (mkF m 6 #[.val (.ref a1), .val (.int q_)] []))
  refine own_st (fun t_ k_ => XS.aloadN X138.here hx rfl (hb hby own_d25_6) rfl rfl k_) ?_
  show own_Go p.tables e below _ (T138.setTop (mkF m 7 #[.val (.ref a1), .val (.int q_)] [(.ref a1)]))
  refine own_st (fun t_ k_ => XS.iloadN X138.here hx rfl (hb hby own_d25_7) rfl k_) ?_
  show own_Go p.tables e below _ (T138.setTop (mkF m 8 #[.val (.ref a1), .val (.int q_)] [(.int q_), (.ref a1)]))
  refine own_st (own_baload X138 hx hZ eq138 q0 (i := qn) hq.1 hq.2.1 (g := (mkF m 8 #[.val (.ref a1), .val (.int q_)] [(.int q_), (.ref a1)])) rfl rfl (hb hby own_d25_8)) ?_
  show own_Go p.tables e below _ (T138.setTop (mkF m 9 #[.val (.ref a1), .val (.int q_)] [(.int ((own_l8 cs) qn))]))
  refine own_st (fun t_ k_ => XS.sipush X138.here hx rfl (hb hby own_d25_9) k_) ?_
  show own_Go p.tables e below _ (T138.setTop (mkF m 12 #[.val (.ref a1), .val (.int q_)] [(.int (255 : Int32)), (.int ((own_l8 cs) qn))]))
  refine own_st (fun t_ k_ => XS.iand X138.here hx rfl (hb hby own_d25_12) rfl k_) ?_
  show own_Go p.tables e below _ (T138.setTop (mkF m 13 #[.val (.ref a1), .val (.int q_)] [(.int (((own_l8 cs) qn) &&& (255 : Int32)))]))
  refine own_st (fun t_ k_ => XS.i2c X138.here hx rfl (hb hby own_d25_13) rfl k_) ?_
  show own_Go p.tables e below _ (T138.setTop (mkF m 14 #[.val (.ref a1), .val (.int q_)] [(.int ((((own_l8 cs) qn) &&& (255 : Int32)).toUInt32.toUInt16.toUInt32.toInt32))]))
  rw [show ((((own_l8 cs) qn) &&& (255 : Int32)).toUInt32.toUInt16.toUInt32.toInt32) = (cs qn) from own_lat hch.1 hlt]
  show own_Go p.tables e below _ (T138.setTop (mkF m 14 #[.val (.ref a1), .val (.int q_)] [(.int (cs qn))]))
  exact own_ret (w := (.int (cs qn))) X138 hx hnl Bd.returns (own_nwc hch.1 hch.2) (Or.inl ⟨rfl, by decide, _, rfl⟩) (hb hby own_d25_14) ⟨rfl, N138, eq138⟩ (by decide) (by decide)

theorem own_d22_0 : decode jdk_52_method_6_code 0 = .ok (.aload_n 0, 1) := by decide +kernel
theorem own_d22_1 : decode jdk_52_method_6_code 1 = .ok (.arraylength, 1) := by decide +kernel
theorem own_d22_2 : decode jdk_52_method_6_code 2 = .ok (.iconst 1, 1) := by decide +kernel
theorem own_d22_3 : decode jdk_52_method_6_code 3 = .ok (.ishr, 1) := by decide +kernel
theorem own_d22_4 : decode jdk_52_method_6_code 4 = .ok (.ireturn, 1) := by decide +kernel
theorem own_ef22 (m : MethodId) (x0 : Addr) : entryFrame m #[(.ref x0)] 1 = mkF m 0 #[.val (.ref x0)] [] := by first | (simp [entryFrame, mkF, argsToLocals, Value.category]; done) | rfl
def own_Q22 (Z : State) (a1 : Addr) (k1 : ClassId) (n1 : Nat) (gb : Nat → Int32) (h0 : Heap) (n0 : Nat) (v : Option Value) (h : Heap) (L : List Loc) : Prop := v = some (.int ((Int32.ofNat (n1 + n1)) >>> ((1 : Int32) &&& 31))) ∧ Fr n0 L ∧ h = h0
set_option maxRecDepth 65536 in
set_option maxHeartbeats 40000000 in
theorem own_rm22 (l : Launch) (Z : State) (a0 : Array Value) (hw : ∀ d ∈ tables_1, d.before a0 Z = true) (ws : List Jvm.Cond) (a1 : Addr) (k1 : ClassId) (n1 : Nat) (gb : Nat → Int32) (h0 : Heap) (n0 : Nat) (Z0 : n0 ≤ h0.size) (q0 : own_A Z h0 a1 k1 .byte (n1 + n1) (fun i => .int (gb i))) :
    MetFree l (⟨"java/lang/StringUTF16", "length", "([B)I"⟩ : MethodName) (head1 (Jvm.Cond.code (⟨"java/lang/StringUTF16", "length", "([B)I"⟩ : MethodName) jdk_52_method_6_code 1 (some .int) :: ws) ({ frames := 0, cells := 0, slots := 0, locals := 0 } : Room)) (fun a U => a = #[(.ref a1)] ∧ Z.Warmed39 U.vm ∧ U.heap = h0) (fun _ _ _ _ _ => True) (fun _ U o U' => ∃ v L, o = .returned v ∧ own_Q22 Z a1 k1 n1 gb h0 n0 v U'.heap L ∧ FrameEnd U o U' L ({ frames := 0, cells := 0, slots := 0, locals := 0 } : Room).cells ({ frames := 0, cells := 0, slots := 0, locals := 0 } : Room).slots) := by
  refine MetFree.of_bodySF (plainFor_of_name own_pn0) hisR ?_
  intro p e s m args below meth c s₁ Bd hml0 hP hK
  obtain ⟨rfl, hZ, hh⟩ := hP
  have hx := Bd.exec
  have hby := Bd.bytes
  have hml : c.maxLocals = 1 := hml0
  have hown : s.vm.findClass "java/lang/StringUTF16" = some m.cls := findClass_of_methodNamed Bd.named
  have hnm := (name_of_methodNamed Bd.named Bd.method).1
  have hnl : meth.locks = false := Bd.notSynchronized
  have X0 : Stand p l e ({ frames := 0, cells := 0, slots := 0, locals := 0 } : Room) s m #[(.ref a1)] below meth c s₁ [] 0 0 := Stand.of_body Bd
  have e0 : s₁.heap = h0 := by rw [← hh, Bd.state]; rfl
  have N0 := Fr.nil n0
  show own_Go p.tables e below (own_P below s (own_Q22 Z a1 k1 n1 gb h0 n0) ({ frames := 0, cells := 0, slots := 0, locals := 0 } : Room).cells ({ frames := 0, cells := 0, slots := 0, locals := 0 } : Room).slots) _
  refine own_st (fun t_ k_ => castTop (own_ef22 m a1) k_) ?_
  show own_Go p.tables e below _ (s₁.setTop (mkF m 0 #[.val (.ref a1)] []))
  refine own_st (fun t_ k_ => XS.aloadN X0.here hx rfl (hb hby own_d22_0) rfl rfl k_) ?_
  show own_Go p.tables e below _ (s₁.setTop (mkF m 1 #[.val (.ref a1)] [(.ref a1)]))
  refine own_st (own_len X0 hx hZ e0 q0 (g := (mkF m 1 #[.val (.ref a1)] [(.ref a1)])) rfl rfl (hb hby own_d22_1)) ?_
  show own_Go p.tables e below _ (s₁.setTop (mkF m 2 #[.val (.ref a1)] [(.int (Int32.ofNat (n1 + n1)))]))
  refine own_st (fun t_ k_ => XS.iconst X0.here hx rfl (hb hby own_d22_2) k_) ?_
  show own_Go p.tables e below _ (s₁.setTop (mkF m 3 #[.val (.ref a1)] [(.int (1 : Int32)), (.int (Int32.ofNat (n1 + n1)))]))
  refine own_st (fun t_ k_ => XS.ishr X0.here hx rfl (hb hby own_d22_3) rfl k_) ?_
  show own_Go p.tables e below _ (s₁.setTop (mkF m 4 #[.val (.ref a1)] [(.int ((Int32.ofNat (n1 + n1)) >>> ((1 : Int32) &&& 31)))]))
  exact own_ret (w := (.int ((Int32.ofNat (n1 + n1)) >>> ((1 : Int32) &&& 31)))) X0 hx hnl Bd.returns rfl (Or.inl ⟨rfl, by decide, _, rfl⟩) (hb hby own_d22_4) ⟨rfl, N0, e0⟩ (by decide) (by decide)

theorem own_d21_0 : decode jdk_52_method_91_code 0 = .ok (.iload_n 0, 1) := by decide +kernel
theorem own_d21_1 : decode jdk_52_method_91_code 1 = .ok (.aload_n 1, 1) := by decide +kernel
theorem own_d21_2 : decode jdk_52_method_91_code 2 = .ok (.invokestatic 48, 3) := by decide +kernel
theorem own_d21_5 : decode jdk_52_method_91_code 5 = .ok (.invokestatic 414, 3) := by decide +kernel
theorem own_d21_8 : decode jdk_52_method_91_code 8 = .ok (.return_, 1) := by decide +kernel
theorem own_pd10 : parseMethodDescriptor "([B)I" = some ⟨[(.array .byte)], some .int⟩ := by decide +kernel
theorem own_ef21 (m : MethodId) (x0 : Int32) (x1 : Addr) : entryFrame m #[(.int x0), (.ref x1)] 2 = mkF m 0 #[.val (.int x0), .val (.ref x1)] [] := by first | (simp [entryFrame, mkF, argsToLocals, Value.category]; done) | rfl
def own_Q21 (Z : State) (q_ : Int32) (a1 : Addr) (k1 : ClassId) (n1 : Nat) (gb : Nat → Int32) (qn : Nat) (G3 : Value) (h0 : Heap) (n0 : Nat) (v : Option Value) (h : Heap) (L : List Loc) : Prop := v = none ∧ Fr n0 L ∧ h = h0
set_option maxRecDepth 65536 in
set_option maxHeartbeats 40000000 in
theorem own_rm21 (l : Launch) (Z : State) (a0 : Array Value) (hw : ∀ d ∈ tables_1, d.before a0 Z = true) (ws : List Jvm.Cond) (q_ : Int32) (a1 : Addr) (k1 : ClassId) (n1 : Nat) (gb : Nat → Int32) (qn : Nat) (G3 : Value) (h0 : Heap) (n0 : Nat) (Z0 : n0 ≤ h0.size) (q0 : own_A Z h0 a1 k1 .byte (n1 + n1) (fun i => .int (gb i))) (q1 : Old Z n0 h0) (q2 : Sta Z Z.heap "jdk/internal/util/Preconditions" "SIOOBE_FORMATTER" "Ljava/util/function/BiFunction;" G3) (rG3 : (G3.isRef = true)) (hq : (q_.toInt = (qn : Int) ∧ qn < n1 ∧ n1 ≤ 4000)) :
    MetFree l (⟨"java/lang/StringUTF16", "checkIndex", "(I[B)V"⟩ : MethodName) (head1 (Jvm.Cond.code (⟨"java/lang/StringUTF16", "checkIndex", "(I[B)V"⟩ : MethodName) jdk_52_method_91_code 2 none :: ws) ({ frames := 2, cells := 0, slots := 0, locals := 27 } : Room)) (fun a U => a = #[(.int q_), (.ref a1)] ∧ Z.Warmed39 U.vm ∧ U.heap = h0) (fun _ _ _ _ _ => True) (fun _ U o U' => ∃ v L, o = .returned v ∧ own_Q21 Z q_ a1 k1 n1 gb qn G3 h0 n0 v U'.heap L ∧ FrameEnd U o U' L ({ frames := 2, cells := 0, slots := 0, locals := 27 } : Room).cells ({ frames := 2, cells := 0, slots := 0, locals := 27 } : Room).slots) := by
  refine MetFree.of_bodySF (plainFor_of_name own_pn0) hisR ?_
  intro p e s m args below meth c s₁ Bd hml0 hP hK
  obtain ⟨rfl, hZ, hh⟩ := hP
  have hx := Bd.exec
  have hby := Bd.bytes
  have hml : c.maxLocals = 2 := hml0
  have hown : s.vm.findClass "java/lang/StringUTF16" = some m.cls := findClass_of_methodNamed Bd.named
  have hnm := (name_of_methodNamed Bd.named Bd.method).1
  have hnl : meth.locks = false := Bd.notSynchronized
  have X0 : Stand p l e ({ frames := 2, cells := 0, slots := 0, locals := 27 } : Room) s m #[(.int q_), (.ref a1)] below meth c s₁ [] 0 0 := Stand.of_body Bd
  have e0 : s₁.heap = h0 := by rw [← hh, Bd.state]; rfl
  have N0 := Fr.nil n0
  show own_Go p.tables e below (own_P below s (own_Q21 Z q_ a1 k1 n1 gb qn G3 h0 n0) ({ frames := 2, cells := 0, slots := 0, locals := 27 } : Room).cells ({ frames := 2, cells := 0, slots := 0, locals := 27 } : Room).slots) _
  refine own_st (fun t_ k_ => castTop (own_ef21 m q_ a1) k_) ?_
  show own_Go p.tables e below _ (s₁.setTop (mkF m 0 #[.val (.int q_), .val (.ref a1)] []))
  refine own_st (fun t_ k_ => XS.iloadN X0.here hx rfl (hb hby own_d21_0) rfl k_) ?_
  show own_Go p.tables e below _ (s₁.setTop (mkF m 1 #[.val (.int q_), .val (.ref a1)] [(.int q_)]))
  refine own_st (fun t_ k_ => XS.aloadN X0.here hx rfl (hb hby own_d21_1) rfl rfl k_) ?_
  show own_Go p.tables e below _ (s₁.setTop (mkF m 2 #[.val (.int q_), .val (.ref a1)] [(.ref a1), (.int q_)]))
  obtain ⟨_, _, ⟨T139, L139, k139, n139⟩, -, X139, ⟨Lc139, hQ139, l139, y139, z139⟩, st139⟩ := Jvm.LawKit.callS X0 hx (y := (⟨"java/lang/StringUTF16", "length", "([B)I"⟩ : MethodName)) hown (mvT hZ (hw _ (List.mem_of_getElem? (i := 86) rfl))) (mvT hZ (hw _ (List.mem_of_getElem? (i := 87) rfl))) (mvT hZ (hw _ (List.mem_of_getElem? (i := 22) rfl))) (mvT hZ (hw _ (List.mem_of_getElem? (i := 88) rfl))) (by decide) (backOf (W := 1) (own_rm22 l Z a0 hw [] a1 k1 n1 gb h0 n0 (Nat.le_trans Z0 (Keep.refl h0 []).1) q0) hZ (hw _ (List.mem_of_getElem? (i := 88) rfl)) (hw _ (List.mem_of_getElem? (i := 22) rfl)) (by decide) (by decide)) (g := (mkF m 2 #[.val (.int q_), .val (.ref a1)] [(.ref a1), (.int q_)])) rfl (by rw [hml]; rfl) (argsL := [(.ref a1)]) (rest := [(.int q_)]) (lenOf own_pd10 rfl) rfl (by show 2 * 0 + _ ≤ _; exact Nat.le_of_eq rfl) (hb hby own_d21_2) (fun _ _ => ⟨rfl, e0, (by decide : 0 + 0 ≤ _), (by decide : 0 + 0 ≤ _)⟩)
  dsimp only [Pt.U, Pt.locs, Pt.cells, Pt.slots] at X139 l139 y139 z139 st139 hQ139
  subst y139 z139
  obtain ⟨rfl, N139q, eq139⟩ := hQ139
  have N139 : Fr n0 L139 := by rw [l139]; exact Fr.app N0 N139q
  refine own_st (st139) ?_
  show own_Go p.tables e below _ (T139.setTop (mkF m 5 #[.val (.int q_), .val (.ref a1)] [(.int ((Int32.ofNat (n1 + n1)) >>> ((1 : Int32) &&& 31))), (.int q_)]))
  obtain ⟨_, _, ⟨T140, L140, k140, n140⟩, -, X140, ⟨Lc140, hQ140, l140, y140, z140⟩, st140⟩ := Jvm.LawKit.callS X139 hx (y := (⟨"java/lang/String", "checkIndex", "(II)V"⟩ : MethodName)) hown (mvT hZ (hw _ (List.mem_of_getElem? (i := 89) rfl))) (mvT hZ (hw _ (List.mem_of_getElem? (i := 90) rfl))) (mvT hZ (hw _ (List.mem_of_getElem? (i := 8) rfl))) (mvT hZ (hw _ (List.mem_of_getElem? (i := 91) rfl))) (by decide) (backOf (W := 0) (own_rm23 l Z a0 hw [] q_ ((Int32.ofNat (n1 + n1)) >>> ((1 : Int32) &&& 31)) G3 qn n1 h0 n0 (Nat.le_trans Z0 (Keep.refl h0 []).1) q1 q2 rG3 ⟨hq.1, (own_shr1 (by omega)), hq.2.1⟩) hZ (hw _ (List.mem_of_getElem? (i := 91) rfl)) (hw _ (List.mem_of_getElem? (i := 8) rfl)) (by decide) (by decide)) (g := (mkF m 5 #[.val (.int q_), .val (.ref a1)] [(.int ((Int32.ofNat (n1 + n1)) >>> ((1 : Int32) &&& 31))), (.int q_)])) rfl (by rw [hml]; rfl) (argsL := [(.int q_), (.int ((Int32.ofNat (n1 + n1)) >>> ((1 : Int32) &&& 31)))]) (rest := []) (lenOf own_pd9 rfl) rfl (by show 2 * 0 + _ ≤ _; exact Nat.le_of_eq rfl) (hb hby own_d21_5) (fun _ _ => ⟨rfl, eq139, (by decide : 0 + 0 ≤ _), (by decide : 0 + 0 ≤ _)⟩)
  dsimp only [Pt.U, Pt.locs, Pt.cells, Pt.slots] at X140 l140 y140 z140 st140 hQ140
  subst y140 z140
  obtain ⟨rfl, N140q, eq140⟩ := hQ140
  have N140 : Fr n0 L140 := by rw [l140]; exact Fr.app N139 N140q
  refine own_st (st140) ?_
  show own_Go p.tables e below _ (T140.setTop (mkF m 8 #[.val (.int q_), .val (.ref a1)] []))
  exact own_ret0 X140 hx hnl Bd.returns (hb hby own_d21_8) ⟨rfl, N140, eq140⟩ (by decide) (by decide)

theorem own_d20_0 : decode jdk_52_method_83_code 0 = .ok (.iload_n 1, 1) := by decide +kernel
theorem own_d20_1 : decode jdk_52_method_83_code 1 = .ok (.aload_n 0, 1) := by decide +kernel
theorem own_d20_2 : decode jdk_52_method_83_code 2 = .ok (.invokestatic 67, 3) := by decide +kernel
theorem own_d20_5 : decode jdk_52_method_83_code 5 = .ok (.aload_n 0, 1) := by decide +kernel
theorem own_d20_6 : decode jdk_52_method_83_code 6 = .ok (.iload_n 1, 1) := by decide +kernel
theorem own_d20_7 : decode jdk_52_method_83_code 7 = .ok (.invokestatic 71, 3) := by decide +kernel
theorem own_d20_10 : decode jdk_52_method_83_code 10 = .ok (.ireturn, 1) := by decide +kernel
theorem own_pd11 : parseMethodDescriptor "(I[B)V" = some ⟨[.int, (.array .byte)], none⟩ := by decide +kernel
theorem own_ef20 (m : MethodId) (x0 : Addr) (x1 : Int32) : entryFrame m #[(.ref x0), (.int x1)] 2 = mkF m 0 #[.val (.ref x0), .val (.int x1)] [] := by first | (simp [entryFrame, mkF, argsToLocals, Value.category]; done) | rfl
def own_Q20 (Z : State) (a1 : Addr) (q_ : Int32) (k1 : ClassId) (n1 : Nat) (cs : Nat → Int32) (qn : Nat) (G3 : Value) (h0 : Heap) (n0 : Nat) (v : Option Value) (h : Heap) (L : List Loc) : Prop := v = some (.int (cs qn)) ∧ Fr n0 L ∧ h = h0
set_option maxRecDepth 65536 in
set_option maxHeartbeats 40000000 in
theorem own_rm20 (l : Launch) (Z : State) (a0 : Array Value) (hw : ∀ d ∈ tables_1, d.before a0 Z = true) (ws : List Jvm.Cond) (a1 : Addr) (q_ : Int32) (k1 : ClassId) (n1 : Nat) (cs : Nat → Int32) (qn : Nat) (G3 : Value) (h0 : Heap) (n0 : Nat) (Z0 : n0 ≤ h0.size) (q0 : own_A Z h0 a1 k1 .byte (n1 + n1) (fun i => .int ((own_u16 cs) i))) (q1 : Old Z n0 h0) (q2 : Sta Z Z.heap "jdk/internal/util/Preconditions" "SIOOBE_FORMATTER" "Ljava/util/function/BiFunction;" G3) (rG3 : (G3.isRef = true)) (q4 : Sta Z Z.heap "java/lang/StringUTF16" "$assertionsDisabled" "Z" (.int (1 : Int32))) (q5 : Sta Z Z.heap "java/lang/StringUTF16" "HI_BYTE_SHIFT" "I" (.int (0 : Int32))) (q6 : Sta Z Z.heap "java/lang/StringUTF16" "LO_BYTE_SHIFT" "I" (.int (8 : Int32))) (hq : (q_.toInt = (qn : Int) ∧ qn < n1 ∧ n1 ≤ 4000)) (hch : (0 ≤ (cs qn).toInt ∧ (cs qn).toInt ≤ 65535)) :
    MetFree l (⟨"java/lang/StringUTF16", "charAt", "([BI)C"⟩ : MethodName) (head1 (Jvm.Cond.code (⟨"java/lang/StringUTF16", "charAt", "([BI)C"⟩ : MethodName) jdk_52_method_83_code 2 (some .char) :: ws) ({ frames := 3, cells := 0, slots := 0, locals := 40 } : Room)) (fun a U => a = #[(.ref a1), (.int q_)] ∧ Z.Warmed39 U.vm ∧ U.heap = h0) (fun _ _ _ _ _ => True) (fun _ U o U' => ∃ v L, o = .returned v ∧ own_Q20 Z a1 q_ k1 n1 cs qn G3 h0 n0 v U'.heap L ∧ FrameEnd U o U' L ({ frames := 3, cells := 0, slots := 0, locals := 40 } : Room).cells ({ frames := 3, cells := 0, slots := 0, locals := 40 } : Room).slots) := by
  refine MetFree.of_bodySF (plainFor_of_name own_pn0) hisR ?_
  intro p e s m args below meth c s₁ Bd hml0 hP hK
  obtain ⟨rfl, hZ, hh⟩ := hP
  have hx := Bd.exec
  have hby := Bd.bytes
  have hml : c.maxLocals = 2 := hml0
  have hown : s.vm.findClass "java/lang/StringUTF16" = some m.cls := findClass_of_methodNamed Bd.named
  have hnm := (name_of_methodNamed Bd.named Bd.method).1
  have hnl : meth.locks = false := Bd.notSynchronized
  have X0 : Stand p l e ({ frames := 3, cells := 0, slots := 0, locals := 40 } : Room) s m #[(.ref a1), (.int q_)] below meth c s₁ [] 0 0 := Stand.of_body Bd
  have e0 : s₁.heap = h0 := by rw [← hh, Bd.state]; rfl
  have N0 := Fr.nil n0
  show own_Go p.tables e below (own_P below s (own_Q20 Z a1 q_ k1 n1 cs qn G3 h0 n0) ({ frames := 3, cells := 0, slots := 0, locals := 40 } : Room).cells ({ frames := 3, cells := 0, slots := 0, locals := 40 } : Room).slots) _
  refine own_st (fun t_ k_ => castTop (own_ef20 m a1 q_) k_) ?_
  show own_Go p.tables e below _ (s₁.setTop (mkF m 0 #[.val (.ref a1), .val (.int q_)] []))
  refine own_st (fun t_ k_ => XS.iloadN X0.here hx rfl (hb hby own_d20_0) rfl k_) ?_
  show own_Go p.tables e below _ (s₁.setTop (mkF m 1 #[.val (.ref a1), .val (.int q_)] [(.int q_)]))
  refine own_st (fun t_ k_ => XS.aloadN X0.here hx rfl (hb hby own_d20_1) rfl rfl k_) ?_
  show own_Go p.tables e below _ (s₁.setTop (mkF m 2 #[.val (.ref a1), .val (.int q_)] [(.ref a1), (.int q_)]))
  obtain ⟨_, _, ⟨T141, L141, k141, n141⟩, -, X141, ⟨Lc141, hQ141, l141, y141, z141⟩, st141⟩ := Jvm.LawKit.callS X0 hx (y := (⟨"java/lang/StringUTF16", "checkIndex", "(I[B)V"⟩ : MethodName)) hown (mvT hZ (hw _ (List.mem_of_getElem? (i := 83) rfl))) (mvT hZ (hw _ (List.mem_of_getElem? (i := 84) rfl))) (mvT hZ (hw _ (List.mem_of_getElem? (i := 22) rfl))) (mvT hZ (hw _ (List.mem_of_getElem? (i := 85) rfl))) (by decide) (backOf (W := 0) (own_rm21 l Z a0 hw [] q_ a1 k1 n1 (own_u16 cs) qn G3 h0 n0 (Nat.le_trans Z0 (Keep.refl h0 []).1) q0 q1 q2 rG3 hq) hZ (hw _ (List.mem_of_getElem? (i := 85) rfl)) (hw _ (List.mem_of_getElem? (i := 22) rfl)) (by decide) (by decide)) (g := (mkF m 2 #[.val (.ref a1), .val (.int q_)] [(.ref a1), (.int q_)])) rfl (by rw [hml]; rfl) (argsL := [(.int q_), (.ref a1)]) (rest := []) (lenOf own_pd11 rfl) rfl (by show 2 * 0 + _ ≤ _; exact Nat.le_of_eq rfl) (hb hby own_d20_2) (fun _ _ => ⟨rfl, e0, (by decide : 0 + 0 ≤ _), (by decide : 0 + 0 ≤ _)⟩)
  dsimp only [Pt.U, Pt.locs, Pt.cells, Pt.slots] at X141 l141 y141 z141 st141 hQ141
  subst y141 z141
  obtain ⟨rfl, N141q, eq141⟩ := hQ141
  have N141 : Fr n0 L141 := by rw [l141]; exact Fr.app N0 N141q
  refine own_st (st141) ?_
  show own_Go p.tables e below _ (T141.setTop (mkF m 5 #[.val (.ref a1), .val (.int q_)] []))
  refine own_st (fun t_ k_ => XS.aloadN X141.here hx rfl (hb hby own_d20_5) rfl rfl k_) ?_
  show own_Go p.tables e below _ (T141.setTop (mkF m 6 #[.val (.ref a1), .val (.int q_)] [(.ref a1)]))
  refine own_st (fun t_ k_ => XS.iloadN X141.here hx rfl (hb hby own_d20_6) rfl k_) ?_
  show own_Go p.tables e below _ (T141.setTop (mkF m 7 #[.val (.ref a1), .val (.int q_)] [(.int q_), (.ref a1)]))
  obtain ⟨_, _, ⟨T142, L142, k142, n142⟩, -, X142, ⟨Lc142, hQ142, l142, y142, z142⟩, st142⟩ := Jvm.LawKit.callS X141 hx (y := (⟨"java/lang/StringUTF16", "getChar", "([BI)C"⟩ : MethodName)) hown (mvT hZ (hw _ (List.mem_of_getElem? (i := 64) rfl))) (mvT hZ (hw _ (List.mem_of_getElem? (i := 65) rfl))) (mvT hZ (hw _ (List.mem_of_getElem? (i := 22) rfl))) (mvT hZ (hw _ (List.mem_of_getElem? (i := 66) rfl))) (by decide) (backOf (W := 0) (own_rm16 l Z a0 hw [] a1 q_ k1 (n1 + n1) (own_u16 cs) qn (cs qn) h0 n0 (Nat.le_trans Z0 (Keep.refl h0 []).1) q1 q4 q5 q6 q0 ⟨hq.1, (by omega), (by omega)⟩ ⟨hch.1, hch.2, (own_u16e cs qn), (own_u16o cs qn)⟩) hZ (hw _ (List.mem_of_getElem? (i := 66) rfl)) (hw _ (List.mem_of_getElem? (i := 22) rfl)) (by decide) (by decide)) (g := (mkF m 7 #[.val (.ref a1), .val (.int q_)] [(.int q_), (.ref a1)])) rfl (by rw [hml]; rfl) (argsL := [(.ref a1), (.int q_)]) (rest := []) (lenOf own_pd5 rfl) rfl (by show 2 * 0 + _ ≤ _; exact Nat.le_of_eq rfl) (hb hby own_d20_7) (fun _ _ => ⟨rfl, eq141, (by decide : 0 + 0 ≤ _), (by decide : 0 + 0 ≤ _)⟩)
  dsimp only [Pt.U, Pt.locs, Pt.cells, Pt.slots] at X142 l142 y142 z142 st142 hQ142
  subst y142 z142
  obtain ⟨rfl, N142q, eq142⟩ := hQ142
  have N142 : Fr n0 L142 := by rw [l142]; exact Fr.app N141 N142q
  refine own_st (st142) ?_
  show own_Go p.tables e below _ (T142.setTop (mkF m 10 #[.val (.ref a1), .val (.int q_)] [(.int (cs qn))]))
  exact own_ret (w := (.int (cs qn))) X142 hx hnl Bd.returns (own_nwc hch.1 hch.2) (Or.inl ⟨rfl, by decide, _, rfl⟩) (hb hby own_d20_10) ⟨rfl, N142, eq142⟩ (by decide) (by decide)

theorem own_d18_0 : decode jdk_42_method_56_code 0 = .ok (.aload_n 0, 1) := by decide +kernel
theorem own_d18_1 : decode jdk_42_method_56_code 1 = .ok (.invokevirtual 492, 3) := by decide +kernel
theorem own_d18_4 : decode jdk_42_method_56_code 4 = .ok (.ifCond .eq 12, 3) := by decide +kernel
theorem own_d18_7 : decode jdk_42_method_56_code 7 = .ok (.aload_n 0, 1) := by decide +kernel
theorem own_d18_8 : decode jdk_42_method_56_code 8 = .ok (.getfield 9, 3) := by decide +kernel
theorem own_d18_11 : decode jdk_42_method_56_code 11 = .ok (.iload_n 1, 1) := by decide +kernel
theorem own_d18_12 : decode jdk_42_method_56_code 12 = .ok (.invokestatic 495, 3) := by decide +kernel
theorem own_d18_15 : decode jdk_42_method_56_code 15 = .ok (.ireturn, 1) := by decide +kernel
theorem own_d18_16 : decode jdk_42_method_56_code 16 = .ok (.aload_n 0, 1) := by decide +kernel
theorem own_d18_17 : decode jdk_42_method_56_code 17 = .ok (.getfield 9, 3) := by decide +kernel
theorem own_d18_20 : decode jdk_42_method_56_code 20 = .ok (.iload_n 1, 1) := by decide +kernel
theorem own_d18_21 : decode jdk_42_method_56_code 21 = .ok (.invokestatic 498, 3) := by decide +kernel
theorem own_d18_24 : decode jdk_42_method_56_code 24 = .ok (.ireturn, 1) := by decide +kernel
theorem own_pd12 : parseMethodDescriptor "()Z" = some ⟨[], some .boolean⟩ := by decide +kernel
theorem own_ef18 (m : MethodId) (x0 : Addr) (x1 : Int32) : entryFrame m #[(.ref x0), (.int x1)] 2 = mkF m 0 #[.val (.ref x0), .val (.int x1)] [] := by first | (simp [entryFrame, mkF, argsToLocals, Value.category]; done) | rfl
def own_Q18 (Z : State) (a1 : Addr) (q_ : Int32) (t : Addr) (kt : ClassId) (cd : Int32) (n1 : Nat) (cs : Nat → Int32) (qn : Nat) (G1 : Int32) (G3 : Value) (h0 : Heap) (n0 : Nat) (v : Option Value) (h : Heap) (L : List Loc) : Prop := v = some (.int (cs qn)) ∧ Fr n0 L ∧ h = h0
set_option maxRecDepth 65536 in
set_option maxHeartbeats 40000000 in
theorem own_rm18 (l : Launch) (Z : State) (a0 : Array Value) (hw : ∀ d ∈ tables_1, d.before a0 Z = true) (ws : List Jvm.Cond) (a1 : Addr) (q_ : Int32) (t : Addr) (kt : ClassId) (cd : Int32) (n1 : Nat) (cs : Nat → Int32) (qn : Nat) (G1 : Int32) (G3 : Value) (h0 : Heap) (n0 : Nat) (Z0 : n0 ≤ h0.size) (q0 : Exa Z h0 a1 "java/lang/String") (q1 : Fld Z h0 a1 "java/lang/String" "value" "[B" (.ref t)) (q2 : Fld Z h0 a1 "java/lang/String" "coder" "B" (.int cd)) (q3 : own_A Z h0 t kt .byte (own_bl cd n1) (fun i => .int ((own_by cd cs) i))) (hcd : ((cd = 0 ∧ ∀ q : Nat, q < n1 → ¬ (255 : Int32) < cs q) ∨ cd = 1)) (q5 : Old Z n0 h0) (q6 : Sta Z Z.heap "java/lang/String" "COMPACT_STRINGS" "Z" (.int G1)) (hG1 : (¬ G1 = (0 : Int32))) (q8 : Sta Z Z.heap "jdk/internal/util/Preconditions" "SIOOBE_FORMATTER" "Ljava/util/function/BiFunction;" G3) (rG3 : (G3.isRef = true)) (q10 : Sta Z Z.heap "java/lang/StringUTF16" "$assertionsDisabled" "Z" (.int (1 : Int32))) (q11 : Sta Z Z.heap "java/lang/StringUTF16" "HI_BYTE_SHIFT" "I" (.int (0 : Int32))) (q12 : Sta Z Z.heap "java/lang/StringUTF16" "LO_BYTE_SHIFT" "I" (.int (8 : Int32))) (hq : (q_.toInt = (qn : Int) ∧ qn < n1 ∧ n1 ≤ 4000)) (hch : (0 ≤ (cs qn).toInt ∧ (cs qn).toInt ≤ 65535)) :
    MetFree l (⟨"java/lang/String", "charAt", "(I)C"⟩ : MethodName) (head1 (Jvm.Cond.code (⟨"java/lang/String", "charAt", "(I)C"⟩ : MethodName) jdk_42_method_56_code 2 (some .char) :: ws) ({ frames := 4, cells := 0, slots := 0, locals := 53 } : Room)) (fun a U => a = #[(.ref a1), (.int q_)] ∧ Z.Warmed39 U.vm ∧ U.heap = h0) (fun _ _ _ _ _ => True) (fun _ U o U' => ∃ v L, o = .returned v ∧ own_Q18 Z a1 q_ t kt cd n1 cs qn G1 G3 h0 n0 v U'.heap L ∧ FrameEnd U o U' L ({ frames := 4, cells := 0, slots := 0, locals := 53 } : Room).cells ({ frames := 4, cells := 0, slots := 0, locals := 53 } : Room).slots) := by
  refine MetFree.of_bodySF (plainFor_of_name own_pn1) hisR ?_
  intro p e s m args below meth c s₁ Bd hml0 hP hK
  obtain ⟨rfl, hZ, hh⟩ := hP
  have hx := Bd.exec
  have hby := Bd.bytes
  have hml : c.maxLocals = 2 := hml0
  have hown : s.vm.findClass "java/lang/String" = some m.cls := findClass_of_methodNamed Bd.named
  have hnm := (name_of_methodNamed Bd.named Bd.method).1
  have hnl : meth.locks = false := Bd.notSynchronized
  have X0 : Stand p l e ({ frames := 4, cells := 0, slots := 0, locals := 53 } : Room) s m #[(.ref a1), (.int q_)] below meth c s₁ [] 0 0 := Stand.of_body Bd
  have e0 : s₁.heap = h0 := by rw [← hh, Bd.state]; rfl
  have N0 := Fr.nil n0
  show own_Go p.tables e below (own_P below s (own_Q18 Z a1 q_ t kt cd n1 cs qn G1 G3 h0 n0) ({ frames := 4, cells := 0, slots := 0, locals := 53 } : Room).cells ({ frames := 4, cells := 0, slots := 0, locals := 53 } : Room).slots) _
  refine own_st (fun t_ k_ => castTop (own_ef18 m a1 q_) k_) ?_
  show own_Go p.tables e below _ (s₁.setTop (mkF m 0 #[.val (.ref a1), .val (.int q_)] []))
  refine own_st (fun t_ k_ => XS.aloadN X0.here hx rfl (hb hby own_d18_0) rfl rfl k_) ?_
  show own_Go p.tables e below _ (s₁.setTop (mkF m 1 #[.val (.ref a1), .val (.int q_)] [(.ref a1)]))
  obtain ⟨cq143, kq143, q143a, q143b, q143c⟩ := isOf hZ e0 q0
  obtain ⟨_, _, ⟨T143, L143, k143, n143⟩, -, X143, ⟨Lc143, hQ143, l143, y143, z143⟩, st143⟩ := X0.virtualBack hx (y := (⟨"java/lang/String", "isLatin1", "()Z"⟩ : MethodName)) (z := (⟨"java/lang/String", "isLatin1", "()Z"⟩ : MethodName)) hown (mvT hZ (hw _ (List.mem_of_getElem? (i := 75) rfl))) (mvT hZ (hw _ (List.mem_of_getElem? (i := 76) rfl))) (notFace_of_selects (args := #[]) (mvT hZ (hw _ (List.mem_of_getElem? (i := 78) rfl)))) (mvT hZ (hw _ (List.mem_of_getElem? (i := 78) rfl))) (mvT hZ (hw _ (List.mem_of_getElem? (i := 77) rfl))) (by decide) (backOf (W := 0) (own_rm19 l Z a0 hw [] a1 cd G1 h0 n0 (Nat.le_trans Z0 (Keep.refl h0 []).1) q2 q5 q6 hG1) hZ (hw _ (List.mem_of_getElem? (i := 79) rfl)) (hw _ (List.mem_of_getElem? (i := 8) rfl)) (by decide) (by decide)) q143a q143c (g := (mkF m 1 #[.val (.ref a1), .val (.int q_)] [(.ref a1)])) rfl (by rw [hml]; rfl) (Steps.refl _) (argsL := []) (rest := []) (lenOf own_pd12 rfl) rfl (by show 2 * 0 + _ ≤ _; exact Nat.le_of_eq rfl) (hb hby own_d18_1) (fun _ _ => ⟨rfl, e0, (by decide : 0 + 0 ≤ _), (by decide : 0 + 0 ≤ _)⟩)
  dsimp only [Pt.U, Pt.locs, Pt.cells, Pt.slots] at X143 l143 y143 z143 st143 hQ143
  subst y143 z143
  obtain ⟨rfl, N143q, eq143⟩ := hQ143
  have N143 : Fr n0 L143 := by rw [l143]; exact Fr.app N0 N143q
  refine own_tr st143 ?_
  show own_Go p.tables e below _ (T143.setTop (mkF m 4 #[.val (.ref a1), .val (.int q_)] [(.int (own_l1 cd))]))
  by_cases c4_144 : (own_l1 cd) = (0 : Int32)
  · skip
    have ecd : cd = 1 := by rcases hcd with z_ | z_; exact absurd c4_144 (by rw [z_.1]; decide); exact z_
    have Au : own_A Z h0 t kt .byte (n1 + n1) (fun i => .int ((own_u16 cs) i)) := by have z_ := q3; rw [ecd, own_bl1] at z_; exact z_.congr (fun q _ => by rw [own_by1])
    refine own_st (fun t_ k_ => XS.ifYes X143.here hx rfl (pc0 := 4) (pc' := 16) rfl (hb hby own_d18_4) rfl ((if0 _ _).trans (teq c4_144).1) (by decide) (by decide) k_) ?_
    show own_Go p.tables e below _ (T143.setTop (mkF m 16 #[.val (.ref a1), .val (.int q_)] []))
    refine own_st (fun t_ k_ => XS.aloadN X143.here hx rfl (hb hby own_d18_16) rfl rfl k_) ?_
    show own_Go p.tables e below _ (T143.setTop (mkF m 17 #[.val (.ref a1), .val (.int q_)] [(.ref a1)]))
    obtain ⟨T145, X145, e145, st145⟩ := getF X143 hx hZ hown (host := "") (Or.inl (hw _ (List.mem_of_getElem? (i := 33) rfl))) Via.refl eq143 q1 (g := (mkF m 17 #[.val (.ref a1), .val (.int q_)] [(.ref a1)])) rfl rfl (hb hby own_d18_17)
    refine own_st (st145) ?_
    show own_Go p.tables e below _ (T145.setTop (mkF m 20 #[.val (.ref a1), .val (.int q_)] [(.ref t)]))
    refine own_st (fun t_ k_ => XS.iloadN X145.here hx rfl (hb hby own_d18_20) rfl k_) ?_
    show own_Go p.tables e below _ (T145.setTop (mkF m 21 #[.val (.ref a1), .val (.int q_)] [(.int q_), (.ref t)]))
    obtain ⟨_, _, ⟨T146, L146, k146, n146⟩, -, X146, ⟨Lc146, hQ146, l146, y146, z146⟩, st146⟩ := Jvm.LawKit.callS X145 hx (y := (⟨"java/lang/StringUTF16", "charAt", "([BI)C"⟩ : MethodName)) hown (mvT hZ (hw _ (List.mem_of_getElem? (i := 80) rfl))) (mvT hZ (hw _ (List.mem_of_getElem? (i := 81) rfl))) (mvT hZ (hw _ (List.mem_of_getElem? (i := 22) rfl))) (mvT hZ (hw _ (List.mem_of_getElem? (i := 82) rfl))) (by decide) (backOf (W := 0) (own_rm20 l Z a0 hw [] t q_ kt n1 cs qn G3 h0 n0 (Nat.le_trans Z0 (Keep.refl h0 []).1) Au q5 q8 rG3 q10 q11 q12 hq hch) hZ (hw _ (List.mem_of_getElem? (i := 82) rfl)) (hw _ (List.mem_of_getElem? (i := 22) rfl)) (by decide) (by decide)) (g := (mkF m 21 #[.val (.ref a1), .val (.int q_)] [(.int q_), (.ref t)])) rfl (by rw [hml]; rfl) (argsL := [(.ref t), (.int q_)]) (rest := []) (lenOf own_pd5 rfl) rfl (by show 2 * 0 + _ ≤ _; exact Nat.le_of_eq rfl) (hb hby own_d18_21) (fun _ _ => ⟨rfl, e145, (by decide : 0 + 0 ≤ _), (by decide : 0 + 0 ≤ _)⟩)
    dsimp only [Pt.U, Pt.locs, Pt.cells, Pt.slots] at X146 l146 y146 z146 st146 hQ146
    subst y146 z146
    obtain ⟨rfl, N146q, eq146⟩ := hQ146
    have N146 : Fr n0 L146 := by rw [l146]; exact Fr.app N143 N146q
    refine own_st (st146) ?_
    show own_Go p.tables e below _ (T146.setTop (mkF m 24 #[.val (.ref a1), .val (.int q_)] [(.int (cs qn))]))
    exact own_ret (w := (.int (cs qn))) X146 hx hnl Bd.returns (own_nwc hch.1 hch.2) (Or.inl ⟨rfl, by decide, _, rfl⟩) (hb hby own_d18_24) ⟨rfl, N146, eq146⟩ (by decide) (by decide)
  · skip
    have ecd : cd = 0 ∧ ∀ q : Nat, q < n1 → ¬ (255 : Int32) < cs q := by rcases hcd with z_ | z_; exact z_; exact absurd (show own_l1 cd = 0 by rw [z_]; decide) c4_144
    have Au : own_A Z h0 t kt .byte n1 (fun i => .int ((own_l8 cs) i)) := by have z_ := q3; rw [ecd.1, own_bl0] at z_; exact z_.congr (fun q _ => by rw [own_by0]; rfl)
    refine own_st (fun t_ k_ => XS.ifNo X143.here hx rfl (hb hby own_d18_4) rfl ((if0 _ _).trans (feq c4_144).1) k_) ?_
    show own_Go p.tables e below _ (T143.setTop (mkF m 7 #[.val (.ref a1), .val (.int q_)] []))
    refine own_st (fun t_ k_ => XS.aloadN X143.here hx rfl (hb hby own_d18_7) rfl rfl k_) ?_
    show own_Go p.tables e below _ (T143.setTop (mkF m 8 #[.val (.ref a1), .val (.int q_)] [(.ref a1)]))
    obtain ⟨T147, X147, e147, st147⟩ := getF X143 hx hZ hown (host := "") (Or.inl (hw _ (List.mem_of_getElem? (i := 33) rfl))) Via.refl eq143 q1 (g := (mkF m 8 #[.val (.ref a1), .val (.int q_)] [(.ref a1)])) rfl rfl (hb hby own_d18_8)
    refine own_st (st147) ?_
    show own_Go p.tables e below _ (T147.setTop (mkF m 11 #[.val (.ref a1), .val (.int q_)] [(.ref t)]))
    refine own_st (fun t_ k_ => XS.iloadN X147.here hx rfl (hb hby own_d18_11) rfl k_) ?_
    show own_Go p.tables e below _ (T147.setTop (mkF m 12 #[.val (.ref a1), .val (.int q_)] [(.int q_), (.ref t)]))
    obtain ⟨_, _, ⟨T148, L148, k148, n148⟩, -, X148, ⟨Lc148, hQ148, l148, y148, z148⟩, st148⟩ := Jvm.LawKit.callS X147 hx (y := (⟨"java/lang/StringLatin1", "charAt", "([BI)C"⟩ : MethodName)) hown (mvT hZ (hw _ (List.mem_of_getElem? (i := 98) rfl))) (mvT hZ (hw _ (List.mem_of_getElem? (i := 99) rfl))) (mvT hZ (hw _ (List.mem_of_getElem? (i := 100) rfl))) (mvT hZ (hw _ (List.mem_of_getElem? (i := 101) rfl))) (by decide) (backOf (W := 0) (own_rm25 l Z a0 hw [] t q_ kt n1 cs qn G3 h0 n0 (Nat.le_trans Z0 (Keep.refl h0 []).1) Au q5 q8 rG3 hq hch (ecd.2 _ hq.2.1)) hZ (hw _ (List.mem_of_getElem? (i := 101) rfl)) (hw _ (List.mem_of_getElem? (i := 100) rfl)) (by decide) (by decide)) (g := (mkF m 12 #[.val (.ref a1), .val (.int q_)] [(.int q_), (.ref t)])) rfl (by rw [hml]; rfl) (argsL := [(.ref t), (.int q_)]) (rest := []) (lenOf own_pd5 rfl) rfl (by show 2 * 0 + _ ≤ _; exact Nat.le_of_eq rfl) (hb hby own_d18_12) (fun _ _ => ⟨rfl, e147, (by decide : 0 + 0 ≤ _), (by decide : 0 + 0 ≤ _)⟩)
    dsimp only [Pt.U, Pt.locs, Pt.cells, Pt.slots] at X148 l148 y148 z148 st148 hQ148
    subst y148 z148
    obtain ⟨rfl, N148q, eq148⟩ := hQ148
    have N148 : Fr n0 L148 := by rw [l148]; exact Fr.app N143 N148q
    refine own_st (st148) ?_
    show own_Go p.tables e below _ (T148.setTop (mkF m 15 #[.val (.ref a1), .val (.int q_)] [(.int (cs qn))]))
    exact own_ret (w := (.int (cs qn))) X148 hx hnl Bd.returns (own_nwc hch.1 hch.2) (Or.inl ⟨rfl, by decide, _, rfl⟩) (hb hby own_d18_15) ⟨rfl, N148, eq148⟩ (by decide) (by decide)


def own_mv (p_ : Int32) : Int32 := if (p_ &&& (1 : Int32)) = (0 : Int32) then ((48 : Int32) + ((((p_.toUInt32 >>> ((1 : Int32) &&& 31).toUInt32).toInt32) &&& (65535 : Int32)) % (10 : Int32))) else (((p_.toUInt32 >>> ((1 : Int32) &&& 31).toUInt32).toInt32) &&& (65535 : Int32))
def own_mk (p_ : Int32) : Int32 := (own_mv p_).toUInt32.toUInt16.toUInt32.toInt32
theorem own_mkb (p_ : Int32) : 0 ≤ (own_mk p_).toInt ∧ (own_mk p_).toInt ≤ 65535 := by have a := c_i2c (own_mv p_); unfold own_mk; omega
def own_in (i f n : Int32) : Int32 := if i < f then 0 else if i < (f + n) then 1 else 0
def own_bad (ch i f n : Int32) : Int32 := if own_in i f n = (0 : Int32) then 0 else if ch < (48 : Int32) then 1 else if (57 : Int32) < ch then 1 else 0
def own_p10 (e : Int32) : Int32 := if e = (0 : Int32) then 1 else if e = (1 : Int32) then 10 else if e = (2 : Int32) then 100 else if e = (3 : Int32) then 1000 else if e = (4 : Int32) then 10000 else 100000
def own_part (ch i f n : Int32) : Int32 := if own_in i f n = (0 : Int32) then 0 else if ch < (48 : Int32) then 0 else if (57 : Int32) < ch then 0 else (ch - (48 : Int32)) * own_p10 (((f + n) - (1 : Int32)) - i)
def own_dig (cs : Nat → Int32) : Nat → Nat → Int32 → Int32
  | 0, _, a => a
  | t + 1, i, a => if cs i < (48 : Int32) then -1 else if (57 : Int32) < cs i then -1 else own_dig cs t (i + 1) ((a * (10 : Int32)) + (cs i - (48 : Int32)))
theorem own_fn {f n : Int32} {fm ct : Nat} (hf : f.toInt = (fm : Int)) (hn : n.toInt = (ct : Int)) (b : fm + ct < 100000) : (f + n).toInt = ((fm + ct : Nat) : Int) := by
  rw [Int32.toInt_add, hf, hn, bmod32 (by omega) (by omega)]; omega
theorem own_inE {i f n : Int32} {k fm ct : Nat} (hi : i.toInt = (k : Int)) (hf : f.toInt = (fm : Int)) (hn : n.toInt = (ct : Int)) (b : fm + ct < 100000) : own_in i f n = if fm ≤ k ∧ k < fm + ct then 1 else 0 := by
  unfold own_in
  have e := own_fn hf hn b
  by_cases q : k < fm
  · rw [if_pos ((own_ltp hi hf).mpr q), if_neg (by omega)]
  · rw [if_neg (fun z => q ((own_ltp hi hf).mp z))]
    by_cases r : k < fm + ct
    · rw [if_pos ((own_ltp hi e).mpr r), if_pos (by omega)]
    · rw [if_neg (fun z => r ((own_ltp hi e).mp z)), if_neg (by omega)]
theorem own_badE {ch i f n : Int32} {k fm ct : Nat} (hi : i.toInt = (k : Int)) (hf : f.toInt = (fm : Int)) (hn : n.toInt = (ct : Int)) (b : fm + ct < 100000) : own_bad ch i f n = 0 ↔ (fm ≤ k → k < fm + ct → ¬ ch < (48 : Int32) ∧ ¬ (57 : Int32) < ch) := by
  unfold own_bad
  rw [own_inE hi hf hn b]
  by_cases q : fm ≤ k ∧ k < fm + ct
  · rw [if_pos q, if_neg (by decide)]
    by_cases c1 : ch < (48 : Int32)
    · rw [if_pos c1]; exact ⟨fun h => absurd h (by decide), fun h => absurd c1 (h q.1 q.2).1⟩
    · rw [if_neg c1]
      by_cases c2 : (57 : Int32) < ch
      · rw [if_pos c2]; exact ⟨fun h => absurd h (by decide), fun h => absurd c2 (h q.1 q.2).2⟩
      · rw [if_neg c2]; exact ⟨fun _ _ _ => ⟨c1, c2⟩, fun _ => rfl⟩
  · rw [if_neg q, if_pos rfl]
    exact ⟨fun _ a b => absurd ⟨a, b⟩ q, fun _ => rfl⟩
theorem own_digbad (cs : Nat → Int32) : ∀ (t i : Nat) (a : Int32) (j : Nat), i ≤ j → j < i + t → ¬ (¬ cs j < (48 : Int32) ∧ ¬ (57 : Int32) < cs j) → own_dig cs t i a = -1
  | 0, i, a, j, h1, h2, _ => by omega
  | t + 1, i, a, j, h1, h2, h3 => by
    simp only [own_dig]
    split
    · rfl
    · split
      · rfl
      · rename_i c1 c2
        by_cases e : j = i
        · subst e; exact absurd ⟨c1, c2⟩ h3
        · exact own_digbad cs t (i + 1) _ j (by omega) (by omega) h3
def own_hz (d : Nat → Int) : Nat → Nat → Int → Int
  | 0, _, a => a
  | t + 1, i, a => own_hz d t (i + 1) (a * 10 + (d i - 48))
def own_ten : Nat → Int
  | 0 => 1
  | k + 1 => own_ten k * 10
theorem own_digint (cs : Nat → Int32) : ∀ (t k i : Nat) (a : Int32), k + t ≤ 6 → 0 ≤ a.toInt → a.toInt < own_ten k → (∀ j : Nat, i ≤ j → j < i + t → ¬ cs j < (48 : Int32) ∧ ¬ (57 : Int32) < cs j) → (own_dig cs t i a).toInt = own_hz (fun j => (cs j).toInt) t i a.toInt
  | 0, k, i, a, _, _, _, _ => rfl
  | t + 1, k, i, a, hk, h0, h1, hg => by
    have g := hg i (Nat.le_refl _) (by omega)
    have e48 : (48 : Int32).toInt = 48 := by decide
    have e57 : (57 : Int32).toInt = 57 := by decide
    have e10 : (10 : Int32).toInt = 10 := by decide
    have tk : own_ten k ≤ 100000 := by
      have : k ≤ 5 := by omega
      match k, this with
      | 0, _ => decide
      | 1, _ => decide
      | 2, _ => decide
      | 3, _ => decide
      | 4, _ => decide
      | 5, _ => decide
    have g' := g
    rw [Int32.lt_iff_toInt_lt, Int32.lt_iff_toInt_lt, e48, e57] at g'
    have s := c_isub (cs i) 48
    have m := c_imul a 10
    have p := c_iadd (a * 10) (cs i - 48)
    rw [e48] at s; rw [e10] at m
    have r1 := rng32 (cs i - 48)
    have r2 := rng32 (a * 10)
    have r3 := rng32 (a * 10 + (cs i - 48))
    have v1 : (cs i - 48).toInt = (cs i).toInt - 48 := by omega
    have v2 : (a * 10).toInt = a.toInt * 10 := by omega
    have v3 : (a * 10 + (cs i - 48)).toInt = a.toInt * 10 + ((cs i).toInt - 48) := by omega
    simp only [own_dig, own_hz]
    rw [if_neg g.1, if_neg g.2, own_digint cs t (k + 1) (i + 1) _ (by omega) (by omega) (by rw [v3]; show _ < own_ten k * 10; omega) (fun j a b => hg j (by omega) (by omega)), v3]
theorem own_partE {ch i f n : Int32} {k fm ct : Nat} (hi : i.toInt = (k : Int)) (hf : f.toInt = (fm : Int)) (hn : n.toInt = (ct : Int)) (b : fm + ct ≤ 6) (hb : own_bad ch i f n = 0) : (own_part ch i f n).toInt = if fm ≤ k ∧ k < fm + ct then (ch.toInt - 48) * own_ten (fm + ct - 1 - k) else 0 := by
  have hb' := (own_badE hi hf hn (by omega)).mp hb
  unfold own_part
  rw [own_inE hi hf hn (by omega)]
  by_cases q : fm ≤ k ∧ k < fm + ct
  · obtain ⟨c1, c2⟩ := hb' q.1 q.2
    rw [if_pos q, if_neg (by decide), if_neg c1, if_neg c2, if_pos q]
    have e48 : (48 : Int32).toInt = 48 := by decide
    have e57 : (57 : Int32).toInt = 57 := by decide
    have e1 : (1 : Int32).toInt = 1 := by decide
    rw [Int32.lt_iff_toInt_lt, e48] at c1; rw [Int32.lt_iff_toInt_lt, e57] at c2
    have s := c_isub ch 48
    rw [e48] at s
    have r1 := rng32 (ch - 48)
    have v1 : (ch - 48).toInt = ch.toInt - 48 := by omega
    have t1 := c_isub (f + n) 1
    have t2 := c_isub ((f + n) - 1) i
    rw [own_fn hf hn (by omega), e1] at t1
    rw [hi] at t2
    have r2 := rng32 ((f + n) - 1)
    have r3 := rng32 (((f + n) - 1) - i)
    have v2 : (((f + n) - 1) - i).toInt = ((fm + ct - 1 - k : Nat) : Int) := by omega
    generalize hx : (((f + n) - 1) - i) = x at v2 ⊢
    have hj : fm + ct - 1 - k ≤ 5 := by omega
    generalize fm + ct - 1 - k = j at v2 hj ⊢
    have ex : x = Int32.ofNat j := own_asN v2
    have m := c_imul (ch - 48) (own_p10 x)
    have r4 := rng32 ((ch - 48) * own_p10 x)
    have w : (own_p10 x).toInt = own_ten j := by
      rw [ex]
      match j, hj with
      | 0, _ => decide
      | 1, _ => decide
      | 2, _ => decide
      | 3, _ => decide
      | 4, _ => decide
      | 5, _ => decide
    rw [w, v1] at m
    have w2 : own_ten j = 1 ∨ own_ten j = 10 ∨ own_ten j = 100 ∨ own_ten j = 1000 ∨ own_ten j = 10000 ∨ own_ten j = 100000 := by
      match j, hj with
      | 0, _ => decide
      | 1, _ => decide
      | 2, _ => decide
      | 3, _ => decide
      | 4, _ => decide
      | 5, _ => decide
    rcases w2 with z | z | z | z | z | z <;> rw [z] at m ⊢ <;> omega
  · rw [if_neg q, if_pos rfl, if_neg q]; decide
def own_pi (d : Nat → Int) (fm ct k : Nat) : Int := if fm ≤ k ∧ k < fm + ct then (d k - 48) * own_ten (fm + ct - 1 - k) else 0
set_option maxHeartbeats 4000000 in
theorem own_sumI (d : Nat → Int) : ∀ fm ct : Nat, fm ≤ 6 → fm + ct ≤ 6 → own_hz d ct fm 0 = own_pi d fm ct 0 + own_pi d fm ct 1 + own_pi d fm ct 2 + own_pi d fm ct 3 + own_pi d fm ct 4 + own_pi d fm ct 5 := by
  intro fm ct h1 h2
  have c1 : fm = 0 ∨ fm = 1 ∨ fm = 2 ∨ fm = 3 ∨ fm = 4 ∨ fm = 5 ∨ fm = 6 := by omega
  have c2 : ct = 0 ∨ ct = 1 ∨ ct = 2 ∨ ct = 3 ∨ ct = 4 ∨ ct = 5 ∨ ct = 6 := by omega
  rcases c1 with rfl | rfl | rfl | rfl | rfl | rfl | rfl <;> rcases c2 with rfl | rfl | rfl | rfl | rfl | rfl | rfl <;> first | omega | (simp [own_hz, own_pi, own_ten] <;> omega)
theorem own_lawB {cs : Nat → Int32} {f n i : Int32} {fm ct k : Nat} (hi : i.toInt = (k : Int)) (hf : f.toInt = (fm : Int)) (hn : n.toInt = (ct : Int)) (b : fm + ct ≤ 6) (h : ¬ own_bad (cs k) i f n = 0) : own_dig cs ct fm 0 = -1 := by
  rw [own_badE hi hf hn (by omega)] at h
  by_cases q : fm ≤ k ∧ k < fm + ct
  · exact own_digbad cs ct fm 0 k q.1 q.2 (fun z => h fun _ _ => z)
  · exact absurd (fun a b => absurd ⟨a, b⟩ q) h
theorem own_ten0 (j : Nat) (h : j ≤ 5) : 1 ≤ own_ten j ∧ own_ten j ≤ 100000 := by
  match j, h with
  | 0, _ => decide
  | 1, _ => decide
  | 2, _ => decide
  | 3, _ => decide
  | 4, _ => decide
  | 5, _ => decide
theorem own_lawG {cs : Nat → Int32} {f n : Int32} {fm ct : Nat} (hf : f.toInt = (fm : Int)) (hn : n.toInt = (ct : Int)) (b1 : fm ≤ 6) (b : fm + ct ≤ 6) (h0 : own_bad (cs 0) 0 f n = 0) (h1 : own_bad (cs 1) 1 f n = 0) (h2 : own_bad (cs 2) 2 f n = 0) (h3 : own_bad (cs 3) 3 f n = 0) (h4 : own_bad (cs 4) 4 f n = 0) (h5 : own_bad (cs 5) 5 f n = 0) :
    own_dig cs ct fm 0 = own_part (cs 0) 0 f n + own_part (cs 1) 1 f n + own_part (cs 2) 2 f n + own_part (cs 3) 3 f n + own_part (cs 4) 4 f n + own_part (cs 5) 5 f n := by
  have i0 : (0 : Int32).toInt = ((0 : Nat) : Int) := by decide
  have i1 : (1 : Int32).toInt = ((1 : Nat) : Int) := by decide
  have i2 : (2 : Int32).toInt = ((2 : Nat) : Int) := by decide
  have i3 : (3 : Int32).toInt = ((3 : Nat) : Int) := by decide
  have i4 : (4 : Int32).toInt = ((4 : Nat) : Int) := by decide
  have i5 : (5 : Int32).toInt = ((5 : Nat) : Int) := by decide
  have good : ∀ j : Nat, fm ≤ j → j < fm + ct → ¬ cs j < (48 : Int32) ∧ ¬ (57 : Int32) < cs j := by
    intro j a1 a2
    have : j = 0 ∨ j = 1 ∨ j = 2 ∨ j = 3 ∨ j = 4 ∨ j = 5 := by omega
    rcases this with rfl | rfl | rfl | rfl | rfl | rfl
    · exact (own_badE i0 hf hn (by omega)).mp h0 a1 a2
    · exact (own_badE i1 hf hn (by omega)).mp h1 a1 a2
    · exact (own_badE i2 hf hn (by omega)).mp h2 a1 a2
    · exact (own_badE i3 hf hn (by omega)).mp h3 a1 a2
    · exact (own_badE i4 hf hn (by omega)).mp h4 a1 a2
    · exact (own_badE i5 hf hn (by omega)).mp h5 a1 a2
  have e := own_digint cs ct 0 fm 0 (by omega) (by decide) (by decide) good
  have z : (0 : Int32).toInt = 0 := by decide
  rw [z, own_sumI (fun j => (cs j).toInt) fm ct b1 b] at e
  have q0 : (own_part (cs 0) 0 f n).toInt = own_pi (fun j => (cs j).toInt) fm ct 0 := own_partE i0 hf hn b h0
  have q1 : (own_part (cs 1) 1 f n).toInt = own_pi (fun j => (cs j).toInt) fm ct 1 := own_partE i1 hf hn b h1
  have q2 : (own_part (cs 2) 2 f n).toInt = own_pi (fun j => (cs j).toInt) fm ct 2 := own_partE i2 hf hn b h2
  have q3 : (own_part (cs 3) 3 f n).toInt = own_pi (fun j => (cs j).toInt) fm ct 3 := own_partE i3 hf hn b h3
  have q4 : (own_part (cs 4) 4 f n).toInt = own_pi (fun j => (cs j).toInt) fm ct 4 := own_partE i4 hf hn b h4
  have q5 : (own_part (cs 5) 5 f n).toInt = own_pi (fun j => (cs j).toInt) fm ct 5 := own_partE i5 hf hn b h5
  rw [← q0, ← q1, ← q2, ← q3, ← q4, ← q5] at e
  have a1 := c_iadd (own_part (cs 0) 0 f n) (own_part (cs 1) 1 f n)
  have a2 := c_iadd (own_part (cs 0) 0 f n + own_part (cs 1) 1 f n) (own_part (cs 2) 2 f n)
  have a3 := c_iadd (own_part (cs 0) 0 f n + own_part (cs 1) 1 f n + own_part (cs 2) 2 f n) (own_part (cs 3) 3 f n)
  have a4 := c_iadd (own_part (cs 0) 0 f n + own_part (cs 1) 1 f n + own_part (cs 2) 2 f n + own_part (cs 3) 3 f n) (own_part (cs 4) 4 f n)
  have a5 := c_iadd (own_part (cs 0) 0 f n + own_part (cs 1) 1 f n + own_part (cs 2) 2 f n + own_part (cs 3) 3 f n + own_part (cs 4) 4 f n) (own_part (cs 5) 5 f n)
  have r5 := rng32 (own_part (cs 0) 0 f n + own_part (cs 1) 1 f n + own_part (cs 2) 2 f n + own_part (cs 3) 3 f n + own_part (cs 4) 4 f n + own_part (cs 5) 5 f n)
  have r := rng32 (own_dig cs ct fm 0)
  apply Int32.toInt_inj.mp
  omega

theorem own_d1_0 : decode method_3_code 0 = .ok (.iload_n 0, 1) := by decide +kernel
theorem own_d1_1 : decode method_3_code 1 = .ok (.iconst 1, 1) := by decide +kernel
theorem own_d1_2 : decode method_3_code 2 = .ok (.iushr, 1) := by decide +kernel
theorem own_d1_3 : decode method_3_code 3 = .ok (.ldc 32, 2) := by decide +kernel
theorem own_d1_5 : decode method_3_code 5 = .ok (.iand, 1) := by decide +kernel
theorem own_d1_6 : decode method_3_code 6 = .ok (.istore_n 1, 1) := by decide +kernel
theorem own_d1_7 : decode method_3_code 7 = .ok (.iload_n 0, 1) := by decide +kernel
theorem own_d1_8 : decode method_3_code 8 = .ok (.iconst 1, 1) := by decide +kernel
theorem own_d1_9 : decode method_3_code 9 = .ok (.iand, 1) := by decide +kernel
theorem own_d1_10 : decode method_3_code 10 = .ok (.ifCond .ne 12, 3) := by decide +kernel
theorem own_d1_13 : decode method_3_code 13 = .ok (.bipush 48, 2) := by decide +kernel
theorem own_d1_15 : decode method_3_code 15 = .ok (.iload_n 1, 1) := by decide +kernel
theorem own_d1_16 : decode method_3_code 16 = .ok (.bipush 10, 2) := by decide +kernel
theorem own_d1_18 : decode method_3_code 18 = .ok (.irem, 1) := by decide +kernel
theorem own_d1_19 : decode method_3_code 19 = .ok (.iadd, 1) := by decide +kernel
theorem own_d1_20 : decode method_3_code 20 = .ok (.i2c, 1) := by decide +kernel
theorem own_d1_21 : decode method_3_code 21 = .ok (.ireturn, 1) := by decide +kernel
theorem own_d1_22 : decode method_3_code 22 = .ok (.iload_n 1, 1) := by decide +kernel
theorem own_d1_23 : decode method_3_code 23 = .ok (.i2c, 1) := by decide +kernel
theorem own_d1_24 : decode method_3_code 24 = .ok (.ireturn, 1) := by decide +kernel
theorem own_pn4 : plainName "com/example/nastro/nastro/model/DigitsValuePinLaw" = true := by first | (simp [plainName, overriddenIn]; done) | decide +kernel
theorem own_ef1 (m : MethodId) (x0 : Int32) : entryFrame m #[(.int x0)] 2 = mkF m 0 #[.val (.int x0), .unset] [] := by first | (simp [entryFrame, mkF, argsToLocals, Value.category]; done) | rfl
def own_Q1 (Z : State) (p_ : Int32) (h0 : Heap) (n0 : Nat) (v : Option Value) (h : Heap) (L : List Loc) : Prop := v = some (.int (own_mk p_)) ∧ Fr n0 L ∧ h = h0
set_option maxRecDepth 65536 in
set_option maxHeartbeats 40000000 in
theorem own_rm1 (l : Launch) (Z : State) (a0 : Array Value) (hw : ∀ d ∈ tables_1, d.before a0 Z = true) (ws : List Jvm.Cond) (p_ : Int32) (h0 : Heap) (n0 : Nat) (Z0 : n0 ≤ h0.size)  :
    MetFree l (⟨"com/example/nastro/nastro/model/DigitsValuePinLaw", "mk", "(I)C"⟩ : MethodName) (head1 (Jvm.Cond.code (⟨"com/example/nastro/nastro/model/DigitsValuePinLaw", "mk", "(I)C"⟩ : MethodName) method_3_code 2 (some .char) :: ws) ({ frames := 0, cells := 0, slots := 0, locals := 0 } : Room)) (fun a U => a = #[(.int p_)] ∧ Z.Warmed39 U.vm ∧ U.heap = h0) (fun _ _ _ _ _ => True) (fun _ U o U' => ∃ v L, o = .returned v ∧ own_Q1 Z p_ h0 n0 v U'.heap L ∧ FrameEnd U o U' L ({ frames := 0, cells := 0, slots := 0, locals := 0 } : Room).cells ({ frames := 0, cells := 0, slots := 0, locals := 0 } : Room).slots) := by
  refine MetFree.of_bodySF (plainFor_of_name own_pn4) hisR ?_
  intro p e s m args below meth c s₁ Bd hml0 hP hK
  obtain ⟨rfl, hZ, hh⟩ := hP
  have hx := Bd.exec
  have hby := Bd.bytes
  have hml : c.maxLocals = 2 := hml0
  have hown : s.vm.findClass "com/example/nastro/nastro/model/DigitsValuePinLaw" = some m.cls := findClass_of_methodNamed Bd.named
  have hnm := (name_of_methodNamed Bd.named Bd.method).1
  have hnl : meth.locks = false := Bd.notSynchronized
  have X0 : Stand p l e ({ frames := 0, cells := 0, slots := 0, locals := 0 } : Room) s m #[(.int p_)] below meth c s₁ [] 0 0 := Stand.of_body Bd
  have e0 : s₁.heap = h0 := by rw [← hh, Bd.state]; rfl
  have N0 := Fr.nil n0
  show own_Go p.tables e below (own_P below s (own_Q1 Z p_ h0 n0) ({ frames := 0, cells := 0, slots := 0, locals := 0 } : Room).cells ({ frames := 0, cells := 0, slots := 0, locals := 0 } : Room).slots) _
  refine own_st (fun t_ k_ => castTop (own_ef1 m p_) k_) ?_
  show own_Go p.tables e below _ (s₁.setTop (mkF m 0 #[.val (.int p_), .unset] []))
  refine own_st (fun t_ k_ => XS.iloadN X0.here hx rfl (hb hby own_d1_0) rfl k_) ?_
  show own_Go p.tables e below _ (s₁.setTop (mkF m 1 #[.val (.int p_), .unset] [(.int p_)]))
  refine own_st (fun t_ k_ => XS.iconst X0.here hx rfl (hb hby own_d1_1) k_) ?_
  show own_Go p.tables e below _ (s₁.setTop (mkF m 2 #[.val (.int p_), .unset] [(.int (1 : Int32)), (.int p_)]))
  refine own_st (fun t_ k_ => XS.iushr X0.here hx rfl (hb hby own_d1_2) rfl k_) ?_
  show own_Go p.tables e below _ (s₁.setTop (mkF m 3 #[.val (.int p_), .unset] [(.int ((p_.toUInt32 >>> ((1 : Int32) &&& 31).toUInt32).toInt32))]))
  refine own_st (X0.ldcInt hx hown (mvT hZ (hw _ (List.mem_of_getElem? (i := 5) rfl))) (g := (mkF m 3 #[.val (.int p_), .unset] [(.int ((p_.toUInt32 >>> ((1 : Int32) &&& 31).toUInt32).toInt32))])) rfl (hb hby own_d1_3)) ?_
  show own_Go p.tables e below _ (s₁.setTop (mkF m 5 #[.val (.int p_), .unset] [(.int (65535 : Int32)), (.int ((p_.toUInt32 >>> ((1 : Int32) &&& 31).toUInt32).toInt32))]))
  refine own_st (fun t_ k_ => XS.iand X0.here hx rfl (hb hby own_d1_5) rfl k_) ?_
  show own_Go p.tables e below _ (s₁.setTop (mkF m 6 #[.val (.int p_), .unset] [(.int (((p_.toUInt32 >>> ((1 : Int32) &&& 31).toUInt32).toInt32) &&& (65535 : Int32)))]))
  refine own_st (fun t_ k_ => XS.istoreN X0.here hx rfl (hb hby own_d1_6) rfl (l' := #[.val (.int p_), .val (.int (((p_.toUInt32 >>> ((1 : Int32) &&& 31).toUInt32).toInt32) &&& (65535 : Int32)))]) rfl k_) ?_
  show own_Go p.tables e below _ (s₁.setTop (mkF m 7 #[.val (.int p_), .val (.int (((p_.toUInt32 >>> ((1 : Int32) &&& 31).toUInt32).toInt32) &&& (65535 : Int32)))] []))
  refine own_st (fun t_ k_ => XS.iloadN X0.here hx rfl (hb hby own_d1_7) rfl k_) ?_
  show own_Go p.tables e below _ (s₁.setTop (mkF m 8 #[.val (.int p_), .val (.int (((p_.toUInt32 >>> ((1 : Int32) &&& 31).toUInt32).toInt32) &&& (65535 : Int32)))] [(.int p_)]))
  refine own_st (fun t_ k_ => XS.iconst X0.here hx rfl (hb hby own_d1_8) k_) ?_
  show own_Go p.tables e below _ (s₁.setTop (mkF m 9 #[.val (.int p_), .val (.int (((p_.toUInt32 >>> ((1 : Int32) &&& 31).toUInt32).toInt32) &&& (65535 : Int32)))] [(.int (1 : Int32)), (.int p_)]))
  refine own_st (fun t_ k_ => XS.iand X0.here hx rfl (hb hby own_d1_9) rfl k_) ?_
  show own_Go p.tables e below _ (s₁.setTop (mkF m 10 #[.val (.int p_), .val (.int (((p_.toUInt32 >>> ((1 : Int32) &&& 31).toUInt32).toInt32) &&& (65535 : Int32)))] [(.int (p_ &&& (1 : Int32)))]))
  by_cases c10_149 : (p_ &&& (1 : Int32)) = (0 : Int32)
  · skip
    refine own_st (fun t_ k_ => XS.ifNo X0.here hx rfl (hb hby own_d1_10) rfl ((if0 _ _).trans (teq c10_149).2) k_) ?_
    show own_Go p.tables e below _ (s₁.setTop (mkF m 13 #[.val (.int p_), .val (.int (((p_.toUInt32 >>> ((1 : Int32) &&& 31).toUInt32).toInt32) &&& (65535 : Int32)))] []))
    refine own_st (fun t_ k_ => XS.bipush X0.here hx rfl (hb hby own_d1_13) k_) ?_
    show own_Go p.tables e below _ (s₁.setTop (mkF m 15 #[.val (.int p_), .val (.int (((p_.toUInt32 >>> ((1 : Int32) &&& 31).toUInt32).toInt32) &&& (65535 : Int32)))] [(.int (48 : Int32))]))
    refine own_st (fun t_ k_ => XS.iloadN X0.here hx rfl (hb hby own_d1_15) rfl k_) ?_
    show own_Go p.tables e below _ (s₁.setTop (mkF m 16 #[.val (.int p_), .val (.int (((p_.toUInt32 >>> ((1 : Int32) &&& 31).toUInt32).toInt32) &&& (65535 : Int32)))] [(.int (((p_.toUInt32 >>> ((1 : Int32) &&& 31).toUInt32).toInt32) &&& (65535 : Int32))), (.int (48 : Int32))]))
    refine own_st (fun t_ k_ => XS.bipush X0.here hx rfl (hb hby own_d1_16) k_) ?_
    show own_Go p.tables e below _ (s₁.setTop (mkF m 18 #[.val (.int p_), .val (.int (((p_.toUInt32 >>> ((1 : Int32) &&& 31).toUInt32).toInt32) &&& (65535 : Int32)))] [(.int (10 : Int32)), (.int (((p_.toUInt32 >>> ((1 : Int32) &&& 31).toUInt32).toInt32) &&& (65535 : Int32))), (.int (48 : Int32))]))
    refine own_st (fun t_ k_ => iremM X0 hx rfl (hb hby own_d1_18) rfl (by decide) k_) ?_
    show own_Go p.tables e below _ (s₁.setTop (mkF m 19 #[.val (.int p_), .val (.int (((p_.toUInt32 >>> ((1 : Int32) &&& 31).toUInt32).toInt32) &&& (65535 : Int32)))] [(.int ((((p_.toUInt32 >>> ((1 : Int32) &&& 31).toUInt32).toInt32) &&& (65535 : Int32)) % (10 : Int32))), (.int (48 : Int32))]))
    refine own_st (fun t_ k_ => XS.iadd X0.here hx rfl (hb hby own_d1_19) rfl k_) ?_
    show own_Go p.tables e below _ (s₁.setTop (mkF m 20 #[.val (.int p_), .val (.int (((p_.toUInt32 >>> ((1 : Int32) &&& 31).toUInt32).toInt32) &&& (65535 : Int32)))] [(.int ((48 : Int32) + ((((p_.toUInt32 >>> ((1 : Int32) &&& 31).toUInt32).toInt32) &&& (65535 : Int32)) % (10 : Int32))))]))
    refine own_st (fun t_ k_ => XS.i2c X0.here hx rfl (hb hby own_d1_20) rfl k_) ?_
    show own_Go p.tables e below _ (s₁.setTop (mkF m 21 #[.val (.int p_), .val (.int (((p_.toUInt32 >>> ((1 : Int32) &&& 31).toUInt32).toInt32) &&& (65535 : Int32)))] [(.int (((48 : Int32) + ((((p_.toUInt32 >>> ((1 : Int32) &&& 31).toUInt32).toInt32) &&& (65535 : Int32)) % (10 : Int32))).toUInt32.toUInt16.toUInt32.toInt32))]))
    exact own_ret (w := (.int (((48 : Int32) + ((((p_.toUInt32 >>> ((1 : Int32) &&& 31).toUInt32).toInt32) &&& (65535 : Int32)) % (10 : Int32))).toUInt32.toUInt16.toUInt32.toInt32))) X0 hx hnl Bd.returns (own_nwc (by have := c_i2c ((48 : Int32) + ((((p_.toUInt32 >>> ((1 : Int32) &&& 31).toUInt32).toInt32) &&& (65535 : Int32)) % (10 : Int32))); omega) (by have := c_i2c ((48 : Int32) + ((((p_.toUInt32 >>> ((1 : Int32) &&& 31).toUInt32).toInt32) &&& (65535 : Int32)) % (10 : Int32))); omega)) (Or.inl ⟨rfl, by decide, _, rfl⟩) (hb hby own_d1_21) ⟨(by simp only [own_mk, own_mv]; rw [if_pos c10_149]), N0, e0⟩ (by decide) (by decide)
  · skip
    refine own_st (fun t_ k_ => XS.ifYes X0.here hx rfl (pc0 := 10) (pc' := 22) rfl (hb hby own_d1_10) rfl ((if0 _ _).trans (feq c10_149).2) (by decide) (by decide) k_) ?_
    show own_Go p.tables e below _ (s₁.setTop (mkF m 22 #[.val (.int p_), .val (.int (((p_.toUInt32 >>> ((1 : Int32) &&& 31).toUInt32).toInt32) &&& (65535 : Int32)))] []))
    refine own_st (fun t_ k_ => XS.iloadN X0.here hx rfl (hb hby own_d1_22) rfl k_) ?_
    show own_Go p.tables e below _ (s₁.setTop (mkF m 23 #[.val (.int p_), .val (.int (((p_.toUInt32 >>> ((1 : Int32) &&& 31).toUInt32).toInt32) &&& (65535 : Int32)))] [(.int (((p_.toUInt32 >>> ((1 : Int32) &&& 31).toUInt32).toInt32) &&& (65535 : Int32)))]))
    refine own_st (fun t_ k_ => XS.i2c X0.here hx rfl (hb hby own_d1_23) rfl k_) ?_
    show own_Go p.tables e below _ (s₁.setTop (mkF m 24 #[.val (.int p_), .val (.int (((p_.toUInt32 >>> ((1 : Int32) &&& 31).toUInt32).toInt32) &&& (65535 : Int32)))] [(.int ((((p_.toUInt32 >>> ((1 : Int32) &&& 31).toUInt32).toInt32) &&& (65535 : Int32)).toUInt32.toUInt16.toUInt32.toInt32))]))
    exact own_ret (w := (.int ((((p_.toUInt32 >>> ((1 : Int32) &&& 31).toUInt32).toInt32) &&& (65535 : Int32)).toUInt32.toUInt16.toUInt32.toInt32))) X0 hx hnl Bd.returns (own_nwc (by have := c_i2c (((p_.toUInt32 >>> ((1 : Int32) &&& 31).toUInt32).toInt32) &&& (65535 : Int32)); omega) (by have := c_i2c (((p_.toUInt32 >>> ((1 : Int32) &&& 31).toUInt32).toInt32) &&& (65535 : Int32)); omega)) (Or.inl ⟨rfl, by decide, _, rfl⟩) (hb hby own_d1_24) ⟨(by simp only [own_mk, own_mv]; rw [if_neg c10_149]), N0, e0⟩ (by decide) (by decide)

theorem own_d9_0 : decode method_4_code 0 = .ok (.iload_n 0, 1) := by decide +kernel
theorem own_d9_1 : decode method_4_code 1 = .ok (.iload_n 1, 1) := by decide +kernel
theorem own_d9_2 : decode method_4_code 2 = .ok (.if_icmp .lt 14, 3) := by decide +kernel
theorem own_d9_5 : decode method_4_code 5 = .ok (.iload_n 0, 1) := by decide +kernel
theorem own_d9_6 : decode method_4_code 6 = .ok (.iload_n 1, 1) := by decide +kernel
theorem own_d9_7 : decode method_4_code 7 = .ok (.iload_n 2, 1) := by decide +kernel
theorem own_d9_8 : decode method_4_code 8 = .ok (.iadd, 1) := by decide +kernel
theorem own_d9_9 : decode method_4_code 9 = .ok (.if_icmp .ge 7, 3) := by decide +kernel
theorem own_d9_12 : decode method_4_code 12 = .ok (.iconst 1, 1) := by decide +kernel
theorem own_d9_13 : decode method_4_code 13 = .ok (.goto 4, 3) := by decide +kernel
theorem own_d9_16 : decode method_4_code 16 = .ok (.iconst 0, 1) := by decide +kernel
theorem own_d9_17 : decode method_4_code 17 = .ok (.ireturn, 1) := by decide +kernel
theorem own_ef9 (m : MethodId) (x0 : Int32) (x1 : Int32) (x2 : Int32) : entryFrame m #[(.int x0), (.int x1), (.int x2)] 3 = mkF m 0 #[.val (.int x0), .val (.int x1), .val (.int x2)] [] := by first | (simp [entryFrame, mkF, argsToLocals, Value.category]; done) | rfl
def own_Q9 (Z : State) (i_ : Int32) (f_ : Int32) (n_ : Int32) (h0 : Heap) (n0 : Nat) (v : Option Value) (h : Heap) (L : List Loc) : Prop := v = some (.int (own_in i_ f_ n_)) ∧ Fr n0 L ∧ h = h0
set_option maxRecDepth 65536 in
set_option maxHeartbeats 40000000 in
theorem own_rm9 (l : Launch) (Z : State) (a0 : Array Value) (hw : ∀ d ∈ tables_1, d.before a0 Z = true) (ws : List Jvm.Cond) (i_ : Int32) (f_ : Int32) (n_ : Int32) (h0 : Heap) (n0 : Nat) (Z0 : n0 ≤ h0.size)  :
    MetFree l (⟨"com/example/nastro/nastro/model/DigitsValuePinLaw", "in", "(III)Z"⟩ : MethodName) (head1 (Jvm.Cond.code (⟨"com/example/nastro/nastro/model/DigitsValuePinLaw", "in", "(III)Z"⟩ : MethodName) method_4_code 3 (some .boolean) :: ws) ({ frames := 0, cells := 0, slots := 0, locals := 0 } : Room)) (fun a U => a = #[(.int i_), (.int f_), (.int n_)] ∧ Z.Warmed39 U.vm ∧ U.heap = h0) (fun _ _ _ _ _ => True) (fun _ U o U' => ∃ v L, o = .returned v ∧ own_Q9 Z i_ f_ n_ h0 n0 v U'.heap L ∧ FrameEnd U o U' L ({ frames := 0, cells := 0, slots := 0, locals := 0 } : Room).cells ({ frames := 0, cells := 0, slots := 0, locals := 0 } : Room).slots) := by
  refine MetFree.of_bodySF (plainFor_of_name own_pn4) hisR ?_
  intro p e s m args below meth c s₁ Bd hml0 hP hK
  obtain ⟨rfl, hZ, hh⟩ := hP
  have hx := Bd.exec
  have hby := Bd.bytes
  have hml : c.maxLocals = 3 := hml0
  have hown : s.vm.findClass "com/example/nastro/nastro/model/DigitsValuePinLaw" = some m.cls := findClass_of_methodNamed Bd.named
  have hnm := (name_of_methodNamed Bd.named Bd.method).1
  have hnl : meth.locks = false := Bd.notSynchronized
  have X0 : Stand p l e ({ frames := 0, cells := 0, slots := 0, locals := 0 } : Room) s m #[(.int i_), (.int f_), (.int n_)] below meth c s₁ [] 0 0 := Stand.of_body Bd
  have e0 : s₁.heap = h0 := by rw [← hh, Bd.state]; rfl
  have N0 := Fr.nil n0
  show own_Go p.tables e below (own_P below s (own_Q9 Z i_ f_ n_ h0 n0) ({ frames := 0, cells := 0, slots := 0, locals := 0 } : Room).cells ({ frames := 0, cells := 0, slots := 0, locals := 0 } : Room).slots) _
  refine own_st (fun t_ k_ => castTop (own_ef9 m i_ f_ n_) k_) ?_
  show own_Go p.tables e below _ (s₁.setTop (mkF m 0 #[.val (.int i_), .val (.int f_), .val (.int n_)] []))
  refine own_st (fun t_ k_ => XS.iloadN X0.here hx rfl (hb hby own_d9_0) rfl k_) ?_
  show own_Go p.tables e below _ (s₁.setTop (mkF m 1 #[.val (.int i_), .val (.int f_), .val (.int n_)] [(.int i_)]))
  refine own_st (fun t_ k_ => XS.iloadN X0.here hx rfl (hb hby own_d9_1) rfl k_) ?_
  show own_Go p.tables e below _ (s₁.setTop (mkF m 2 #[.val (.int i_), .val (.int f_), .val (.int n_)] [(.int f_), (.int i_)]))
  by_cases c2_150 : i_ < f_
  · skip
    refine own_st (fun t_ k_ => XS.icmpYes X0.here hx rfl (pc0 := 2) (pc' := 16) rfl (hb hby own_d9_2) rfl (tlt c2_150).1 (by decide) (by decide) k_) ?_
    show own_Go p.tables e below _ (s₁.setTop (mkF m 16 #[.val (.int i_), .val (.int f_), .val (.int n_)] []))
    refine own_st (fun t_ k_ => XS.iconst X0.here hx rfl (hb hby own_d9_16) k_) ?_
    show own_Go p.tables e below _ (s₁.setTop (mkF m 17 #[.val (.int i_), .val (.int f_), .val (.int n_)] [(.int (0 : Int32))]))
    exact own_ret (w := (.int (0 : Int32))) X0 hx hnl Bd.returns rfl (Or.inl ⟨rfl, by decide, _, rfl⟩) (hb hby own_d9_17) ⟨(by simp [own_in, c2_150]), N0, e0⟩ (by decide) (by decide)
  · skip
    refine own_st (fun t_ k_ => XS.icmpNo X0.here hx rfl (hb hby own_d9_2) rfl (flt c2_150).1 k_) ?_
    show own_Go p.tables e below _ (s₁.setTop (mkF m 5 #[.val (.int i_), .val (.int f_), .val (.int n_)] []))
    refine own_st (fun t_ k_ => XS.iloadN X0.here hx rfl (hb hby own_d9_5) rfl k_) ?_
    show own_Go p.tables e below _ (s₁.setTop (mkF m 6 #[.val (.int i_), .val (.int f_), .val (.int n_)] [(.int i_)]))
    refine own_st (fun t_ k_ => XS.iloadN X0.here hx rfl (hb hby own_d9_6) rfl k_) ?_
    show own_Go p.tables e below _ (s₁.setTop (mkF m 7 #[.val (.int i_), .val (.int f_), .val (.int n_)] [(.int f_), (.int i_)]))
    refine own_st (fun t_ k_ => XS.iloadN X0.here hx rfl (hb hby own_d9_7) rfl k_) ?_
    show own_Go p.tables e below _ (s₁.setTop (mkF m 8 #[.val (.int i_), .val (.int f_), .val (.int n_)] [(.int n_), (.int f_), (.int i_)]))
    refine own_st (fun t_ k_ => XS.iadd X0.here hx rfl (hb hby own_d9_8) rfl k_) ?_
    show own_Go p.tables e below _ (s₁.setTop (mkF m 9 #[.val (.int i_), .val (.int f_), .val (.int n_)] [(.int (f_ + n_)), (.int i_)]))
    by_cases c9_151 : i_ < (f_ + n_)
    · skip
      refine own_st (fun t_ k_ => XS.icmpNo X0.here hx rfl (hb hby own_d9_9) rfl (tlt c9_151).2.1 k_) ?_
      show own_Go p.tables e below _ (s₁.setTop (mkF m 12 #[.val (.int i_), .val (.int f_), .val (.int n_)] []))
      refine own_st (fun t_ k_ => XS.iconst X0.here hx rfl (hb hby own_d9_12) k_) ?_
      show own_Go p.tables e below _ (s₁.setTop (mkF m 13 #[.val (.int i_), .val (.int f_), .val (.int n_)] [(.int (1 : Int32))]))
      refine own_st (fun t_ k_ => XS.goto X0.here hx rfl (pc0 := 13) (pc' := 17) rfl (hb hby own_d9_13) (by decide) (by decide) k_) ?_
      show own_Go p.tables e below _ (s₁.setTop (mkF m 17 #[.val (.int i_), .val (.int f_), .val (.int n_)] [(.int (1 : Int32))]))
      exact own_ret (w := (.int (1 : Int32))) X0 hx hnl Bd.returns rfl (Or.inl ⟨rfl, by decide, _, rfl⟩) (hb hby own_d9_17) ⟨(by simp [own_in, c2_150, c9_151]), N0, e0⟩ (by decide) (by decide)
    · skip
      refine own_st (fun t_ k_ => XS.icmpYes X0.here hx rfl (pc0 := 9) (pc' := 16) rfl (hb hby own_d9_9) rfl (flt c9_151).2.1 (by decide) (by decide) k_) ?_
      show own_Go p.tables e below _ (s₁.setTop (mkF m 16 #[.val (.int i_), .val (.int f_), .val (.int n_)] []))
      refine own_st (fun t_ k_ => XS.iconst X0.here hx rfl (hb hby own_d9_16) k_) ?_
      show own_Go p.tables e below _ (s₁.setTop (mkF m 17 #[.val (.int i_), .val (.int f_), .val (.int n_)] [(.int (0 : Int32))]))
      exact own_ret (w := (.int (0 : Int32))) X0 hx hnl Bd.returns rfl (Or.inl ⟨rfl, by decide, _, rfl⟩) (hb hby own_d9_17) ⟨(by simp [own_in, c2_150, c9_151]), N0, e0⟩ (by decide) (by decide)

theorem own_d8_0 : decode method_5_code 0 = .ok (.iload_n 1, 1) := by decide +kernel
theorem own_d8_1 : decode method_5_code 1 = .ok (.iload_n 2, 1) := by decide +kernel
theorem own_d8_2 : decode method_5_code 2 = .ok (.iload_n 3, 1) := by decide +kernel
theorem own_d8_3 : decode method_5_code 3 = .ok (.invokestatic 33, 3) := by decide +kernel
theorem own_d8_6 : decode method_5_code 6 = .ok (.ifCond .eq 19, 3) := by decide +kernel
theorem own_d8_9 : decode method_5_code 9 = .ok (.iload_n 0, 1) := by decide +kernel
theorem own_d8_10 : decode method_5_code 10 = .ok (.bipush 48, 2) := by decide +kernel
theorem own_d8_12 : decode method_5_code 12 = .ok (.if_icmp .lt 9, 3) := by decide +kernel
theorem own_d8_15 : decode method_5_code 15 = .ok (.iload_n 0, 1) := by decide +kernel
theorem own_d8_16 : decode method_5_code 16 = .ok (.bipush 57, 2) := by decide +kernel
theorem own_d8_18 : decode method_5_code 18 = .ok (.if_icmp .le 7, 3) := by decide +kernel
theorem own_d8_21 : decode method_5_code 21 = .ok (.iconst 1, 1) := by decide +kernel
theorem own_d8_22 : decode method_5_code 22 = .ok (.goto 4, 3) := by decide +kernel
theorem own_d8_25 : decode method_5_code 25 = .ok (.iconst 0, 1) := by decide +kernel
theorem own_d8_26 : decode method_5_code 26 = .ok (.ireturn, 1) := by decide +kernel
theorem own_pd13 : parseMethodDescriptor "(III)Z" = some ⟨[.int, .int, .int], some .boolean⟩ := by decide +kernel
theorem own_ef8 (m : MethodId) (x0 : Int32) (x1 : Int32) (x2 : Int32) (x3 : Int32) : entryFrame m #[(.int x0), (.int x1), (.int x2), (.int x3)] 4 = mkF m 0 #[.val (.int x0), .val (.int x1), .val (.int x2), .val (.int x3)] [] := by first | (simp [entryFrame, mkF, argsToLocals, Value.category]; done) | rfl
def own_Q8 (Z : State) (c_ : Int32) (i_ : Int32) (f_ : Int32) (n_ : Int32) (h0 : Heap) (n0 : Nat) (v : Option Value) (h : Heap) (L : List Loc) : Prop := v = some (.int (own_bad c_ i_ f_ n_)) ∧ Fr n0 L ∧ h = h0
set_option maxRecDepth 65536 in
set_option maxHeartbeats 40000000 in
theorem own_rm8 (l : Launch) (Z : State) (a0 : Array Value) (hw : ∀ d ∈ tables_1, d.before a0 Z = true) (ws : List Jvm.Cond) (c_ : Int32) (i_ : Int32) (f_ : Int32) (n_ : Int32) (h0 : Heap) (n0 : Nat) (Z0 : n0 ≤ h0.size)  :
    MetFree l (⟨"com/example/nastro/nastro/model/DigitsValuePinLaw", "bad", "(CIII)Z"⟩ : MethodName) (head1 (Jvm.Cond.code (⟨"com/example/nastro/nastro/model/DigitsValuePinLaw", "bad", "(CIII)Z"⟩ : MethodName) method_5_code 4 (some .boolean) :: ws) ({ frames := 1, cells := 0, slots := 0, locals := 14 } : Room)) (fun a U => a = #[(.int c_), (.int i_), (.int f_), (.int n_)] ∧ Z.Warmed39 U.vm ∧ U.heap = h0) (fun _ _ _ _ _ => True) (fun _ U o U' => ∃ v L, o = .returned v ∧ own_Q8 Z c_ i_ f_ n_ h0 n0 v U'.heap L ∧ FrameEnd U o U' L ({ frames := 1, cells := 0, slots := 0, locals := 14 } : Room).cells ({ frames := 1, cells := 0, slots := 0, locals := 14 } : Room).slots) := by
  refine MetFree.of_bodySF (plainFor_of_name own_pn4) hisR ?_
  intro p e s m args below meth c s₁ Bd hml0 hP hK
  obtain ⟨rfl, hZ, hh⟩ := hP
  have hx := Bd.exec
  have hby := Bd.bytes
  have hml : c.maxLocals = 4 := hml0
  have hown : s.vm.findClass "com/example/nastro/nastro/model/DigitsValuePinLaw" = some m.cls := findClass_of_methodNamed Bd.named
  have hnm := (name_of_methodNamed Bd.named Bd.method).1
  have hnl : meth.locks = false := Bd.notSynchronized
  have X0 : Stand p l e ({ frames := 1, cells := 0, slots := 0, locals := 14 } : Room) s m #[(.int c_), (.int i_), (.int f_), (.int n_)] below meth c s₁ [] 0 0 := Stand.of_body Bd
  have e0 : s₁.heap = h0 := by rw [← hh, Bd.state]; rfl
  have N0 := Fr.nil n0
  show own_Go p.tables e below (own_P below s (own_Q8 Z c_ i_ f_ n_ h0 n0) ({ frames := 1, cells := 0, slots := 0, locals := 14 } : Room).cells ({ frames := 1, cells := 0, slots := 0, locals := 14 } : Room).slots) _
  refine own_st (fun t_ k_ => castTop (own_ef8 m c_ i_ f_ n_) k_) ?_
  show own_Go p.tables e below _ (s₁.setTop (mkF m 0 #[.val (.int c_), .val (.int i_), .val (.int f_), .val (.int n_)] []))
  refine own_st (fun t_ k_ => XS.iloadN X0.here hx rfl (hb hby own_d8_0) rfl k_) ?_
  show own_Go p.tables e below _ (s₁.setTop (mkF m 1 #[.val (.int c_), .val (.int i_), .val (.int f_), .val (.int n_)] [(.int i_)]))
  refine own_st (fun t_ k_ => XS.iloadN X0.here hx rfl (hb hby own_d8_1) rfl k_) ?_
  show own_Go p.tables e below _ (s₁.setTop (mkF m 2 #[.val (.int c_), .val (.int i_), .val (.int f_), .val (.int n_)] [(.int f_), (.int i_)]))
  refine own_st (fun t_ k_ => XS.iloadN X0.here hx rfl (hb hby own_d8_2) rfl k_) ?_
  show own_Go p.tables e below _ (s₁.setTop (mkF m 3 #[.val (.int c_), .val (.int i_), .val (.int f_), .val (.int n_)] [(.int n_), (.int f_), (.int i_)]))
  obtain ⟨_, _, ⟨T152, L152, k152, n152⟩, -, X152, ⟨Lc152, hQ152, l152, y152, z152⟩, st152⟩ := Jvm.LawKit.callS X0 hx (y := (⟨"com/example/nastro/nastro/model/DigitsValuePinLaw", "in", "(III)Z"⟩ : MethodName)) hown (mvT hZ (hw _ (List.mem_of_getElem? (i := 38) rfl))) (mvT hZ (hw _ (List.mem_of_getElem? (i := 39) rfl))) (mvT hZ (hw _ (List.mem_of_getElem? (i := 3) rfl))) (mvT hZ (hw _ (List.mem_of_getElem? (i := 40) rfl))) (by decide) (backOf (W := 0) (own_rm9 l Z a0 hw [] i_ f_ n_ h0 n0 (Nat.le_trans Z0 (Keep.refl h0 []).1)) hZ (hw _ (List.mem_of_getElem? (i := 40) rfl)) (hw _ (List.mem_of_getElem? (i := 3) rfl)) (by decide) (by decide)) (g := (mkF m 3 #[.val (.int c_), .val (.int i_), .val (.int f_), .val (.int n_)] [(.int n_), (.int f_), (.int i_)])) rfl (by rw [hml]; rfl) (argsL := [(.int i_), (.int f_), (.int n_)]) (rest := []) (lenOf own_pd13 rfl) rfl (by show 2 * 0 + _ ≤ _; exact Nat.le_of_eq rfl) (hb hby own_d8_3) (fun _ _ => ⟨rfl, e0, (by decide : 0 + 0 ≤ _), (by decide : 0 + 0 ≤ _)⟩)
  dsimp only [Pt.U, Pt.locs, Pt.cells, Pt.slots] at X152 l152 y152 z152 st152 hQ152
  subst y152 z152
  obtain ⟨rfl, N152q, eq152⟩ := hQ152
  have N152 : Fr n0 L152 := by rw [l152]; exact Fr.app N0 N152q
  refine own_st (st152) ?_
  show own_Go p.tables e below _ (T152.setTop (mkF m 6 #[.val (.int c_), .val (.int i_), .val (.int f_), .val (.int n_)] [(.int (own_in i_ f_ n_))]))
  by_cases c6_153 : (own_in i_ f_ n_) = (0 : Int32)
  · skip
    refine own_st (fun t_ k_ => XS.ifYes X152.here hx rfl (pc0 := 6) (pc' := 25) rfl (hb hby own_d8_6) rfl ((if0 _ _).trans (teq c6_153).1) (by decide) (by decide) k_) ?_
    show own_Go p.tables e below _ (T152.setTop (mkF m 25 #[.val (.int c_), .val (.int i_), .val (.int f_), .val (.int n_)] []))
    refine own_st (fun t_ k_ => XS.iconst X152.here hx rfl (hb hby own_d8_25) k_) ?_
    show own_Go p.tables e below _ (T152.setTop (mkF m 26 #[.val (.int c_), .val (.int i_), .val (.int f_), .val (.int n_)] [(.int (0 : Int32))]))
    exact own_ret (w := (.int (0 : Int32))) X152 hx hnl Bd.returns rfl (Or.inl ⟨rfl, by decide, _, rfl⟩) (hb hby own_d8_26) ⟨(by simp [own_bad, c6_153]), N152, eq152⟩ (by decide) (by decide)
  · skip
    refine own_st (fun t_ k_ => XS.ifNo X152.here hx rfl (hb hby own_d8_6) rfl ((if0 _ _).trans (feq c6_153).1) k_) ?_
    show own_Go p.tables e below _ (T152.setTop (mkF m 9 #[.val (.int c_), .val (.int i_), .val (.int f_), .val (.int n_)] []))
    refine own_st (fun t_ k_ => XS.iloadN X152.here hx rfl (hb hby own_d8_9) rfl k_) ?_
    show own_Go p.tables e below _ (T152.setTop (mkF m 10 #[.val (.int c_), .val (.int i_), .val (.int f_), .val (.int n_)] [(.int c_)]))
    refine own_st (fun t_ k_ => XS.bipush X152.here hx rfl (hb hby own_d8_10) k_) ?_
    show own_Go p.tables e below _ (T152.setTop (mkF m 12 #[.val (.int c_), .val (.int i_), .val (.int f_), .val (.int n_)] [(.int (48 : Int32)), (.int c_)]))
    by_cases c12_154 : c_ < (48 : Int32)
    · skip
      refine own_st (fun t_ k_ => XS.icmpYes X152.here hx rfl (pc0 := 12) (pc' := 21) rfl (hb hby own_d8_12) rfl (tlt c12_154).1 (by decide) (by decide) k_) ?_
      show own_Go p.tables e below _ (T152.setTop (mkF m 21 #[.val (.int c_), .val (.int i_), .val (.int f_), .val (.int n_)] []))
      refine own_st (fun t_ k_ => XS.iconst X152.here hx rfl (hb hby own_d8_21) k_) ?_
      show own_Go p.tables e below _ (T152.setTop (mkF m 22 #[.val (.int c_), .val (.int i_), .val (.int f_), .val (.int n_)] [(.int (1 : Int32))]))
      refine own_st (fun t_ k_ => XS.goto X152.here hx rfl (pc0 := 22) (pc' := 26) rfl (hb hby own_d8_22) (by decide) (by decide) k_) ?_
      show own_Go p.tables e below _ (T152.setTop (mkF m 26 #[.val (.int c_), .val (.int i_), .val (.int f_), .val (.int n_)] [(.int (1 : Int32))]))
      exact own_ret (w := (.int (1 : Int32))) X152 hx hnl Bd.returns rfl (Or.inl ⟨rfl, by decide, _, rfl⟩) (hb hby own_d8_26) ⟨(by simp [own_bad, c6_153, c12_154]), N152, eq152⟩ (by decide) (by decide)
    · skip
      refine own_st (fun t_ k_ => XS.icmpNo X152.here hx rfl (hb hby own_d8_12) rfl (flt c12_154).1 k_) ?_
      show own_Go p.tables e below _ (T152.setTop (mkF m 15 #[.val (.int c_), .val (.int i_), .val (.int f_), .val (.int n_)] []))
      refine own_st (fun t_ k_ => XS.iloadN X152.here hx rfl (hb hby own_d8_15) rfl k_) ?_
      show own_Go p.tables e below _ (T152.setTop (mkF m 16 #[.val (.int c_), .val (.int i_), .val (.int f_), .val (.int n_)] [(.int c_)]))
      refine own_st (fun t_ k_ => XS.bipush X152.here hx rfl (hb hby own_d8_16) k_) ?_
      show own_Go p.tables e below _ (T152.setTop (mkF m 18 #[.val (.int c_), .val (.int i_), .val (.int f_), .val (.int n_)] [(.int (57 : Int32)), (.int c_)]))
      by_cases c18_155 : (57 : Int32) < c_
      · skip
        refine own_st (fun t_ k_ => XS.icmpNo X152.here hx rfl (hb hby own_d8_18) rfl (tlt c18_155).2.2.2 k_) ?_
        show own_Go p.tables e below _ (T152.setTop (mkF m 21 #[.val (.int c_), .val (.int i_), .val (.int f_), .val (.int n_)] []))
        refine own_st (fun t_ k_ => XS.iconst X152.here hx rfl (hb hby own_d8_21) k_) ?_
        show own_Go p.tables e below _ (T152.setTop (mkF m 22 #[.val (.int c_), .val (.int i_), .val (.int f_), .val (.int n_)] [(.int (1 : Int32))]))
        refine own_st (fun t_ k_ => XS.goto X152.here hx rfl (pc0 := 22) (pc' := 26) rfl (hb hby own_d8_22) (by decide) (by decide) k_) ?_
        show own_Go p.tables e below _ (T152.setTop (mkF m 26 #[.val (.int c_), .val (.int i_), .val (.int f_), .val (.int n_)] [(.int (1 : Int32))]))
        exact own_ret (w := (.int (1 : Int32))) X152 hx hnl Bd.returns rfl (Or.inl ⟨rfl, by decide, _, rfl⟩) (hb hby own_d8_26) ⟨(by simp [own_bad, c6_153, c12_154, c18_155]), N152, eq152⟩ (by decide) (by decide)
      · skip
        refine own_st (fun t_ k_ => XS.icmpYes X152.here hx rfl (pc0 := 18) (pc' := 25) rfl (hb hby own_d8_18) rfl (flt c18_155).2.2.2 (by decide) (by decide) k_) ?_
        show own_Go p.tables e below _ (T152.setTop (mkF m 25 #[.val (.int c_), .val (.int i_), .val (.int f_), .val (.int n_)] []))
        refine own_st (fun t_ k_ => XS.iconst X152.here hx rfl (hb hby own_d8_25) k_) ?_
        show own_Go p.tables e below _ (T152.setTop (mkF m 26 #[.val (.int c_), .val (.int i_), .val (.int f_), .val (.int n_)] [(.int (0 : Int32))]))
        exact own_ret (w := (.int (0 : Int32))) X152 hx hnl Bd.returns rfl (Or.inl ⟨rfl, by decide, _, rfl⟩) (hb hby own_d8_26) ⟨(by simp [own_bad, c6_153, c12_154, c18_155]), N152, eq152⟩ (by decide) (by decide)

theorem own_d17_0 : decode method_7_code 0 = .ok (.iload_n 0, 1) := by decide +kernel
theorem own_d17_1 : decode method_7_code 1 = .ok (.ifCond .ne 5, 3) := by decide +kernel
theorem own_d17_4 : decode method_7_code 4 = .ok (.iconst 1, 1) := by decide +kernel
theorem own_d17_5 : decode method_7_code 5 = .ok (.ireturn, 1) := by decide +kernel
theorem own_d17_6 : decode method_7_code 6 = .ok (.iload_n 0, 1) := by decide +kernel
theorem own_d17_7 : decode method_7_code 7 = .ok (.iconst 1, 1) := by decide +kernel
theorem own_d17_8 : decode method_7_code 8 = .ok (.if_icmp .ne 6, 3) := by decide +kernel
theorem own_d17_11 : decode method_7_code 11 = .ok (.bipush 10, 2) := by decide +kernel
theorem own_d17_13 : decode method_7_code 13 = .ok (.ireturn, 1) := by decide +kernel
theorem own_d17_14 : decode method_7_code 14 = .ok (.iload_n 0, 1) := by decide +kernel
theorem own_d17_15 : decode method_7_code 15 = .ok (.iconst 2, 1) := by decide +kernel
theorem own_d17_16 : decode method_7_code 16 = .ok (.if_icmp .ne 6, 3) := by decide +kernel
theorem own_d17_19 : decode method_7_code 19 = .ok (.bipush 100, 2) := by decide +kernel
theorem own_d17_21 : decode method_7_code 21 = .ok (.ireturn, 1) := by decide +kernel
theorem own_d17_22 : decode method_7_code 22 = .ok (.iload_n 0, 1) := by decide +kernel
theorem own_d17_23 : decode method_7_code 23 = .ok (.iconst 3, 1) := by decide +kernel
theorem own_d17_24 : decode method_7_code 24 = .ok (.if_icmp .ne 7, 3) := by decide +kernel
theorem own_d17_27 : decode method_7_code 27 = .ok (.sipush 1000, 3) := by decide +kernel
theorem own_d17_30 : decode method_7_code 30 = .ok (.ireturn, 1) := by decide +kernel
theorem own_d17_31 : decode method_7_code 31 = .ok (.iload_n 0, 1) := by decide +kernel
theorem own_d17_32 : decode method_7_code 32 = .ok (.iconst 4, 1) := by decide +kernel
theorem own_d17_33 : decode method_7_code 33 = .ok (.if_icmp .ne 7, 3) := by decide +kernel
theorem own_d17_36 : decode method_7_code 36 = .ok (.sipush 10000, 3) := by decide +kernel
theorem own_d17_39 : decode method_7_code 39 = .ok (.ireturn, 1) := by decide +kernel
theorem own_d17_40 : decode method_7_code 40 = .ok (.ldc 41, 2) := by decide +kernel
theorem own_d17_42 : decode method_7_code 42 = .ok (.ireturn, 1) := by decide +kernel
theorem own_ef17 (m : MethodId) (x0 : Int32) : entryFrame m #[(.int x0)] 1 = mkF m 0 #[.val (.int x0)] [] := by first | (simp [entryFrame, mkF, argsToLocals, Value.category]; done) | rfl
def own_Q17 (Z : State) (e_ : Int32) (h0 : Heap) (n0 : Nat) (v : Option Value) (h : Heap) (L : List Loc) : Prop := v = some (.int (own_p10 e_)) ∧ Fr n0 L ∧ h = h0
set_option maxRecDepth 65536 in
set_option maxHeartbeats 40000000 in
theorem own_rm17 (l : Launch) (Z : State) (a0 : Array Value) (hw : ∀ d ∈ tables_1, d.before a0 Z = true) (ws : List Jvm.Cond) (e_ : Int32) (h0 : Heap) (n0 : Nat) (Z0 : n0 ≤ h0.size)  :
    MetFree l (⟨"com/example/nastro/nastro/model/DigitsValuePinLaw", "pow10", "(I)I"⟩ : MethodName) (head1 (Jvm.Cond.code (⟨"com/example/nastro/nastro/model/DigitsValuePinLaw", "pow10", "(I)I"⟩ : MethodName) method_7_code 1 (some .int) :: ws) ({ frames := 0, cells := 0, slots := 0, locals := 0 } : Room)) (fun a U => a = #[(.int e_)] ∧ Z.Warmed39 U.vm ∧ U.heap = h0) (fun _ _ _ _ _ => True) (fun _ U o U' => ∃ v L, o = .returned v ∧ own_Q17 Z e_ h0 n0 v U'.heap L ∧ FrameEnd U o U' L ({ frames := 0, cells := 0, slots := 0, locals := 0 } : Room).cells ({ frames := 0, cells := 0, slots := 0, locals := 0 } : Room).slots) := by
  refine MetFree.of_bodySF (plainFor_of_name own_pn4) hisR ?_
  intro p e s m args below meth c s₁ Bd hml0 hP hK
  obtain ⟨rfl, hZ, hh⟩ := hP
  have hx := Bd.exec
  have hby := Bd.bytes
  have hml : c.maxLocals = 1 := hml0
  have hown : s.vm.findClass "com/example/nastro/nastro/model/DigitsValuePinLaw" = some m.cls := findClass_of_methodNamed Bd.named
  have hnm := (name_of_methodNamed Bd.named Bd.method).1
  have hnl : meth.locks = false := Bd.notSynchronized
  have X0 : Stand p l e ({ frames := 0, cells := 0, slots := 0, locals := 0 } : Room) s m #[(.int e_)] below meth c s₁ [] 0 0 := Stand.of_body Bd
  have e0 : s₁.heap = h0 := by rw [← hh, Bd.state]; rfl
  have N0 := Fr.nil n0
  show own_Go p.tables e below (own_P below s (own_Q17 Z e_ h0 n0) ({ frames := 0, cells := 0, slots := 0, locals := 0 } : Room).cells ({ frames := 0, cells := 0, slots := 0, locals := 0 } : Room).slots) _
  refine own_st (fun t_ k_ => castTop (own_ef17 m e_) k_) ?_
  show own_Go p.tables e below _ (s₁.setTop (mkF m 0 #[.val (.int e_)] []))
  refine own_st (fun t_ k_ => XS.iloadN X0.here hx rfl (hb hby own_d17_0) rfl k_) ?_
  show own_Go p.tables e below _ (s₁.setTop (mkF m 1 #[.val (.int e_)] [(.int e_)]))
  by_cases c1_156 : e_ = (0 : Int32)
  · skip
    refine own_st (fun t_ k_ => XS.ifNo X0.here hx rfl (hb hby own_d17_1) rfl ((if0 _ _).trans (teq c1_156).2) k_) ?_
    show own_Go p.tables e below _ (s₁.setTop (mkF m 4 #[.val (.int e_)] []))
    refine own_st (fun t_ k_ => XS.iconst X0.here hx rfl (hb hby own_d17_4) k_) ?_
    show own_Go p.tables e below _ (s₁.setTop (mkF m 5 #[.val (.int e_)] [(.int (1 : Int32))]))
    exact own_ret (w := (.int (1 : Int32))) X0 hx hnl Bd.returns rfl (Or.inl ⟨rfl, by decide, _, rfl⟩) (hb hby own_d17_5) ⟨(by simp [own_p10, c1_156]), N0, e0⟩ (by decide) (by decide)
  · skip
    refine own_st (fun t_ k_ => XS.ifYes X0.here hx rfl (pc0 := 1) (pc' := 6) rfl (hb hby own_d17_1) rfl ((if0 _ _).trans (feq c1_156).2) (by decide) (by decide) k_) ?_
    show own_Go p.tables e below _ (s₁.setTop (mkF m 6 #[.val (.int e_)] []))
    refine own_st (fun t_ k_ => XS.iloadN X0.here hx rfl (hb hby own_d17_6) rfl k_) ?_
    show own_Go p.tables e below _ (s₁.setTop (mkF m 7 #[.val (.int e_)] [(.int e_)]))
    refine own_st (fun t_ k_ => XS.iconst X0.here hx rfl (hb hby own_d17_7) k_) ?_
    show own_Go p.tables e below _ (s₁.setTop (mkF m 8 #[.val (.int e_)] [(.int (1 : Int32)), (.int e_)]))
    by_cases c8_157 : e_ = (1 : Int32)
    · skip
      refine own_st (fun t_ k_ => XS.icmpNo X0.here hx rfl (hb hby own_d17_8) rfl (teq c8_157).2 k_) ?_
      show own_Go p.tables e below _ (s₁.setTop (mkF m 11 #[.val (.int e_)] []))
      refine own_st (fun t_ k_ => XS.bipush X0.here hx rfl (hb hby own_d17_11) k_) ?_
      show own_Go p.tables e below _ (s₁.setTop (mkF m 13 #[.val (.int e_)] [(.int (10 : Int32))]))
      exact own_ret (w := (.int (10 : Int32))) X0 hx hnl Bd.returns rfl (Or.inl ⟨rfl, by decide, _, rfl⟩) (hb hby own_d17_13) ⟨(by simp [own_p10, c1_156, c8_157]), N0, e0⟩ (by decide) (by decide)
    · skip
      refine own_st (fun t_ k_ => XS.icmpYes X0.here hx rfl (pc0 := 8) (pc' := 14) rfl (hb hby own_d17_8) rfl (feq c8_157).2 (by decide) (by decide) k_) ?_
      show own_Go p.tables e below _ (s₁.setTop (mkF m 14 #[.val (.int e_)] []))
      refine own_st (fun t_ k_ => XS.iloadN X0.here hx rfl (hb hby own_d17_14) rfl k_) ?_
      show own_Go p.tables e below _ (s₁.setTop (mkF m 15 #[.val (.int e_)] [(.int e_)]))
      refine own_st (fun t_ k_ => XS.iconst X0.here hx rfl (hb hby own_d17_15) k_) ?_
      show own_Go p.tables e below _ (s₁.setTop (mkF m 16 #[.val (.int e_)] [(.int (2 : Int32)), (.int e_)]))
      by_cases c16_158 : e_ = (2 : Int32)
      · skip
        refine own_st (fun t_ k_ => XS.icmpNo X0.here hx rfl (hb hby own_d17_16) rfl (teq c16_158).2 k_) ?_
        show own_Go p.tables e below _ (s₁.setTop (mkF m 19 #[.val (.int e_)] []))
        refine own_st (fun t_ k_ => XS.bipush X0.here hx rfl (hb hby own_d17_19) k_) ?_
        show own_Go p.tables e below _ (s₁.setTop (mkF m 21 #[.val (.int e_)] [(.int (100 : Int32))]))
        exact own_ret (w := (.int (100 : Int32))) X0 hx hnl Bd.returns rfl (Or.inl ⟨rfl, by decide, _, rfl⟩) (hb hby own_d17_21) ⟨(by simp [own_p10, c1_156, c8_157, c16_158]), N0, e0⟩ (by decide) (by decide)
      · skip
        refine own_st (fun t_ k_ => XS.icmpYes X0.here hx rfl (pc0 := 16) (pc' := 22) rfl (hb hby own_d17_16) rfl (feq c16_158).2 (by decide) (by decide) k_) ?_
        show own_Go p.tables e below _ (s₁.setTop (mkF m 22 #[.val (.int e_)] []))
        refine own_st (fun t_ k_ => XS.iloadN X0.here hx rfl (hb hby own_d17_22) rfl k_) ?_
        show own_Go p.tables e below _ (s₁.setTop (mkF m 23 #[.val (.int e_)] [(.int e_)]))
        refine own_st (fun t_ k_ => XS.iconst X0.here hx rfl (hb hby own_d17_23) k_) ?_
        show own_Go p.tables e below _ (s₁.setTop (mkF m 24 #[.val (.int e_)] [(.int (3 : Int32)), (.int e_)]))
        by_cases c24_159 : e_ = (3 : Int32)
        · skip
          refine own_st (fun t_ k_ => XS.icmpNo X0.here hx rfl (hb hby own_d17_24) rfl (teq c24_159).2 k_) ?_
          show own_Go p.tables e below _ (s₁.setTop (mkF m 27 #[.val (.int e_)] []))
          refine own_st (fun t_ k_ => XS.sipush X0.here hx rfl (hb hby own_d17_27) k_) ?_
          show own_Go p.tables e below _ (s₁.setTop (mkF m 30 #[.val (.int e_)] [(.int (1000 : Int32))]))
          exact own_ret (w := (.int (1000 : Int32))) X0 hx hnl Bd.returns rfl (Or.inl ⟨rfl, by decide, _, rfl⟩) (hb hby own_d17_30) ⟨(by simp [own_p10, c1_156, c8_157, c16_158, c24_159]), N0, e0⟩ (by decide) (by decide)
        · skip
          refine own_st (fun t_ k_ => XS.icmpYes X0.here hx rfl (pc0 := 24) (pc' := 31) rfl (hb hby own_d17_24) rfl (feq c24_159).2 (by decide) (by decide) k_) ?_
          show own_Go p.tables e below _ (s₁.setTop (mkF m 31 #[.val (.int e_)] []))
          refine own_st (fun t_ k_ => XS.iloadN X0.here hx rfl (hb hby own_d17_31) rfl k_) ?_
          show own_Go p.tables e below _ (s₁.setTop (mkF m 32 #[.val (.int e_)] [(.int e_)]))
          refine own_st (fun t_ k_ => XS.iconst X0.here hx rfl (hb hby own_d17_32) k_) ?_
          show own_Go p.tables e below _ (s₁.setTop (mkF m 33 #[.val (.int e_)] [(.int (4 : Int32)), (.int e_)]))
          by_cases c33_160 : e_ = (4 : Int32)
          · skip
            refine own_st (fun t_ k_ => XS.icmpNo X0.here hx rfl (hb hby own_d17_33) rfl (teq c33_160).2 k_) ?_
            show own_Go p.tables e below _ (s₁.setTop (mkF m 36 #[.val (.int e_)] []))
            refine own_st (fun t_ k_ => XS.sipush X0.here hx rfl (hb hby own_d17_36) k_) ?_
            show own_Go p.tables e below _ (s₁.setTop (mkF m 39 #[.val (.int e_)] [(.int (10000 : Int32))]))
            exact own_ret (w := (.int (10000 : Int32))) X0 hx hnl Bd.returns rfl (Or.inl ⟨rfl, by decide, _, rfl⟩) (hb hby own_d17_39) ⟨(by simp [own_p10, c1_156, c8_157, c16_158, c24_159, c33_160]), N0, e0⟩ (by decide) (by decide)
          · skip
            refine own_st (fun t_ k_ => XS.icmpYes X0.here hx rfl (pc0 := 33) (pc' := 40) rfl (hb hby own_d17_33) rfl (feq c33_160).2 (by decide) (by decide) k_) ?_
            show own_Go p.tables e below _ (s₁.setTop (mkF m 40 #[.val (.int e_)] []))
            refine own_st (X0.ldcInt hx hown (mvT hZ (hw _ (List.mem_of_getElem? (i := 97) rfl))) (g := (mkF m 40 #[.val (.int e_)] [])) rfl (hb hby own_d17_40)) ?_
            show own_Go p.tables e below _ (s₁.setTop (mkF m 42 #[.val (.int e_)] [(.int (100000 : Int32))]))
            exact own_ret (w := (.int (100000 : Int32))) X0 hx hnl Bd.returns rfl (Or.inl ⟨rfl, by decide, _, rfl⟩) (hb hby own_d17_42) ⟨(by simp [own_p10, c1_156, c8_157, c16_158, c24_159, c33_160]), N0, e0⟩ (by decide) (by decide)

theorem own_d10_0 : decode method_6_code 0 = .ok (.iload_n 1, 1) := by decide +kernel
theorem own_d10_1 : decode method_6_code 1 = .ok (.iload_n 2, 1) := by decide +kernel
theorem own_d10_2 : decode method_6_code 2 = .ok (.iload_n 3, 1) := by decide +kernel
theorem own_d10_3 : decode method_6_code 3 = .ok (.invokestatic 33, 3) := by decide +kernel
theorem own_d10_6 : decode method_6_code 6 = .ok (.ifCond .eq 15, 3) := by decide +kernel
theorem own_d10_9 : decode method_6_code 9 = .ok (.iload_n 0, 1) := by decide +kernel
theorem own_d10_10 : decode method_6_code 10 = .ok (.bipush 48, 2) := by decide +kernel
theorem own_d10_12 : decode method_6_code 12 = .ok (.if_icmp .lt 9, 3) := by decide +kernel
theorem own_d10_15 : decode method_6_code 15 = .ok (.iload_n 0, 1) := by decide +kernel
theorem own_d10_16 : decode method_6_code 16 = .ok (.bipush 57, 2) := by decide +kernel
theorem own_d10_18 : decode method_6_code 18 = .ok (.if_icmp .le 5, 3) := by decide +kernel
theorem own_d10_21 : decode method_6_code 21 = .ok (.iconst 0, 1) := by decide +kernel
theorem own_d10_22 : decode method_6_code 22 = .ok (.ireturn, 1) := by decide +kernel
theorem own_d10_23 : decode method_6_code 23 = .ok (.iload_n 0, 1) := by decide +kernel
theorem own_d10_24 : decode method_6_code 24 = .ok (.bipush 48, 2) := by decide +kernel
theorem own_d10_26 : decode method_6_code 26 = .ok (.isub, 1) := by decide +kernel
theorem own_d10_27 : decode method_6_code 27 = .ok (.iload_n 2, 1) := by decide +kernel
theorem own_d10_28 : decode method_6_code 28 = .ok (.iload_n 3, 1) := by decide +kernel
theorem own_d10_29 : decode method_6_code 29 = .ok (.iadd, 1) := by decide +kernel
theorem own_d10_30 : decode method_6_code 30 = .ok (.iconst 1, 1) := by decide +kernel
theorem own_d10_31 : decode method_6_code 31 = .ok (.isub, 1) := by decide +kernel
theorem own_d10_32 : decode method_6_code 32 = .ok (.iload_n 1, 1) := by decide +kernel
theorem own_d10_33 : decode method_6_code 33 = .ok (.isub, 1) := by decide +kernel
theorem own_d10_34 : decode method_6_code 34 = .ok (.invokestatic 37, 3) := by decide +kernel
theorem own_d10_37 : decode method_6_code 37 = .ok (.imul, 1) := by decide +kernel
theorem own_d10_38 : decode method_6_code 38 = .ok (.ireturn, 1) := by decide +kernel
theorem own_ef10 (m : MethodId) (x0 : Int32) (x1 : Int32) (x2 : Int32) (x3 : Int32) : entryFrame m #[(.int x0), (.int x1), (.int x2), (.int x3)] 4 = mkF m 0 #[.val (.int x0), .val (.int x1), .val (.int x2), .val (.int x3)] [] := by first | (simp [entryFrame, mkF, argsToLocals, Value.category]; done) | rfl
def own_Q10 (Z : State) (c_ : Int32) (i_ : Int32) (f_ : Int32) (n_ : Int32) (h0 : Heap) (n0 : Nat) (v : Option Value) (h : Heap) (L : List Loc) : Prop := v = some (.int (own_part c_ i_ f_ n_)) ∧ Fr n0 L ∧ h = h0
set_option maxRecDepth 65536 in
set_option maxHeartbeats 40000000 in
theorem own_rm10 (l : Launch) (Z : State) (a0 : Array Value) (hw : ∀ d ∈ tables_1, d.before a0 Z = true) (ws : List Jvm.Cond) (c_ : Int32) (i_ : Int32) (f_ : Int32) (n_ : Int32) (h0 : Heap) (n0 : Nat) (Z0 : n0 ≤ h0.size)  :
    MetFree l (⟨"com/example/nastro/nastro/model/DigitsValuePinLaw", "part", "(CIII)I"⟩ : MethodName) (head1 (Jvm.Cond.code (⟨"com/example/nastro/nastro/model/DigitsValuePinLaw", "part", "(CIII)I"⟩ : MethodName) method_6_code 4 (some .int) :: ws) ({ frames := 1, cells := 0, slots := 0, locals := 14 } : Room)) (fun a U => a = #[(.int c_), (.int i_), (.int f_), (.int n_)] ∧ Z.Warmed39 U.vm ∧ U.heap = h0) (fun _ _ _ _ _ => True) (fun _ U o U' => ∃ v L, o = .returned v ∧ own_Q10 Z c_ i_ f_ n_ h0 n0 v U'.heap L ∧ FrameEnd U o U' L ({ frames := 1, cells := 0, slots := 0, locals := 14 } : Room).cells ({ frames := 1, cells := 0, slots := 0, locals := 14 } : Room).slots) := by
  refine MetFree.of_bodySF (plainFor_of_name own_pn4) hisR ?_
  intro p e s m args below meth c s₁ Bd hml0 hP hK
  obtain ⟨rfl, hZ, hh⟩ := hP
  have hx := Bd.exec
  have hby := Bd.bytes
  have hml : c.maxLocals = 4 := hml0
  have hown : s.vm.findClass "com/example/nastro/nastro/model/DigitsValuePinLaw" = some m.cls := findClass_of_methodNamed Bd.named
  have hnm := (name_of_methodNamed Bd.named Bd.method).1
  have hnl : meth.locks = false := Bd.notSynchronized
  have X0 : Stand p l e ({ frames := 1, cells := 0, slots := 0, locals := 14 } : Room) s m #[(.int c_), (.int i_), (.int f_), (.int n_)] below meth c s₁ [] 0 0 := Stand.of_body Bd
  have e0 : s₁.heap = h0 := by rw [← hh, Bd.state]; rfl
  have N0 := Fr.nil n0
  show own_Go p.tables e below (own_P below s (own_Q10 Z c_ i_ f_ n_ h0 n0) ({ frames := 1, cells := 0, slots := 0, locals := 14 } : Room).cells ({ frames := 1, cells := 0, slots := 0, locals := 14 } : Room).slots) _
  refine own_st (fun t_ k_ => castTop (own_ef10 m c_ i_ f_ n_) k_) ?_
  show own_Go p.tables e below _ (s₁.setTop (mkF m 0 #[.val (.int c_), .val (.int i_), .val (.int f_), .val (.int n_)] []))
  refine own_st (fun t_ k_ => XS.iloadN X0.here hx rfl (hb hby own_d10_0) rfl k_) ?_
  show own_Go p.tables e below _ (s₁.setTop (mkF m 1 #[.val (.int c_), .val (.int i_), .val (.int f_), .val (.int n_)] [(.int i_)]))
  refine own_st (fun t_ k_ => XS.iloadN X0.here hx rfl (hb hby own_d10_1) rfl k_) ?_
  show own_Go p.tables e below _ (s₁.setTop (mkF m 2 #[.val (.int c_), .val (.int i_), .val (.int f_), .val (.int n_)] [(.int f_), (.int i_)]))
  refine own_st (fun t_ k_ => XS.iloadN X0.here hx rfl (hb hby own_d10_2) rfl k_) ?_
  show own_Go p.tables e below _ (s₁.setTop (mkF m 3 #[.val (.int c_), .val (.int i_), .val (.int f_), .val (.int n_)] [(.int n_), (.int f_), (.int i_)]))
  obtain ⟨_, _, ⟨T161, L161, k161, n161⟩, -, X161, ⟨Lc161, hQ161, l161, y161, z161⟩, st161⟩ := Jvm.LawKit.callS X0 hx (y := (⟨"com/example/nastro/nastro/model/DigitsValuePinLaw", "in", "(III)Z"⟩ : MethodName)) hown (mvT hZ (hw _ (List.mem_of_getElem? (i := 38) rfl))) (mvT hZ (hw _ (List.mem_of_getElem? (i := 39) rfl))) (mvT hZ (hw _ (List.mem_of_getElem? (i := 3) rfl))) (mvT hZ (hw _ (List.mem_of_getElem? (i := 40) rfl))) (by decide) (backOf (W := 0) (own_rm9 l Z a0 hw [] i_ f_ n_ h0 n0 (Nat.le_trans Z0 (Keep.refl h0 []).1)) hZ (hw _ (List.mem_of_getElem? (i := 40) rfl)) (hw _ (List.mem_of_getElem? (i := 3) rfl)) (by decide) (by decide)) (g := (mkF m 3 #[.val (.int c_), .val (.int i_), .val (.int f_), .val (.int n_)] [(.int n_), (.int f_), (.int i_)])) rfl (by rw [hml]; rfl) (argsL := [(.int i_), (.int f_), (.int n_)]) (rest := []) (lenOf own_pd13 rfl) rfl (by show 2 * 0 + _ ≤ _; exact Nat.le_of_eq rfl) (hb hby own_d10_3) (fun _ _ => ⟨rfl, e0, (by decide : 0 + 0 ≤ _), (by decide : 0 + 0 ≤ _)⟩)
  dsimp only [Pt.U, Pt.locs, Pt.cells, Pt.slots] at X161 l161 y161 z161 st161 hQ161
  subst y161 z161
  obtain ⟨rfl, N161q, eq161⟩ := hQ161
  have N161 : Fr n0 L161 := by rw [l161]; exact Fr.app N0 N161q
  refine own_st (st161) ?_
  show own_Go p.tables e below _ (T161.setTop (mkF m 6 #[.val (.int c_), .val (.int i_), .val (.int f_), .val (.int n_)] [(.int (own_in i_ f_ n_))]))
  by_cases c6_162 : (own_in i_ f_ n_) = (0 : Int32)
  · skip
    refine own_st (fun t_ k_ => XS.ifYes X161.here hx rfl (pc0 := 6) (pc' := 21) rfl (hb hby own_d10_6) rfl ((if0 _ _).trans (teq c6_162).1) (by decide) (by decide) k_) ?_
    show own_Go p.tables e below _ (T161.setTop (mkF m 21 #[.val (.int c_), .val (.int i_), .val (.int f_), .val (.int n_)] []))
    refine own_st (fun t_ k_ => XS.iconst X161.here hx rfl (hb hby own_d10_21) k_) ?_
    show own_Go p.tables e below _ (T161.setTop (mkF m 22 #[.val (.int c_), .val (.int i_), .val (.int f_), .val (.int n_)] [(.int (0 : Int32))]))
    exact own_ret (w := (.int (0 : Int32))) X161 hx hnl Bd.returns rfl (Or.inl ⟨rfl, by decide, _, rfl⟩) (hb hby own_d10_22) ⟨(by simp [own_part, c6_162]), N161, eq161⟩ (by decide) (by decide)
  · skip
    refine own_st (fun t_ k_ => XS.ifNo X161.here hx rfl (hb hby own_d10_6) rfl ((if0 _ _).trans (feq c6_162).1) k_) ?_
    show own_Go p.tables e below _ (T161.setTop (mkF m 9 #[.val (.int c_), .val (.int i_), .val (.int f_), .val (.int n_)] []))
    refine own_st (fun t_ k_ => XS.iloadN X161.here hx rfl (hb hby own_d10_9) rfl k_) ?_
    show own_Go p.tables e below _ (T161.setTop (mkF m 10 #[.val (.int c_), .val (.int i_), .val (.int f_), .val (.int n_)] [(.int c_)]))
    refine own_st (fun t_ k_ => XS.bipush X161.here hx rfl (hb hby own_d10_10) k_) ?_
    show own_Go p.tables e below _ (T161.setTop (mkF m 12 #[.val (.int c_), .val (.int i_), .val (.int f_), .val (.int n_)] [(.int (48 : Int32)), (.int c_)]))
    by_cases c12_163 : c_ < (48 : Int32)
    · skip
      refine own_st (fun t_ k_ => XS.icmpYes X161.here hx rfl (pc0 := 12) (pc' := 21) rfl (hb hby own_d10_12) rfl (tlt c12_163).1 (by decide) (by decide) k_) ?_
      show own_Go p.tables e below _ (T161.setTop (mkF m 21 #[.val (.int c_), .val (.int i_), .val (.int f_), .val (.int n_)] []))
      refine own_st (fun t_ k_ => XS.iconst X161.here hx rfl (hb hby own_d10_21) k_) ?_
      show own_Go p.tables e below _ (T161.setTop (mkF m 22 #[.val (.int c_), .val (.int i_), .val (.int f_), .val (.int n_)] [(.int (0 : Int32))]))
      exact own_ret (w := (.int (0 : Int32))) X161 hx hnl Bd.returns rfl (Or.inl ⟨rfl, by decide, _, rfl⟩) (hb hby own_d10_22) ⟨(by simp [own_part, c6_162, c12_163]), N161, eq161⟩ (by decide) (by decide)
    · skip
      refine own_st (fun t_ k_ => XS.icmpNo X161.here hx rfl (hb hby own_d10_12) rfl (flt c12_163).1 k_) ?_
      show own_Go p.tables e below _ (T161.setTop (mkF m 15 #[.val (.int c_), .val (.int i_), .val (.int f_), .val (.int n_)] []))
      refine own_st (fun t_ k_ => XS.iloadN X161.here hx rfl (hb hby own_d10_15) rfl k_) ?_
      show own_Go p.tables e below _ (T161.setTop (mkF m 16 #[.val (.int c_), .val (.int i_), .val (.int f_), .val (.int n_)] [(.int c_)]))
      refine own_st (fun t_ k_ => XS.bipush X161.here hx rfl (hb hby own_d10_16) k_) ?_
      show own_Go p.tables e below _ (T161.setTop (mkF m 18 #[.val (.int c_), .val (.int i_), .val (.int f_), .val (.int n_)] [(.int (57 : Int32)), (.int c_)]))
      by_cases c18_164 : (57 : Int32) < c_
      · skip
        refine own_st (fun t_ k_ => XS.icmpNo X161.here hx rfl (hb hby own_d10_18) rfl (tlt c18_164).2.2.2 k_) ?_
        show own_Go p.tables e below _ (T161.setTop (mkF m 21 #[.val (.int c_), .val (.int i_), .val (.int f_), .val (.int n_)] []))
        refine own_st (fun t_ k_ => XS.iconst X161.here hx rfl (hb hby own_d10_21) k_) ?_
        show own_Go p.tables e below _ (T161.setTop (mkF m 22 #[.val (.int c_), .val (.int i_), .val (.int f_), .val (.int n_)] [(.int (0 : Int32))]))
        exact own_ret (w := (.int (0 : Int32))) X161 hx hnl Bd.returns rfl (Or.inl ⟨rfl, by decide, _, rfl⟩) (hb hby own_d10_22) ⟨(by simp [own_part, c6_162, c12_163, c18_164]), N161, eq161⟩ (by decide) (by decide)
      · skip
        refine own_st (fun t_ k_ => XS.icmpYes X161.here hx rfl (pc0 := 18) (pc' := 23) rfl (hb hby own_d10_18) rfl (flt c18_164).2.2.2 (by decide) (by decide) k_) ?_
        show own_Go p.tables e below _ (T161.setTop (mkF m 23 #[.val (.int c_), .val (.int i_), .val (.int f_), .val (.int n_)] []))
        refine own_st (fun t_ k_ => XS.iloadN X161.here hx rfl (hb hby own_d10_23) rfl k_) ?_
        show own_Go p.tables e below _ (T161.setTop (mkF m 24 #[.val (.int c_), .val (.int i_), .val (.int f_), .val (.int n_)] [(.int c_)]))
        refine own_st (fun t_ k_ => XS.bipush X161.here hx rfl (hb hby own_d10_24) k_) ?_
        show own_Go p.tables e below _ (T161.setTop (mkF m 26 #[.val (.int c_), .val (.int i_), .val (.int f_), .val (.int n_)] [(.int (48 : Int32)), (.int c_)]))
        refine own_st (fun t_ k_ => XS.isub X161.here hx rfl (hb hby own_d10_26) rfl k_) ?_
        show own_Go p.tables e below _ (T161.setTop (mkF m 27 #[.val (.int c_), .val (.int i_), .val (.int f_), .val (.int n_)] [(.int (c_ - (48 : Int32)))]))
        refine own_st (fun t_ k_ => XS.iloadN X161.here hx rfl (hb hby own_d10_27) rfl k_) ?_
        show own_Go p.tables e below _ (T161.setTop (mkF m 28 #[.val (.int c_), .val (.int i_), .val (.int f_), .val (.int n_)] [(.int f_), (.int (c_ - (48 : Int32)))]))
        refine own_st (fun t_ k_ => XS.iloadN X161.here hx rfl (hb hby own_d10_28) rfl k_) ?_
        show own_Go p.tables e below _ (T161.setTop (mkF m 29 #[.val (.int c_), .val (.int i_), .val (.int f_), .val (.int n_)] [(.int n_), (.int f_), (.int (c_ - (48 : Int32)))]))
        refine own_st (fun t_ k_ => XS.iadd X161.here hx rfl (hb hby own_d10_29) rfl k_) ?_
        show own_Go p.tables e below _ (T161.setTop (mkF m 30 #[.val (.int c_), .val (.int i_), .val (.int f_), .val (.int n_)] [(.int (f_ + n_)), (.int (c_ - (48 : Int32)))]))
        refine own_st (fun t_ k_ => XS.iconst X161.here hx rfl (hb hby own_d10_30) k_) ?_
        show own_Go p.tables e below _ (T161.setTop (mkF m 31 #[.val (.int c_), .val (.int i_), .val (.int f_), .val (.int n_)] [(.int (1 : Int32)), (.int (f_ + n_)), (.int (c_ - (48 : Int32)))]))
        refine own_st (fun t_ k_ => XS.isub X161.here hx rfl (hb hby own_d10_31) rfl k_) ?_
        show own_Go p.tables e below _ (T161.setTop (mkF m 32 #[.val (.int c_), .val (.int i_), .val (.int f_), .val (.int n_)] [(.int ((f_ + n_) - (1 : Int32))), (.int (c_ - (48 : Int32)))]))
        refine own_st (fun t_ k_ => XS.iloadN X161.here hx rfl (hb hby own_d10_32) rfl k_) ?_
        show own_Go p.tables e below _ (T161.setTop (mkF m 33 #[.val (.int c_), .val (.int i_), .val (.int f_), .val (.int n_)] [(.int i_), (.int ((f_ + n_) - (1 : Int32))), (.int (c_ - (48 : Int32)))]))
        refine own_st (fun t_ k_ => XS.isub X161.here hx rfl (hb hby own_d10_33) rfl k_) ?_
        show own_Go p.tables e below _ (T161.setTop (mkF m 34 #[.val (.int c_), .val (.int i_), .val (.int f_), .val (.int n_)] [(.int (((f_ + n_) - (1 : Int32)) - i_)), (.int (c_ - (48 : Int32)))]))
        obtain ⟨_, _, ⟨T165, L165, k165, n165⟩, -, X165, ⟨Lc165, hQ165, l165, y165, z165⟩, st165⟩ := Jvm.LawKit.callS X161 hx (y := (⟨"com/example/nastro/nastro/model/DigitsValuePinLaw", "pow10", "(I)I"⟩ : MethodName)) hown (mvT hZ (hw _ (List.mem_of_getElem? (i := 67) rfl))) (mvT hZ (hw _ (List.mem_of_getElem? (i := 68) rfl))) (mvT hZ (hw _ (List.mem_of_getElem? (i := 3) rfl))) (mvT hZ (hw _ (List.mem_of_getElem? (i := 69) rfl))) (by decide) (backOf (W := 1) (own_rm17 l Z a0 hw [] (((f_ + n_) - (1 : Int32)) - i_) h0 n0 (Nat.le_trans Z0 (Keep.refl h0 []).1)) hZ (hw _ (List.mem_of_getElem? (i := 69) rfl)) (hw _ (List.mem_of_getElem? (i := 3) rfl)) (by decide) (by decide)) (g := (mkF m 34 #[.val (.int c_), .val (.int i_), .val (.int f_), .val (.int n_)] [(.int (((f_ + n_) - (1 : Int32)) - i_)), (.int (c_ - (48 : Int32)))])) rfl (by rw [hml]; rfl) (argsL := [(.int (((f_ + n_) - (1 : Int32)) - i_))]) (rest := [(.int (c_ - (48 : Int32)))]) (lenOf own_pd0 rfl) rfl (by show 2 * 0 + _ ≤ _; exact Nat.le_of_eq rfl) (hb hby own_d10_34) (fun _ _ => ⟨rfl, eq161, (by decide : 0 + 0 ≤ _), (by decide : 0 + 0 ≤ _)⟩)
        dsimp only [Pt.U, Pt.locs, Pt.cells, Pt.slots] at X165 l165 y165 z165 st165 hQ165
        subst y165 z165
        obtain ⟨rfl, N165q, eq165⟩ := hQ165
        have N165 : Fr n0 L165 := by rw [l165]; exact Fr.app N161 N165q
        refine own_st (st165) ?_
        show own_Go p.tables e below _ (T165.setTop (mkF m 37 #[.val (.int c_), .val (.int i_), .val (.int f_), .val (.int n_)] [(.int (own_p10 (((f_ + n_) - (1 : Int32)) - i_))), (.int (c_ - (48 : Int32)))]))
        refine own_st (fun t_ k_ => XS.imul X165.here hx rfl (hb hby own_d10_37) rfl k_) ?_
        show own_Go p.tables e below _ (T165.setTop (mkF m 38 #[.val (.int c_), .val (.int i_), .val (.int f_), .val (.int n_)] [(.int ((c_ - (48 : Int32)) * (own_p10 (((f_ + n_) - (1 : Int32)) - i_))))]))
        exact own_ret (w := (.int ((c_ - (48 : Int32)) * (own_p10 (((f_ + n_) - (1 : Int32)) - i_))))) X165 hx hnl Bd.returns rfl (Or.inl ⟨rfl, by decide, _, rfl⟩) (hb hby own_d10_38) ⟨(by simp [own_part, c6_162, c12_163, c18_164]), N165, eq165⟩ (by decide) (by decide)

theorem own_d11_0 : decode prog_36_method_3_code 0 = .ok (.iconst 0, 1) := by decide +kernel
theorem own_d11_1 : decode prog_36_method_3_code 1 = .ok (.istore_n 3, 1) := by decide +kernel
theorem own_d11_2 : decode prog_36_method_3_code 2 = .ok (.iload_n 1, 1) := by decide +kernel
theorem own_d11_3 : decode prog_36_method_3_code 3 = .ok (.istore 4, 2) := by decide +kernel
theorem own_d11_5 : decode prog_36_method_3_code 5 = .ok (.iload 4, 2) := by decide +kernel
theorem own_d11_7 : decode prog_36_method_3_code 7 = .ok (.iload_n 1, 1) := by decide +kernel
theorem own_d11_8 : decode prog_36_method_3_code 8 = .ok (.iload_n 2, 1) := by decide +kernel
theorem own_d11_9 : decode prog_36_method_3_code 9 = .ok (.iadd, 1) := by decide +kernel
theorem own_d11_10 : decode prog_36_method_3_code 10 = .ok (.if_icmp .ge 44, 3) := by decide +kernel
theorem own_d11_13 : decode prog_36_method_3_code 13 = .ok (.aload_n 0, 1) := by decide +kernel
theorem own_d11_14 : decode prog_36_method_3_code 14 = .ok (.iload 4, 2) := by decide +kernel
theorem own_d11_16 : decode prog_36_method_3_code 16 = .ok (.invokevirtual 15, 3) := by decide +kernel
theorem own_d11_19 : decode prog_36_method_3_code 19 = .ok (.istore 5, 2) := by decide +kernel
theorem own_d11_21 : decode prog_36_method_3_code 21 = .ok (.iload 5, 2) := by decide +kernel
theorem own_d11_23 : decode prog_36_method_3_code 23 = .ok (.bipush 48, 2) := by decide +kernel
theorem own_d11_25 : decode prog_36_method_3_code 25 = .ok (.if_icmp .lt 10, 3) := by decide +kernel
theorem own_d11_28 : decode prog_36_method_3_code 28 = .ok (.iload 5, 2) := by decide +kernel
theorem own_d11_30 : decode prog_36_method_3_code 30 = .ok (.bipush 57, 2) := by decide +kernel
theorem own_d11_32 : decode prog_36_method_3_code 32 = .ok (.if_icmp .le 5, 3) := by decide +kernel
theorem own_d11_35 : decode prog_36_method_3_code 35 = .ok (.iconst (-1), 1) := by decide +kernel
theorem own_d11_36 : decode prog_36_method_3_code 36 = .ok (.ireturn, 1) := by decide +kernel
theorem own_d11_37 : decode prog_36_method_3_code 37 = .ok (.iload_n 3, 1) := by decide +kernel
theorem own_d11_38 : decode prog_36_method_3_code 38 = .ok (.bipush 10, 2) := by decide +kernel
theorem own_d11_40 : decode prog_36_method_3_code 40 = .ok (.imul, 1) := by decide +kernel
theorem own_d11_41 : decode prog_36_method_3_code 41 = .ok (.iload 5, 2) := by decide +kernel
theorem own_d11_43 : decode prog_36_method_3_code 43 = .ok (.bipush 48, 2) := by decide +kernel
theorem own_d11_45 : decode prog_36_method_3_code 45 = .ok (.isub, 1) := by decide +kernel
theorem own_d11_46 : decode prog_36_method_3_code 46 = .ok (.iadd, 1) := by decide +kernel
theorem own_d11_47 : decode prog_36_method_3_code 47 = .ok (.istore_n 3, 1) := by decide +kernel
theorem own_d11_48 : decode prog_36_method_3_code 48 = .ok (.iinc 4 1, 3) := by decide +kernel
theorem own_d11_51 : decode prog_36_method_3_code 51 = .ok (.goto (-46), 3) := by decide +kernel
theorem own_d11_54 : decode prog_36_method_3_code 54 = .ok (.iload_n 3, 1) := by decide +kernel
theorem own_d11_55 : decode prog_36_method_3_code 55 = .ok (.ireturn, 1) := by decide +kernel
theorem own_pn5 : plainName "com/example/nastro/nastro/model/Digits" = true := by first | (simp [plainName, overriddenIn]; done) | decide +kernel
theorem own_pd14 : parseMethodDescriptor "(I)C" = some ⟨[.int], some .char⟩ := by decide +kernel
theorem own_ef11 (m : MethodId) (x0 : Addr) (x1 : Int32) (x2 : Int32) : entryFrame m #[(.ref x0), (.int x1), (.int x2)] 6 = mkF m 0 #[.val (.ref x0), .val (.int x1), .val (.int x2), .unset, .unset, .unset] [] := by first | (simp [entryFrame, mkF, argsToLocals, Value.category]; done) | rfl
def own_Q11 (Z : State) (a1 : Addr) (f_ : Int32) (n_ : Int32) (t : Addr) (kt : ClassId) (cd : Int32) (n1 : Nat) (cs : Nat → Int32) (fm : Nat) (ct : Nat) (G1 : Int32) (G3 : Value) (h0 : Heap) (n0 : Nat) (v : Option Value) (h : Heap) (L : List Loc) : Prop := v = some (.int (own_dig cs ct fm 0)) ∧ Fr n0 L ∧ h = h0
set_option maxRecDepth 65536 in
set_option maxHeartbeats 40000000 in
theorem own_rm11 (l : Launch) (Z : State) (a0 : Array Value) (hw : ∀ d ∈ tables_1, d.before a0 Z = true) (ws : List Jvm.Cond) (a1 : Addr) (f_ : Int32) (n_ : Int32) (t : Addr) (kt : ClassId) (cd : Int32) (n1 : Nat) (cs : Nat → Int32) (fm : Nat) (ct : Nat) (G1 : Int32) (G3 : Value) (h0 : Heap) (n0 : Nat) (Z0 : n0 ≤ h0.size) (q0 : Exa Z h0 a1 "java/lang/String") (q1 : Fld Z h0 a1 "java/lang/String" "value" "[B" (.ref t)) (q2 : Fld Z h0 a1 "java/lang/String" "coder" "B" (.int cd)) (q3 : own_A Z h0 t kt .byte (own_bl cd n1) (fun i => .int ((own_by cd cs) i))) (hcd : ((cd = 0 ∧ ∀ q : Nat, q < n1 → ¬ (255 : Int32) < cs q) ∨ cd = 1)) (q5 : Old Z n0 h0) (q6 : Sta Z Z.heap "java/lang/String" "COMPACT_STRINGS" "Z" (.int G1)) (hG1 : (¬ G1 = (0 : Int32))) (q8 : Sta Z Z.heap "jdk/internal/util/Preconditions" "SIOOBE_FORMATTER" "Ljava/util/function/BiFunction;" G3) (rG3 : (G3.isRef = true)) (q10 : Sta Z Z.heap "java/lang/StringUTF16" "$assertionsDisabled" "Z" (.int (1 : Int32))) (q11 : Sta Z Z.heap "java/lang/StringUTF16" "HI_BYTE_SHIFT" "I" (.int (0 : Int32))) (q12 : Sta Z Z.heap "java/lang/StringUTF16" "LO_BYTE_SHIFT" "I" (.int (8 : Int32))) (hall : (∀ q : Nat, 0 ≤ (cs q).toInt ∧ (cs q).toInt ≤ 65535)) (hbd : (f_.toInt = (fm : Int) ∧ n_.toInt = (ct : Int) ∧ fm + ct ≤ n1 ∧ n1 ≤ 4000)) :
    MetFree l (⟨"com/example/nastro/nastro/model/Digits", "value", "(Ljava/lang/String;II)I"⟩ : MethodName) (head1 (Jvm.Cond.code (⟨"com/example/nastro/nastro/model/Digits", "value", "(Ljava/lang/String;II)I"⟩ : MethodName) prog_36_method_3_code 6 (some .int) :: ws) ({ frames := 5, cells := 0, slots := 0, locals := 66 } : Room)) (fun a U => a = #[(.ref a1), (.int f_), (.int n_)] ∧ Z.Warmed39 U.vm ∧ U.heap = h0) (fun _ _ _ _ _ => True) (fun _ U o U' => ∃ v L, o = .returned v ∧ own_Q11 Z a1 f_ n_ t kt cd n1 cs fm ct G1 G3 h0 n0 v U'.heap L ∧ FrameEnd U o U' L ({ frames := 5, cells := 0, slots := 0, locals := 66 } : Room).cells ({ frames := 5, cells := 0, slots := 0, locals := 66 } : Room).slots) := by
  refine MetFree.of_bodySF (plainFor_of_name own_pn5) hisR ?_
  intro p e s m args below meth c s₁ Bd hml0 hP hK
  obtain ⟨rfl, hZ, hh⟩ := hP
  have hx := Bd.exec
  have hby := Bd.bytes
  have hml : c.maxLocals = 6 := hml0
  have hown : s.vm.findClass "com/example/nastro/nastro/model/Digits" = some m.cls := findClass_of_methodNamed Bd.named
  have hnm := (name_of_methodNamed Bd.named Bd.method).1
  have hnl : meth.locks = false := Bd.notSynchronized
  have X0 : Stand p l e ({ frames := 5, cells := 0, slots := 0, locals := 66 } : Room) s m #[(.ref a1), (.int f_), (.int n_)] below meth c s₁ [] 0 0 := Stand.of_body Bd
  have e0 : s₁.heap = h0 := by rw [← hh, Bd.state]; rfl
  have N0 := Fr.nil n0
  show own_Go p.tables e below (own_P below s (own_Q11 Z a1 f_ n_ t kt cd n1 cs fm ct G1 G3 h0 n0) ({ frames := 5, cells := 0, slots := 0, locals := 66 } : Room).cells ({ frames := 5, cells := 0, slots := 0, locals := 66 } : Room).slots) _
  refine own_st (fun t_ k_ => castTop (own_ef11 m a1 f_ n_) k_) ?_
  show own_Go p.tables e below _ (s₁.setTop (mkF m 0 #[.val (.ref a1), .val (.int f_), .val (.int n_), .unset, .unset, .unset] []))
  refine own_st (fun t_ k_ => XS.iconst X0.here hx rfl (hb hby own_d11_0) k_) ?_
  show own_Go p.tables e below _ (s₁.setTop (mkF m 1 #[.val (.ref a1), .val (.int f_), .val (.int n_), .unset, .unset, .unset] [(.int (0 : Int32))]))
  refine own_st (fun t_ k_ => XS.istoreN X0.here hx rfl (hb hby own_d11_1) rfl (l' := #[.val (.ref a1), .val (.int f_), .val (.int n_), .val (.int (0 : Int32)), .unset, .unset]) rfl k_) ?_
  show own_Go p.tables e below _ (s₁.setTop (mkF m 2 #[.val (.ref a1), .val (.int f_), .val (.int n_), .val (.int (0 : Int32)), .unset, .unset] []))
  refine own_st (fun t_ k_ => XS.iloadN X0.here hx rfl (hb hby own_d11_2) rfl k_) ?_
  show own_Go p.tables e below _ (s₁.setTop (mkF m 3 #[.val (.ref a1), .val (.int f_), .val (.int n_), .val (.int (0 : Int32)), .unset, .unset] [(.int f_)]))
  refine own_st (fun t_ k_ => XS.istore X0.here hx rfl (hb hby own_d11_3) rfl (l' := #[.val (.ref a1), .val (.int f_), .val (.int n_), .val (.int (0 : Int32)), .val (.int f_), .unset]) rfl k_) ?_
  show own_Go p.tables e below _ (s₁.setTop (mkF m 5 #[.val (.ref a1), .val (.int f_), .val (.int n_), .val (.int (0 : Int32)), .val (.int f_), .unset] []))
  have loop166 : ∀ (mm : Nat) (k : Nat) (i : Int32) (a_ : Int32) (u_ : Nat) (s5 : Slot) (T166 : State) (Lo166 : List Loc), u_ = mm → Stand p l e ({ frames := 5, cells := 0, slots := 0, locals := 66 } : Room) s m #[(.ref a1), (.int f_), (.int n_)] below meth c T166 Lo166 0 0 → T166.heap = h0 → Fr n0 Lo166 → (i.toInt = (k : Int)) → (k + u_ = fm + ct) → (own_dig cs u_ k a_ = own_dig cs ct fm 0) → (One s5) → own_Go p.tables e below (own_P below s (own_Q11 Z a1 f_ n_ t kt cd n1 cs fm ct G1 G3 h0 n0) ({ frames := 5, cells := 0, slots := 0, locals := 66 } : Room).cells ({ frames := 5, cells := 0, slots := 0, locals := 66 } : Room).slots) (T166.setTop (mkF m 5 #[.val (.ref a1), .val (.int f_), .val (.int n_), .val (.int a_), .val (.int i), s5] [])) := by
    intro mm
    induction mm using Nat.strongRecOn with
    | _ mm ih166 =>
      intro k i a_ u_ s5 T166 Lo166 hm166 X166 e166 N166 hi hk hR hs5
      show own_Go p.tables e below _ (T166.setTop (mkF m 5 #[.val (.ref a1), .val (.int f_), .val (.int n_), .val (.int a_), .val (.int i), s5] []))
      refine own_st (fun t_ k_ => XS.iload X166.here hx rfl (hb hby own_d11_5) rfl k_) ?_
      show own_Go p.tables e below _ (T166.setTop (mkF m 7 #[.val (.ref a1), .val (.int f_), .val (.int n_), .val (.int a_), .val (.int i), s5] [(.int i)]))
      refine own_st (fun t_ k_ => XS.iloadN X166.here hx rfl (hb hby own_d11_7) rfl k_) ?_
      show own_Go p.tables e below _ (T166.setTop (mkF m 8 #[.val (.ref a1), .val (.int f_), .val (.int n_), .val (.int a_), .val (.int i), s5] [(.int f_), (.int i)]))
      refine own_st (fun t_ k_ => XS.iloadN X166.here hx rfl (hb hby own_d11_8) rfl k_) ?_
      show own_Go p.tables e below _ (T166.setTop (mkF m 9 #[.val (.ref a1), .val (.int f_), .val (.int n_), .val (.int a_), .val (.int i), s5] [(.int n_), (.int f_), (.int i)]))
      refine own_st (fun t_ k_ => XS.iadd X166.here hx rfl (hb hby own_d11_9) rfl k_) ?_
      show own_Go p.tables e below _ (T166.setTop (mkF m 10 #[.val (.ref a1), .val (.int f_), .val (.int n_), .val (.int a_), .val (.int i), s5] [(.int (f_ + n_)), (.int i)]))
      by_cases c10_167 : i < (f_ + n_)
      · skip
        have efn := own_fn hbd.1 hbd.2.1 (by omega)
        have hkn : k < fm + ct := (own_ltp hi efn).mp c10_167
        obtain ⟨u1, hu1⟩ : ∃ u1, u_ = u1 + 1 := ⟨u_ - 1, by omega⟩
        rw [hu1] at hR
        simp only [own_dig] at hR
        refine own_st (fun t_ k_ => XS.icmpNo X166.here hx rfl (hb hby own_d11_10) rfl (tlt c10_167).2.1 k_) ?_
        show own_Go p.tables e below _ (T166.setTop (mkF m 13 #[.val (.ref a1), .val (.int f_), .val (.int n_), .val (.int a_), .val (.int i), s5] []))
        refine own_st (fun t_ k_ => XS.aloadN X166.here hx rfl (hb hby own_d11_13) rfl rfl k_) ?_
        show own_Go p.tables e below _ (T166.setTop (mkF m 14 #[.val (.ref a1), .val (.int f_), .val (.int n_), .val (.int a_), .val (.int i), s5] [(.ref a1)]))
        refine own_st (fun t_ k_ => XS.iload X166.here hx rfl (hb hby own_d11_14) rfl k_) ?_
        show own_Go p.tables e below _ (T166.setTop (mkF m 16 #[.val (.ref a1), .val (.int f_), .val (.int n_), .val (.int a_), .val (.int i), s5] [(.int i), (.ref a1)]))
        obtain ⟨cq168, kq168, q168a, q168b, q168c⟩ := isOf hZ e166 q0
        obtain ⟨_, _, ⟨T168, L168, k168, n168⟩, -, X168, ⟨Lc168, hQ168, l168, y168, z168⟩, st168⟩ := X166.virtualBack hx (y := (⟨"java/lang/String", "charAt", "(I)C"⟩ : MethodName)) (z := (⟨"java/lang/String", "charAt", "(I)C"⟩ : MethodName)) hown (mvT hZ (hw _ (List.mem_of_getElem? (i := 70) rfl))) (mvT hZ (hw _ (List.mem_of_getElem? (i := 71) rfl))) (notFace_of_selects (args := #[]) (mvT hZ (hw _ (List.mem_of_getElem? (i := 73) rfl)))) (mvT hZ (hw _ (List.mem_of_getElem? (i := 73) rfl))) (mvT hZ (hw _ (List.mem_of_getElem? (i := 72) rfl))) (by decide) (backOf (W := 0) (own_rm18 l Z a0 hw [] a1 i t kt cd n1 cs k G1 G3 h0 n0 (Nat.le_trans Z0 (Keep.refl h0 []).1) q0 q1 q2 q3 hcd q5 q6 hG1 q8 rG3 q10 q11 q12 ⟨hi, (by omega), (by omega)⟩ (hall k)) hZ (hw _ (List.mem_of_getElem? (i := 74) rfl)) (hw _ (List.mem_of_getElem? (i := 8) rfl)) (by decide) (by decide)) q168a q168c (g := (mkF m 16 #[.val (.ref a1), .val (.int f_), .val (.int n_), .val (.int a_), .val (.int i), s5] [(.int i), (.ref a1)])) rfl (by rw [hml]; rfl) (Steps.refl _) (argsL := [(.int i)]) (rest := []) (lenOf own_pd14 rfl) rfl (by show 2 * 0 + _ ≤ _; exact Nat.le_of_eq rfl) (hb hby own_d11_16) (fun _ _ => ⟨rfl, e166, (by decide : 0 + 0 ≤ _), (by decide : 0 + 0 ≤ _)⟩)
        dsimp only [Pt.U, Pt.locs, Pt.cells, Pt.slots] at X168 l168 y168 z168 st168 hQ168
        subst y168 z168
        obtain ⟨rfl, N168q, eq168⟩ := hQ168
        have N168 : Fr n0 L168 := by rw [l168]; exact Fr.app N166 N168q
        refine own_tr st168 ?_
        show own_Go p.tables e below _ (T168.setTop (mkF m 19 #[.val (.ref a1), .val (.int f_), .val (.int n_), .val (.int a_), .val (.int i), s5] [(.int (cs k))]))
        refine own_st (fun t_ k_ => XS.istoreS X168.here hx rfl (hb hby own_d11_19) rfl rfl hs5 k_) ?_
        show own_Go p.tables e below _ (T168.setTop (mkF m 21 #[.val (.ref a1), .val (.int f_), .val (.int n_), .val (.int a_), .val (.int i), .val (.int (cs k))] []))
        refine own_st (fun t_ k_ => XS.iload X168.here hx rfl (hb hby own_d11_21) rfl k_) ?_
        show own_Go p.tables e below _ (T168.setTop (mkF m 23 #[.val (.ref a1), .val (.int f_), .val (.int n_), .val (.int a_), .val (.int i), .val (.int (cs k))] [(.int (cs k))]))
        refine own_st (fun t_ k_ => XS.bipush X168.here hx rfl (hb hby own_d11_23) k_) ?_
        show own_Go p.tables e below _ (T168.setTop (mkF m 25 #[.val (.ref a1), .val (.int f_), .val (.int n_), .val (.int a_), .val (.int i), .val (.int (cs k))] [(.int (48 : Int32)), (.int (cs k))]))
        by_cases c25_169 : (cs k) < (48 : Int32)
        · skip
          rw [if_pos c25_169] at hR
          refine own_st (fun t_ k_ => XS.icmpYes X168.here hx rfl (pc0 := 25) (pc' := 35) rfl (hb hby own_d11_25) rfl (tlt c25_169).1 (by decide) (by decide) k_) ?_
          show own_Go p.tables e below _ (T168.setTop (mkF m 35 #[.val (.ref a1), .val (.int f_), .val (.int n_), .val (.int a_), .val (.int i), .val (.int (cs k))] []))
          refine own_st (fun t_ k_ => XS.iconst X168.here hx rfl (hb hby own_d11_35) k_) ?_
          show own_Go p.tables e below _ (T168.setTop (mkF m 36 #[.val (.ref a1), .val (.int f_), .val (.int n_), .val (.int a_), .val (.int i), .val (.int (cs k))] [(.int (-1 : Int32))]))
          exact own_ret (w := (.int (-1 : Int32))) X168 hx hnl Bd.returns rfl (Or.inl ⟨rfl, by decide, _, rfl⟩) (hb hby own_d11_36) ⟨(by rw [← hR]), N168, eq168⟩ (by decide) (by decide)
        · skip
          rw [if_neg c25_169] at hR
          refine own_st (fun t_ k_ => XS.icmpNo X168.here hx rfl (hb hby own_d11_25) rfl (flt c25_169).1 k_) ?_
          show own_Go p.tables e below _ (T168.setTop (mkF m 28 #[.val (.ref a1), .val (.int f_), .val (.int n_), .val (.int a_), .val (.int i), .val (.int (cs k))] []))
          refine own_st (fun t_ k_ => XS.iload X168.here hx rfl (hb hby own_d11_28) rfl k_) ?_
          show own_Go p.tables e below _ (T168.setTop (mkF m 30 #[.val (.ref a1), .val (.int f_), .val (.int n_), .val (.int a_), .val (.int i), .val (.int (cs k))] [(.int (cs k))]))
          refine own_st (fun t_ k_ => XS.bipush X168.here hx rfl (hb hby own_d11_30) k_) ?_
          show own_Go p.tables e below _ (T168.setTop (mkF m 32 #[.val (.ref a1), .val (.int f_), .val (.int n_), .val (.int a_), .val (.int i), .val (.int (cs k))] [(.int (57 : Int32)), (.int (cs k))]))
          by_cases c32_170 : (57 : Int32) < (cs k)
          · skip
            rw [if_pos c32_170] at hR
            refine own_st (fun t_ k_ => XS.icmpNo X168.here hx rfl (hb hby own_d11_32) rfl (tlt c32_170).2.2.2 k_) ?_
            show own_Go p.tables e below _ (T168.setTop (mkF m 35 #[.val (.ref a1), .val (.int f_), .val (.int n_), .val (.int a_), .val (.int i), .val (.int (cs k))] []))
            refine own_st (fun t_ k_ => XS.iconst X168.here hx rfl (hb hby own_d11_35) k_) ?_
            show own_Go p.tables e below _ (T168.setTop (mkF m 36 #[.val (.ref a1), .val (.int f_), .val (.int n_), .val (.int a_), .val (.int i), .val (.int (cs k))] [(.int (-1 : Int32))]))
            exact own_ret (w := (.int (-1 : Int32))) X168 hx hnl Bd.returns rfl (Or.inl ⟨rfl, by decide, _, rfl⟩) (hb hby own_d11_36) ⟨(by rw [← hR]), N168, eq168⟩ (by decide) (by decide)
          · skip
            rw [if_neg c32_170] at hR
            have hR' := hR
            refine own_st (fun t_ k_ => XS.icmpYes X168.here hx rfl (pc0 := 32) (pc' := 37) rfl (hb hby own_d11_32) rfl (flt c32_170).2.2.2 (by decide) (by decide) k_) ?_
            show own_Go p.tables e below _ (T168.setTop (mkF m 37 #[.val (.ref a1), .val (.int f_), .val (.int n_), .val (.int a_), .val (.int i), .val (.int (cs k))] []))
            refine own_st (fun t_ k_ => XS.iloadN X168.here hx rfl (hb hby own_d11_37) rfl k_) ?_
            show own_Go p.tables e below _ (T168.setTop (mkF m 38 #[.val (.ref a1), .val (.int f_), .val (.int n_), .val (.int a_), .val (.int i), .val (.int (cs k))] [(.int a_)]))
            refine own_st (fun t_ k_ => XS.bipush X168.here hx rfl (hb hby own_d11_38) k_) ?_
            show own_Go p.tables e below _ (T168.setTop (mkF m 40 #[.val (.ref a1), .val (.int f_), .val (.int n_), .val (.int a_), .val (.int i), .val (.int (cs k))] [(.int (10 : Int32)), (.int a_)]))
            refine own_st (fun t_ k_ => XS.imul X168.here hx rfl (hb hby own_d11_40) rfl k_) ?_
            show own_Go p.tables e below _ (T168.setTop (mkF m 41 #[.val (.ref a1), .val (.int f_), .val (.int n_), .val (.int a_), .val (.int i), .val (.int (cs k))] [(.int (a_ * (10 : Int32)))]))
            refine own_st (fun t_ k_ => XS.iload X168.here hx rfl (hb hby own_d11_41) rfl k_) ?_
            show own_Go p.tables e below _ (T168.setTop (mkF m 43 #[.val (.ref a1), .val (.int f_), .val (.int n_), .val (.int a_), .val (.int i), .val (.int (cs k))] [(.int (cs k)), (.int (a_ * (10 : Int32)))]))
            refine own_st (fun t_ k_ => XS.bipush X168.here hx rfl (hb hby own_d11_43) k_) ?_
            show own_Go p.tables e below _ (T168.setTop (mkF m 45 #[.val (.ref a1), .val (.int f_), .val (.int n_), .val (.int a_), .val (.int i), .val (.int (cs k))] [(.int (48 : Int32)), (.int (cs k)), (.int (a_ * (10 : Int32)))]))
            refine own_st (fun t_ k_ => XS.isub X168.here hx rfl (hb hby own_d11_45) rfl k_) ?_
            show own_Go p.tables e below _ (T168.setTop (mkF m 46 #[.val (.ref a1), .val (.int f_), .val (.int n_), .val (.int a_), .val (.int i), .val (.int (cs k))] [(.int ((cs k) - (48 : Int32))), (.int (a_ * (10 : Int32)))]))
            refine own_st (fun t_ k_ => XS.iadd X168.here hx rfl (hb hby own_d11_46) rfl k_) ?_
            show own_Go p.tables e below _ (T168.setTop (mkF m 47 #[.val (.ref a1), .val (.int f_), .val (.int n_), .val (.int a_), .val (.int i), .val (.int (cs k))] [(.int ((a_ * (10 : Int32)) + ((cs k) - (48 : Int32))))]))
            refine own_st (fun t_ k_ => XS.istoreN X168.here hx rfl (hb hby own_d11_47) rfl (l' := #[.val (.ref a1), .val (.int f_), .val (.int n_), .val (.int ((a_ * (10 : Int32)) + ((cs k) - (48 : Int32)))), .val (.int i), .val (.int (cs k))]) rfl k_) ?_
            show own_Go p.tables e below _ (T168.setTop (mkF m 48 #[.val (.ref a1), .val (.int f_), .val (.int n_), .val (.int ((a_ * (10 : Int32)) + ((cs k) - (48 : Int32)))), .val (.int i), .val (.int (cs k))] []))
            refine own_st (fun t_ k_ => XS.iinc X168.here hx rfl (hb hby own_d11_48) rfl (l' := #[.val (.ref a1), .val (.int f_), .val (.int n_), .val (.int ((a_ * (10 : Int32)) + ((cs k) - (48 : Int32)))), .val (.int (i + (1 : Int32))), .val (.int (cs k))]) rfl k_) ?_
            show own_Go p.tables e below _ (T168.setTop (mkF m 51 #[.val (.ref a1), .val (.int f_), .val (.int n_), .val (.int ((a_ * (10 : Int32)) + ((cs k) - (48 : Int32)))), .val (.int (i + (1 : Int32))), .val (.int (cs k))] []))
            refine own_st (fun t_ k_ => XS.goto X168.here hx rfl (pc0 := 51) (pc' := 5) rfl (hb hby own_d11_51) (by decide) (by decide) k_) ?_
            show own_Go p.tables e below _ (T168.setTop (mkF m 5 #[.val (.ref a1), .val (.int f_), .val (.int n_), .val (.int ((a_ * (10 : Int32)) + ((cs k) - (48 : Int32)))), .val (.int (i + (1 : Int32))), .val (.int (cs k))] []))
            exact ih166 _ (by omega) (k + 1) (i + (1 : Int32)) ((a_ * (10 : Int32)) + ((cs k) - (48 : Int32))) u1 (.val (.int (cs k))) T168 _ rfl X168 eq168 N168 (own_inc hi (by omega)) (by omega) hR' (One.val rfl)
      · skip
        have efn := own_fn hbd.1 hbd.2.1 (by omega)
        have hu0 : u_ = 0 := by have q := mt (own_ltp hi efn).mpr c10_167; omega
        rw [hu0] at hR
        simp only [own_dig] at hR
        refine own_st (fun t_ k_ => XS.icmpYes X166.here hx rfl (pc0 := 10) (pc' := 54) rfl (hb hby own_d11_10) rfl (flt c10_167).2.1 (by decide) (by decide) k_) ?_
        show own_Go p.tables e below _ (T166.setTop (mkF m 54 #[.val (.ref a1), .val (.int f_), .val (.int n_), .val (.int a_), .val (.int i), s5] []))
        refine own_st (fun t_ k_ => XS.iloadN X166.here hx rfl (hb hby own_d11_54) rfl k_) ?_
        show own_Go p.tables e below _ (T166.setTop (mkF m 55 #[.val (.ref a1), .val (.int f_), .val (.int n_), .val (.int a_), .val (.int i), s5] [(.int a_)]))
        exact own_ret (w := (.int a_)) X166 hx hnl Bd.returns rfl (Or.inl ⟨rfl, by decide, _, rfl⟩) (hb hby own_d11_55) ⟨(by rw [← hR]), N166, e166⟩ (by decide) (by decide)
  exact loop166 _ fm f_ (0 : Int32) ct .unset s₁ _ rfl X0 e0 N0 hbd.1 rfl rfl One.u


theorem own_us (x : Int32) : 0 ≤ ((x.toUInt32 >>> ((17 : Int32) &&& 31).toUInt32).toInt32).toInt := by
  rw [c_iushr x 17 17 (by decide) (by decide)]
  have e : ((2 ^ 17 : Nat) : Int) = 131072 := by decide
  rw [e]; omega
theorem own_remN {x y : Int32} {n : Nat} (h : 0 ≤ x.toInt) (hy : y.toInt = (n : Int)) (hn : 0 < n) : ∃ k : Nat, k < n ∧ (x % y).toInt = (k : Int) := by
  have q := (c_irem x y n hy).1 h
  have b1 := Int.emod_nonneg x.toInt (show (n : Int) ≠ 0 by omega)
  have b2 := Int.emod_lt_of_pos x.toInt (show (0 : Int) < n by omega)
  exact ⟨(x.toInt % n).toNat, by omega, by rw [q]; omega⟩
theorem own_updb {f : Nat → Int32} {i : Nat} {x : Int32} (hf : ∀ q : Nat, 0 ≤ (f q).toInt ∧ (f q).toInt ≤ 65535) (hx : 0 ≤ x.toInt ∧ x.toInt ≤ 65535) : ∀ q : Nat, 0 ≤ (own_upd f i x q).toInt ∧ (own_upd f i x q).toInt ≤ 65535 := by
  intro q
  unfold own_upd
  split
  · exact hx
  · exact hf q

theorem own_pd15 : parseMethodDescriptor "([C)V" = some ⟨[(.array .char)], none⟩ := by decide +kernel
theorem own_pd16 : parseMethodDescriptor "(CIII)Z" = some ⟨[.char, .int, .int, .int], some .boolean⟩ := by decide +kernel
theorem own_pd17 : parseMethodDescriptor "(CIII)I" = some ⟨[.char, .int, .int, .int], some .int⟩ := by decide +kernel
theorem own_pd18 : parseMethodDescriptor "(Ljava/lang/String;II)I" = some ⟨[(.object "java/lang/String"), .int, .int], some .int⟩ := by decide +kernel
theorem own_ef0 (m : MethodId) (x0 : Int32) (x1 : Int32) (x2 : Int32) (x3 : Int32) (x4 : Int32) (x5 : Int32) : entryFrame m #[(.int x0), (.int x1), (.int x2), (.int x3), (.int x4), (.int x5)] maxLocals = mkF m 0 #[.val (.int x0), .val (.int x1), .val (.int x2), .val (.int x3), .val (.int x4), .val (.int x5), .unset, .unset, .unset, .unset, .unset, .unset, .unset] [] := by first | (simp [entryFrame, mkF, argsToLocals, Value.category, maxLocals]; done) | rfl
def own_Q0 (Z : State) (p0 : Int32) (p1 : Int32) (p2 : Int32) (p3 : Int32) (p4 : Int32) (p5 : Int32) (G1 : Int32) (G3 : Value) (h0 : Heap) (n0 : Nat) (v : Option Value) (h : Heap) (L : List Loc) : Prop := v = some (.int (1 : Int32)) ∧ Fr n0 L ∧ Keep h0 h []
set_option maxRecDepth 65536 in
set_option maxHeartbeats 40000000 in
theorem own_rm0 (l : Launch) (Z : State) (a0 : Array Value) (hw : ∀ d ∈ tables_1, d.before a0 Z = true) (ws : List Jvm.Cond) (p0 : Int32) (p1 : Int32) (p2 : Int32) (p3 : Int32) (p4 : Int32) (p5 : Int32) (G1 : Int32) (G3 : Value) (h0 : Heap) (n0 : Nat) (Z0 : n0 ≤ h0.size) (q0 : Old Z n0 h0) (q1 : Sta Z Z.heap "java/lang/String" "COMPACT_STRINGS" "Z" (.int G1)) (hG1 : (¬ G1 = (0 : Int32))) (q3 : Sta Z Z.heap "jdk/internal/util/Preconditions" "SIOOBE_FORMATTER" "Ljava/util/function/BiFunction;" G3) (rG3 : (G3.isRef = true)) (q5 : Sta Z Z.heap "java/lang/StringUTF16" "$assertionsDisabled" "Z" (.int (1 : Int32))) (q6 : Sta Z Z.heap "java/lang/StringUTF16" "HI_BYTE_SHIFT" "I" (.int (0 : Int32))) (q7 : Sta Z Z.heap "java/lang/StringUTF16" "LO_BYTE_SHIFT" "I" (.int (8 : Int32))) :
    MetFree l x (head1 (Jvm.Cond.code x code maxLocals ret :: ws) room_1) (fun a U => a = #[(.int p0), (.int p1), (.int p2), (.int p3), (.int p4), (.int p5)] ∧ Z.Warmed39 U.vm ∧ U.heap = h0) (fun _ _ _ _ _ => True) (fun _ U o U' => ∃ v L, o = .returned v ∧ own_Q0 Z p0 p1 p2 p3 p4 p5 G1 G3 h0 n0 v U'.heap L ∧ FrameEnd U o U' L room_1.cells room_1.slots) := by
  refine MetFree.of_bodySF (plainFor_of_name own_pn4) hisR ?_
  intro p e s m args below meth c s₁ Bd hml0 hP hK
  obtain ⟨rfl, hZ, hh⟩ := hP
  have hx := Bd.exec
  have hby := Bd.bytes
  have hml : c.maxLocals = 13 := hml0
  have hown : s.vm.findClass "com/example/nastro/nastro/model/DigitsValuePinLaw" = some m.cls := findClass_of_methodNamed Bd.named
  have hnm := (name_of_methodNamed Bd.named Bd.method).1
  have hnl : meth.locks = false := Bd.notSynchronized
  have X0 : Stand p l e room_1 s m #[(.int p0), (.int p1), (.int p2), (.int p3), (.int p4), (.int p5)] below meth c s₁ [] 0 0 := Stand.of_body Bd
  have e0 : s₁.heap = h0 := by rw [← hh, Bd.state]; rfl
  have N0 := Fr.nil n0
  show own_Go p.tables e below (own_P below s (own_Q0 Z p0 p1 p2 p3 p4 p5 G1 G3 h0 n0) room_1.cells room_1.slots) _
  refine own_st (fun t_ k_ => castTop (own_ef0 m p0 p1 p2 p3 p4 p5) k_) ?_
  show own_Go p.tables e below _ (s₁.setTop (mkF m 0 #[.val (.int p0), .val (.int p1), .val (.int p2), .val (.int p3), .val (.int p4), .val (.int p5), .unset, .unset, .unset, .unset, .unset, .unset, .unset] []))
  obtain ⟨ff, hff⟩ : ∃ z, z = ((p0.toUInt32 >>> ((17 : Int32) &&& 31).toUInt32).toInt32) % 7 := ⟨_, rfl⟩
  obtain ⟨fm, bf, hfm⟩ := own_remN (own_us p0) (y := 7) (n := 7) (by decide) (by decide)
  rw [← hff] at hfm
  have h7 : ((7 : Int32) - ff).toInt = ((7 - fm : Nat) : Int) := by have e7 : (7 : Int32).toInt = 7 := (by decide); rw [Int32.toInt_sub, e7, hfm, bmod32 (by omega) (by omega)]; omega
  obtain ⟨nn, hnn⟩ : ∃ z, z = ((p1.toUInt32 >>> ((17 : Int32) &&& 31).toUInt32).toInt32) % ((7 : Int32) - ff) := ⟨_, rfl⟩
  obtain ⟨ct, bc, hct⟩ := own_remN (own_us p1) h7 (by omega)
  rw [← hnn] at hct
  have n7 : (7 : Int32) - ff ≠ 0 := fun q => by rw [q] at h7; have z32 : (0 : Int32).toInt = 0 := (by decide); omega
  refine own_st (fun t_ k_ => XS.bipush X0.here hx rfl (hb hby at_0) k_) ?_
  show own_Go p.tables e below _ (s₁.setTop (mkF m 2 #[.val (.int p0), .val (.int p1), .val (.int p2), .val (.int p3), .val (.int p4), .val (.int p5), .unset, .unset, .unset, .unset, .unset, .unset, .unset] [(.int (6 : Int32))]))
  obtain ⟨T171, h171, k171, X171, e171, E171, A171, st171⟩ := newP X0 hx hZ (hw _ (List.mem_of_getElem? (i := 0) rfl)) e0 (g := (mkF m 2 #[.val (.int p0), .val (.int p1), .val (.int p2), .val (.int p3), .val (.int p4), .val (.int p5), .unset, .unset, .unset, .unset, .unset, .unset, .unset] [(.int (6 : Int32))])) rfl (hb hby at_2) rfl (by decide) (cap := 6) (by decide) (by decide) (by decide) (by decide)
  obtain ⟨b171, g171⟩ : ∃ z, z = h0.size := ⟨_, rfl⟩
  rw [← g171] at A171 st171
  have fr171 : h0.size ≤ b171 := Nat.le_trans (Keep.refl h0 []).1 (Nat.le_of_eq g171.symm)
  have ge171 : n0 ≤ b171 := Nat.le_trans Z0 fr171
  have K171 : Keep h0 h171 [] := (Keep.refl h0 []).ext E171
  have Ar171 : own_A Z h171 b171 k171 .char 6 (fun i => .int ((fun _ => (0 : Int32)) i)) := own_A.new A171 rfl (by decide)
  refine own_st (st171) ?_
  show own_Go p.tables e below _ (T171.setTop (mkF m 4 #[.val (.int p0), .val (.int p1), .val (.int p2), .val (.int p3), .val (.int p4), .val (.int p5), .unset, .unset, .unset, .unset, .unset, .unset, .unset] [(.ref b171)]))
  refine own_st (fun t_ k_ => XS.astore X171.here hx rfl (hb hby at_4) rfl rfl (l' := #[.val (.int p0), .val (.int p1), .val (.int p2), .val (.int p3), .val (.int p4), .val (.int p5), .val (.ref b171), .unset, .unset, .unset, .unset, .unset, .unset]) rfl k_) ?_
  show own_Go p.tables e below _ (T171.setTop (mkF m 6 #[.val (.int p0), .val (.int p1), .val (.int p2), .val (.int p3), .val (.int p4), .val (.int p5), .val (.ref b171), .unset, .unset, .unset, .unset, .unset, .unset] []))
  refine own_st (fun t_ k_ => XS.aload X171.here hx rfl (hb hby at_6) rfl rfl k_) ?_
  show own_Go p.tables e below _ (T171.setTop (mkF m 8 #[.val (.int p0), .val (.int p1), .val (.int p2), .val (.int p3), .val (.int p4), .val (.int p5), .val (.ref b171), .unset, .unset, .unset, .unset, .unset, .unset] [(.ref b171)]))
  refine own_st (fun t_ k_ => XS.iconst X171.here hx rfl (hb hby at_8) k_) ?_
  show own_Go p.tables e below _ (T171.setTop (mkF m 9 #[.val (.int p0), .val (.int p1), .val (.int p2), .val (.int p3), .val (.int p4), .val (.int p5), .val (.ref b171), .unset, .unset, .unset, .unset, .unset, .unset] [(.int (0 : Int32)), (.ref b171)]))
  refine own_st (fun t_ k_ => XS.iloadN X171.here hx rfl (hb hby at_9) rfl k_) ?_
  show own_Go p.tables e below _ (T171.setTop (mkF m 10 #[.val (.int p0), .val (.int p1), .val (.int p2), .val (.int p3), .val (.int p4), .val (.int p5), .val (.ref b171), .unset, .unset, .unset, .unset, .unset, .unset] [(.int p0), (.int (0 : Int32)), (.ref b171)]))
  obtain ⟨_, _, ⟨T172, L172, k172, n172⟩, -, X172, ⟨Lc172, hQ172, l172, y172, z172⟩, st172⟩ := Jvm.LawKit.callS X171 hx (y := (⟨"com/example/nastro/nastro/model/DigitsValuePinLaw", "mk", "(I)C"⟩ : MethodName)) hown (mvT hZ (hw _ (List.mem_of_getElem? (i := 1) rfl))) (mvT hZ (hw _ (List.mem_of_getElem? (i := 2) rfl))) (mvT hZ (hw _ (List.mem_of_getElem? (i := 3) rfl))) (mvT hZ (hw _ (List.mem_of_getElem? (i := 4) rfl))) (by decide) (backOf (W := 2) (own_rm1 l Z a0 hw [] p0 h171 n0 (Nat.le_trans Z0 K171.1)) hZ (hw _ (List.mem_of_getElem? (i := 4) rfl)) (hw _ (List.mem_of_getElem? (i := 3) rfl)) (by decide) (by decide)) (g := (mkF m 10 #[.val (.int p0), .val (.int p1), .val (.int p2), .val (.int p3), .val (.int p4), .val (.int p5), .val (.ref b171), .unset, .unset, .unset, .unset, .unset, .unset] [(.int p0), (.int (0 : Int32)), (.ref b171)])) rfl (by rw [hml]; rfl) (argsL := [(.int p0)]) (rest := [(.int (0 : Int32)), (.ref b171)]) (lenOf own_pd14 rfl) rfl (by show 2 * 0 + _ ≤ _; exact Nat.le_of_eq rfl) (hb hby at_10) (fun _ _ => ⟨rfl, e171, (by decide : 1 + 0 ≤ _), (by decide : 6 + 0 ≤ _)⟩)
  dsimp only [Pt.U, Pt.locs, Pt.cells, Pt.slots] at X172 l172 y172 z172 st172 hQ172
  subst y172 z172
  obtain ⟨rfl, N172q, eq172⟩ := hQ172
  have N172 : Fr n0 L172 := by rw [l172]; exact Fr.app N0 N172q
  refine own_st (st172) ?_
  show own_Go p.tables e below _ (T172.setTop (mkF m 13 #[.val (.int p0), .val (.int p1), .val (.int p2), .val (.int p3), .val (.int p4), .val (.int p5), .val (.ref b171), .unset, .unset, .unset, .unset, .unset, .unset] [(.int (own_mk p0)), (.int (0 : Int32)), (.ref b171)]))
  obtain ⟨T173, h173, X173, e173, W173, Aw173, st173⟩ := own_castore X172 hx hZ eq172 Ar171 (i := 0) (by decide) (by decide) (own_narc (own_mkb _).1 (own_mkb _).2) (v' := (own_mk p0)) (g := (mkF m 13 #[.val (.int p0), .val (.int p1), .val (.int p2), .val (.int p3), .val (.int p4), .val (.int p5), .val (.ref b171), .unset, .unset, .unset, .unset, .unset, .unset] [(.int (own_mk p0)), (.int (0 : Int32)), (.ref b171)])) rfl rfl (hb hby at_13)
  have N173 := Fr.snoc X173 N172 ge171
  have K173 : Keep h0 h173 [] := K171.wr W173 (Or.inr fr171)
  refine own_st (st173) ?_
  show own_Go p.tables e below _ (T173.setTop (mkF m 14 #[.val (.int p0), .val (.int p1), .val (.int p2), .val (.int p3), .val (.int p4), .val (.int p5), .val (.ref b171), .unset, .unset, .unset, .unset, .unset, .unset] []))
  refine own_st (fun t_ k_ => XS.aload X173.here hx rfl (hb hby at_14) rfl rfl k_) ?_
  show own_Go p.tables e below _ (T173.setTop (mkF m 16 #[.val (.int p0), .val (.int p1), .val (.int p2), .val (.int p3), .val (.int p4), .val (.int p5), .val (.ref b171), .unset, .unset, .unset, .unset, .unset, .unset] [(.ref b171)]))
  refine own_st (fun t_ k_ => XS.iconst X173.here hx rfl (hb hby at_16) k_) ?_
  show own_Go p.tables e below _ (T173.setTop (mkF m 17 #[.val (.int p0), .val (.int p1), .val (.int p2), .val (.int p3), .val (.int p4), .val (.int p5), .val (.ref b171), .unset, .unset, .unset, .unset, .unset, .unset] [(.int (1 : Int32)), (.ref b171)]))
  refine own_st (fun t_ k_ => XS.iloadN X173.here hx rfl (hb hby at_17) rfl k_) ?_
  show own_Go p.tables e below _ (T173.setTop (mkF m 18 #[.val (.int p0), .val (.int p1), .val (.int p2), .val (.int p3), .val (.int p4), .val (.int p5), .val (.ref b171), .unset, .unset, .unset, .unset, .unset, .unset] [(.int p1), (.int (1 : Int32)), (.ref b171)]))
  obtain ⟨_, _, ⟨T174, L174, k174, n174⟩, -, X174, ⟨Lc174, hQ174, l174, y174, z174⟩, st174⟩ := Jvm.LawKit.callS X173 hx (y := (⟨"com/example/nastro/nastro/model/DigitsValuePinLaw", "mk", "(I)C"⟩ : MethodName)) hown (mvT hZ (hw _ (List.mem_of_getElem? (i := 1) rfl))) (mvT hZ (hw _ (List.mem_of_getElem? (i := 2) rfl))) (mvT hZ (hw _ (List.mem_of_getElem? (i := 3) rfl))) (mvT hZ (hw _ (List.mem_of_getElem? (i := 4) rfl))) (by decide) (backOf (W := 2) (own_rm1 l Z a0 hw [] p1 h173 n0 (Nat.le_trans Z0 K173.1)) hZ (hw _ (List.mem_of_getElem? (i := 4) rfl)) (hw _ (List.mem_of_getElem? (i := 3) rfl)) (by decide) (by decide)) (g := (mkF m 18 #[.val (.int p0), .val (.int p1), .val (.int p2), .val (.int p3), .val (.int p4), .val (.int p5), .val (.ref b171), .unset, .unset, .unset, .unset, .unset, .unset] [(.int p1), (.int (1 : Int32)), (.ref b171)])) rfl (by rw [hml]; rfl) (argsL := [(.int p1)]) (rest := [(.int (1 : Int32)), (.ref b171)]) (lenOf own_pd14 rfl) rfl (by show 2 * 0 + _ ≤ _; exact Nat.le_of_eq rfl) (hb hby at_18) (fun _ _ => ⟨rfl, e173, (by decide : 1 + 0 ≤ _), (by decide : 6 + 0 ≤ _)⟩)
  dsimp only [Pt.U, Pt.locs, Pt.cells, Pt.slots] at X174 l174 y174 z174 st174 hQ174
  subst y174 z174
  obtain ⟨rfl, N174q, eq174⟩ := hQ174
  have N174 : Fr n0 L174 := by rw [l174]; exact Fr.app N173 N174q
  refine own_st (st174) ?_
  show own_Go p.tables e below _ (T174.setTop (mkF m 21 #[.val (.int p0), .val (.int p1), .val (.int p2), .val (.int p3), .val (.int p4), .val (.int p5), .val (.ref b171), .unset, .unset, .unset, .unset, .unset, .unset] [(.int (own_mk p1)), (.int (1 : Int32)), (.ref b171)]))
  obtain ⟨T175, h175, X175, e175, W175, Aw175, st175⟩ := own_castore X174 hx hZ eq174 Aw173 (i := 1) (by decide) (by decide) (own_narc (own_mkb _).1 (own_mkb _).2) (v' := (own_mk p1)) (g := (mkF m 21 #[.val (.int p0), .val (.int p1), .val (.int p2), .val (.int p3), .val (.int p4), .val (.int p5), .val (.ref b171), .unset, .unset, .unset, .unset, .unset, .unset] [(.int (own_mk p1)), (.int (1 : Int32)), (.ref b171)])) rfl rfl (hb hby at_21)
  have N175 := Fr.snoc X175 N174 ge171
  have K175 : Keep h0 h175 [] := K173.wr W175 (Or.inr fr171)
  refine own_st (st175) ?_
  show own_Go p.tables e below _ (T175.setTop (mkF m 22 #[.val (.int p0), .val (.int p1), .val (.int p2), .val (.int p3), .val (.int p4), .val (.int p5), .val (.ref b171), .unset, .unset, .unset, .unset, .unset, .unset] []))
  refine own_st (fun t_ k_ => XS.aload X175.here hx rfl (hb hby at_22) rfl rfl k_) ?_
  show own_Go p.tables e below _ (T175.setTop (mkF m 24 #[.val (.int p0), .val (.int p1), .val (.int p2), .val (.int p3), .val (.int p4), .val (.int p5), .val (.ref b171), .unset, .unset, .unset, .unset, .unset, .unset] [(.ref b171)]))
  refine own_st (fun t_ k_ => XS.iconst X175.here hx rfl (hb hby at_24) k_) ?_
  show own_Go p.tables e below _ (T175.setTop (mkF m 25 #[.val (.int p0), .val (.int p1), .val (.int p2), .val (.int p3), .val (.int p4), .val (.int p5), .val (.ref b171), .unset, .unset, .unset, .unset, .unset, .unset] [(.int (2 : Int32)), (.ref b171)]))
  refine own_st (fun t_ k_ => XS.iloadN X175.here hx rfl (hb hby at_25) rfl k_) ?_
  show own_Go p.tables e below _ (T175.setTop (mkF m 26 #[.val (.int p0), .val (.int p1), .val (.int p2), .val (.int p3), .val (.int p4), .val (.int p5), .val (.ref b171), .unset, .unset, .unset, .unset, .unset, .unset] [(.int p2), (.int (2 : Int32)), (.ref b171)]))
  obtain ⟨_, _, ⟨T176, L176, k176, n176⟩, -, X176, ⟨Lc176, hQ176, l176, y176, z176⟩, st176⟩ := Jvm.LawKit.callS X175 hx (y := (⟨"com/example/nastro/nastro/model/DigitsValuePinLaw", "mk", "(I)C"⟩ : MethodName)) hown (mvT hZ (hw _ (List.mem_of_getElem? (i := 1) rfl))) (mvT hZ (hw _ (List.mem_of_getElem? (i := 2) rfl))) (mvT hZ (hw _ (List.mem_of_getElem? (i := 3) rfl))) (mvT hZ (hw _ (List.mem_of_getElem? (i := 4) rfl))) (by decide) (backOf (W := 2) (own_rm1 l Z a0 hw [] p2 h175 n0 (Nat.le_trans Z0 K175.1)) hZ (hw _ (List.mem_of_getElem? (i := 4) rfl)) (hw _ (List.mem_of_getElem? (i := 3) rfl)) (by decide) (by decide)) (g := (mkF m 26 #[.val (.int p0), .val (.int p1), .val (.int p2), .val (.int p3), .val (.int p4), .val (.int p5), .val (.ref b171), .unset, .unset, .unset, .unset, .unset, .unset] [(.int p2), (.int (2 : Int32)), (.ref b171)])) rfl (by rw [hml]; rfl) (argsL := [(.int p2)]) (rest := [(.int (2 : Int32)), (.ref b171)]) (lenOf own_pd14 rfl) rfl (by show 2 * 0 + _ ≤ _; exact Nat.le_of_eq rfl) (hb hby at_26) (fun _ _ => ⟨rfl, e175, (by decide : 1 + 0 ≤ _), (by decide : 6 + 0 ≤ _)⟩)
  dsimp only [Pt.U, Pt.locs, Pt.cells, Pt.slots] at X176 l176 y176 z176 st176 hQ176
  subst y176 z176
  obtain ⟨rfl, N176q, eq176⟩ := hQ176
  have N176 : Fr n0 L176 := by rw [l176]; exact Fr.app N175 N176q
  refine own_st (st176) ?_
  show own_Go p.tables e below _ (T176.setTop (mkF m 29 #[.val (.int p0), .val (.int p1), .val (.int p2), .val (.int p3), .val (.int p4), .val (.int p5), .val (.ref b171), .unset, .unset, .unset, .unset, .unset, .unset] [(.int (own_mk p2)), (.int (2 : Int32)), (.ref b171)]))
  obtain ⟨T177, h177, X177, e177, W177, Aw177, st177⟩ := own_castore X176 hx hZ eq176 Aw175 (i := 2) (by decide) (by decide) (own_narc (own_mkb _).1 (own_mkb _).2) (v' := (own_mk p2)) (g := (mkF m 29 #[.val (.int p0), .val (.int p1), .val (.int p2), .val (.int p3), .val (.int p4), .val (.int p5), .val (.ref b171), .unset, .unset, .unset, .unset, .unset, .unset] [(.int (own_mk p2)), (.int (2 : Int32)), (.ref b171)])) rfl rfl (hb hby at_29)
  have N177 := Fr.snoc X177 N176 ge171
  have K177 : Keep h0 h177 [] := K175.wr W177 (Or.inr fr171)
  refine own_st (st177) ?_
  show own_Go p.tables e below _ (T177.setTop (mkF m 30 #[.val (.int p0), .val (.int p1), .val (.int p2), .val (.int p3), .val (.int p4), .val (.int p5), .val (.ref b171), .unset, .unset, .unset, .unset, .unset, .unset] []))
  refine own_st (fun t_ k_ => XS.aload X177.here hx rfl (hb hby at_30) rfl rfl k_) ?_
  show own_Go p.tables e below _ (T177.setTop (mkF m 32 #[.val (.int p0), .val (.int p1), .val (.int p2), .val (.int p3), .val (.int p4), .val (.int p5), .val (.ref b171), .unset, .unset, .unset, .unset, .unset, .unset] [(.ref b171)]))
  refine own_st (fun t_ k_ => XS.iconst X177.here hx rfl (hb hby at_32) k_) ?_
  show own_Go p.tables e below _ (T177.setTop (mkF m 33 #[.val (.int p0), .val (.int p1), .val (.int p2), .val (.int p3), .val (.int p4), .val (.int p5), .val (.ref b171), .unset, .unset, .unset, .unset, .unset, .unset] [(.int (3 : Int32)), (.ref b171)]))
  refine own_st (fun t_ k_ => XS.iloadN X177.here hx rfl (hb hby at_33) rfl k_) ?_
  show own_Go p.tables e below _ (T177.setTop (mkF m 34 #[.val (.int p0), .val (.int p1), .val (.int p2), .val (.int p3), .val (.int p4), .val (.int p5), .val (.ref b171), .unset, .unset, .unset, .unset, .unset, .unset] [(.int p3), (.int (3 : Int32)), (.ref b171)]))
  obtain ⟨_, _, ⟨T178, L178, k178, n178⟩, -, X178, ⟨Lc178, hQ178, l178, y178, z178⟩, st178⟩ := Jvm.LawKit.callS X177 hx (y := (⟨"com/example/nastro/nastro/model/DigitsValuePinLaw", "mk", "(I)C"⟩ : MethodName)) hown (mvT hZ (hw _ (List.mem_of_getElem? (i := 1) rfl))) (mvT hZ (hw _ (List.mem_of_getElem? (i := 2) rfl))) (mvT hZ (hw _ (List.mem_of_getElem? (i := 3) rfl))) (mvT hZ (hw _ (List.mem_of_getElem? (i := 4) rfl))) (by decide) (backOf (W := 2) (own_rm1 l Z a0 hw [] p3 h177 n0 (Nat.le_trans Z0 K177.1)) hZ (hw _ (List.mem_of_getElem? (i := 4) rfl)) (hw _ (List.mem_of_getElem? (i := 3) rfl)) (by decide) (by decide)) (g := (mkF m 34 #[.val (.int p0), .val (.int p1), .val (.int p2), .val (.int p3), .val (.int p4), .val (.int p5), .val (.ref b171), .unset, .unset, .unset, .unset, .unset, .unset] [(.int p3), (.int (3 : Int32)), (.ref b171)])) rfl (by rw [hml]; rfl) (argsL := [(.int p3)]) (rest := [(.int (3 : Int32)), (.ref b171)]) (lenOf own_pd14 rfl) rfl (by show 2 * 0 + _ ≤ _; exact Nat.le_of_eq rfl) (hb hby at_34) (fun _ _ => ⟨rfl, e177, (by decide : 1 + 0 ≤ _), (by decide : 6 + 0 ≤ _)⟩)
  dsimp only [Pt.U, Pt.locs, Pt.cells, Pt.slots] at X178 l178 y178 z178 st178 hQ178
  subst y178 z178
  obtain ⟨rfl, N178q, eq178⟩ := hQ178
  have N178 : Fr n0 L178 := by rw [l178]; exact Fr.app N177 N178q
  refine own_st (st178) ?_
  show own_Go p.tables e below _ (T178.setTop (mkF m 37 #[.val (.int p0), .val (.int p1), .val (.int p2), .val (.int p3), .val (.int p4), .val (.int p5), .val (.ref b171), .unset, .unset, .unset, .unset, .unset, .unset] [(.int (own_mk p3)), (.int (3 : Int32)), (.ref b171)]))
  obtain ⟨T179, h179, X179, e179, W179, Aw179, st179⟩ := own_castore X178 hx hZ eq178 Aw177 (i := 3) (by decide) (by decide) (own_narc (own_mkb _).1 (own_mkb _).2) (v' := (own_mk p3)) (g := (mkF m 37 #[.val (.int p0), .val (.int p1), .val (.int p2), .val (.int p3), .val (.int p4), .val (.int p5), .val (.ref b171), .unset, .unset, .unset, .unset, .unset, .unset] [(.int (own_mk p3)), (.int (3 : Int32)), (.ref b171)])) rfl rfl (hb hby at_37)
  have N179 := Fr.snoc X179 N178 ge171
  have K179 : Keep h0 h179 [] := K177.wr W179 (Or.inr fr171)
  refine own_st (st179) ?_
  show own_Go p.tables e below _ (T179.setTop (mkF m 38 #[.val (.int p0), .val (.int p1), .val (.int p2), .val (.int p3), .val (.int p4), .val (.int p5), .val (.ref b171), .unset, .unset, .unset, .unset, .unset, .unset] []))
  refine own_st (fun t_ k_ => XS.aload X179.here hx rfl (hb hby at_38) rfl rfl k_) ?_
  show own_Go p.tables e below _ (T179.setTop (mkF m 40 #[.val (.int p0), .val (.int p1), .val (.int p2), .val (.int p3), .val (.int p4), .val (.int p5), .val (.ref b171), .unset, .unset, .unset, .unset, .unset, .unset] [(.ref b171)]))
  refine own_st (fun t_ k_ => XS.iconst X179.here hx rfl (hb hby at_40) k_) ?_
  show own_Go p.tables e below _ (T179.setTop (mkF m 41 #[.val (.int p0), .val (.int p1), .val (.int p2), .val (.int p3), .val (.int p4), .val (.int p5), .val (.ref b171), .unset, .unset, .unset, .unset, .unset, .unset] [(.int (4 : Int32)), (.ref b171)]))
  refine own_st (fun t_ k_ => XS.iload X179.here hx rfl (hb hby at_41) rfl k_) ?_
  show own_Go p.tables e below _ (T179.setTop (mkF m 43 #[.val (.int p0), .val (.int p1), .val (.int p2), .val (.int p3), .val (.int p4), .val (.int p5), .val (.ref b171), .unset, .unset, .unset, .unset, .unset, .unset] [(.int p4), (.int (4 : Int32)), (.ref b171)]))
  obtain ⟨_, _, ⟨T180, L180, k180, n180⟩, -, X180, ⟨Lc180, hQ180, l180, y180, z180⟩, st180⟩ := Jvm.LawKit.callS X179 hx (y := (⟨"com/example/nastro/nastro/model/DigitsValuePinLaw", "mk", "(I)C"⟩ : MethodName)) hown (mvT hZ (hw _ (List.mem_of_getElem? (i := 1) rfl))) (mvT hZ (hw _ (List.mem_of_getElem? (i := 2) rfl))) (mvT hZ (hw _ (List.mem_of_getElem? (i := 3) rfl))) (mvT hZ (hw _ (List.mem_of_getElem? (i := 4) rfl))) (by decide) (backOf (W := 2) (own_rm1 l Z a0 hw [] p4 h179 n0 (Nat.le_trans Z0 K179.1)) hZ (hw _ (List.mem_of_getElem? (i := 4) rfl)) (hw _ (List.mem_of_getElem? (i := 3) rfl)) (by decide) (by decide)) (g := (mkF m 43 #[.val (.int p0), .val (.int p1), .val (.int p2), .val (.int p3), .val (.int p4), .val (.int p5), .val (.ref b171), .unset, .unset, .unset, .unset, .unset, .unset] [(.int p4), (.int (4 : Int32)), (.ref b171)])) rfl (by rw [hml]; rfl) (argsL := [(.int p4)]) (rest := [(.int (4 : Int32)), (.ref b171)]) (lenOf own_pd14 rfl) rfl (by show 2 * 0 + _ ≤ _; exact Nat.le_of_eq rfl) (hb hby at_43) (fun _ _ => ⟨rfl, e179, (by decide : 1 + 0 ≤ _), (by decide : 6 + 0 ≤ _)⟩)
  dsimp only [Pt.U, Pt.locs, Pt.cells, Pt.slots] at X180 l180 y180 z180 st180 hQ180
  subst y180 z180
  obtain ⟨rfl, N180q, eq180⟩ := hQ180
  have N180 : Fr n0 L180 := by rw [l180]; exact Fr.app N179 N180q
  refine own_st (st180) ?_
  show own_Go p.tables e below _ (T180.setTop (mkF m 46 #[.val (.int p0), .val (.int p1), .val (.int p2), .val (.int p3), .val (.int p4), .val (.int p5), .val (.ref b171), .unset, .unset, .unset, .unset, .unset, .unset] [(.int (own_mk p4)), (.int (4 : Int32)), (.ref b171)]))
  obtain ⟨T181, h181, X181, e181, W181, Aw181, st181⟩ := own_castore X180 hx hZ eq180 Aw179 (i := 4) (by decide) (by decide) (own_narc (own_mkb _).1 (own_mkb _).2) (v' := (own_mk p4)) (g := (mkF m 46 #[.val (.int p0), .val (.int p1), .val (.int p2), .val (.int p3), .val (.int p4), .val (.int p5), .val (.ref b171), .unset, .unset, .unset, .unset, .unset, .unset] [(.int (own_mk p4)), (.int (4 : Int32)), (.ref b171)])) rfl rfl (hb hby at_46)
  have N181 := Fr.snoc X181 N180 ge171
  have K181 : Keep h0 h181 [] := K179.wr W181 (Or.inr fr171)
  refine own_st (st181) ?_
  show own_Go p.tables e below _ (T181.setTop (mkF m 47 #[.val (.int p0), .val (.int p1), .val (.int p2), .val (.int p3), .val (.int p4), .val (.int p5), .val (.ref b171), .unset, .unset, .unset, .unset, .unset, .unset] []))
  refine own_st (fun t_ k_ => XS.aload X181.here hx rfl (hb hby at_47) rfl rfl k_) ?_
  show own_Go p.tables e below _ (T181.setTop (mkF m 49 #[.val (.int p0), .val (.int p1), .val (.int p2), .val (.int p3), .val (.int p4), .val (.int p5), .val (.ref b171), .unset, .unset, .unset, .unset, .unset, .unset] [(.ref b171)]))
  refine own_st (fun t_ k_ => XS.iconst X181.here hx rfl (hb hby at_49) k_) ?_
  show own_Go p.tables e below _ (T181.setTop (mkF m 50 #[.val (.int p0), .val (.int p1), .val (.int p2), .val (.int p3), .val (.int p4), .val (.int p5), .val (.ref b171), .unset, .unset, .unset, .unset, .unset, .unset] [(.int (5 : Int32)), (.ref b171)]))
  refine own_st (fun t_ k_ => XS.iload X181.here hx rfl (hb hby at_50) rfl k_) ?_
  show own_Go p.tables e below _ (T181.setTop (mkF m 52 #[.val (.int p0), .val (.int p1), .val (.int p2), .val (.int p3), .val (.int p4), .val (.int p5), .val (.ref b171), .unset, .unset, .unset, .unset, .unset, .unset] [(.int p5), (.int (5 : Int32)), (.ref b171)]))
  obtain ⟨_, _, ⟨T182, L182, k182, n182⟩, -, X182, ⟨Lc182, hQ182, l182, y182, z182⟩, st182⟩ := Jvm.LawKit.callS X181 hx (y := (⟨"com/example/nastro/nastro/model/DigitsValuePinLaw", "mk", "(I)C"⟩ : MethodName)) hown (mvT hZ (hw _ (List.mem_of_getElem? (i := 1) rfl))) (mvT hZ (hw _ (List.mem_of_getElem? (i := 2) rfl))) (mvT hZ (hw _ (List.mem_of_getElem? (i := 3) rfl))) (mvT hZ (hw _ (List.mem_of_getElem? (i := 4) rfl))) (by decide) (backOf (W := 2) (own_rm1 l Z a0 hw [] p5 h181 n0 (Nat.le_trans Z0 K181.1)) hZ (hw _ (List.mem_of_getElem? (i := 4) rfl)) (hw _ (List.mem_of_getElem? (i := 3) rfl)) (by decide) (by decide)) (g := (mkF m 52 #[.val (.int p0), .val (.int p1), .val (.int p2), .val (.int p3), .val (.int p4), .val (.int p5), .val (.ref b171), .unset, .unset, .unset, .unset, .unset, .unset] [(.int p5), (.int (5 : Int32)), (.ref b171)])) rfl (by rw [hml]; rfl) (argsL := [(.int p5)]) (rest := [(.int (5 : Int32)), (.ref b171)]) (lenOf own_pd14 rfl) rfl (by show 2 * 0 + _ ≤ _; exact Nat.le_of_eq rfl) (hb hby at_52) (fun _ _ => ⟨rfl, e181, (by decide : 1 + 0 ≤ _), (by decide : 6 + 0 ≤ _)⟩)
  dsimp only [Pt.U, Pt.locs, Pt.cells, Pt.slots] at X182 l182 y182 z182 st182 hQ182
  subst y182 z182
  obtain ⟨rfl, N182q, eq182⟩ := hQ182
  have N182 : Fr n0 L182 := by rw [l182]; exact Fr.app N181 N182q
  refine own_st (st182) ?_
  show own_Go p.tables e below _ (T182.setTop (mkF m 55 #[.val (.int p0), .val (.int p1), .val (.int p2), .val (.int p3), .val (.int p4), .val (.int p5), .val (.ref b171), .unset, .unset, .unset, .unset, .unset, .unset] [(.int (own_mk p5)), (.int (5 : Int32)), (.ref b171)]))
  obtain ⟨T183, h183, X183, e183, W183, Aw183, st183⟩ := own_castore X182 hx hZ eq182 Aw181 (i := 5) (by decide) (by decide) (own_narc (own_mkb _).1 (own_mkb _).2) (v' := (own_mk p5)) (g := (mkF m 55 #[.val (.int p0), .val (.int p1), .val (.int p2), .val (.int p3), .val (.int p4), .val (.int p5), .val (.ref b171), .unset, .unset, .unset, .unset, .unset, .unset] [(.int (own_mk p5)), (.int (5 : Int32)), (.ref b171)])) rfl rfl (hb hby at_55)
  have N183 := Fr.snoc X183 N182 ge171
  have K183 : Keep h0 h183 [] := K181.wr W183 (Or.inr fr171)
  refine own_st (st183) ?_
  show own_Go p.tables e below _ (T183.setTop (mkF m 56 #[.val (.int p0), .val (.int p1), .val (.int p2), .val (.int p3), .val (.int p4), .val (.int p5), .val (.ref b171), .unset, .unset, .unset, .unset, .unset, .unset] []))
  obtain ⟨cs, hcs⟩ : ∃ f_ : Nat → Int32, f_ = (own_upd (own_upd (own_upd (own_upd (own_upd (own_upd (fun _ => (0 : Int32)) 0 (own_mk p0)) 1 (own_mk p1)) 2 (own_mk p2)) 3 (own_mk p3)) 4 (own_mk p4)) 5 (own_mk p5)) := ⟨_, rfl⟩
  have Acs : own_A Z h183 b171 k171 .char 6 (fun i => .int (cs i)) := by rw [hcs]; exact Aw183
  have hall : ∀ q : Nat, 0 ≤ (cs q).toInt ∧ (cs q).toInt ≤ 65535 := by rw [hcs]; exact (own_updb (own_updb (own_updb (own_updb (own_updb (own_updb (fun q => by show 0 ≤ (0 : Int32).toInt ∧ (0 : Int32).toInt ≤ 65535; decide) (own_mkb p0)) (own_mkb p1)) (own_mkb p2)) (own_mkb p3)) (own_mkb p4)) (own_mkb p5))
  obtain ⟨T184, h184, X184, e184, E184, A184, D184, -, st184⟩ := newO X183 hx hZ hown (hw _ (List.mem_of_getElem? (i := 6) rfl)) (hw _ (List.mem_of_getElem? (i := 7) rfl)) (hw _ (List.mem_of_getElem? (i := 8) rfl)) e183 (g := (mkF m 56 #[.val (.int p0), .val (.int p1), .val (.int p2), .val (.int p3), .val (.int p4), .val (.int p5), .val (.ref b171), .unset, .unset, .unset, .unset, .unset, .unset] [])) rfl (hb hby at_56) (by decide) (by decide)
  obtain ⟨b184, g184⟩ : ∃ z, z = h183.size := ⟨_, rfl⟩
  rw [← g184] at A184 D184 st184
  have fr184 : h0.size ≤ b184 := Nat.le_trans K183.1 (Nat.le_of_eq g184.symm)
  have ge184 : n0 ≤ b184 := Nat.le_trans Z0 fr184
  have K184 : Keep h0 h184 [] := K183.ext E184
  have F184_32 : Fld Z h184 b184 "java/lang/String" "coder" "B" (.int (0 : Int32)) := D184 (Or.inr (hw _ (List.mem_of_getElem? (i := 32) rfl))) (ty := .byte) (by decide)
  have F184_34 : Fld Z h184 b184 "java/lang/String" "value" "[B" .null := D184 (Or.inr (hw _ (List.mem_of_getElem? (i := 34) rfl))) (ty := (.array .byte)) (by decide)
  refine own_st (st184) ?_
  show own_Go p.tables e below _ (T184.setTop (mkF m 59 #[.val (.int p0), .val (.int p1), .val (.int p2), .val (.int p3), .val (.int p4), .val (.int p5), .val (.ref b171), .unset, .unset, .unset, .unset, .unset, .unset] [(.ref b184)]))
  refine own_st (fun t_ k_ => XS.dup X184.here hx rfl (hb hby at_59) rfl rfl k_) ?_
  show own_Go p.tables e below _ (T184.setTop (mkF m 60 #[.val (.int p0), .val (.int p1), .val (.int p2), .val (.int p3), .val (.int p4), .val (.int p5), .val (.ref b171), .unset, .unset, .unset, .unset, .unset, .unset] [(.ref b184), (.ref b184)]))
  refine own_st (fun t_ k_ => XS.aload X184.here hx rfl (hb hby at_60) rfl rfl k_) ?_
  show own_Go p.tables e below _ (T184.setTop (mkF m 62 #[.val (.int p0), .val (.int p1), .val (.int p2), .val (.int p3), .val (.int p4), .val (.int p5), .val (.ref b171), .unset, .unset, .unset, .unset, .unset, .unset] [(.ref b171), (.ref b184), (.ref b184)]))
  obtain ⟨_, _, ⟨T185, L185, k185, n185⟩, -, X185, ⟨Lc185, hQ185, l185, y185, z185⟩, st185⟩ := X184.specialBack hx (y := (⟨"java/lang/String", "<init>", "([C)V"⟩ : MethodName)) rfl hown (mvT hZ (hw _ (List.mem_of_getElem? (i := 9) rfl))) (mvT hZ (hw _ (List.mem_of_getElem? (i := 10) rfl))) (mvT hZ (hw _ (List.mem_of_getElem? (i := 11) rfl))) (by decide) (backOf (W := 1) (own_rm2 l Z a0 hw [] b184 b171 k171 6 cs G1 h184 n0 (Nat.le_trans Z0 K184.1) A184 F184_34 F184_32 (Acs.ext E184) ge184 (Ne.symm (Nat.ne_of_lt (Nat.lt_of_lt_of_le Acs.lt (Nat.le_of_eq g184.symm)))) (by decide) ((((((((q0.ext E171).wr W173 ge171).wr W175 ge171).wr W177 ge171).wr W179 ge171).wr W181 ge171).wr W183 ge171).ext E184) q1 hG1 q5 q6 q7) hZ (hw _ (List.mem_of_getElem? (i := 11) rfl)) (hw _ (List.mem_of_getElem? (i := 8) rfl)) (by decide) (by decide)) (g := (mkF m 62 #[.val (.int p0), .val (.int p1), .val (.int p2), .val (.int p3), .val (.int p4), .val (.int p5), .val (.ref b171), .unset, .unset, .unset, .unset, .unset, .unset] [(.ref b171), (.ref b184), (.ref b184)])) rfl (by rw [hml]; rfl) (Steps.refl _) (a := b184) (argsL := [(.ref b171)]) (rest := [(.ref b184)]) (lenOf own_pd15 rfl) rfl (by show 2 * 0 + _ ≤ _; exact Nat.le_of_eq rfl) (hb hby at_62) (fun _ _ => ⟨rfl, e184, (by decide : 2 + 2 ≤ _), (by decide : 10 + 18 ≤ _)⟩)
  dsimp only [Pt.U, Pt.locs, Pt.cells, Pt.slots] at X185 l185 y185 z185 st185 hQ185
  subst y185 z185
  obtain ⟨t_185, kt_185, cd_185, rfl, N185q, Kq185, P185_0, P185_1, P185_2, P185_3, P185_4⟩ := hQ185
  have N185 : Fr n0 L185 := by rw [l185]; exact Fr.app N183 N185q
  have K185 : Keep h0 T185.heap [] := K184.trans Kq185 (allS (P := fun x => x ∈ [] ∨ h0.size ≤ x) (Or.inr fr184) all0)
  have fr185_0 : h0.size ≤ t_185 := Nat.le_trans K184.1 P185_0
  have ge185_0 : n0 ≤ t_185 := Nat.le_trans Z0 fr185_0
  refine own_tr st185 ?_
  show own_Go p.tables e below _ (T185.setTop (mkF m 65 #[.val (.int p0), .val (.int p1), .val (.int p2), .val (.int p3), .val (.int p4), .val (.int p5), .val (.ref b171), .unset, .unset, .unset, .unset, .unset, .unset] [(.ref b184)]))
  refine own_st (fun t_ k_ => XS.astore X185.here hx rfl (hb hby at_65) rfl rfl (l' := #[.val (.int p0), .val (.int p1), .val (.int p2), .val (.int p3), .val (.int p4), .val (.int p5), .val (.ref b171), .val (.ref b184), .unset, .unset, .unset, .unset, .unset]) rfl k_) ?_
  show own_Go p.tables e below _ (T185.setTop (mkF m 67 #[.val (.int p0), .val (.int p1), .val (.int p2), .val (.int p3), .val (.int p4), .val (.int p5), .val (.ref b171), .val (.ref b184), .unset, .unset, .unset, .unset, .unset] []))
  refine own_st (fun t_ k_ => XS.iloadN X185.here hx rfl (hb hby at_67) rfl k_) ?_
  show own_Go p.tables e below _ (T185.setTop (mkF m 68 #[.val (.int p0), .val (.int p1), .val (.int p2), .val (.int p3), .val (.int p4), .val (.int p5), .val (.ref b171), .val (.ref b184), .unset, .unset, .unset, .unset, .unset] [(.int p0)]))
  refine own_st (fun t_ k_ => XS.bipush X185.here hx rfl (hb hby at_68) k_) ?_
  show own_Go p.tables e below _ (T185.setTop (mkF m 70 #[.val (.int p0), .val (.int p1), .val (.int p2), .val (.int p3), .val (.int p4), .val (.int p5), .val (.ref b171), .val (.ref b184), .unset, .unset, .unset, .unset, .unset] [(.int (17 : Int32)), (.int p0)]))
  refine own_st (fun t_ k_ => XS.iushr X185.here hx rfl (hb hby at_70) rfl k_) ?_
  show own_Go p.tables e below _ (T185.setTop (mkF m 71 #[.val (.int p0), .val (.int p1), .val (.int p2), .val (.int p3), .val (.int p4), .val (.int p5), .val (.ref b171), .val (.ref b184), .unset, .unset, .unset, .unset, .unset] [(.int ((p0.toUInt32 >>> ((17 : Int32) &&& 31).toUInt32).toInt32))]))
  refine own_st (fun t_ k_ => XS.bipush X185.here hx rfl (hb hby at_71) k_) ?_
  show own_Go p.tables e below _ (T185.setTop (mkF m 73 #[.val (.int p0), .val (.int p1), .val (.int p2), .val (.int p3), .val (.int p4), .val (.int p5), .val (.ref b171), .val (.ref b184), .unset, .unset, .unset, .unset, .unset] [(.int (7 : Int32)), (.int ((p0.toUInt32 >>> ((17 : Int32) &&& 31).toUInt32).toInt32))]))
  refine own_st (fun t_ k_ => iremM X185 hx rfl (hb hby at_73) rfl (by decide) k_) ?_
  show own_Go p.tables e below _ (T185.setTop (mkF m 74 #[.val (.int p0), .val (.int p1), .val (.int p2), .val (.int p3), .val (.int p4), .val (.int p5), .val (.ref b171), .val (.ref b184), .unset, .unset, .unset, .unset, .unset] [(.int (((p0.toUInt32 >>> ((17 : Int32) &&& 31).toUInt32).toInt32) % (7 : Int32)))]))
  rw [show (((p0.toUInt32 >>> ((17 : Int32) &&& 31).toUInt32).toInt32) % (7 : Int32)) = ff from hff.symm]
  show own_Go p.tables e below _ (T185.setTop (mkF m 74 #[.val (.int p0), .val (.int p1), .val (.int p2), .val (.int p3), .val (.int p4), .val (.int p5), .val (.ref b171), .val (.ref b184), .unset, .unset, .unset, .unset, .unset] [(.int ff)]))
  refine own_st (fun t_ k_ => XS.istore X185.here hx rfl (hb hby at_74) rfl (l' := #[.val (.int p0), .val (.int p1), .val (.int p2), .val (.int p3), .val (.int p4), .val (.int p5), .val (.ref b171), .val (.ref b184), .val (.int ff), .unset, .unset, .unset, .unset]) rfl k_) ?_
  show own_Go p.tables e below _ (T185.setTop (mkF m 76 #[.val (.int p0), .val (.int p1), .val (.int p2), .val (.int p3), .val (.int p4), .val (.int p5), .val (.ref b171), .val (.ref b184), .val (.int ff), .unset, .unset, .unset, .unset] []))
  refine own_st (fun t_ k_ => XS.iloadN X185.here hx rfl (hb hby at_76) rfl k_) ?_
  show own_Go p.tables e below _ (T185.setTop (mkF m 77 #[.val (.int p0), .val (.int p1), .val (.int p2), .val (.int p3), .val (.int p4), .val (.int p5), .val (.ref b171), .val (.ref b184), .val (.int ff), .unset, .unset, .unset, .unset] [(.int p1)]))
  refine own_st (fun t_ k_ => XS.bipush X185.here hx rfl (hb hby at_77) k_) ?_
  show own_Go p.tables e below _ (T185.setTop (mkF m 79 #[.val (.int p0), .val (.int p1), .val (.int p2), .val (.int p3), .val (.int p4), .val (.int p5), .val (.ref b171), .val (.ref b184), .val (.int ff), .unset, .unset, .unset, .unset] [(.int (17 : Int32)), (.int p1)]))
  refine own_st (fun t_ k_ => XS.iushr X185.here hx rfl (hb hby at_79) rfl k_) ?_
  show own_Go p.tables e below _ (T185.setTop (mkF m 80 #[.val (.int p0), .val (.int p1), .val (.int p2), .val (.int p3), .val (.int p4), .val (.int p5), .val (.ref b171), .val (.ref b184), .val (.int ff), .unset, .unset, .unset, .unset] [(.int ((p1.toUInt32 >>> ((17 : Int32) &&& 31).toUInt32).toInt32))]))
  refine own_st (fun t_ k_ => XS.bipush X185.here hx rfl (hb hby at_80) k_) ?_
  show own_Go p.tables e below _ (T185.setTop (mkF m 82 #[.val (.int p0), .val (.int p1), .val (.int p2), .val (.int p3), .val (.int p4), .val (.int p5), .val (.ref b171), .val (.ref b184), .val (.int ff), .unset, .unset, .unset, .unset] [(.int (7 : Int32)), (.int ((p1.toUInt32 >>> ((17 : Int32) &&& 31).toUInt32).toInt32))]))
  refine own_st (fun t_ k_ => XS.iload X185.here hx rfl (hb hby at_82) rfl k_) ?_
  show own_Go p.tables e below _ (T185.setTop (mkF m 84 #[.val (.int p0), .val (.int p1), .val (.int p2), .val (.int p3), .val (.int p4), .val (.int p5), .val (.ref b171), .val (.ref b184), .val (.int ff), .unset, .unset, .unset, .unset] [(.int ff), (.int (7 : Int32)), (.int ((p1.toUInt32 >>> ((17 : Int32) &&& 31).toUInt32).toInt32))]))
  refine own_st (fun t_ k_ => XS.isub X185.here hx rfl (hb hby at_84) rfl k_) ?_
  show own_Go p.tables e below _ (T185.setTop (mkF m 85 #[.val (.int p0), .val (.int p1), .val (.int p2), .val (.int p3), .val (.int p4), .val (.int p5), .val (.ref b171), .val (.ref b184), .val (.int ff), .unset, .unset, .unset, .unset] [(.int ((7 : Int32) - ff)), (.int ((p1.toUInt32 >>> ((17 : Int32) &&& 31).toUInt32).toInt32))]))
  refine own_st (fun t_ k_ => iremM X185 hx rfl (hb hby at_85) rfl n7 k_) ?_
  show own_Go p.tables e below _ (T185.setTop (mkF m 86 #[.val (.int p0), .val (.int p1), .val (.int p2), .val (.int p3), .val (.int p4), .val (.int p5), .val (.ref b171), .val (.ref b184), .val (.int ff), .unset, .unset, .unset, .unset] [(.int (((p1.toUInt32 >>> ((17 : Int32) &&& 31).toUInt32).toInt32) % ((7 : Int32) - ff)))]))
  rw [show (((p1.toUInt32 >>> ((17 : Int32) &&& 31).toUInt32).toInt32) % ((7 : Int32) - ff)) = nn from hnn.symm]
  show own_Go p.tables e below _ (T185.setTop (mkF m 86 #[.val (.int p0), .val (.int p1), .val (.int p2), .val (.int p3), .val (.int p4), .val (.int p5), .val (.ref b171), .val (.ref b184), .val (.int ff), .unset, .unset, .unset, .unset] [(.int nn)]))
  refine own_st (fun t_ k_ => XS.istore X185.here hx rfl (hb hby at_86) rfl (l' := #[.val (.int p0), .val (.int p1), .val (.int p2), .val (.int p3), .val (.int p4), .val (.int p5), .val (.ref b171), .val (.ref b184), .val (.int ff), .val (.int nn), .unset, .unset, .unset]) rfl k_) ?_
  show own_Go p.tables e below _ (T185.setTop (mkF m 88 #[.val (.int p0), .val (.int p1), .val (.int p2), .val (.int p3), .val (.int p4), .val (.int p5), .val (.ref b171), .val (.ref b184), .val (.int ff), .val (.int nn), .unset, .unset, .unset] []))
  refine own_st (fun t_ k_ => XS.aload X185.here hx rfl (hb hby at_88) rfl rfl k_) ?_
  show own_Go p.tables e below _ (T185.setTop (mkF m 90 #[.val (.int p0), .val (.int p1), .val (.int p2), .val (.int p3), .val (.int p4), .val (.int p5), .val (.ref b171), .val (.ref b184), .val (.int ff), .val (.int nn), .unset, .unset, .unset] [(.ref b171)]))
  refine own_st (fun t_ k_ => XS.iconst X185.here hx rfl (hb hby at_90) k_) ?_
  show own_Go p.tables e below _ (T185.setTop (mkF m 91 #[.val (.int p0), .val (.int p1), .val (.int p2), .val (.int p3), .val (.int p4), .val (.int p5), .val (.ref b171), .val (.ref b184), .val (.int ff), .val (.int nn), .unset, .unset, .unset] [(.int (0 : Int32)), (.ref b171)]))
  refine own_st (own_caload X185 hx hZ rfl ((Acs.ext E184).keep Kq185 (ninS (Nat.ne_of_lt (Nat.lt_of_lt_of_le Acs.lt (Nat.le_of_eq g184.symm))) nin0)) (i := 0) (by decide) (by decide) (g := (mkF m 91 #[.val (.int p0), .val (.int p1), .val (.int p2), .val (.int p3), .val (.int p4), .val (.int p5), .val (.ref b171), .val (.ref b184), .val (.int ff), .val (.int nn), .unset, .unset, .unset] [(.int (0 : Int32)), (.ref b171)])) rfl rfl (hb hby at_91)) ?_
  show own_Go p.tables e below _ (T185.setTop (mkF m 92 #[.val (.int p0), .val (.int p1), .val (.int p2), .val (.int p3), .val (.int p4), .val (.int p5), .val (.ref b171), .val (.ref b184), .val (.int ff), .val (.int nn), .unset, .unset, .unset] [(.int (cs 0))]))
  refine own_st (fun t_ k_ => XS.iconst X185.here hx rfl (hb hby at_92) k_) ?_
  show own_Go p.tables e below _ (T185.setTop (mkF m 93 #[.val (.int p0), .val (.int p1), .val (.int p2), .val (.int p3), .val (.int p4), .val (.int p5), .val (.ref b171), .val (.ref b184), .val (.int ff), .val (.int nn), .unset, .unset, .unset] [(.int (0 : Int32)), (.int (cs 0))]))
  refine own_st (fun t_ k_ => XS.iload X185.here hx rfl (hb hby at_93) rfl k_) ?_
  show own_Go p.tables e below _ (T185.setTop (mkF m 95 #[.val (.int p0), .val (.int p1), .val (.int p2), .val (.int p3), .val (.int p4), .val (.int p5), .val (.ref b171), .val (.ref b184), .val (.int ff), .val (.int nn), .unset, .unset, .unset] [(.int ff), (.int (0 : Int32)), (.int (cs 0))]))
  refine own_st (fun t_ k_ => XS.iload X185.here hx rfl (hb hby at_95) rfl k_) ?_
  show own_Go p.tables e below _ (T185.setTop (mkF m 97 #[.val (.int p0), .val (.int p1), .val (.int p2), .val (.int p3), .val (.int p4), .val (.int p5), .val (.ref b171), .val (.ref b184), .val (.int ff), .val (.int nn), .unset, .unset, .unset] [(.int nn), (.int ff), (.int (0 : Int32)), (.int (cs 0))]))
  obtain ⟨_, _, ⟨T186, L186, k186, n186⟩, -, X186, ⟨Lc186, hQ186, l186, y186, z186⟩, st186⟩ := Jvm.LawKit.callS X185 hx (y := (⟨"com/example/nastro/nastro/model/DigitsValuePinLaw", "bad", "(CIII)Z"⟩ : MethodName)) hown (mvT hZ (hw _ (List.mem_of_getElem? (i := 35) rfl))) (mvT hZ (hw _ (List.mem_of_getElem? (i := 36) rfl))) (mvT hZ (hw _ (List.mem_of_getElem? (i := 3) rfl))) (mvT hZ (hw _ (List.mem_of_getElem? (i := 37) rfl))) (by decide) (backOf (W := 0) (own_rm8 l Z a0 hw [] (cs 0) (0 : Int32) ff nn T185.heap n0 (Nat.le_trans Z0 K185.1)) hZ (hw _ (List.mem_of_getElem? (i := 37) rfl)) (hw _ (List.mem_of_getElem? (i := 3) rfl)) (by decide) (by decide)) (g := (mkF m 97 #[.val (.int p0), .val (.int p1), .val (.int p2), .val (.int p3), .val (.int p4), .val (.int p5), .val (.ref b171), .val (.ref b184), .val (.int ff), .val (.int nn), .unset, .unset, .unset] [(.int nn), (.int ff), (.int (0 : Int32)), (.int (cs 0))])) rfl (by rw [hml]; rfl) (argsL := [(.int (cs 0)), (.int (0 : Int32)), (.int ff), (.int nn)]) (rest := []) (lenOf own_pd16 rfl) rfl (by show 2 * 0 + _ ≤ _; exact Nat.le_of_eq rfl) (hb hby at_97) (fun _ _ => ⟨rfl, rfl, (by decide : 4 + 0 ≤ _), (by decide : 28 + 0 ≤ _)⟩)
  dsimp only [Pt.U, Pt.locs, Pt.cells, Pt.slots] at X186 l186 y186 z186 st186 hQ186
  subst y186 z186
  obtain ⟨rfl, N186q, eq186⟩ := hQ186
  have N186 : Fr n0 L186 := by rw [l186]; exact Fr.app N185 N186q
  refine own_st (st186) ?_
  show own_Go p.tables e below _ (T186.setTop (mkF m 100 #[.val (.int p0), .val (.int p1), .val (.int p2), .val (.int p3), .val (.int p4), .val (.int p5), .val (.ref b171), .val (.ref b184), .val (.int ff), .val (.int nn), .unset, .unset, .unset] [(.int (own_bad (cs 0) (0 : Int32) ff nn))]))
  by_cases c100_187 : (own_bad (cs 0) (0 : Int32) ff nn) = (0 : Int32)
  · skip
    refine own_st (fun t_ k_ => XS.ifNo X186.here hx rfl (hb hby at_100) rfl ((if0 _ _).trans (teq c100_187).2) k_) ?_
    show own_Go p.tables e below _ (T186.setTop (mkF m 103 #[.val (.int p0), .val (.int p1), .val (.int p2), .val (.int p3), .val (.int p4), .val (.int p5), .val (.ref b171), .val (.ref b184), .val (.int ff), .val (.int nn), .unset, .unset, .unset] []))
    refine own_st (fun t_ k_ => XS.aload X186.here hx rfl (hb hby at_103) rfl rfl k_) ?_
    show own_Go p.tables e below _ (T186.setTop (mkF m 105 #[.val (.int p0), .val (.int p1), .val (.int p2), .val (.int p3), .val (.int p4), .val (.int p5), .val (.ref b171), .val (.ref b184), .val (.int ff), .val (.int nn), .unset, .unset, .unset] [(.ref b171)]))
    refine own_st (fun t_ k_ => XS.iconst X186.here hx rfl (hb hby at_105) k_) ?_
    show own_Go p.tables e below _ (T186.setTop (mkF m 106 #[.val (.int p0), .val (.int p1), .val (.int p2), .val (.int p3), .val (.int p4), .val (.int p5), .val (.ref b171), .val (.ref b184), .val (.int ff), .val (.int nn), .unset, .unset, .unset] [(.int (1 : Int32)), (.ref b171)]))
    refine own_st (own_caload X186 hx hZ eq186 ((Acs.ext E184).keep Kq185 (ninS (Nat.ne_of_lt (Nat.lt_of_lt_of_le Acs.lt (Nat.le_of_eq g184.symm))) nin0)) (i := 1) (by decide) (by decide) (g := (mkF m 106 #[.val (.int p0), .val (.int p1), .val (.int p2), .val (.int p3), .val (.int p4), .val (.int p5), .val (.ref b171), .val (.ref b184), .val (.int ff), .val (.int nn), .unset, .unset, .unset] [(.int (1 : Int32)), (.ref b171)])) rfl rfl (hb hby at_106)) ?_
    show own_Go p.tables e below _ (T186.setTop (mkF m 107 #[.val (.int p0), .val (.int p1), .val (.int p2), .val (.int p3), .val (.int p4), .val (.int p5), .val (.ref b171), .val (.ref b184), .val (.int ff), .val (.int nn), .unset, .unset, .unset] [(.int (cs 1))]))
    refine own_st (fun t_ k_ => XS.iconst X186.here hx rfl (hb hby at_107) k_) ?_
    show own_Go p.tables e below _ (T186.setTop (mkF m 108 #[.val (.int p0), .val (.int p1), .val (.int p2), .val (.int p3), .val (.int p4), .val (.int p5), .val (.ref b171), .val (.ref b184), .val (.int ff), .val (.int nn), .unset, .unset, .unset] [(.int (1 : Int32)), (.int (cs 1))]))
    refine own_st (fun t_ k_ => XS.iload X186.here hx rfl (hb hby at_108) rfl k_) ?_
    show own_Go p.tables e below _ (T186.setTop (mkF m 110 #[.val (.int p0), .val (.int p1), .val (.int p2), .val (.int p3), .val (.int p4), .val (.int p5), .val (.ref b171), .val (.ref b184), .val (.int ff), .val (.int nn), .unset, .unset, .unset] [(.int ff), (.int (1 : Int32)), (.int (cs 1))]))
    refine own_st (fun t_ k_ => XS.iload X186.here hx rfl (hb hby at_110) rfl k_) ?_
    show own_Go p.tables e below _ (T186.setTop (mkF m 112 #[.val (.int p0), .val (.int p1), .val (.int p2), .val (.int p3), .val (.int p4), .val (.int p5), .val (.ref b171), .val (.ref b184), .val (.int ff), .val (.int nn), .unset, .unset, .unset] [(.int nn), (.int ff), (.int (1 : Int32)), (.int (cs 1))]))
    obtain ⟨_, _, ⟨T188, L188, k188, n188⟩, -, X188, ⟨Lc188, hQ188, l188, y188, z188⟩, st188⟩ := Jvm.LawKit.callS X186 hx (y := (⟨"com/example/nastro/nastro/model/DigitsValuePinLaw", "bad", "(CIII)Z"⟩ : MethodName)) hown (mvT hZ (hw _ (List.mem_of_getElem? (i := 35) rfl))) (mvT hZ (hw _ (List.mem_of_getElem? (i := 36) rfl))) (mvT hZ (hw _ (List.mem_of_getElem? (i := 3) rfl))) (mvT hZ (hw _ (List.mem_of_getElem? (i := 37) rfl))) (by decide) (backOf (W := 0) (own_rm8 l Z a0 hw [] (cs 1) (1 : Int32) ff nn T185.heap n0 (Nat.le_trans Z0 K185.1)) hZ (hw _ (List.mem_of_getElem? (i := 37) rfl)) (hw _ (List.mem_of_getElem? (i := 3) rfl)) (by decide) (by decide)) (g := (mkF m 112 #[.val (.int p0), .val (.int p1), .val (.int p2), .val (.int p3), .val (.int p4), .val (.int p5), .val (.ref b171), .val (.ref b184), .val (.int ff), .val (.int nn), .unset, .unset, .unset] [(.int nn), (.int ff), (.int (1 : Int32)), (.int (cs 1))])) rfl (by rw [hml]; rfl) (argsL := [(.int (cs 1)), (.int (1 : Int32)), (.int ff), (.int nn)]) (rest := []) (lenOf own_pd16 rfl) rfl (by show 2 * 0 + _ ≤ _; exact Nat.le_of_eq rfl) (hb hby at_112) (fun _ _ => ⟨rfl, eq186, (by decide : 4 + 0 ≤ _), (by decide : 28 + 0 ≤ _)⟩)
    dsimp only [Pt.U, Pt.locs, Pt.cells, Pt.slots] at X188 l188 y188 z188 st188 hQ188
    subst y188 z188
    obtain ⟨rfl, N188q, eq188⟩ := hQ188
    have N188 : Fr n0 L188 := by rw [l188]; exact Fr.app N186 N188q
    refine own_st (st188) ?_
    show own_Go p.tables e below _ (T188.setTop (mkF m 115 #[.val (.int p0), .val (.int p1), .val (.int p2), .val (.int p3), .val (.int p4), .val (.int p5), .val (.ref b171), .val (.ref b184), .val (.int ff), .val (.int nn), .unset, .unset, .unset] [(.int (own_bad (cs 1) (1 : Int32) ff nn))]))
    by_cases c115_189 : (own_bad (cs 1) (1 : Int32) ff nn) = (0 : Int32)
    · skip
      refine own_st (fun t_ k_ => XS.ifNo X188.here hx rfl (hb hby at_115) rfl ((if0 _ _).trans (teq c115_189).2) k_) ?_
      show own_Go p.tables e below _ (T188.setTop (mkF m 118 #[.val (.int p0), .val (.int p1), .val (.int p2), .val (.int p3), .val (.int p4), .val (.int p5), .val (.ref b171), .val (.ref b184), .val (.int ff), .val (.int nn), .unset, .unset, .unset] []))
      refine own_st (fun t_ k_ => XS.aload X188.here hx rfl (hb hby at_118) rfl rfl k_) ?_
      show own_Go p.tables e below _ (T188.setTop (mkF m 120 #[.val (.int p0), .val (.int p1), .val (.int p2), .val (.int p3), .val (.int p4), .val (.int p5), .val (.ref b171), .val (.ref b184), .val (.int ff), .val (.int nn), .unset, .unset, .unset] [(.ref b171)]))
      refine own_st (fun t_ k_ => XS.iconst X188.here hx rfl (hb hby at_120) k_) ?_
      show own_Go p.tables e below _ (T188.setTop (mkF m 121 #[.val (.int p0), .val (.int p1), .val (.int p2), .val (.int p3), .val (.int p4), .val (.int p5), .val (.ref b171), .val (.ref b184), .val (.int ff), .val (.int nn), .unset, .unset, .unset] [(.int (2 : Int32)), (.ref b171)]))
      refine own_st (own_caload X188 hx hZ eq188 ((Acs.ext E184).keep Kq185 (ninS (Nat.ne_of_lt (Nat.lt_of_lt_of_le Acs.lt (Nat.le_of_eq g184.symm))) nin0)) (i := 2) (by decide) (by decide) (g := (mkF m 121 #[.val (.int p0), .val (.int p1), .val (.int p2), .val (.int p3), .val (.int p4), .val (.int p5), .val (.ref b171), .val (.ref b184), .val (.int ff), .val (.int nn), .unset, .unset, .unset] [(.int (2 : Int32)), (.ref b171)])) rfl rfl (hb hby at_121)) ?_
      show own_Go p.tables e below _ (T188.setTop (mkF m 122 #[.val (.int p0), .val (.int p1), .val (.int p2), .val (.int p3), .val (.int p4), .val (.int p5), .val (.ref b171), .val (.ref b184), .val (.int ff), .val (.int nn), .unset, .unset, .unset] [(.int (cs 2))]))
      refine own_st (fun t_ k_ => XS.iconst X188.here hx rfl (hb hby at_122) k_) ?_
      show own_Go p.tables e below _ (T188.setTop (mkF m 123 #[.val (.int p0), .val (.int p1), .val (.int p2), .val (.int p3), .val (.int p4), .val (.int p5), .val (.ref b171), .val (.ref b184), .val (.int ff), .val (.int nn), .unset, .unset, .unset] [(.int (2 : Int32)), (.int (cs 2))]))
      refine own_st (fun t_ k_ => XS.iload X188.here hx rfl (hb hby at_123) rfl k_) ?_
      show own_Go p.tables e below _ (T188.setTop (mkF m 125 #[.val (.int p0), .val (.int p1), .val (.int p2), .val (.int p3), .val (.int p4), .val (.int p5), .val (.ref b171), .val (.ref b184), .val (.int ff), .val (.int nn), .unset, .unset, .unset] [(.int ff), (.int (2 : Int32)), (.int (cs 2))]))
      refine own_st (fun t_ k_ => XS.iload X188.here hx rfl (hb hby at_125) rfl k_) ?_
      show own_Go p.tables e below _ (T188.setTop (mkF m 127 #[.val (.int p0), .val (.int p1), .val (.int p2), .val (.int p3), .val (.int p4), .val (.int p5), .val (.ref b171), .val (.ref b184), .val (.int ff), .val (.int nn), .unset, .unset, .unset] [(.int nn), (.int ff), (.int (2 : Int32)), (.int (cs 2))]))
      obtain ⟨_, _, ⟨T190, L190, k190, n190⟩, -, X190, ⟨Lc190, hQ190, l190, y190, z190⟩, st190⟩ := Jvm.LawKit.callS X188 hx (y := (⟨"com/example/nastro/nastro/model/DigitsValuePinLaw", "bad", "(CIII)Z"⟩ : MethodName)) hown (mvT hZ (hw _ (List.mem_of_getElem? (i := 35) rfl))) (mvT hZ (hw _ (List.mem_of_getElem? (i := 36) rfl))) (mvT hZ (hw _ (List.mem_of_getElem? (i := 3) rfl))) (mvT hZ (hw _ (List.mem_of_getElem? (i := 37) rfl))) (by decide) (backOf (W := 0) (own_rm8 l Z a0 hw [] (cs 2) (2 : Int32) ff nn T185.heap n0 (Nat.le_trans Z0 K185.1)) hZ (hw _ (List.mem_of_getElem? (i := 37) rfl)) (hw _ (List.mem_of_getElem? (i := 3) rfl)) (by decide) (by decide)) (g := (mkF m 127 #[.val (.int p0), .val (.int p1), .val (.int p2), .val (.int p3), .val (.int p4), .val (.int p5), .val (.ref b171), .val (.ref b184), .val (.int ff), .val (.int nn), .unset, .unset, .unset] [(.int nn), (.int ff), (.int (2 : Int32)), (.int (cs 2))])) rfl (by rw [hml]; rfl) (argsL := [(.int (cs 2)), (.int (2 : Int32)), (.int ff), (.int nn)]) (rest := []) (lenOf own_pd16 rfl) rfl (by show 2 * 0 + _ ≤ _; exact Nat.le_of_eq rfl) (hb hby at_127) (fun _ _ => ⟨rfl, eq188, (by decide : 4 + 0 ≤ _), (by decide : 28 + 0 ≤ _)⟩)
      dsimp only [Pt.U, Pt.locs, Pt.cells, Pt.slots] at X190 l190 y190 z190 st190 hQ190
      subst y190 z190
      obtain ⟨rfl, N190q, eq190⟩ := hQ190
      have N190 : Fr n0 L190 := by rw [l190]; exact Fr.app N188 N190q
      refine own_st (st190) ?_
      show own_Go p.tables e below _ (T190.setTop (mkF m 130 #[.val (.int p0), .val (.int p1), .val (.int p2), .val (.int p3), .val (.int p4), .val (.int p5), .val (.ref b171), .val (.ref b184), .val (.int ff), .val (.int nn), .unset, .unset, .unset] [(.int (own_bad (cs 2) (2 : Int32) ff nn))]))
      by_cases c130_191 : (own_bad (cs 2) (2 : Int32) ff nn) = (0 : Int32)
      · skip
        refine own_st (fun t_ k_ => XS.ifNo X190.here hx rfl (hb hby at_130) rfl ((if0 _ _).trans (teq c130_191).2) k_) ?_
        show own_Go p.tables e below _ (T190.setTop (mkF m 133 #[.val (.int p0), .val (.int p1), .val (.int p2), .val (.int p3), .val (.int p4), .val (.int p5), .val (.ref b171), .val (.ref b184), .val (.int ff), .val (.int nn), .unset, .unset, .unset] []))
        refine own_st (fun t_ k_ => XS.aload X190.here hx rfl (hb hby at_133) rfl rfl k_) ?_
        show own_Go p.tables e below _ (T190.setTop (mkF m 135 #[.val (.int p0), .val (.int p1), .val (.int p2), .val (.int p3), .val (.int p4), .val (.int p5), .val (.ref b171), .val (.ref b184), .val (.int ff), .val (.int nn), .unset, .unset, .unset] [(.ref b171)]))
        refine own_st (fun t_ k_ => XS.iconst X190.here hx rfl (hb hby at_135) k_) ?_
        show own_Go p.tables e below _ (T190.setTop (mkF m 136 #[.val (.int p0), .val (.int p1), .val (.int p2), .val (.int p3), .val (.int p4), .val (.int p5), .val (.ref b171), .val (.ref b184), .val (.int ff), .val (.int nn), .unset, .unset, .unset] [(.int (3 : Int32)), (.ref b171)]))
        refine own_st (own_caload X190 hx hZ eq190 ((Acs.ext E184).keep Kq185 (ninS (Nat.ne_of_lt (Nat.lt_of_lt_of_le Acs.lt (Nat.le_of_eq g184.symm))) nin0)) (i := 3) (by decide) (by decide) (g := (mkF m 136 #[.val (.int p0), .val (.int p1), .val (.int p2), .val (.int p3), .val (.int p4), .val (.int p5), .val (.ref b171), .val (.ref b184), .val (.int ff), .val (.int nn), .unset, .unset, .unset] [(.int (3 : Int32)), (.ref b171)])) rfl rfl (hb hby at_136)) ?_
        show own_Go p.tables e below _ (T190.setTop (mkF m 137 #[.val (.int p0), .val (.int p1), .val (.int p2), .val (.int p3), .val (.int p4), .val (.int p5), .val (.ref b171), .val (.ref b184), .val (.int ff), .val (.int nn), .unset, .unset, .unset] [(.int (cs 3))]))
        refine own_st (fun t_ k_ => XS.iconst X190.here hx rfl (hb hby at_137) k_) ?_
        show own_Go p.tables e below _ (T190.setTop (mkF m 138 #[.val (.int p0), .val (.int p1), .val (.int p2), .val (.int p3), .val (.int p4), .val (.int p5), .val (.ref b171), .val (.ref b184), .val (.int ff), .val (.int nn), .unset, .unset, .unset] [(.int (3 : Int32)), (.int (cs 3))]))
        refine own_st (fun t_ k_ => XS.iload X190.here hx rfl (hb hby at_138) rfl k_) ?_
        show own_Go p.tables e below _ (T190.setTop (mkF m 140 #[.val (.int p0), .val (.int p1), .val (.int p2), .val (.int p3), .val (.int p4), .val (.int p5), .val (.ref b171), .val (.ref b184), .val (.int ff), .val (.int nn), .unset, .unset, .unset] [(.int ff), (.int (3 : Int32)), (.int (cs 3))]))
        refine own_st (fun t_ k_ => XS.iload X190.here hx rfl (hb hby at_140) rfl k_) ?_
        show own_Go p.tables e below _ (T190.setTop (mkF m 142 #[.val (.int p0), .val (.int p1), .val (.int p2), .val (.int p3), .val (.int p4), .val (.int p5), .val (.ref b171), .val (.ref b184), .val (.int ff), .val (.int nn), .unset, .unset, .unset] [(.int nn), (.int ff), (.int (3 : Int32)), (.int (cs 3))]))
        obtain ⟨_, _, ⟨T192, L192, k192, n192⟩, -, X192, ⟨Lc192, hQ192, l192, y192, z192⟩, st192⟩ := Jvm.LawKit.callS X190 hx (y := (⟨"com/example/nastro/nastro/model/DigitsValuePinLaw", "bad", "(CIII)Z"⟩ : MethodName)) hown (mvT hZ (hw _ (List.mem_of_getElem? (i := 35) rfl))) (mvT hZ (hw _ (List.mem_of_getElem? (i := 36) rfl))) (mvT hZ (hw _ (List.mem_of_getElem? (i := 3) rfl))) (mvT hZ (hw _ (List.mem_of_getElem? (i := 37) rfl))) (by decide) (backOf (W := 0) (own_rm8 l Z a0 hw [] (cs 3) (3 : Int32) ff nn T185.heap n0 (Nat.le_trans Z0 K185.1)) hZ (hw _ (List.mem_of_getElem? (i := 37) rfl)) (hw _ (List.mem_of_getElem? (i := 3) rfl)) (by decide) (by decide)) (g := (mkF m 142 #[.val (.int p0), .val (.int p1), .val (.int p2), .val (.int p3), .val (.int p4), .val (.int p5), .val (.ref b171), .val (.ref b184), .val (.int ff), .val (.int nn), .unset, .unset, .unset] [(.int nn), (.int ff), (.int (3 : Int32)), (.int (cs 3))])) rfl (by rw [hml]; rfl) (argsL := [(.int (cs 3)), (.int (3 : Int32)), (.int ff), (.int nn)]) (rest := []) (lenOf own_pd16 rfl) rfl (by show 2 * 0 + _ ≤ _; exact Nat.le_of_eq rfl) (hb hby at_142) (fun _ _ => ⟨rfl, eq190, (by decide : 4 + 0 ≤ _), (by decide : 28 + 0 ≤ _)⟩)
        dsimp only [Pt.U, Pt.locs, Pt.cells, Pt.slots] at X192 l192 y192 z192 st192 hQ192
        subst y192 z192
        obtain ⟨rfl, N192q, eq192⟩ := hQ192
        have N192 : Fr n0 L192 := by rw [l192]; exact Fr.app N190 N192q
        refine own_st (st192) ?_
        show own_Go p.tables e below _ (T192.setTop (mkF m 145 #[.val (.int p0), .val (.int p1), .val (.int p2), .val (.int p3), .val (.int p4), .val (.int p5), .val (.ref b171), .val (.ref b184), .val (.int ff), .val (.int nn), .unset, .unset, .unset] [(.int (own_bad (cs 3) (3 : Int32) ff nn))]))
        by_cases c145_193 : (own_bad (cs 3) (3 : Int32) ff nn) = (0 : Int32)
        · skip
          refine own_st (fun t_ k_ => XS.ifNo X192.here hx rfl (hb hby at_145) rfl ((if0 _ _).trans (teq c145_193).2) k_) ?_
          show own_Go p.tables e below _ (T192.setTop (mkF m 148 #[.val (.int p0), .val (.int p1), .val (.int p2), .val (.int p3), .val (.int p4), .val (.int p5), .val (.ref b171), .val (.ref b184), .val (.int ff), .val (.int nn), .unset, .unset, .unset] []))
          refine own_st (fun t_ k_ => XS.aload X192.here hx rfl (hb hby at_148) rfl rfl k_) ?_
          show own_Go p.tables e below _ (T192.setTop (mkF m 150 #[.val (.int p0), .val (.int p1), .val (.int p2), .val (.int p3), .val (.int p4), .val (.int p5), .val (.ref b171), .val (.ref b184), .val (.int ff), .val (.int nn), .unset, .unset, .unset] [(.ref b171)]))
          refine own_st (fun t_ k_ => XS.iconst X192.here hx rfl (hb hby at_150) k_) ?_
          show own_Go p.tables e below _ (T192.setTop (mkF m 151 #[.val (.int p0), .val (.int p1), .val (.int p2), .val (.int p3), .val (.int p4), .val (.int p5), .val (.ref b171), .val (.ref b184), .val (.int ff), .val (.int nn), .unset, .unset, .unset] [(.int (4 : Int32)), (.ref b171)]))
          refine own_st (own_caload X192 hx hZ eq192 ((Acs.ext E184).keep Kq185 (ninS (Nat.ne_of_lt (Nat.lt_of_lt_of_le Acs.lt (Nat.le_of_eq g184.symm))) nin0)) (i := 4) (by decide) (by decide) (g := (mkF m 151 #[.val (.int p0), .val (.int p1), .val (.int p2), .val (.int p3), .val (.int p4), .val (.int p5), .val (.ref b171), .val (.ref b184), .val (.int ff), .val (.int nn), .unset, .unset, .unset] [(.int (4 : Int32)), (.ref b171)])) rfl rfl (hb hby at_151)) ?_
          show own_Go p.tables e below _ (T192.setTop (mkF m 152 #[.val (.int p0), .val (.int p1), .val (.int p2), .val (.int p3), .val (.int p4), .val (.int p5), .val (.ref b171), .val (.ref b184), .val (.int ff), .val (.int nn), .unset, .unset, .unset] [(.int (cs 4))]))
          refine own_st (fun t_ k_ => XS.iconst X192.here hx rfl (hb hby at_152) k_) ?_
          show own_Go p.tables e below _ (T192.setTop (mkF m 153 #[.val (.int p0), .val (.int p1), .val (.int p2), .val (.int p3), .val (.int p4), .val (.int p5), .val (.ref b171), .val (.ref b184), .val (.int ff), .val (.int nn), .unset, .unset, .unset] [(.int (4 : Int32)), (.int (cs 4))]))
          refine own_st (fun t_ k_ => XS.iload X192.here hx rfl (hb hby at_153) rfl k_) ?_
          show own_Go p.tables e below _ (T192.setTop (mkF m 155 #[.val (.int p0), .val (.int p1), .val (.int p2), .val (.int p3), .val (.int p4), .val (.int p5), .val (.ref b171), .val (.ref b184), .val (.int ff), .val (.int nn), .unset, .unset, .unset] [(.int ff), (.int (4 : Int32)), (.int (cs 4))]))
          refine own_st (fun t_ k_ => XS.iload X192.here hx rfl (hb hby at_155) rfl k_) ?_
          show own_Go p.tables e below _ (T192.setTop (mkF m 157 #[.val (.int p0), .val (.int p1), .val (.int p2), .val (.int p3), .val (.int p4), .val (.int p5), .val (.ref b171), .val (.ref b184), .val (.int ff), .val (.int nn), .unset, .unset, .unset] [(.int nn), (.int ff), (.int (4 : Int32)), (.int (cs 4))]))
          obtain ⟨_, _, ⟨T194, L194, k194, n194⟩, -, X194, ⟨Lc194, hQ194, l194, y194, z194⟩, st194⟩ := Jvm.LawKit.callS X192 hx (y := (⟨"com/example/nastro/nastro/model/DigitsValuePinLaw", "bad", "(CIII)Z"⟩ : MethodName)) hown (mvT hZ (hw _ (List.mem_of_getElem? (i := 35) rfl))) (mvT hZ (hw _ (List.mem_of_getElem? (i := 36) rfl))) (mvT hZ (hw _ (List.mem_of_getElem? (i := 3) rfl))) (mvT hZ (hw _ (List.mem_of_getElem? (i := 37) rfl))) (by decide) (backOf (W := 0) (own_rm8 l Z a0 hw [] (cs 4) (4 : Int32) ff nn T185.heap n0 (Nat.le_trans Z0 K185.1)) hZ (hw _ (List.mem_of_getElem? (i := 37) rfl)) (hw _ (List.mem_of_getElem? (i := 3) rfl)) (by decide) (by decide)) (g := (mkF m 157 #[.val (.int p0), .val (.int p1), .val (.int p2), .val (.int p3), .val (.int p4), .val (.int p5), .val (.ref b171), .val (.ref b184), .val (.int ff), .val (.int nn), .unset, .unset, .unset] [(.int nn), (.int ff), (.int (4 : Int32)), (.int (cs 4))])) rfl (by rw [hml]; rfl) (argsL := [(.int (cs 4)), (.int (4 : Int32)), (.int ff), (.int nn)]) (rest := []) (lenOf own_pd16 rfl) rfl (by show 2 * 0 + _ ≤ _; exact Nat.le_of_eq rfl) (hb hby at_157) (fun _ _ => ⟨rfl, eq192, (by decide : 4 + 0 ≤ _), (by decide : 28 + 0 ≤ _)⟩)
          dsimp only [Pt.U, Pt.locs, Pt.cells, Pt.slots] at X194 l194 y194 z194 st194 hQ194
          subst y194 z194
          obtain ⟨rfl, N194q, eq194⟩ := hQ194
          have N194 : Fr n0 L194 := by rw [l194]; exact Fr.app N192 N194q
          refine own_st (st194) ?_
          show own_Go p.tables e below _ (T194.setTop (mkF m 160 #[.val (.int p0), .val (.int p1), .val (.int p2), .val (.int p3), .val (.int p4), .val (.int p5), .val (.ref b171), .val (.ref b184), .val (.int ff), .val (.int nn), .unset, .unset, .unset] [(.int (own_bad (cs 4) (4 : Int32) ff nn))]))
          by_cases c160_195 : (own_bad (cs 4) (4 : Int32) ff nn) = (0 : Int32)
          · skip
            refine own_st (fun t_ k_ => XS.ifNo X194.here hx rfl (hb hby at_160) rfl ((if0 _ _).trans (teq c160_195).2) k_) ?_
            show own_Go p.tables e below _ (T194.setTop (mkF m 163 #[.val (.int p0), .val (.int p1), .val (.int p2), .val (.int p3), .val (.int p4), .val (.int p5), .val (.ref b171), .val (.ref b184), .val (.int ff), .val (.int nn), .unset, .unset, .unset] []))
            refine own_st (fun t_ k_ => XS.aload X194.here hx rfl (hb hby at_163) rfl rfl k_) ?_
            show own_Go p.tables e below _ (T194.setTop (mkF m 165 #[.val (.int p0), .val (.int p1), .val (.int p2), .val (.int p3), .val (.int p4), .val (.int p5), .val (.ref b171), .val (.ref b184), .val (.int ff), .val (.int nn), .unset, .unset, .unset] [(.ref b171)]))
            refine own_st (fun t_ k_ => XS.iconst X194.here hx rfl (hb hby at_165) k_) ?_
            show own_Go p.tables e below _ (T194.setTop (mkF m 166 #[.val (.int p0), .val (.int p1), .val (.int p2), .val (.int p3), .val (.int p4), .val (.int p5), .val (.ref b171), .val (.ref b184), .val (.int ff), .val (.int nn), .unset, .unset, .unset] [(.int (5 : Int32)), (.ref b171)]))
            refine own_st (own_caload X194 hx hZ eq194 ((Acs.ext E184).keep Kq185 (ninS (Nat.ne_of_lt (Nat.lt_of_lt_of_le Acs.lt (Nat.le_of_eq g184.symm))) nin0)) (i := 5) (by decide) (by decide) (g := (mkF m 166 #[.val (.int p0), .val (.int p1), .val (.int p2), .val (.int p3), .val (.int p4), .val (.int p5), .val (.ref b171), .val (.ref b184), .val (.int ff), .val (.int nn), .unset, .unset, .unset] [(.int (5 : Int32)), (.ref b171)])) rfl rfl (hb hby at_166)) ?_
            show own_Go p.tables e below _ (T194.setTop (mkF m 167 #[.val (.int p0), .val (.int p1), .val (.int p2), .val (.int p3), .val (.int p4), .val (.int p5), .val (.ref b171), .val (.ref b184), .val (.int ff), .val (.int nn), .unset, .unset, .unset] [(.int (cs 5))]))
            refine own_st (fun t_ k_ => XS.iconst X194.here hx rfl (hb hby at_167) k_) ?_
            show own_Go p.tables e below _ (T194.setTop (mkF m 168 #[.val (.int p0), .val (.int p1), .val (.int p2), .val (.int p3), .val (.int p4), .val (.int p5), .val (.ref b171), .val (.ref b184), .val (.int ff), .val (.int nn), .unset, .unset, .unset] [(.int (5 : Int32)), (.int (cs 5))]))
            refine own_st (fun t_ k_ => XS.iload X194.here hx rfl (hb hby at_168) rfl k_) ?_
            show own_Go p.tables e below _ (T194.setTop (mkF m 170 #[.val (.int p0), .val (.int p1), .val (.int p2), .val (.int p3), .val (.int p4), .val (.int p5), .val (.ref b171), .val (.ref b184), .val (.int ff), .val (.int nn), .unset, .unset, .unset] [(.int ff), (.int (5 : Int32)), (.int (cs 5))]))
            refine own_st (fun t_ k_ => XS.iload X194.here hx rfl (hb hby at_170) rfl k_) ?_
            show own_Go p.tables e below _ (T194.setTop (mkF m 172 #[.val (.int p0), .val (.int p1), .val (.int p2), .val (.int p3), .val (.int p4), .val (.int p5), .val (.ref b171), .val (.ref b184), .val (.int ff), .val (.int nn), .unset, .unset, .unset] [(.int nn), (.int ff), (.int (5 : Int32)), (.int (cs 5))]))
            obtain ⟨_, _, ⟨T196, L196, k196, n196⟩, -, X196, ⟨Lc196, hQ196, l196, y196, z196⟩, st196⟩ := Jvm.LawKit.callS X194 hx (y := (⟨"com/example/nastro/nastro/model/DigitsValuePinLaw", "bad", "(CIII)Z"⟩ : MethodName)) hown (mvT hZ (hw _ (List.mem_of_getElem? (i := 35) rfl))) (mvT hZ (hw _ (List.mem_of_getElem? (i := 36) rfl))) (mvT hZ (hw _ (List.mem_of_getElem? (i := 3) rfl))) (mvT hZ (hw _ (List.mem_of_getElem? (i := 37) rfl))) (by decide) (backOf (W := 0) (own_rm8 l Z a0 hw [] (cs 5) (5 : Int32) ff nn T185.heap n0 (Nat.le_trans Z0 K185.1)) hZ (hw _ (List.mem_of_getElem? (i := 37) rfl)) (hw _ (List.mem_of_getElem? (i := 3) rfl)) (by decide) (by decide)) (g := (mkF m 172 #[.val (.int p0), .val (.int p1), .val (.int p2), .val (.int p3), .val (.int p4), .val (.int p5), .val (.ref b171), .val (.ref b184), .val (.int ff), .val (.int nn), .unset, .unset, .unset] [(.int nn), (.int ff), (.int (5 : Int32)), (.int (cs 5))])) rfl (by rw [hml]; rfl) (argsL := [(.int (cs 5)), (.int (5 : Int32)), (.int ff), (.int nn)]) (rest := []) (lenOf own_pd16 rfl) rfl (by show 2 * 0 + _ ≤ _; exact Nat.le_of_eq rfl) (hb hby at_172) (fun _ _ => ⟨rfl, eq194, (by decide : 4 + 0 ≤ _), (by decide : 28 + 0 ≤ _)⟩)
            dsimp only [Pt.U, Pt.locs, Pt.cells, Pt.slots] at X196 l196 y196 z196 st196 hQ196
            subst y196 z196
            obtain ⟨rfl, N196q, eq196⟩ := hQ196
            have N196 : Fr n0 L196 := by rw [l196]; exact Fr.app N194 N196q
            refine own_st (st196) ?_
            show own_Go p.tables e below _ (T196.setTop (mkF m 175 #[.val (.int p0), .val (.int p1), .val (.int p2), .val (.int p3), .val (.int p4), .val (.int p5), .val (.ref b171), .val (.ref b184), .val (.int ff), .val (.int nn), .unset, .unset, .unset] [(.int (own_bad (cs 5) (5 : Int32) ff nn))]))
            by_cases c175_197 : (own_bad (cs 5) (5 : Int32) ff nn) = (0 : Int32)
            · skip
              refine own_st (fun t_ k_ => XS.ifYes X196.here hx rfl (pc0 := 175) (pc' := 182) rfl (hb hby at_175) rfl ((if0 _ _).trans (teq c175_197).1) (by decide) (by decide) k_) ?_
              show own_Go p.tables e below _ (T196.setTop (mkF m 182 #[.val (.int p0), .val (.int p1), .val (.int p2), .val (.int p3), .val (.int p4), .val (.int p5), .val (.ref b171), .val (.ref b184), .val (.int ff), .val (.int nn), .unset, .unset, .unset] []))
              refine own_st (fun t_ k_ => XS.iconst X196.here hx rfl (hb hby at_182) k_) ?_
              show own_Go p.tables e below _ (T196.setTop (mkF m 183 #[.val (.int p0), .val (.int p1), .val (.int p2), .val (.int p3), .val (.int p4), .val (.int p5), .val (.ref b171), .val (.ref b184), .val (.int ff), .val (.int nn), .unset, .unset, .unset] [(.int (0 : Int32))]))
              refine own_st (fun t_ k_ => XS.istore X196.here hx rfl (hb hby at_183) rfl (l' := #[.val (.int p0), .val (.int p1), .val (.int p2), .val (.int p3), .val (.int p4), .val (.int p5), .val (.ref b171), .val (.ref b184), .val (.int ff), .val (.int nn), .val (.int (0 : Int32)), .unset, .unset]) rfl k_) ?_
              show own_Go p.tables e below _ (T196.setTop (mkF m 185 #[.val (.int p0), .val (.int p1), .val (.int p2), .val (.int p3), .val (.int p4), .val (.int p5), .val (.ref b171), .val (.ref b184), .val (.int ff), .val (.int nn), .val (.int (0 : Int32)), .unset, .unset] []))
              refine own_st (fun t_ k_ => XS.aload X196.here hx rfl (hb hby at_185) rfl rfl k_) ?_
              show own_Go p.tables e below _ (T196.setTop (mkF m 187 #[.val (.int p0), .val (.int p1), .val (.int p2), .val (.int p3), .val (.int p4), .val (.int p5), .val (.ref b171), .val (.ref b184), .val (.int ff), .val (.int nn), .val (.int (0 : Int32)), .unset, .unset] [(.ref b171)]))
              refine own_st (fun t_ k_ => XS.iconst X196.here hx rfl (hb hby at_187) k_) ?_
              show own_Go p.tables e below _ (T196.setTop (mkF m 188 #[.val (.int p0), .val (.int p1), .val (.int p2), .val (.int p3), .val (.int p4), .val (.int p5), .val (.ref b171), .val (.ref b184), .val (.int ff), .val (.int nn), .val (.int (0 : Int32)), .unset, .unset] [(.int (0 : Int32)), (.ref b171)]))
              refine own_st (own_caload X196 hx hZ eq196 ((Acs.ext E184).keep Kq185 (ninS (Nat.ne_of_lt (Nat.lt_of_lt_of_le Acs.lt (Nat.le_of_eq g184.symm))) nin0)) (i := 0) (by decide) (by decide) (g := (mkF m 188 #[.val (.int p0), .val (.int p1), .val (.int p2), .val (.int p3), .val (.int p4), .val (.int p5), .val (.ref b171), .val (.ref b184), .val (.int ff), .val (.int nn), .val (.int (0 : Int32)), .unset, .unset] [(.int (0 : Int32)), (.ref b171)])) rfl rfl (hb hby at_188)) ?_
              show own_Go p.tables e below _ (T196.setTop (mkF m 189 #[.val (.int p0), .val (.int p1), .val (.int p2), .val (.int p3), .val (.int p4), .val (.int p5), .val (.ref b171), .val (.ref b184), .val (.int ff), .val (.int nn), .val (.int (0 : Int32)), .unset, .unset] [(.int (cs 0))]))
              refine own_st (fun t_ k_ => XS.iconst X196.here hx rfl (hb hby at_189) k_) ?_
              show own_Go p.tables e below _ (T196.setTop (mkF m 190 #[.val (.int p0), .val (.int p1), .val (.int p2), .val (.int p3), .val (.int p4), .val (.int p5), .val (.ref b171), .val (.ref b184), .val (.int ff), .val (.int nn), .val (.int (0 : Int32)), .unset, .unset] [(.int (0 : Int32)), (.int (cs 0))]))
              refine own_st (fun t_ k_ => XS.iload X196.here hx rfl (hb hby at_190) rfl k_) ?_
              show own_Go p.tables e below _ (T196.setTop (mkF m 192 #[.val (.int p0), .val (.int p1), .val (.int p2), .val (.int p3), .val (.int p4), .val (.int p5), .val (.ref b171), .val (.ref b184), .val (.int ff), .val (.int nn), .val (.int (0 : Int32)), .unset, .unset] [(.int ff), (.int (0 : Int32)), (.int (cs 0))]))
              refine own_st (fun t_ k_ => XS.iload X196.here hx rfl (hb hby at_192) rfl k_) ?_
              show own_Go p.tables e below _ (T196.setTop (mkF m 194 #[.val (.int p0), .val (.int p1), .val (.int p2), .val (.int p3), .val (.int p4), .val (.int p5), .val (.ref b171), .val (.ref b184), .val (.int ff), .val (.int nn), .val (.int (0 : Int32)), .unset, .unset] [(.int nn), (.int ff), (.int (0 : Int32)), (.int (cs 0))]))
              obtain ⟨_, _, ⟨T198, L198, k198, n198⟩, -, X198, ⟨Lc198, hQ198, l198, y198, z198⟩, st198⟩ := Jvm.LawKit.callS X196 hx (y := (⟨"com/example/nastro/nastro/model/DigitsValuePinLaw", "part", "(CIII)I"⟩ : MethodName)) hown (mvT hZ (hw _ (List.mem_of_getElem? (i := 41) rfl))) (mvT hZ (hw _ (List.mem_of_getElem? (i := 42) rfl))) (mvT hZ (hw _ (List.mem_of_getElem? (i := 3) rfl))) (mvT hZ (hw _ (List.mem_of_getElem? (i := 43) rfl))) (by decide) (backOf (W := 0) (own_rm10 l Z a0 hw [] (cs 0) (0 : Int32) ff nn T185.heap n0 (Nat.le_trans Z0 K185.1)) hZ (hw _ (List.mem_of_getElem? (i := 43) rfl)) (hw _ (List.mem_of_getElem? (i := 3) rfl)) (by decide) (by decide)) (g := (mkF m 194 #[.val (.int p0), .val (.int p1), .val (.int p2), .val (.int p3), .val (.int p4), .val (.int p5), .val (.ref b171), .val (.ref b184), .val (.int ff), .val (.int nn), .val (.int (0 : Int32)), .unset, .unset] [(.int nn), (.int ff), (.int (0 : Int32)), (.int (cs 0))])) rfl (by rw [hml]; rfl) (argsL := [(.int (cs 0)), (.int (0 : Int32)), (.int ff), (.int nn)]) (rest := []) (lenOf own_pd17 rfl) rfl (by show 2 * 0 + _ ≤ _; exact Nat.le_of_eq rfl) (hb hby at_194) (fun _ _ => ⟨rfl, eq196, (by decide : 4 + 0 ≤ _), (by decide : 28 + 0 ≤ _)⟩)
              dsimp only [Pt.U, Pt.locs, Pt.cells, Pt.slots] at X198 l198 y198 z198 st198 hQ198
              subst y198 z198
              obtain ⟨rfl, N198q, eq198⟩ := hQ198
              have N198 : Fr n0 L198 := by rw [l198]; exact Fr.app N196 N198q
              refine own_st (st198) ?_
              show own_Go p.tables e below _ (T198.setTop (mkF m 197 #[.val (.int p0), .val (.int p1), .val (.int p2), .val (.int p3), .val (.int p4), .val (.int p5), .val (.ref b171), .val (.ref b184), .val (.int ff), .val (.int nn), .val (.int (0 : Int32)), .unset, .unset] [(.int (own_part (cs 0) (0 : Int32) ff nn))]))
              refine own_st (fun t_ k_ => XS.aload X198.here hx rfl (hb hby at_197) rfl rfl k_) ?_
              show own_Go p.tables e below _ (T198.setTop (mkF m 199 #[.val (.int p0), .val (.int p1), .val (.int p2), .val (.int p3), .val (.int p4), .val (.int p5), .val (.ref b171), .val (.ref b184), .val (.int ff), .val (.int nn), .val (.int (0 : Int32)), .unset, .unset] [(.ref b171), (.int (own_part (cs 0) (0 : Int32) ff nn))]))
              refine own_st (fun t_ k_ => XS.iconst X198.here hx rfl (hb hby at_199) k_) ?_
              show own_Go p.tables e below _ (T198.setTop (mkF m 200 #[.val (.int p0), .val (.int p1), .val (.int p2), .val (.int p3), .val (.int p4), .val (.int p5), .val (.ref b171), .val (.ref b184), .val (.int ff), .val (.int nn), .val (.int (0 : Int32)), .unset, .unset] [(.int (1 : Int32)), (.ref b171), (.int (own_part (cs 0) (0 : Int32) ff nn))]))
              refine own_st (own_caload X198 hx hZ eq198 ((Acs.ext E184).keep Kq185 (ninS (Nat.ne_of_lt (Nat.lt_of_lt_of_le Acs.lt (Nat.le_of_eq g184.symm))) nin0)) (i := 1) (by decide) (by decide) (g := (mkF m 200 #[.val (.int p0), .val (.int p1), .val (.int p2), .val (.int p3), .val (.int p4), .val (.int p5), .val (.ref b171), .val (.ref b184), .val (.int ff), .val (.int nn), .val (.int (0 : Int32)), .unset, .unset] [(.int (1 : Int32)), (.ref b171), (.int (own_part (cs 0) (0 : Int32) ff nn))])) rfl rfl (hb hby at_200)) ?_
              show own_Go p.tables e below _ (T198.setTop (mkF m 201 #[.val (.int p0), .val (.int p1), .val (.int p2), .val (.int p3), .val (.int p4), .val (.int p5), .val (.ref b171), .val (.ref b184), .val (.int ff), .val (.int nn), .val (.int (0 : Int32)), .unset, .unset] [(.int (cs 1)), (.int (own_part (cs 0) (0 : Int32) ff nn))]))
              refine own_st (fun t_ k_ => XS.iconst X198.here hx rfl (hb hby at_201) k_) ?_
              show own_Go p.tables e below _ (T198.setTop (mkF m 202 #[.val (.int p0), .val (.int p1), .val (.int p2), .val (.int p3), .val (.int p4), .val (.int p5), .val (.ref b171), .val (.ref b184), .val (.int ff), .val (.int nn), .val (.int (0 : Int32)), .unset, .unset] [(.int (1 : Int32)), (.int (cs 1)), (.int (own_part (cs 0) (0 : Int32) ff nn))]))
              refine own_st (fun t_ k_ => XS.iload X198.here hx rfl (hb hby at_202) rfl k_) ?_
              show own_Go p.tables e below _ (T198.setTop (mkF m 204 #[.val (.int p0), .val (.int p1), .val (.int p2), .val (.int p3), .val (.int p4), .val (.int p5), .val (.ref b171), .val (.ref b184), .val (.int ff), .val (.int nn), .val (.int (0 : Int32)), .unset, .unset] [(.int ff), (.int (1 : Int32)), (.int (cs 1)), (.int (own_part (cs 0) (0 : Int32) ff nn))]))
              refine own_st (fun t_ k_ => XS.iload X198.here hx rfl (hb hby at_204) rfl k_) ?_
              show own_Go p.tables e below _ (T198.setTop (mkF m 206 #[.val (.int p0), .val (.int p1), .val (.int p2), .val (.int p3), .val (.int p4), .val (.int p5), .val (.ref b171), .val (.ref b184), .val (.int ff), .val (.int nn), .val (.int (0 : Int32)), .unset, .unset] [(.int nn), (.int ff), (.int (1 : Int32)), (.int (cs 1)), (.int (own_part (cs 0) (0 : Int32) ff nn))]))
              obtain ⟨_, _, ⟨T199, L199, k199, n199⟩, -, X199, ⟨Lc199, hQ199, l199, y199, z199⟩, st199⟩ := Jvm.LawKit.callS X198 hx (y := (⟨"com/example/nastro/nastro/model/DigitsValuePinLaw", "part", "(CIII)I"⟩ : MethodName)) hown (mvT hZ (hw _ (List.mem_of_getElem? (i := 41) rfl))) (mvT hZ (hw _ (List.mem_of_getElem? (i := 42) rfl))) (mvT hZ (hw _ (List.mem_of_getElem? (i := 3) rfl))) (mvT hZ (hw _ (List.mem_of_getElem? (i := 43) rfl))) (by decide) (backOf (W := 1) (own_rm10 l Z a0 hw [] (cs 1) (1 : Int32) ff nn T185.heap n0 (Nat.le_trans Z0 K185.1)) hZ (hw _ (List.mem_of_getElem? (i := 43) rfl)) (hw _ (List.mem_of_getElem? (i := 3) rfl)) (by decide) (by decide)) (g := (mkF m 206 #[.val (.int p0), .val (.int p1), .val (.int p2), .val (.int p3), .val (.int p4), .val (.int p5), .val (.ref b171), .val (.ref b184), .val (.int ff), .val (.int nn), .val (.int (0 : Int32)), .unset, .unset] [(.int nn), (.int ff), (.int (1 : Int32)), (.int (cs 1)), (.int (own_part (cs 0) (0 : Int32) ff nn))])) rfl (by rw [hml]; rfl) (argsL := [(.int (cs 1)), (.int (1 : Int32)), (.int ff), (.int nn)]) (rest := [(.int (own_part (cs 0) (0 : Int32) ff nn))]) (lenOf own_pd17 rfl) rfl (by show 2 * 0 + _ ≤ _; exact Nat.le_of_eq rfl) (hb hby at_206) (fun _ _ => ⟨rfl, eq198, (by decide : 4 + 0 ≤ _), (by decide : 28 + 0 ≤ _)⟩)
              dsimp only [Pt.U, Pt.locs, Pt.cells, Pt.slots] at X199 l199 y199 z199 st199 hQ199
              subst y199 z199
              obtain ⟨rfl, N199q, eq199⟩ := hQ199
              have N199 : Fr n0 L199 := by rw [l199]; exact Fr.app N198 N199q
              refine own_st (st199) ?_
              show own_Go p.tables e below _ (T199.setTop (mkF m 209 #[.val (.int p0), .val (.int p1), .val (.int p2), .val (.int p3), .val (.int p4), .val (.int p5), .val (.ref b171), .val (.ref b184), .val (.int ff), .val (.int nn), .val (.int (0 : Int32)), .unset, .unset] [(.int (own_part (cs 1) (1 : Int32) ff nn)), (.int (own_part (cs 0) (0 : Int32) ff nn))]))
              refine own_st (fun t_ k_ => XS.iadd X199.here hx rfl (hb hby at_209) rfl k_) ?_
              show own_Go p.tables e below _ (T199.setTop (mkF m 210 #[.val (.int p0), .val (.int p1), .val (.int p2), .val (.int p3), .val (.int p4), .val (.int p5), .val (.ref b171), .val (.ref b184), .val (.int ff), .val (.int nn), .val (.int (0 : Int32)), .unset, .unset] [(.int ((own_part (cs 0) (0 : Int32) ff nn) + (own_part (cs 1) (1 : Int32) ff nn)))]))
              refine own_st (fun t_ k_ => XS.aload X199.here hx rfl (hb hby at_210) rfl rfl k_) ?_
              show own_Go p.tables e below _ (T199.setTop (mkF m 212 #[.val (.int p0), .val (.int p1), .val (.int p2), .val (.int p3), .val (.int p4), .val (.int p5), .val (.ref b171), .val (.ref b184), .val (.int ff), .val (.int nn), .val (.int (0 : Int32)), .unset, .unset] [(.ref b171), (.int ((own_part (cs 0) (0 : Int32) ff nn) + (own_part (cs 1) (1 : Int32) ff nn)))]))
              refine own_st (fun t_ k_ => XS.iconst X199.here hx rfl (hb hby at_212) k_) ?_
              show own_Go p.tables e below _ (T199.setTop (mkF m 213 #[.val (.int p0), .val (.int p1), .val (.int p2), .val (.int p3), .val (.int p4), .val (.int p5), .val (.ref b171), .val (.ref b184), .val (.int ff), .val (.int nn), .val (.int (0 : Int32)), .unset, .unset] [(.int (2 : Int32)), (.ref b171), (.int ((own_part (cs 0) (0 : Int32) ff nn) + (own_part (cs 1) (1 : Int32) ff nn)))]))
              refine own_st (own_caload X199 hx hZ eq199 ((Acs.ext E184).keep Kq185 (ninS (Nat.ne_of_lt (Nat.lt_of_lt_of_le Acs.lt (Nat.le_of_eq g184.symm))) nin0)) (i := 2) (by decide) (by decide) (g := (mkF m 213 #[.val (.int p0), .val (.int p1), .val (.int p2), .val (.int p3), .val (.int p4), .val (.int p5), .val (.ref b171), .val (.ref b184), .val (.int ff), .val (.int nn), .val (.int (0 : Int32)), .unset, .unset] [(.int (2 : Int32)), (.ref b171), (.int ((own_part (cs 0) (0 : Int32) ff nn) + (own_part (cs 1) (1 : Int32) ff nn)))])) rfl rfl (hb hby at_213)) ?_
              show own_Go p.tables e below _ (T199.setTop (mkF m 214 #[.val (.int p0), .val (.int p1), .val (.int p2), .val (.int p3), .val (.int p4), .val (.int p5), .val (.ref b171), .val (.ref b184), .val (.int ff), .val (.int nn), .val (.int (0 : Int32)), .unset, .unset] [(.int (cs 2)), (.int ((own_part (cs 0) (0 : Int32) ff nn) + (own_part (cs 1) (1 : Int32) ff nn)))]))
              refine own_st (fun t_ k_ => XS.iconst X199.here hx rfl (hb hby at_214) k_) ?_
              show own_Go p.tables e below _ (T199.setTop (mkF m 215 #[.val (.int p0), .val (.int p1), .val (.int p2), .val (.int p3), .val (.int p4), .val (.int p5), .val (.ref b171), .val (.ref b184), .val (.int ff), .val (.int nn), .val (.int (0 : Int32)), .unset, .unset] [(.int (2 : Int32)), (.int (cs 2)), (.int ((own_part (cs 0) (0 : Int32) ff nn) + (own_part (cs 1) (1 : Int32) ff nn)))]))
              refine own_st (fun t_ k_ => XS.iload X199.here hx rfl (hb hby at_215) rfl k_) ?_
              show own_Go p.tables e below _ (T199.setTop (mkF m 217 #[.val (.int p0), .val (.int p1), .val (.int p2), .val (.int p3), .val (.int p4), .val (.int p5), .val (.ref b171), .val (.ref b184), .val (.int ff), .val (.int nn), .val (.int (0 : Int32)), .unset, .unset] [(.int ff), (.int (2 : Int32)), (.int (cs 2)), (.int ((own_part (cs 0) (0 : Int32) ff nn) + (own_part (cs 1) (1 : Int32) ff nn)))]))
              refine own_st (fun t_ k_ => XS.iload X199.here hx rfl (hb hby at_217) rfl k_) ?_
              show own_Go p.tables e below _ (T199.setTop (mkF m 219 #[.val (.int p0), .val (.int p1), .val (.int p2), .val (.int p3), .val (.int p4), .val (.int p5), .val (.ref b171), .val (.ref b184), .val (.int ff), .val (.int nn), .val (.int (0 : Int32)), .unset, .unset] [(.int nn), (.int ff), (.int (2 : Int32)), (.int (cs 2)), (.int ((own_part (cs 0) (0 : Int32) ff nn) + (own_part (cs 1) (1 : Int32) ff nn)))]))
              obtain ⟨_, _, ⟨T200, L200, k200, n200⟩, -, X200, ⟨Lc200, hQ200, l200, y200, z200⟩, st200⟩ := Jvm.LawKit.callS X199 hx (y := (⟨"com/example/nastro/nastro/model/DigitsValuePinLaw", "part", "(CIII)I"⟩ : MethodName)) hown (mvT hZ (hw _ (List.mem_of_getElem? (i := 41) rfl))) (mvT hZ (hw _ (List.mem_of_getElem? (i := 42) rfl))) (mvT hZ (hw _ (List.mem_of_getElem? (i := 3) rfl))) (mvT hZ (hw _ (List.mem_of_getElem? (i := 43) rfl))) (by decide) (backOf (W := 1) (own_rm10 l Z a0 hw [] (cs 2) (2 : Int32) ff nn T185.heap n0 (Nat.le_trans Z0 K185.1)) hZ (hw _ (List.mem_of_getElem? (i := 43) rfl)) (hw _ (List.mem_of_getElem? (i := 3) rfl)) (by decide) (by decide)) (g := (mkF m 219 #[.val (.int p0), .val (.int p1), .val (.int p2), .val (.int p3), .val (.int p4), .val (.int p5), .val (.ref b171), .val (.ref b184), .val (.int ff), .val (.int nn), .val (.int (0 : Int32)), .unset, .unset] [(.int nn), (.int ff), (.int (2 : Int32)), (.int (cs 2)), (.int ((own_part (cs 0) (0 : Int32) ff nn) + (own_part (cs 1) (1 : Int32) ff nn)))])) rfl (by rw [hml]; rfl) (argsL := [(.int (cs 2)), (.int (2 : Int32)), (.int ff), (.int nn)]) (rest := [(.int ((own_part (cs 0) (0 : Int32) ff nn) + (own_part (cs 1) (1 : Int32) ff nn)))]) (lenOf own_pd17 rfl) rfl (by show 2 * 0 + _ ≤ _; exact Nat.le_of_eq rfl) (hb hby at_219) (fun _ _ => ⟨rfl, eq199, (by decide : 4 + 0 ≤ _), (by decide : 28 + 0 ≤ _)⟩)
              dsimp only [Pt.U, Pt.locs, Pt.cells, Pt.slots] at X200 l200 y200 z200 st200 hQ200
              subst y200 z200
              obtain ⟨rfl, N200q, eq200⟩ := hQ200
              have N200 : Fr n0 L200 := by rw [l200]; exact Fr.app N199 N200q
              refine own_st (st200) ?_
              show own_Go p.tables e below _ (T200.setTop (mkF m 222 #[.val (.int p0), .val (.int p1), .val (.int p2), .val (.int p3), .val (.int p4), .val (.int p5), .val (.ref b171), .val (.ref b184), .val (.int ff), .val (.int nn), .val (.int (0 : Int32)), .unset, .unset] [(.int (own_part (cs 2) (2 : Int32) ff nn)), (.int ((own_part (cs 0) (0 : Int32) ff nn) + (own_part (cs 1) (1 : Int32) ff nn)))]))
              refine own_st (fun t_ k_ => XS.iadd X200.here hx rfl (hb hby at_222) rfl k_) ?_
              show own_Go p.tables e below _ (T200.setTop (mkF m 223 #[.val (.int p0), .val (.int p1), .val (.int p2), .val (.int p3), .val (.int p4), .val (.int p5), .val (.ref b171), .val (.ref b184), .val (.int ff), .val (.int nn), .val (.int (0 : Int32)), .unset, .unset] [(.int (((own_part (cs 0) (0 : Int32) ff nn) + (own_part (cs 1) (1 : Int32) ff nn)) + (own_part (cs 2) (2 : Int32) ff nn)))]))
              refine own_st (fun t_ k_ => XS.aload X200.here hx rfl (hb hby at_223) rfl rfl k_) ?_
              show own_Go p.tables e below _ (T200.setTop (mkF m 225 #[.val (.int p0), .val (.int p1), .val (.int p2), .val (.int p3), .val (.int p4), .val (.int p5), .val (.ref b171), .val (.ref b184), .val (.int ff), .val (.int nn), .val (.int (0 : Int32)), .unset, .unset] [(.ref b171), (.int (((own_part (cs 0) (0 : Int32) ff nn) + (own_part (cs 1) (1 : Int32) ff nn)) + (own_part (cs 2) (2 : Int32) ff nn)))]))
              refine own_st (fun t_ k_ => XS.iconst X200.here hx rfl (hb hby at_225) k_) ?_
              show own_Go p.tables e below _ (T200.setTop (mkF m 226 #[.val (.int p0), .val (.int p1), .val (.int p2), .val (.int p3), .val (.int p4), .val (.int p5), .val (.ref b171), .val (.ref b184), .val (.int ff), .val (.int nn), .val (.int (0 : Int32)), .unset, .unset] [(.int (3 : Int32)), (.ref b171), (.int (((own_part (cs 0) (0 : Int32) ff nn) + (own_part (cs 1) (1 : Int32) ff nn)) + (own_part (cs 2) (2 : Int32) ff nn)))]))
              refine own_st (own_caload X200 hx hZ eq200 ((Acs.ext E184).keep Kq185 (ninS (Nat.ne_of_lt (Nat.lt_of_lt_of_le Acs.lt (Nat.le_of_eq g184.symm))) nin0)) (i := 3) (by decide) (by decide) (g := (mkF m 226 #[.val (.int p0), .val (.int p1), .val (.int p2), .val (.int p3), .val (.int p4), .val (.int p5), .val (.ref b171), .val (.ref b184), .val (.int ff), .val (.int nn), .val (.int (0 : Int32)), .unset, .unset] [(.int (3 : Int32)), (.ref b171), (.int (((own_part (cs 0) (0 : Int32) ff nn) + (own_part (cs 1) (1 : Int32) ff nn)) + (own_part (cs 2) (2 : Int32) ff nn)))])) rfl rfl (hb hby at_226)) ?_
              show own_Go p.tables e below _ (T200.setTop (mkF m 227 #[.val (.int p0), .val (.int p1), .val (.int p2), .val (.int p3), .val (.int p4), .val (.int p5), .val (.ref b171), .val (.ref b184), .val (.int ff), .val (.int nn), .val (.int (0 : Int32)), .unset, .unset] [(.int (cs 3)), (.int (((own_part (cs 0) (0 : Int32) ff nn) + (own_part (cs 1) (1 : Int32) ff nn)) + (own_part (cs 2) (2 : Int32) ff nn)))]))
              refine own_st (fun t_ k_ => XS.iconst X200.here hx rfl (hb hby at_227) k_) ?_
              show own_Go p.tables e below _ (T200.setTop (mkF m 228 #[.val (.int p0), .val (.int p1), .val (.int p2), .val (.int p3), .val (.int p4), .val (.int p5), .val (.ref b171), .val (.ref b184), .val (.int ff), .val (.int nn), .val (.int (0 : Int32)), .unset, .unset] [(.int (3 : Int32)), (.int (cs 3)), (.int (((own_part (cs 0) (0 : Int32) ff nn) + (own_part (cs 1) (1 : Int32) ff nn)) + (own_part (cs 2) (2 : Int32) ff nn)))]))
              refine own_st (fun t_ k_ => XS.iload X200.here hx rfl (hb hby at_228) rfl k_) ?_
              show own_Go p.tables e below _ (T200.setTop (mkF m 230 #[.val (.int p0), .val (.int p1), .val (.int p2), .val (.int p3), .val (.int p4), .val (.int p5), .val (.ref b171), .val (.ref b184), .val (.int ff), .val (.int nn), .val (.int (0 : Int32)), .unset, .unset] [(.int ff), (.int (3 : Int32)), (.int (cs 3)), (.int (((own_part (cs 0) (0 : Int32) ff nn) + (own_part (cs 1) (1 : Int32) ff nn)) + (own_part (cs 2) (2 : Int32) ff nn)))]))
              refine own_st (fun t_ k_ => XS.iload X200.here hx rfl (hb hby at_230) rfl k_) ?_
              show own_Go p.tables e below _ (T200.setTop (mkF m 232 #[.val (.int p0), .val (.int p1), .val (.int p2), .val (.int p3), .val (.int p4), .val (.int p5), .val (.ref b171), .val (.ref b184), .val (.int ff), .val (.int nn), .val (.int (0 : Int32)), .unset, .unset] [(.int nn), (.int ff), (.int (3 : Int32)), (.int (cs 3)), (.int (((own_part (cs 0) (0 : Int32) ff nn) + (own_part (cs 1) (1 : Int32) ff nn)) + (own_part (cs 2) (2 : Int32) ff nn)))]))
              obtain ⟨_, _, ⟨T201, L201, k201, n201⟩, -, X201, ⟨Lc201, hQ201, l201, y201, z201⟩, st201⟩ := Jvm.LawKit.callS X200 hx (y := (⟨"com/example/nastro/nastro/model/DigitsValuePinLaw", "part", "(CIII)I"⟩ : MethodName)) hown (mvT hZ (hw _ (List.mem_of_getElem? (i := 41) rfl))) (mvT hZ (hw _ (List.mem_of_getElem? (i := 42) rfl))) (mvT hZ (hw _ (List.mem_of_getElem? (i := 3) rfl))) (mvT hZ (hw _ (List.mem_of_getElem? (i := 43) rfl))) (by decide) (backOf (W := 1) (own_rm10 l Z a0 hw [] (cs 3) (3 : Int32) ff nn T185.heap n0 (Nat.le_trans Z0 K185.1)) hZ (hw _ (List.mem_of_getElem? (i := 43) rfl)) (hw _ (List.mem_of_getElem? (i := 3) rfl)) (by decide) (by decide)) (g := (mkF m 232 #[.val (.int p0), .val (.int p1), .val (.int p2), .val (.int p3), .val (.int p4), .val (.int p5), .val (.ref b171), .val (.ref b184), .val (.int ff), .val (.int nn), .val (.int (0 : Int32)), .unset, .unset] [(.int nn), (.int ff), (.int (3 : Int32)), (.int (cs 3)), (.int (((own_part (cs 0) (0 : Int32) ff nn) + (own_part (cs 1) (1 : Int32) ff nn)) + (own_part (cs 2) (2 : Int32) ff nn)))])) rfl (by rw [hml]; rfl) (argsL := [(.int (cs 3)), (.int (3 : Int32)), (.int ff), (.int nn)]) (rest := [(.int (((own_part (cs 0) (0 : Int32) ff nn) + (own_part (cs 1) (1 : Int32) ff nn)) + (own_part (cs 2) (2 : Int32) ff nn)))]) (lenOf own_pd17 rfl) rfl (by show 2 * 0 + _ ≤ _; exact Nat.le_of_eq rfl) (hb hby at_232) (fun _ _ => ⟨rfl, eq200, (by decide : 4 + 0 ≤ _), (by decide : 28 + 0 ≤ _)⟩)
              dsimp only [Pt.U, Pt.locs, Pt.cells, Pt.slots] at X201 l201 y201 z201 st201 hQ201
              subst y201 z201
              obtain ⟨rfl, N201q, eq201⟩ := hQ201
              have N201 : Fr n0 L201 := by rw [l201]; exact Fr.app N200 N201q
              refine own_st (st201) ?_
              show own_Go p.tables e below _ (T201.setTop (mkF m 235 #[.val (.int p0), .val (.int p1), .val (.int p2), .val (.int p3), .val (.int p4), .val (.int p5), .val (.ref b171), .val (.ref b184), .val (.int ff), .val (.int nn), .val (.int (0 : Int32)), .unset, .unset] [(.int (own_part (cs 3) (3 : Int32) ff nn)), (.int (((own_part (cs 0) (0 : Int32) ff nn) + (own_part (cs 1) (1 : Int32) ff nn)) + (own_part (cs 2) (2 : Int32) ff nn)))]))
              refine own_st (fun t_ k_ => XS.iadd X201.here hx rfl (hb hby at_235) rfl k_) ?_
              show own_Go p.tables e below _ (T201.setTop (mkF m 236 #[.val (.int p0), .val (.int p1), .val (.int p2), .val (.int p3), .val (.int p4), .val (.int p5), .val (.ref b171), .val (.ref b184), .val (.int ff), .val (.int nn), .val (.int (0 : Int32)), .unset, .unset] [(.int ((((own_part (cs 0) (0 : Int32) ff nn) + (own_part (cs 1) (1 : Int32) ff nn)) + (own_part (cs 2) (2 : Int32) ff nn)) + (own_part (cs 3) (3 : Int32) ff nn)))]))
              refine own_st (fun t_ k_ => XS.aload X201.here hx rfl (hb hby at_236) rfl rfl k_) ?_
              show own_Go p.tables e below _ (T201.setTop (mkF m 238 #[.val (.int p0), .val (.int p1), .val (.int p2), .val (.int p3), .val (.int p4), .val (.int p5), .val (.ref b171), .val (.ref b184), .val (.int ff), .val (.int nn), .val (.int (0 : Int32)), .unset, .unset] [(.ref b171), (.int ((((own_part (cs 0) (0 : Int32) ff nn) + (own_part (cs 1) (1 : Int32) ff nn)) + (own_part (cs 2) (2 : Int32) ff nn)) + (own_part (cs 3) (3 : Int32) ff nn)))]))
              refine own_st (fun t_ k_ => XS.iconst X201.here hx rfl (hb hby at_238) k_) ?_
              show own_Go p.tables e below _ (T201.setTop (mkF m 239 #[.val (.int p0), .val (.int p1), .val (.int p2), .val (.int p3), .val (.int p4), .val (.int p5), .val (.ref b171), .val (.ref b184), .val (.int ff), .val (.int nn), .val (.int (0 : Int32)), .unset, .unset] [(.int (4 : Int32)), (.ref b171), (.int ((((own_part (cs 0) (0 : Int32) ff nn) + (own_part (cs 1) (1 : Int32) ff nn)) + (own_part (cs 2) (2 : Int32) ff nn)) + (own_part (cs 3) (3 : Int32) ff nn)))]))
              refine own_st (own_caload X201 hx hZ eq201 ((Acs.ext E184).keep Kq185 (ninS (Nat.ne_of_lt (Nat.lt_of_lt_of_le Acs.lt (Nat.le_of_eq g184.symm))) nin0)) (i := 4) (by decide) (by decide) (g := (mkF m 239 #[.val (.int p0), .val (.int p1), .val (.int p2), .val (.int p3), .val (.int p4), .val (.int p5), .val (.ref b171), .val (.ref b184), .val (.int ff), .val (.int nn), .val (.int (0 : Int32)), .unset, .unset] [(.int (4 : Int32)), (.ref b171), (.int ((((own_part (cs 0) (0 : Int32) ff nn) + (own_part (cs 1) (1 : Int32) ff nn)) + (own_part (cs 2) (2 : Int32) ff nn)) + (own_part (cs 3) (3 : Int32) ff nn)))])) rfl rfl (hb hby at_239)) ?_
              show own_Go p.tables e below _ (T201.setTop (mkF m 240 #[.val (.int p0), .val (.int p1), .val (.int p2), .val (.int p3), .val (.int p4), .val (.int p5), .val (.ref b171), .val (.ref b184), .val (.int ff), .val (.int nn), .val (.int (0 : Int32)), .unset, .unset] [(.int (cs 4)), (.int ((((own_part (cs 0) (0 : Int32) ff nn) + (own_part (cs 1) (1 : Int32) ff nn)) + (own_part (cs 2) (2 : Int32) ff nn)) + (own_part (cs 3) (3 : Int32) ff nn)))]))
              refine own_st (fun t_ k_ => XS.iconst X201.here hx rfl (hb hby at_240) k_) ?_
              show own_Go p.tables e below _ (T201.setTop (mkF m 241 #[.val (.int p0), .val (.int p1), .val (.int p2), .val (.int p3), .val (.int p4), .val (.int p5), .val (.ref b171), .val (.ref b184), .val (.int ff), .val (.int nn), .val (.int (0 : Int32)), .unset, .unset] [(.int (4 : Int32)), (.int (cs 4)), (.int ((((own_part (cs 0) (0 : Int32) ff nn) + (own_part (cs 1) (1 : Int32) ff nn)) + (own_part (cs 2) (2 : Int32) ff nn)) + (own_part (cs 3) (3 : Int32) ff nn)))]))
              refine own_st (fun t_ k_ => XS.iload X201.here hx rfl (hb hby at_241) rfl k_) ?_
              show own_Go p.tables e below _ (T201.setTop (mkF m 243 #[.val (.int p0), .val (.int p1), .val (.int p2), .val (.int p3), .val (.int p4), .val (.int p5), .val (.ref b171), .val (.ref b184), .val (.int ff), .val (.int nn), .val (.int (0 : Int32)), .unset, .unset] [(.int ff), (.int (4 : Int32)), (.int (cs 4)), (.int ((((own_part (cs 0) (0 : Int32) ff nn) + (own_part (cs 1) (1 : Int32) ff nn)) + (own_part (cs 2) (2 : Int32) ff nn)) + (own_part (cs 3) (3 : Int32) ff nn)))]))
              refine own_st (fun t_ k_ => XS.iload X201.here hx rfl (hb hby at_243) rfl k_) ?_
              show own_Go p.tables e below _ (T201.setTop (mkF m 245 #[.val (.int p0), .val (.int p1), .val (.int p2), .val (.int p3), .val (.int p4), .val (.int p5), .val (.ref b171), .val (.ref b184), .val (.int ff), .val (.int nn), .val (.int (0 : Int32)), .unset, .unset] [(.int nn), (.int ff), (.int (4 : Int32)), (.int (cs 4)), (.int ((((own_part (cs 0) (0 : Int32) ff nn) + (own_part (cs 1) (1 : Int32) ff nn)) + (own_part (cs 2) (2 : Int32) ff nn)) + (own_part (cs 3) (3 : Int32) ff nn)))]))
              obtain ⟨_, _, ⟨T202, L202, k202, n202⟩, -, X202, ⟨Lc202, hQ202, l202, y202, z202⟩, st202⟩ := Jvm.LawKit.callS X201 hx (y := (⟨"com/example/nastro/nastro/model/DigitsValuePinLaw", "part", "(CIII)I"⟩ : MethodName)) hown (mvT hZ (hw _ (List.mem_of_getElem? (i := 41) rfl))) (mvT hZ (hw _ (List.mem_of_getElem? (i := 42) rfl))) (mvT hZ (hw _ (List.mem_of_getElem? (i := 3) rfl))) (mvT hZ (hw _ (List.mem_of_getElem? (i := 43) rfl))) (by decide) (backOf (W := 1) (own_rm10 l Z a0 hw [] (cs 4) (4 : Int32) ff nn T185.heap n0 (Nat.le_trans Z0 K185.1)) hZ (hw _ (List.mem_of_getElem? (i := 43) rfl)) (hw _ (List.mem_of_getElem? (i := 3) rfl)) (by decide) (by decide)) (g := (mkF m 245 #[.val (.int p0), .val (.int p1), .val (.int p2), .val (.int p3), .val (.int p4), .val (.int p5), .val (.ref b171), .val (.ref b184), .val (.int ff), .val (.int nn), .val (.int (0 : Int32)), .unset, .unset] [(.int nn), (.int ff), (.int (4 : Int32)), (.int (cs 4)), (.int ((((own_part (cs 0) (0 : Int32) ff nn) + (own_part (cs 1) (1 : Int32) ff nn)) + (own_part (cs 2) (2 : Int32) ff nn)) + (own_part (cs 3) (3 : Int32) ff nn)))])) rfl (by rw [hml]; rfl) (argsL := [(.int (cs 4)), (.int (4 : Int32)), (.int ff), (.int nn)]) (rest := [(.int ((((own_part (cs 0) (0 : Int32) ff nn) + (own_part (cs 1) (1 : Int32) ff nn)) + (own_part (cs 2) (2 : Int32) ff nn)) + (own_part (cs 3) (3 : Int32) ff nn)))]) (lenOf own_pd17 rfl) rfl (by show 2 * 0 + _ ≤ _; exact Nat.le_of_eq rfl) (hb hby at_245) (fun _ _ => ⟨rfl, eq201, (by decide : 4 + 0 ≤ _), (by decide : 28 + 0 ≤ _)⟩)
              dsimp only [Pt.U, Pt.locs, Pt.cells, Pt.slots] at X202 l202 y202 z202 st202 hQ202
              subst y202 z202
              obtain ⟨rfl, N202q, eq202⟩ := hQ202
              have N202 : Fr n0 L202 := by rw [l202]; exact Fr.app N201 N202q
              refine own_st (st202) ?_
              show own_Go p.tables e below _ (T202.setTop (mkF m 248 #[.val (.int p0), .val (.int p1), .val (.int p2), .val (.int p3), .val (.int p4), .val (.int p5), .val (.ref b171), .val (.ref b184), .val (.int ff), .val (.int nn), .val (.int (0 : Int32)), .unset, .unset] [(.int (own_part (cs 4) (4 : Int32) ff nn)), (.int ((((own_part (cs 0) (0 : Int32) ff nn) + (own_part (cs 1) (1 : Int32) ff nn)) + (own_part (cs 2) (2 : Int32) ff nn)) + (own_part (cs 3) (3 : Int32) ff nn)))]))
              refine own_st (fun t_ k_ => XS.iadd X202.here hx rfl (hb hby at_248) rfl k_) ?_
              show own_Go p.tables e below _ (T202.setTop (mkF m 249 #[.val (.int p0), .val (.int p1), .val (.int p2), .val (.int p3), .val (.int p4), .val (.int p5), .val (.ref b171), .val (.ref b184), .val (.int ff), .val (.int nn), .val (.int (0 : Int32)), .unset, .unset] [(.int (((((own_part (cs 0) (0 : Int32) ff nn) + (own_part (cs 1) (1 : Int32) ff nn)) + (own_part (cs 2) (2 : Int32) ff nn)) + (own_part (cs 3) (3 : Int32) ff nn)) + (own_part (cs 4) (4 : Int32) ff nn)))]))
              refine own_st (fun t_ k_ => XS.aload X202.here hx rfl (hb hby at_249) rfl rfl k_) ?_
              show own_Go p.tables e below _ (T202.setTop (mkF m 251 #[.val (.int p0), .val (.int p1), .val (.int p2), .val (.int p3), .val (.int p4), .val (.int p5), .val (.ref b171), .val (.ref b184), .val (.int ff), .val (.int nn), .val (.int (0 : Int32)), .unset, .unset] [(.ref b171), (.int (((((own_part (cs 0) (0 : Int32) ff nn) + (own_part (cs 1) (1 : Int32) ff nn)) + (own_part (cs 2) (2 : Int32) ff nn)) + (own_part (cs 3) (3 : Int32) ff nn)) + (own_part (cs 4) (4 : Int32) ff nn)))]))
              refine own_st (fun t_ k_ => XS.iconst X202.here hx rfl (hb hby at_251) k_) ?_
              show own_Go p.tables e below _ (T202.setTop (mkF m 252 #[.val (.int p0), .val (.int p1), .val (.int p2), .val (.int p3), .val (.int p4), .val (.int p5), .val (.ref b171), .val (.ref b184), .val (.int ff), .val (.int nn), .val (.int (0 : Int32)), .unset, .unset] [(.int (5 : Int32)), (.ref b171), (.int (((((own_part (cs 0) (0 : Int32) ff nn) + (own_part (cs 1) (1 : Int32) ff nn)) + (own_part (cs 2) (2 : Int32) ff nn)) + (own_part (cs 3) (3 : Int32) ff nn)) + (own_part (cs 4) (4 : Int32) ff nn)))]))
              refine own_st (own_caload X202 hx hZ eq202 ((Acs.ext E184).keep Kq185 (ninS (Nat.ne_of_lt (Nat.lt_of_lt_of_le Acs.lt (Nat.le_of_eq g184.symm))) nin0)) (i := 5) (by decide) (by decide) (g := (mkF m 252 #[.val (.int p0), .val (.int p1), .val (.int p2), .val (.int p3), .val (.int p4), .val (.int p5), .val (.ref b171), .val (.ref b184), .val (.int ff), .val (.int nn), .val (.int (0 : Int32)), .unset, .unset] [(.int (5 : Int32)), (.ref b171), (.int (((((own_part (cs 0) (0 : Int32) ff nn) + (own_part (cs 1) (1 : Int32) ff nn)) + (own_part (cs 2) (2 : Int32) ff nn)) + (own_part (cs 3) (3 : Int32) ff nn)) + (own_part (cs 4) (4 : Int32) ff nn)))])) rfl rfl (hb hby at_252)) ?_
              show own_Go p.tables e below _ (T202.setTop (mkF m 253 #[.val (.int p0), .val (.int p1), .val (.int p2), .val (.int p3), .val (.int p4), .val (.int p5), .val (.ref b171), .val (.ref b184), .val (.int ff), .val (.int nn), .val (.int (0 : Int32)), .unset, .unset] [(.int (cs 5)), (.int (((((own_part (cs 0) (0 : Int32) ff nn) + (own_part (cs 1) (1 : Int32) ff nn)) + (own_part (cs 2) (2 : Int32) ff nn)) + (own_part (cs 3) (3 : Int32) ff nn)) + (own_part (cs 4) (4 : Int32) ff nn)))]))
              refine own_st (fun t_ k_ => XS.iconst X202.here hx rfl (hb hby at_253) k_) ?_
              show own_Go p.tables e below _ (T202.setTop (mkF m 254 #[.val (.int p0), .val (.int p1), .val (.int p2), .val (.int p3), .val (.int p4), .val (.int p5), .val (.ref b171), .val (.ref b184), .val (.int ff), .val (.int nn), .val (.int (0 : Int32)), .unset, .unset] [(.int (5 : Int32)), (.int (cs 5)), (.int (((((own_part (cs 0) (0 : Int32) ff nn) + (own_part (cs 1) (1 : Int32) ff nn)) + (own_part (cs 2) (2 : Int32) ff nn)) + (own_part (cs 3) (3 : Int32) ff nn)) + (own_part (cs 4) (4 : Int32) ff nn)))]))
              refine own_st (fun t_ k_ => XS.iload X202.here hx rfl (hb hby at_254) rfl k_) ?_
              show own_Go p.tables e below _ (T202.setTop (mkF m 256 #[.val (.int p0), .val (.int p1), .val (.int p2), .val (.int p3), .val (.int p4), .val (.int p5), .val (.ref b171), .val (.ref b184), .val (.int ff), .val (.int nn), .val (.int (0 : Int32)), .unset, .unset] [(.int ff), (.int (5 : Int32)), (.int (cs 5)), (.int (((((own_part (cs 0) (0 : Int32) ff nn) + (own_part (cs 1) (1 : Int32) ff nn)) + (own_part (cs 2) (2 : Int32) ff nn)) + (own_part (cs 3) (3 : Int32) ff nn)) + (own_part (cs 4) (4 : Int32) ff nn)))]))
              refine own_st (fun t_ k_ => XS.iload X202.here hx rfl (hb hby at_256) rfl k_) ?_
              show own_Go p.tables e below _ (T202.setTop (mkF m 258 #[.val (.int p0), .val (.int p1), .val (.int p2), .val (.int p3), .val (.int p4), .val (.int p5), .val (.ref b171), .val (.ref b184), .val (.int ff), .val (.int nn), .val (.int (0 : Int32)), .unset, .unset] [(.int nn), (.int ff), (.int (5 : Int32)), (.int (cs 5)), (.int (((((own_part (cs 0) (0 : Int32) ff nn) + (own_part (cs 1) (1 : Int32) ff nn)) + (own_part (cs 2) (2 : Int32) ff nn)) + (own_part (cs 3) (3 : Int32) ff nn)) + (own_part (cs 4) (4 : Int32) ff nn)))]))
              obtain ⟨_, _, ⟨T203, L203, k203, n203⟩, -, X203, ⟨Lc203, hQ203, l203, y203, z203⟩, st203⟩ := Jvm.LawKit.callS X202 hx (y := (⟨"com/example/nastro/nastro/model/DigitsValuePinLaw", "part", "(CIII)I"⟩ : MethodName)) hown (mvT hZ (hw _ (List.mem_of_getElem? (i := 41) rfl))) (mvT hZ (hw _ (List.mem_of_getElem? (i := 42) rfl))) (mvT hZ (hw _ (List.mem_of_getElem? (i := 3) rfl))) (mvT hZ (hw _ (List.mem_of_getElem? (i := 43) rfl))) (by decide) (backOf (W := 1) (own_rm10 l Z a0 hw [] (cs 5) (5 : Int32) ff nn T185.heap n0 (Nat.le_trans Z0 K185.1)) hZ (hw _ (List.mem_of_getElem? (i := 43) rfl)) (hw _ (List.mem_of_getElem? (i := 3) rfl)) (by decide) (by decide)) (g := (mkF m 258 #[.val (.int p0), .val (.int p1), .val (.int p2), .val (.int p3), .val (.int p4), .val (.int p5), .val (.ref b171), .val (.ref b184), .val (.int ff), .val (.int nn), .val (.int (0 : Int32)), .unset, .unset] [(.int nn), (.int ff), (.int (5 : Int32)), (.int (cs 5)), (.int (((((own_part (cs 0) (0 : Int32) ff nn) + (own_part (cs 1) (1 : Int32) ff nn)) + (own_part (cs 2) (2 : Int32) ff nn)) + (own_part (cs 3) (3 : Int32) ff nn)) + (own_part (cs 4) (4 : Int32) ff nn)))])) rfl (by rw [hml]; rfl) (argsL := [(.int (cs 5)), (.int (5 : Int32)), (.int ff), (.int nn)]) (rest := [(.int (((((own_part (cs 0) (0 : Int32) ff nn) + (own_part (cs 1) (1 : Int32) ff nn)) + (own_part (cs 2) (2 : Int32) ff nn)) + (own_part (cs 3) (3 : Int32) ff nn)) + (own_part (cs 4) (4 : Int32) ff nn)))]) (lenOf own_pd17 rfl) rfl (by show 2 * 0 + _ ≤ _; exact Nat.le_of_eq rfl) (hb hby at_258) (fun _ _ => ⟨rfl, eq202, (by decide : 4 + 0 ≤ _), (by decide : 28 + 0 ≤ _)⟩)
              dsimp only [Pt.U, Pt.locs, Pt.cells, Pt.slots] at X203 l203 y203 z203 st203 hQ203
              subst y203 z203
              obtain ⟨rfl, N203q, eq203⟩ := hQ203
              have N203 : Fr n0 L203 := by rw [l203]; exact Fr.app N202 N203q
              refine own_st (st203) ?_
              show own_Go p.tables e below _ (T203.setTop (mkF m 261 #[.val (.int p0), .val (.int p1), .val (.int p2), .val (.int p3), .val (.int p4), .val (.int p5), .val (.ref b171), .val (.ref b184), .val (.int ff), .val (.int nn), .val (.int (0 : Int32)), .unset, .unset] [(.int (own_part (cs 5) (5 : Int32) ff nn)), (.int (((((own_part (cs 0) (0 : Int32) ff nn) + (own_part (cs 1) (1 : Int32) ff nn)) + (own_part (cs 2) (2 : Int32) ff nn)) + (own_part (cs 3) (3 : Int32) ff nn)) + (own_part (cs 4) (4 : Int32) ff nn)))]))
              refine own_st (fun t_ k_ => XS.iadd X203.here hx rfl (hb hby at_261) rfl k_) ?_
              show own_Go p.tables e below _ (T203.setTop (mkF m 262 #[.val (.int p0), .val (.int p1), .val (.int p2), .val (.int p3), .val (.int p4), .val (.int p5), .val (.ref b171), .val (.ref b184), .val (.int ff), .val (.int nn), .val (.int (0 : Int32)), .unset, .unset] [(.int ((((((own_part (cs 0) (0 : Int32) ff nn) + (own_part (cs 1) (1 : Int32) ff nn)) + (own_part (cs 2) (2 : Int32) ff nn)) + (own_part (cs 3) (3 : Int32) ff nn)) + (own_part (cs 4) (4 : Int32) ff nn)) + (own_part (cs 5) (5 : Int32) ff nn)))]))
              refine own_st (fun t_ k_ => XS.istore X203.here hx rfl (hb hby at_262) rfl (l' := #[.val (.int p0), .val (.int p1), .val (.int p2), .val (.int p3), .val (.int p4), .val (.int p5), .val (.ref b171), .val (.ref b184), .val (.int ff), .val (.int nn), .val (.int (0 : Int32)), .val (.int ((((((own_part (cs 0) (0 : Int32) ff nn) + (own_part (cs 1) (1 : Int32) ff nn)) + (own_part (cs 2) (2 : Int32) ff nn)) + (own_part (cs 3) (3 : Int32) ff nn)) + (own_part (cs 4) (4 : Int32) ff nn)) + (own_part (cs 5) (5 : Int32) ff nn))), .unset]) rfl k_) ?_
              show own_Go p.tables e below _ (T203.setTop (mkF m 264 #[.val (.int p0), .val (.int p1), .val (.int p2), .val (.int p3), .val (.int p4), .val (.int p5), .val (.ref b171), .val (.ref b184), .val (.int ff), .val (.int nn), .val (.int (0 : Int32)), .val (.int ((((((own_part (cs 0) (0 : Int32) ff nn) + (own_part (cs 1) (1 : Int32) ff nn)) + (own_part (cs 2) (2 : Int32) ff nn)) + (own_part (cs 3) (3 : Int32) ff nn)) + (own_part (cs 4) (4 : Int32) ff nn)) + (own_part (cs 5) (5 : Int32) ff nn))), .unset] []))
              refine own_st (fun t_ k_ => XS.iload X203.here hx rfl (hb hby at_264) rfl k_) ?_
              show own_Go p.tables e below _ (T203.setTop (mkF m 266 #[.val (.int p0), .val (.int p1), .val (.int p2), .val (.int p3), .val (.int p4), .val (.int p5), .val (.ref b171), .val (.ref b184), .val (.int ff), .val (.int nn), .val (.int (0 : Int32)), .val (.int ((((((own_part (cs 0) (0 : Int32) ff nn) + (own_part (cs 1) (1 : Int32) ff nn)) + (own_part (cs 2) (2 : Int32) ff nn)) + (own_part (cs 3) (3 : Int32) ff nn)) + (own_part (cs 4) (4 : Int32) ff nn)) + (own_part (cs 5) (5 : Int32) ff nn))), .unset] [(.int (0 : Int32))]))
              refine own_st (fun t_ k_ => XS.ifYes X203.here hx rfl (pc0 := 266) (pc' := 273) rfl (hb hby at_266) rfl ((if0 _ _).trans (teq (by decide : (0 : Int32) = (0 : Int32))).1) (by decide) (by decide) k_) ?_
              show own_Go p.tables e below _ (T203.setTop (mkF m 273 #[.val (.int p0), .val (.int p1), .val (.int p2), .val (.int p3), .val (.int p4), .val (.int p5), .val (.ref b171), .val (.ref b184), .val (.int ff), .val (.int nn), .val (.int (0 : Int32)), .val (.int ((((((own_part (cs 0) (0 : Int32) ff nn) + (own_part (cs 1) (1 : Int32) ff nn)) + (own_part (cs 2) (2 : Int32) ff nn)) + (own_part (cs 3) (3 : Int32) ff nn)) + (own_part (cs 4) (4 : Int32) ff nn)) + (own_part (cs 5) (5 : Int32) ff nn))), .unset] []))
              refine own_st (fun t_ k_ => XS.iload X203.here hx rfl (hb hby at_273) rfl k_) ?_
              show own_Go p.tables e below _ (T203.setTop (mkF m 275 #[.val (.int p0), .val (.int p1), .val (.int p2), .val (.int p3), .val (.int p4), .val (.int p5), .val (.ref b171), .val (.ref b184), .val (.int ff), .val (.int nn), .val (.int (0 : Int32)), .val (.int ((((((own_part (cs 0) (0 : Int32) ff nn) + (own_part (cs 1) (1 : Int32) ff nn)) + (own_part (cs 2) (2 : Int32) ff nn)) + (own_part (cs 3) (3 : Int32) ff nn)) + (own_part (cs 4) (4 : Int32) ff nn)) + (own_part (cs 5) (5 : Int32) ff nn))), .unset] [(.int ((((((own_part (cs 0) (0 : Int32) ff nn) + (own_part (cs 1) (1 : Int32) ff nn)) + (own_part (cs 2) (2 : Int32) ff nn)) + (own_part (cs 3) (3 : Int32) ff nn)) + (own_part (cs 4) (4 : Int32) ff nn)) + (own_part (cs 5) (5 : Int32) ff nn)))]))
              refine own_st (fun t_ k_ => XS.istore X203.here hx rfl (hb hby at_275) rfl (l' := #[.val (.int p0), .val (.int p1), .val (.int p2), .val (.int p3), .val (.int p4), .val (.int p5), .val (.ref b171), .val (.ref b184), .val (.int ff), .val (.int nn), .val (.int (0 : Int32)), .val (.int ((((((own_part (cs 0) (0 : Int32) ff nn) + (own_part (cs 1) (1 : Int32) ff nn)) + (own_part (cs 2) (2 : Int32) ff nn)) + (own_part (cs 3) (3 : Int32) ff nn)) + (own_part (cs 4) (4 : Int32) ff nn)) + (own_part (cs 5) (5 : Int32) ff nn))), .val (.int ((((((own_part (cs 0) (0 : Int32) ff nn) + (own_part (cs 1) (1 : Int32) ff nn)) + (own_part (cs 2) (2 : Int32) ff nn)) + (own_part (cs 3) (3 : Int32) ff nn)) + (own_part (cs 4) (4 : Int32) ff nn)) + (own_part (cs 5) (5 : Int32) ff nn)))]) rfl k_) ?_
              show own_Go p.tables e below _ (T203.setTop (mkF m 277 #[.val (.int p0), .val (.int p1), .val (.int p2), .val (.int p3), .val (.int p4), .val (.int p5), .val (.ref b171), .val (.ref b184), .val (.int ff), .val (.int nn), .val (.int (0 : Int32)), .val (.int ((((((own_part (cs 0) (0 : Int32) ff nn) + (own_part (cs 1) (1 : Int32) ff nn)) + (own_part (cs 2) (2 : Int32) ff nn)) + (own_part (cs 3) (3 : Int32) ff nn)) + (own_part (cs 4) (4 : Int32) ff nn)) + (own_part (cs 5) (5 : Int32) ff nn))), .val (.int ((((((own_part (cs 0) (0 : Int32) ff nn) + (own_part (cs 1) (1 : Int32) ff nn)) + (own_part (cs 2) (2 : Int32) ff nn)) + (own_part (cs 3) (3 : Int32) ff nn)) + (own_part (cs 4) (4 : Int32) ff nn)) + (own_part (cs 5) (5 : Int32) ff nn)))] []))
              refine own_st (fun t_ k_ => XS.aload X203.here hx rfl (hb hby at_277) rfl rfl k_) ?_
              show own_Go p.tables e below _ (T203.setTop (mkF m 279 #[.val (.int p0), .val (.int p1), .val (.int p2), .val (.int p3), .val (.int p4), .val (.int p5), .val (.ref b171), .val (.ref b184), .val (.int ff), .val (.int nn), .val (.int (0 : Int32)), .val (.int ((((((own_part (cs 0) (0 : Int32) ff nn) + (own_part (cs 1) (1 : Int32) ff nn)) + (own_part (cs 2) (2 : Int32) ff nn)) + (own_part (cs 3) (3 : Int32) ff nn)) + (own_part (cs 4) (4 : Int32) ff nn)) + (own_part (cs 5) (5 : Int32) ff nn))), .val (.int ((((((own_part (cs 0) (0 : Int32) ff nn) + (own_part (cs 1) (1 : Int32) ff nn)) + (own_part (cs 2) (2 : Int32) ff nn)) + (own_part (cs 3) (3 : Int32) ff nn)) + (own_part (cs 4) (4 : Int32) ff nn)) + (own_part (cs 5) (5 : Int32) ff nn)))] [(.ref b184)]))
              refine own_st (fun t_ k_ => XS.iload X203.here hx rfl (hb hby at_279) rfl k_) ?_
              show own_Go p.tables e below _ (T203.setTop (mkF m 281 #[.val (.int p0), .val (.int p1), .val (.int p2), .val (.int p3), .val (.int p4), .val (.int p5), .val (.ref b171), .val (.ref b184), .val (.int ff), .val (.int nn), .val (.int (0 : Int32)), .val (.int ((((((own_part (cs 0) (0 : Int32) ff nn) + (own_part (cs 1) (1 : Int32) ff nn)) + (own_part (cs 2) (2 : Int32) ff nn)) + (own_part (cs 3) (3 : Int32) ff nn)) + (own_part (cs 4) (4 : Int32) ff nn)) + (own_part (cs 5) (5 : Int32) ff nn))), .val (.int ((((((own_part (cs 0) (0 : Int32) ff nn) + (own_part (cs 1) (1 : Int32) ff nn)) + (own_part (cs 2) (2 : Int32) ff nn)) + (own_part (cs 3) (3 : Int32) ff nn)) + (own_part (cs 4) (4 : Int32) ff nn)) + (own_part (cs 5) (5 : Int32) ff nn)))] [(.int ff), (.ref b184)]))
              refine own_st (fun t_ k_ => XS.iload X203.here hx rfl (hb hby at_281) rfl k_) ?_
              show own_Go p.tables e below _ (T203.setTop (mkF m 283 #[.val (.int p0), .val (.int p1), .val (.int p2), .val (.int p3), .val (.int p4), .val (.int p5), .val (.ref b171), .val (.ref b184), .val (.int ff), .val (.int nn), .val (.int (0 : Int32)), .val (.int ((((((own_part (cs 0) (0 : Int32) ff nn) + (own_part (cs 1) (1 : Int32) ff nn)) + (own_part (cs 2) (2 : Int32) ff nn)) + (own_part (cs 3) (3 : Int32) ff nn)) + (own_part (cs 4) (4 : Int32) ff nn)) + (own_part (cs 5) (5 : Int32) ff nn))), .val (.int ((((((own_part (cs 0) (0 : Int32) ff nn) + (own_part (cs 1) (1 : Int32) ff nn)) + (own_part (cs 2) (2 : Int32) ff nn)) + (own_part (cs 3) (3 : Int32) ff nn)) + (own_part (cs 4) (4 : Int32) ff nn)) + (own_part (cs 5) (5 : Int32) ff nn)))] [(.int nn), (.int ff), (.ref b184)]))
              obtain ⟨_, _, ⟨T204, L204, k204, n204⟩, -, X204, ⟨Lc204, hQ204, l204, y204, z204⟩, st204⟩ := Jvm.LawKit.callS X203 hx (y := (⟨"com/example/nastro/nastro/model/Digits", "value", "(Ljava/lang/String;II)I"⟩ : MethodName)) hown (mvT hZ (hw _ (List.mem_of_getElem? (i := 44) rfl))) (mvT hZ (hw _ (List.mem_of_getElem? (i := 45) rfl))) (mvT hZ (hw _ (List.mem_of_getElem? (i := 46) rfl))) (mvT hZ (hw _ (List.mem_of_getElem? (i := 47) rfl))) (by decide) (backOf (W := 0) (own_rm11 l Z a0 hw [] b184 ff nn t_185 kt_185 cd_185 6 cs fm ct G1 G3 T185.heap n0 (Nat.le_trans Z0 K185.1) (A184.keep Kq185) P185_1 P185_2 P185_3 P185_4 (((((((((q0.ext E171).wr W173 ge171).wr W175 ge171).wr W177 ge171).wr W179 ge171).wr W181 ge171).wr W183 ge171).ext E184).keep Kq185 (allS ge184 all0)) q1 hG1 q3 rG3 q5 q6 q7 hall ⟨hfm, hct, (by omega), (by decide)⟩) hZ (hw _ (List.mem_of_getElem? (i := 47) rfl)) (hw _ (List.mem_of_getElem? (i := 46) rfl)) (by decide) (by decide)) (g := (mkF m 283 #[.val (.int p0), .val (.int p1), .val (.int p2), .val (.int p3), .val (.int p4), .val (.int p5), .val (.ref b171), .val (.ref b184), .val (.int ff), .val (.int nn), .val (.int (0 : Int32)), .val (.int ((((((own_part (cs 0) (0 : Int32) ff nn) + (own_part (cs 1) (1 : Int32) ff nn)) + (own_part (cs 2) (2 : Int32) ff nn)) + (own_part (cs 3) (3 : Int32) ff nn)) + (own_part (cs 4) (4 : Int32) ff nn)) + (own_part (cs 5) (5 : Int32) ff nn))), .val (.int ((((((own_part (cs 0) (0 : Int32) ff nn) + (own_part (cs 1) (1 : Int32) ff nn)) + (own_part (cs 2) (2 : Int32) ff nn)) + (own_part (cs 3) (3 : Int32) ff nn)) + (own_part (cs 4) (4 : Int32) ff nn)) + (own_part (cs 5) (5 : Int32) ff nn)))] [(.int nn), (.int ff), (.ref b184)])) rfl (by rw [hml]; rfl) (argsL := [(.ref b184), (.int ff), (.int nn)]) (rest := []) (lenOf own_pd18 rfl) rfl (by show 2 * 0 + _ ≤ _; exact Nat.le_of_eq rfl) (hb hby at_283) (fun _ _ => ⟨rfl, eq203, (by decide : 4 + 0 ≤ _), (by decide : 28 + 0 ≤ _)⟩)
              dsimp only [Pt.U, Pt.locs, Pt.cells, Pt.slots] at X204 l204 y204 z204 st204 hQ204
              subst y204 z204
              obtain ⟨rfl, N204q, eq204⟩ := hQ204
              have N204 : Fr n0 L204 := by rw [l204]; exact Fr.app N203 N204q
              refine own_st (st204) ?_
              show own_Go p.tables e below _ (T204.setTop (mkF m 286 #[.val (.int p0), .val (.int p1), .val (.int p2), .val (.int p3), .val (.int p4), .val (.int p5), .val (.ref b171), .val (.ref b184), .val (.int ff), .val (.int nn), .val (.int (0 : Int32)), .val (.int ((((((own_part (cs 0) (0 : Int32) ff nn) + (own_part (cs 1) (1 : Int32) ff nn)) + (own_part (cs 2) (2 : Int32) ff nn)) + (own_part (cs 3) (3 : Int32) ff nn)) + (own_part (cs 4) (4 : Int32) ff nn)) + (own_part (cs 5) (5 : Int32) ff nn))), .val (.int ((((((own_part (cs 0) (0 : Int32) ff nn) + (own_part (cs 1) (1 : Int32) ff nn)) + (own_part (cs 2) (2 : Int32) ff nn)) + (own_part (cs 3) (3 : Int32) ff nn)) + (own_part (cs 4) (4 : Int32) ff nn)) + (own_part (cs 5) (5 : Int32) ff nn)))] [(.int (own_dig cs ct fm 0))]))
              refine own_st (fun t_ k_ => XS.iload X204.here hx rfl (hb hby at_286) rfl k_) ?_
              show own_Go p.tables e below _ (T204.setTop (mkF m 288 #[.val (.int p0), .val (.int p1), .val (.int p2), .val (.int p3), .val (.int p4), .val (.int p5), .val (.ref b171), .val (.ref b184), .val (.int ff), .val (.int nn), .val (.int (0 : Int32)), .val (.int ((((((own_part (cs 0) (0 : Int32) ff nn) + (own_part (cs 1) (1 : Int32) ff nn)) + (own_part (cs 2) (2 : Int32) ff nn)) + (own_part (cs 3) (3 : Int32) ff nn)) + (own_part (cs 4) (4 : Int32) ff nn)) + (own_part (cs 5) (5 : Int32) ff nn))), .val (.int ((((((own_part (cs 0) (0 : Int32) ff nn) + (own_part (cs 1) (1 : Int32) ff nn)) + (own_part (cs 2) (2 : Int32) ff nn)) + (own_part (cs 3) (3 : Int32) ff nn)) + (own_part (cs 4) (4 : Int32) ff nn)) + (own_part (cs 5) (5 : Int32) ff nn)))] [(.int ((((((own_part (cs 0) (0 : Int32) ff nn) + (own_part (cs 1) (1 : Int32) ff nn)) + (own_part (cs 2) (2 : Int32) ff nn)) + (own_part (cs 3) (3 : Int32) ff nn)) + (own_part (cs 4) (4 : Int32) ff nn)) + (own_part (cs 5) (5 : Int32) ff nn))), (.int (own_dig cs ct fm 0))]))
              refine own_st (fun t_ k_ => XS.icmpNo X204.here hx rfl (hb hby at_288) rfl (teq (own_lawG hfm hct (by omega) (by omega) c100_187 c115_189 c130_191 c145_193 c160_195 c175_197 : (own_dig cs ct fm 0) = ((((((own_part (cs 0) (0 : Int32) ff nn) + (own_part (cs 1) (1 : Int32) ff nn)) + (own_part (cs 2) (2 : Int32) ff nn)) + (own_part (cs 3) (3 : Int32) ff nn)) + (own_part (cs 4) (4 : Int32) ff nn)) + (own_part (cs 5) (5 : Int32) ff nn)))).2 k_) ?_
              show own_Go p.tables e below _ (T204.setTop (mkF m 291 #[.val (.int p0), .val (.int p1), .val (.int p2), .val (.int p3), .val (.int p4), .val (.int p5), .val (.ref b171), .val (.ref b184), .val (.int ff), .val (.int nn), .val (.int (0 : Int32)), .val (.int ((((((own_part (cs 0) (0 : Int32) ff nn) + (own_part (cs 1) (1 : Int32) ff nn)) + (own_part (cs 2) (2 : Int32) ff nn)) + (own_part (cs 3) (3 : Int32) ff nn)) + (own_part (cs 4) (4 : Int32) ff nn)) + (own_part (cs 5) (5 : Int32) ff nn))), .val (.int ((((((own_part (cs 0) (0 : Int32) ff nn) + (own_part (cs 1) (1 : Int32) ff nn)) + (own_part (cs 2) (2 : Int32) ff nn)) + (own_part (cs 3) (3 : Int32) ff nn)) + (own_part (cs 4) (4 : Int32) ff nn)) + (own_part (cs 5) (5 : Int32) ff nn)))] []))
              refine own_st (fun t_ k_ => XS.iconst X204.here hx rfl (hb hby at_291) k_) ?_
              show own_Go p.tables e below _ (T204.setTop (mkF m 292 #[.val (.int p0), .val (.int p1), .val (.int p2), .val (.int p3), .val (.int p4), .val (.int p5), .val (.ref b171), .val (.ref b184), .val (.int ff), .val (.int nn), .val (.int (0 : Int32)), .val (.int ((((((own_part (cs 0) (0 : Int32) ff nn) + (own_part (cs 1) (1 : Int32) ff nn)) + (own_part (cs 2) (2 : Int32) ff nn)) + (own_part (cs 3) (3 : Int32) ff nn)) + (own_part (cs 4) (4 : Int32) ff nn)) + (own_part (cs 5) (5 : Int32) ff nn))), .val (.int ((((((own_part (cs 0) (0 : Int32) ff nn) + (own_part (cs 1) (1 : Int32) ff nn)) + (own_part (cs 2) (2 : Int32) ff nn)) + (own_part (cs 3) (3 : Int32) ff nn)) + (own_part (cs 4) (4 : Int32) ff nn)) + (own_part (cs 5) (5 : Int32) ff nn)))] [(.int (1 : Int32))]))
              refine own_st (fun t_ k_ => XS.goto X204.here hx rfl (pc0 := 292) (pc' := 296) rfl (hb hby at_292) (by decide) (by decide) k_) ?_
              show own_Go p.tables e below _ (T204.setTop (mkF m 296 #[.val (.int p0), .val (.int p1), .val (.int p2), .val (.int p3), .val (.int p4), .val (.int p5), .val (.ref b171), .val (.ref b184), .val (.int ff), .val (.int nn), .val (.int (0 : Int32)), .val (.int ((((((own_part (cs 0) (0 : Int32) ff nn) + (own_part (cs 1) (1 : Int32) ff nn)) + (own_part (cs 2) (2 : Int32) ff nn)) + (own_part (cs 3) (3 : Int32) ff nn)) + (own_part (cs 4) (4 : Int32) ff nn)) + (own_part (cs 5) (5 : Int32) ff nn))), .val (.int ((((((own_part (cs 0) (0 : Int32) ff nn) + (own_part (cs 1) (1 : Int32) ff nn)) + (own_part (cs 2) (2 : Int32) ff nn)) + (own_part (cs 3) (3 : Int32) ff nn)) + (own_part (cs 4) (4 : Int32) ff nn)) + (own_part (cs 5) (5 : Int32) ff nn)))] [(.int (1 : Int32))]))
              exact own_ret (w := (.int (1 : Int32))) X204 hx hnl Bd.returns rfl (Or.inl ⟨rfl, by decide, _, rfl⟩) (hb hby at_296) ⟨rfl, N204, (by rw [eq204]; exact K185)⟩ (by decide) (by decide)
            · skip
              refine own_st (fun t_ k_ => XS.ifNo X196.here hx rfl (hb hby at_175) rfl ((if0 _ _).trans (feq c175_197).1) k_) ?_
              show own_Go p.tables e below _ (T196.setTop (mkF m 178 #[.val (.int p0), .val (.int p1), .val (.int p2), .val (.int p3), .val (.int p4), .val (.int p5), .val (.ref b171), .val (.ref b184), .val (.int ff), .val (.int nn), .unset, .unset, .unset] []))
              refine own_st (fun t_ k_ => XS.iconst X196.here hx rfl (hb hby at_178) k_) ?_
              show own_Go p.tables e below _ (T196.setTop (mkF m 179 #[.val (.int p0), .val (.int p1), .val (.int p2), .val (.int p3), .val (.int p4), .val (.int p5), .val (.ref b171), .val (.ref b184), .val (.int ff), .val (.int nn), .unset, .unset, .unset] [(.int (1 : Int32))]))
              refine own_st (fun t_ k_ => XS.goto X196.here hx rfl (pc0 := 179) (pc' := 183) rfl (hb hby at_179) (by decide) (by decide) k_) ?_
              show own_Go p.tables e below _ (T196.setTop (mkF m 183 #[.val (.int p0), .val (.int p1), .val (.int p2), .val (.int p3), .val (.int p4), .val (.int p5), .val (.ref b171), .val (.ref b184), .val (.int ff), .val (.int nn), .unset, .unset, .unset] [(.int (1 : Int32))]))
              refine own_st (fun t_ k_ => XS.istore X196.here hx rfl (hb hby at_183) rfl (l' := #[.val (.int p0), .val (.int p1), .val (.int p2), .val (.int p3), .val (.int p4), .val (.int p5), .val (.ref b171), .val (.ref b184), .val (.int ff), .val (.int nn), .val (.int (1 : Int32)), .unset, .unset]) rfl k_) ?_
              show own_Go p.tables e below _ (T196.setTop (mkF m 185 #[.val (.int p0), .val (.int p1), .val (.int p2), .val (.int p3), .val (.int p4), .val (.int p5), .val (.ref b171), .val (.ref b184), .val (.int ff), .val (.int nn), .val (.int (1 : Int32)), .unset, .unset] []))
              refine own_st (fun t_ k_ => XS.aload X196.here hx rfl (hb hby at_185) rfl rfl k_) ?_
              show own_Go p.tables e below _ (T196.setTop (mkF m 187 #[.val (.int p0), .val (.int p1), .val (.int p2), .val (.int p3), .val (.int p4), .val (.int p5), .val (.ref b171), .val (.ref b184), .val (.int ff), .val (.int nn), .val (.int (1 : Int32)), .unset, .unset] [(.ref b171)]))
              refine own_st (fun t_ k_ => XS.iconst X196.here hx rfl (hb hby at_187) k_) ?_
              show own_Go p.tables e below _ (T196.setTop (mkF m 188 #[.val (.int p0), .val (.int p1), .val (.int p2), .val (.int p3), .val (.int p4), .val (.int p5), .val (.ref b171), .val (.ref b184), .val (.int ff), .val (.int nn), .val (.int (1 : Int32)), .unset, .unset] [(.int (0 : Int32)), (.ref b171)]))
              refine own_st (own_caload X196 hx hZ eq196 ((Acs.ext E184).keep Kq185 (ninS (Nat.ne_of_lt (Nat.lt_of_lt_of_le Acs.lt (Nat.le_of_eq g184.symm))) nin0)) (i := 0) (by decide) (by decide) (g := (mkF m 188 #[.val (.int p0), .val (.int p1), .val (.int p2), .val (.int p3), .val (.int p4), .val (.int p5), .val (.ref b171), .val (.ref b184), .val (.int ff), .val (.int nn), .val (.int (1 : Int32)), .unset, .unset] [(.int (0 : Int32)), (.ref b171)])) rfl rfl (hb hby at_188)) ?_
              show own_Go p.tables e below _ (T196.setTop (mkF m 189 #[.val (.int p0), .val (.int p1), .val (.int p2), .val (.int p3), .val (.int p4), .val (.int p5), .val (.ref b171), .val (.ref b184), .val (.int ff), .val (.int nn), .val (.int (1 : Int32)), .unset, .unset] [(.int (cs 0))]))
              refine own_st (fun t_ k_ => XS.iconst X196.here hx rfl (hb hby at_189) k_) ?_
              show own_Go p.tables e below _ (T196.setTop (mkF m 190 #[.val (.int p0), .val (.int p1), .val (.int p2), .val (.int p3), .val (.int p4), .val (.int p5), .val (.ref b171), .val (.ref b184), .val (.int ff), .val (.int nn), .val (.int (1 : Int32)), .unset, .unset] [(.int (0 : Int32)), (.int (cs 0))]))
              refine own_st (fun t_ k_ => XS.iload X196.here hx rfl (hb hby at_190) rfl k_) ?_
              show own_Go p.tables e below _ (T196.setTop (mkF m 192 #[.val (.int p0), .val (.int p1), .val (.int p2), .val (.int p3), .val (.int p4), .val (.int p5), .val (.ref b171), .val (.ref b184), .val (.int ff), .val (.int nn), .val (.int (1 : Int32)), .unset, .unset] [(.int ff), (.int (0 : Int32)), (.int (cs 0))]))
              refine own_st (fun t_ k_ => XS.iload X196.here hx rfl (hb hby at_192) rfl k_) ?_
              show own_Go p.tables e below _ (T196.setTop (mkF m 194 #[.val (.int p0), .val (.int p1), .val (.int p2), .val (.int p3), .val (.int p4), .val (.int p5), .val (.ref b171), .val (.ref b184), .val (.int ff), .val (.int nn), .val (.int (1 : Int32)), .unset, .unset] [(.int nn), (.int ff), (.int (0 : Int32)), (.int (cs 0))]))
              obtain ⟨_, _, ⟨T205, L205, k205, n205⟩, -, X205, ⟨Lc205, hQ205, l205, y205, z205⟩, st205⟩ := Jvm.LawKit.callS X196 hx (y := (⟨"com/example/nastro/nastro/model/DigitsValuePinLaw", "part", "(CIII)I"⟩ : MethodName)) hown (mvT hZ (hw _ (List.mem_of_getElem? (i := 41) rfl))) (mvT hZ (hw _ (List.mem_of_getElem? (i := 42) rfl))) (mvT hZ (hw _ (List.mem_of_getElem? (i := 3) rfl))) (mvT hZ (hw _ (List.mem_of_getElem? (i := 43) rfl))) (by decide) (backOf (W := 0) (own_rm10 l Z a0 hw [] (cs 0) (0 : Int32) ff nn T185.heap n0 (Nat.le_trans Z0 K185.1)) hZ (hw _ (List.mem_of_getElem? (i := 43) rfl)) (hw _ (List.mem_of_getElem? (i := 3) rfl)) (by decide) (by decide)) (g := (mkF m 194 #[.val (.int p0), .val (.int p1), .val (.int p2), .val (.int p3), .val (.int p4), .val (.int p5), .val (.ref b171), .val (.ref b184), .val (.int ff), .val (.int nn), .val (.int (1 : Int32)), .unset, .unset] [(.int nn), (.int ff), (.int (0 : Int32)), (.int (cs 0))])) rfl (by rw [hml]; rfl) (argsL := [(.int (cs 0)), (.int (0 : Int32)), (.int ff), (.int nn)]) (rest := []) (lenOf own_pd17 rfl) rfl (by show 2 * 0 + _ ≤ _; exact Nat.le_of_eq rfl) (hb hby at_194) (fun _ _ => ⟨rfl, eq196, (by decide : 4 + 0 ≤ _), (by decide : 28 + 0 ≤ _)⟩)
              dsimp only [Pt.U, Pt.locs, Pt.cells, Pt.slots] at X205 l205 y205 z205 st205 hQ205
              subst y205 z205
              obtain ⟨rfl, N205q, eq205⟩ := hQ205
              have N205 : Fr n0 L205 := by rw [l205]; exact Fr.app N196 N205q
              refine own_st (st205) ?_
              show own_Go p.tables e below _ (T205.setTop (mkF m 197 #[.val (.int p0), .val (.int p1), .val (.int p2), .val (.int p3), .val (.int p4), .val (.int p5), .val (.ref b171), .val (.ref b184), .val (.int ff), .val (.int nn), .val (.int (1 : Int32)), .unset, .unset] [(.int (own_part (cs 0) (0 : Int32) ff nn))]))
              refine own_st (fun t_ k_ => XS.aload X205.here hx rfl (hb hby at_197) rfl rfl k_) ?_
              show own_Go p.tables e below _ (T205.setTop (mkF m 199 #[.val (.int p0), .val (.int p1), .val (.int p2), .val (.int p3), .val (.int p4), .val (.int p5), .val (.ref b171), .val (.ref b184), .val (.int ff), .val (.int nn), .val (.int (1 : Int32)), .unset, .unset] [(.ref b171), (.int (own_part (cs 0) (0 : Int32) ff nn))]))
              refine own_st (fun t_ k_ => XS.iconst X205.here hx rfl (hb hby at_199) k_) ?_
              show own_Go p.tables e below _ (T205.setTop (mkF m 200 #[.val (.int p0), .val (.int p1), .val (.int p2), .val (.int p3), .val (.int p4), .val (.int p5), .val (.ref b171), .val (.ref b184), .val (.int ff), .val (.int nn), .val (.int (1 : Int32)), .unset, .unset] [(.int (1 : Int32)), (.ref b171), (.int (own_part (cs 0) (0 : Int32) ff nn))]))
              refine own_st (own_caload X205 hx hZ eq205 ((Acs.ext E184).keep Kq185 (ninS (Nat.ne_of_lt (Nat.lt_of_lt_of_le Acs.lt (Nat.le_of_eq g184.symm))) nin0)) (i := 1) (by decide) (by decide) (g := (mkF m 200 #[.val (.int p0), .val (.int p1), .val (.int p2), .val (.int p3), .val (.int p4), .val (.int p5), .val (.ref b171), .val (.ref b184), .val (.int ff), .val (.int nn), .val (.int (1 : Int32)), .unset, .unset] [(.int (1 : Int32)), (.ref b171), (.int (own_part (cs 0) (0 : Int32) ff nn))])) rfl rfl (hb hby at_200)) ?_
              show own_Go p.tables e below _ (T205.setTop (mkF m 201 #[.val (.int p0), .val (.int p1), .val (.int p2), .val (.int p3), .val (.int p4), .val (.int p5), .val (.ref b171), .val (.ref b184), .val (.int ff), .val (.int nn), .val (.int (1 : Int32)), .unset, .unset] [(.int (cs 1)), (.int (own_part (cs 0) (0 : Int32) ff nn))]))
              refine own_st (fun t_ k_ => XS.iconst X205.here hx rfl (hb hby at_201) k_) ?_
              show own_Go p.tables e below _ (T205.setTop (mkF m 202 #[.val (.int p0), .val (.int p1), .val (.int p2), .val (.int p3), .val (.int p4), .val (.int p5), .val (.ref b171), .val (.ref b184), .val (.int ff), .val (.int nn), .val (.int (1 : Int32)), .unset, .unset] [(.int (1 : Int32)), (.int (cs 1)), (.int (own_part (cs 0) (0 : Int32) ff nn))]))
              refine own_st (fun t_ k_ => XS.iload X205.here hx rfl (hb hby at_202) rfl k_) ?_
              show own_Go p.tables e below _ (T205.setTop (mkF m 204 #[.val (.int p0), .val (.int p1), .val (.int p2), .val (.int p3), .val (.int p4), .val (.int p5), .val (.ref b171), .val (.ref b184), .val (.int ff), .val (.int nn), .val (.int (1 : Int32)), .unset, .unset] [(.int ff), (.int (1 : Int32)), (.int (cs 1)), (.int (own_part (cs 0) (0 : Int32) ff nn))]))
              refine own_st (fun t_ k_ => XS.iload X205.here hx rfl (hb hby at_204) rfl k_) ?_
              show own_Go p.tables e below _ (T205.setTop (mkF m 206 #[.val (.int p0), .val (.int p1), .val (.int p2), .val (.int p3), .val (.int p4), .val (.int p5), .val (.ref b171), .val (.ref b184), .val (.int ff), .val (.int nn), .val (.int (1 : Int32)), .unset, .unset] [(.int nn), (.int ff), (.int (1 : Int32)), (.int (cs 1)), (.int (own_part (cs 0) (0 : Int32) ff nn))]))
              obtain ⟨_, _, ⟨T206, L206, k206, n206⟩, -, X206, ⟨Lc206, hQ206, l206, y206, z206⟩, st206⟩ := Jvm.LawKit.callS X205 hx (y := (⟨"com/example/nastro/nastro/model/DigitsValuePinLaw", "part", "(CIII)I"⟩ : MethodName)) hown (mvT hZ (hw _ (List.mem_of_getElem? (i := 41) rfl))) (mvT hZ (hw _ (List.mem_of_getElem? (i := 42) rfl))) (mvT hZ (hw _ (List.mem_of_getElem? (i := 3) rfl))) (mvT hZ (hw _ (List.mem_of_getElem? (i := 43) rfl))) (by decide) (backOf (W := 1) (own_rm10 l Z a0 hw [] (cs 1) (1 : Int32) ff nn T185.heap n0 (Nat.le_trans Z0 K185.1)) hZ (hw _ (List.mem_of_getElem? (i := 43) rfl)) (hw _ (List.mem_of_getElem? (i := 3) rfl)) (by decide) (by decide)) (g := (mkF m 206 #[.val (.int p0), .val (.int p1), .val (.int p2), .val (.int p3), .val (.int p4), .val (.int p5), .val (.ref b171), .val (.ref b184), .val (.int ff), .val (.int nn), .val (.int (1 : Int32)), .unset, .unset] [(.int nn), (.int ff), (.int (1 : Int32)), (.int (cs 1)), (.int (own_part (cs 0) (0 : Int32) ff nn))])) rfl (by rw [hml]; rfl) (argsL := [(.int (cs 1)), (.int (1 : Int32)), (.int ff), (.int nn)]) (rest := [(.int (own_part (cs 0) (0 : Int32) ff nn))]) (lenOf own_pd17 rfl) rfl (by show 2 * 0 + _ ≤ _; exact Nat.le_of_eq rfl) (hb hby at_206) (fun _ _ => ⟨rfl, eq205, (by decide : 4 + 0 ≤ _), (by decide : 28 + 0 ≤ _)⟩)
              dsimp only [Pt.U, Pt.locs, Pt.cells, Pt.slots] at X206 l206 y206 z206 st206 hQ206
              subst y206 z206
              obtain ⟨rfl, N206q, eq206⟩ := hQ206
              have N206 : Fr n0 L206 := by rw [l206]; exact Fr.app N205 N206q
              refine own_st (st206) ?_
              show own_Go p.tables e below _ (T206.setTop (mkF m 209 #[.val (.int p0), .val (.int p1), .val (.int p2), .val (.int p3), .val (.int p4), .val (.int p5), .val (.ref b171), .val (.ref b184), .val (.int ff), .val (.int nn), .val (.int (1 : Int32)), .unset, .unset] [(.int (own_part (cs 1) (1 : Int32) ff nn)), (.int (own_part (cs 0) (0 : Int32) ff nn))]))
              refine own_st (fun t_ k_ => XS.iadd X206.here hx rfl (hb hby at_209) rfl k_) ?_
              show own_Go p.tables e below _ (T206.setTop (mkF m 210 #[.val (.int p0), .val (.int p1), .val (.int p2), .val (.int p3), .val (.int p4), .val (.int p5), .val (.ref b171), .val (.ref b184), .val (.int ff), .val (.int nn), .val (.int (1 : Int32)), .unset, .unset] [(.int ((own_part (cs 0) (0 : Int32) ff nn) + (own_part (cs 1) (1 : Int32) ff nn)))]))
              refine own_st (fun t_ k_ => XS.aload X206.here hx rfl (hb hby at_210) rfl rfl k_) ?_
              show own_Go p.tables e below _ (T206.setTop (mkF m 212 #[.val (.int p0), .val (.int p1), .val (.int p2), .val (.int p3), .val (.int p4), .val (.int p5), .val (.ref b171), .val (.ref b184), .val (.int ff), .val (.int nn), .val (.int (1 : Int32)), .unset, .unset] [(.ref b171), (.int ((own_part (cs 0) (0 : Int32) ff nn) + (own_part (cs 1) (1 : Int32) ff nn)))]))
              refine own_st (fun t_ k_ => XS.iconst X206.here hx rfl (hb hby at_212) k_) ?_
              show own_Go p.tables e below _ (T206.setTop (mkF m 213 #[.val (.int p0), .val (.int p1), .val (.int p2), .val (.int p3), .val (.int p4), .val (.int p5), .val (.ref b171), .val (.ref b184), .val (.int ff), .val (.int nn), .val (.int (1 : Int32)), .unset, .unset] [(.int (2 : Int32)), (.ref b171), (.int ((own_part (cs 0) (0 : Int32) ff nn) + (own_part (cs 1) (1 : Int32) ff nn)))]))
              refine own_st (own_caload X206 hx hZ eq206 ((Acs.ext E184).keep Kq185 (ninS (Nat.ne_of_lt (Nat.lt_of_lt_of_le Acs.lt (Nat.le_of_eq g184.symm))) nin0)) (i := 2) (by decide) (by decide) (g := (mkF m 213 #[.val (.int p0), .val (.int p1), .val (.int p2), .val (.int p3), .val (.int p4), .val (.int p5), .val (.ref b171), .val (.ref b184), .val (.int ff), .val (.int nn), .val (.int (1 : Int32)), .unset, .unset] [(.int (2 : Int32)), (.ref b171), (.int ((own_part (cs 0) (0 : Int32) ff nn) + (own_part (cs 1) (1 : Int32) ff nn)))])) rfl rfl (hb hby at_213)) ?_
              show own_Go p.tables e below _ (T206.setTop (mkF m 214 #[.val (.int p0), .val (.int p1), .val (.int p2), .val (.int p3), .val (.int p4), .val (.int p5), .val (.ref b171), .val (.ref b184), .val (.int ff), .val (.int nn), .val (.int (1 : Int32)), .unset, .unset] [(.int (cs 2)), (.int ((own_part (cs 0) (0 : Int32) ff nn) + (own_part (cs 1) (1 : Int32) ff nn)))]))
              refine own_st (fun t_ k_ => XS.iconst X206.here hx rfl (hb hby at_214) k_) ?_
              show own_Go p.tables e below _ (T206.setTop (mkF m 215 #[.val (.int p0), .val (.int p1), .val (.int p2), .val (.int p3), .val (.int p4), .val (.int p5), .val (.ref b171), .val (.ref b184), .val (.int ff), .val (.int nn), .val (.int (1 : Int32)), .unset, .unset] [(.int (2 : Int32)), (.int (cs 2)), (.int ((own_part (cs 0) (0 : Int32) ff nn) + (own_part (cs 1) (1 : Int32) ff nn)))]))
              refine own_st (fun t_ k_ => XS.iload X206.here hx rfl (hb hby at_215) rfl k_) ?_
              show own_Go p.tables e below _ (T206.setTop (mkF m 217 #[.val (.int p0), .val (.int p1), .val (.int p2), .val (.int p3), .val (.int p4), .val (.int p5), .val (.ref b171), .val (.ref b184), .val (.int ff), .val (.int nn), .val (.int (1 : Int32)), .unset, .unset] [(.int ff), (.int (2 : Int32)), (.int (cs 2)), (.int ((own_part (cs 0) (0 : Int32) ff nn) + (own_part (cs 1) (1 : Int32) ff nn)))]))
              refine own_st (fun t_ k_ => XS.iload X206.here hx rfl (hb hby at_217) rfl k_) ?_
              show own_Go p.tables e below _ (T206.setTop (mkF m 219 #[.val (.int p0), .val (.int p1), .val (.int p2), .val (.int p3), .val (.int p4), .val (.int p5), .val (.ref b171), .val (.ref b184), .val (.int ff), .val (.int nn), .val (.int (1 : Int32)), .unset, .unset] [(.int nn), (.int ff), (.int (2 : Int32)), (.int (cs 2)), (.int ((own_part (cs 0) (0 : Int32) ff nn) + (own_part (cs 1) (1 : Int32) ff nn)))]))
              obtain ⟨_, _, ⟨T207, L207, k207, n207⟩, -, X207, ⟨Lc207, hQ207, l207, y207, z207⟩, st207⟩ := Jvm.LawKit.callS X206 hx (y := (⟨"com/example/nastro/nastro/model/DigitsValuePinLaw", "part", "(CIII)I"⟩ : MethodName)) hown (mvT hZ (hw _ (List.mem_of_getElem? (i := 41) rfl))) (mvT hZ (hw _ (List.mem_of_getElem? (i := 42) rfl))) (mvT hZ (hw _ (List.mem_of_getElem? (i := 3) rfl))) (mvT hZ (hw _ (List.mem_of_getElem? (i := 43) rfl))) (by decide) (backOf (W := 1) (own_rm10 l Z a0 hw [] (cs 2) (2 : Int32) ff nn T185.heap n0 (Nat.le_trans Z0 K185.1)) hZ (hw _ (List.mem_of_getElem? (i := 43) rfl)) (hw _ (List.mem_of_getElem? (i := 3) rfl)) (by decide) (by decide)) (g := (mkF m 219 #[.val (.int p0), .val (.int p1), .val (.int p2), .val (.int p3), .val (.int p4), .val (.int p5), .val (.ref b171), .val (.ref b184), .val (.int ff), .val (.int nn), .val (.int (1 : Int32)), .unset, .unset] [(.int nn), (.int ff), (.int (2 : Int32)), (.int (cs 2)), (.int ((own_part (cs 0) (0 : Int32) ff nn) + (own_part (cs 1) (1 : Int32) ff nn)))])) rfl (by rw [hml]; rfl) (argsL := [(.int (cs 2)), (.int (2 : Int32)), (.int ff), (.int nn)]) (rest := [(.int ((own_part (cs 0) (0 : Int32) ff nn) + (own_part (cs 1) (1 : Int32) ff nn)))]) (lenOf own_pd17 rfl) rfl (by show 2 * 0 + _ ≤ _; exact Nat.le_of_eq rfl) (hb hby at_219) (fun _ _ => ⟨rfl, eq206, (by decide : 4 + 0 ≤ _), (by decide : 28 + 0 ≤ _)⟩)
              dsimp only [Pt.U, Pt.locs, Pt.cells, Pt.slots] at X207 l207 y207 z207 st207 hQ207
              subst y207 z207
              obtain ⟨rfl, N207q, eq207⟩ := hQ207
              have N207 : Fr n0 L207 := by rw [l207]; exact Fr.app N206 N207q
              refine own_st (st207) ?_
              show own_Go p.tables e below _ (T207.setTop (mkF m 222 #[.val (.int p0), .val (.int p1), .val (.int p2), .val (.int p3), .val (.int p4), .val (.int p5), .val (.ref b171), .val (.ref b184), .val (.int ff), .val (.int nn), .val (.int (1 : Int32)), .unset, .unset] [(.int (own_part (cs 2) (2 : Int32) ff nn)), (.int ((own_part (cs 0) (0 : Int32) ff nn) + (own_part (cs 1) (1 : Int32) ff nn)))]))
              refine own_st (fun t_ k_ => XS.iadd X207.here hx rfl (hb hby at_222) rfl k_) ?_
              show own_Go p.tables e below _ (T207.setTop (mkF m 223 #[.val (.int p0), .val (.int p1), .val (.int p2), .val (.int p3), .val (.int p4), .val (.int p5), .val (.ref b171), .val (.ref b184), .val (.int ff), .val (.int nn), .val (.int (1 : Int32)), .unset, .unset] [(.int (((own_part (cs 0) (0 : Int32) ff nn) + (own_part (cs 1) (1 : Int32) ff nn)) + (own_part (cs 2) (2 : Int32) ff nn)))]))
              refine own_st (fun t_ k_ => XS.aload X207.here hx rfl (hb hby at_223) rfl rfl k_) ?_
              show own_Go p.tables e below _ (T207.setTop (mkF m 225 #[.val (.int p0), .val (.int p1), .val (.int p2), .val (.int p3), .val (.int p4), .val (.int p5), .val (.ref b171), .val (.ref b184), .val (.int ff), .val (.int nn), .val (.int (1 : Int32)), .unset, .unset] [(.ref b171), (.int (((own_part (cs 0) (0 : Int32) ff nn) + (own_part (cs 1) (1 : Int32) ff nn)) + (own_part (cs 2) (2 : Int32) ff nn)))]))
              refine own_st (fun t_ k_ => XS.iconst X207.here hx rfl (hb hby at_225) k_) ?_
              show own_Go p.tables e below _ (T207.setTop (mkF m 226 #[.val (.int p0), .val (.int p1), .val (.int p2), .val (.int p3), .val (.int p4), .val (.int p5), .val (.ref b171), .val (.ref b184), .val (.int ff), .val (.int nn), .val (.int (1 : Int32)), .unset, .unset] [(.int (3 : Int32)), (.ref b171), (.int (((own_part (cs 0) (0 : Int32) ff nn) + (own_part (cs 1) (1 : Int32) ff nn)) + (own_part (cs 2) (2 : Int32) ff nn)))]))
              refine own_st (own_caload X207 hx hZ eq207 ((Acs.ext E184).keep Kq185 (ninS (Nat.ne_of_lt (Nat.lt_of_lt_of_le Acs.lt (Nat.le_of_eq g184.symm))) nin0)) (i := 3) (by decide) (by decide) (g := (mkF m 226 #[.val (.int p0), .val (.int p1), .val (.int p2), .val (.int p3), .val (.int p4), .val (.int p5), .val (.ref b171), .val (.ref b184), .val (.int ff), .val (.int nn), .val (.int (1 : Int32)), .unset, .unset] [(.int (3 : Int32)), (.ref b171), (.int (((own_part (cs 0) (0 : Int32) ff nn) + (own_part (cs 1) (1 : Int32) ff nn)) + (own_part (cs 2) (2 : Int32) ff nn)))])) rfl rfl (hb hby at_226)) ?_
              show own_Go p.tables e below _ (T207.setTop (mkF m 227 #[.val (.int p0), .val (.int p1), .val (.int p2), .val (.int p3), .val (.int p4), .val (.int p5), .val (.ref b171), .val (.ref b184), .val (.int ff), .val (.int nn), .val (.int (1 : Int32)), .unset, .unset] [(.int (cs 3)), (.int (((own_part (cs 0) (0 : Int32) ff nn) + (own_part (cs 1) (1 : Int32) ff nn)) + (own_part (cs 2) (2 : Int32) ff nn)))]))
              refine own_st (fun t_ k_ => XS.iconst X207.here hx rfl (hb hby at_227) k_) ?_
              show own_Go p.tables e below _ (T207.setTop (mkF m 228 #[.val (.int p0), .val (.int p1), .val (.int p2), .val (.int p3), .val (.int p4), .val (.int p5), .val (.ref b171), .val (.ref b184), .val (.int ff), .val (.int nn), .val (.int (1 : Int32)), .unset, .unset] [(.int (3 : Int32)), (.int (cs 3)), (.int (((own_part (cs 0) (0 : Int32) ff nn) + (own_part (cs 1) (1 : Int32) ff nn)) + (own_part (cs 2) (2 : Int32) ff nn)))]))
              refine own_st (fun t_ k_ => XS.iload X207.here hx rfl (hb hby at_228) rfl k_) ?_
              show own_Go p.tables e below _ (T207.setTop (mkF m 230 #[.val (.int p0), .val (.int p1), .val (.int p2), .val (.int p3), .val (.int p4), .val (.int p5), .val (.ref b171), .val (.ref b184), .val (.int ff), .val (.int nn), .val (.int (1 : Int32)), .unset, .unset] [(.int ff), (.int (3 : Int32)), (.int (cs 3)), (.int (((own_part (cs 0) (0 : Int32) ff nn) + (own_part (cs 1) (1 : Int32) ff nn)) + (own_part (cs 2) (2 : Int32) ff nn)))]))
              refine own_st (fun t_ k_ => XS.iload X207.here hx rfl (hb hby at_230) rfl k_) ?_
              show own_Go p.tables e below _ (T207.setTop (mkF m 232 #[.val (.int p0), .val (.int p1), .val (.int p2), .val (.int p3), .val (.int p4), .val (.int p5), .val (.ref b171), .val (.ref b184), .val (.int ff), .val (.int nn), .val (.int (1 : Int32)), .unset, .unset] [(.int nn), (.int ff), (.int (3 : Int32)), (.int (cs 3)), (.int (((own_part (cs 0) (0 : Int32) ff nn) + (own_part (cs 1) (1 : Int32) ff nn)) + (own_part (cs 2) (2 : Int32) ff nn)))]))
              obtain ⟨_, _, ⟨T208, L208, k208, n208⟩, -, X208, ⟨Lc208, hQ208, l208, y208, z208⟩, st208⟩ := Jvm.LawKit.callS X207 hx (y := (⟨"com/example/nastro/nastro/model/DigitsValuePinLaw", "part", "(CIII)I"⟩ : MethodName)) hown (mvT hZ (hw _ (List.mem_of_getElem? (i := 41) rfl))) (mvT hZ (hw _ (List.mem_of_getElem? (i := 42) rfl))) (mvT hZ (hw _ (List.mem_of_getElem? (i := 3) rfl))) (mvT hZ (hw _ (List.mem_of_getElem? (i := 43) rfl))) (by decide) (backOf (W := 1) (own_rm10 l Z a0 hw [] (cs 3) (3 : Int32) ff nn T185.heap n0 (Nat.le_trans Z0 K185.1)) hZ (hw _ (List.mem_of_getElem? (i := 43) rfl)) (hw _ (List.mem_of_getElem? (i := 3) rfl)) (by decide) (by decide)) (g := (mkF m 232 #[.val (.int p0), .val (.int p1), .val (.int p2), .val (.int p3), .val (.int p4), .val (.int p5), .val (.ref b171), .val (.ref b184), .val (.int ff), .val (.int nn), .val (.int (1 : Int32)), .unset, .unset] [(.int nn), (.int ff), (.int (3 : Int32)), (.int (cs 3)), (.int (((own_part (cs 0) (0 : Int32) ff nn) + (own_part (cs 1) (1 : Int32) ff nn)) + (own_part (cs 2) (2 : Int32) ff nn)))])) rfl (by rw [hml]; rfl) (argsL := [(.int (cs 3)), (.int (3 : Int32)), (.int ff), (.int nn)]) (rest := [(.int (((own_part (cs 0) (0 : Int32) ff nn) + (own_part (cs 1) (1 : Int32) ff nn)) + (own_part (cs 2) (2 : Int32) ff nn)))]) (lenOf own_pd17 rfl) rfl (by show 2 * 0 + _ ≤ _; exact Nat.le_of_eq rfl) (hb hby at_232) (fun _ _ => ⟨rfl, eq207, (by decide : 4 + 0 ≤ _), (by decide : 28 + 0 ≤ _)⟩)
              dsimp only [Pt.U, Pt.locs, Pt.cells, Pt.slots] at X208 l208 y208 z208 st208 hQ208
              subst y208 z208
              obtain ⟨rfl, N208q, eq208⟩ := hQ208
              have N208 : Fr n0 L208 := by rw [l208]; exact Fr.app N207 N208q
              refine own_st (st208) ?_
              show own_Go p.tables e below _ (T208.setTop (mkF m 235 #[.val (.int p0), .val (.int p1), .val (.int p2), .val (.int p3), .val (.int p4), .val (.int p5), .val (.ref b171), .val (.ref b184), .val (.int ff), .val (.int nn), .val (.int (1 : Int32)), .unset, .unset] [(.int (own_part (cs 3) (3 : Int32) ff nn)), (.int (((own_part (cs 0) (0 : Int32) ff nn) + (own_part (cs 1) (1 : Int32) ff nn)) + (own_part (cs 2) (2 : Int32) ff nn)))]))
              refine own_st (fun t_ k_ => XS.iadd X208.here hx rfl (hb hby at_235) rfl k_) ?_
              show own_Go p.tables e below _ (T208.setTop (mkF m 236 #[.val (.int p0), .val (.int p1), .val (.int p2), .val (.int p3), .val (.int p4), .val (.int p5), .val (.ref b171), .val (.ref b184), .val (.int ff), .val (.int nn), .val (.int (1 : Int32)), .unset, .unset] [(.int ((((own_part (cs 0) (0 : Int32) ff nn) + (own_part (cs 1) (1 : Int32) ff nn)) + (own_part (cs 2) (2 : Int32) ff nn)) + (own_part (cs 3) (3 : Int32) ff nn)))]))
              refine own_st (fun t_ k_ => XS.aload X208.here hx rfl (hb hby at_236) rfl rfl k_) ?_
              show own_Go p.tables e below _ (T208.setTop (mkF m 238 #[.val (.int p0), .val (.int p1), .val (.int p2), .val (.int p3), .val (.int p4), .val (.int p5), .val (.ref b171), .val (.ref b184), .val (.int ff), .val (.int nn), .val (.int (1 : Int32)), .unset, .unset] [(.ref b171), (.int ((((own_part (cs 0) (0 : Int32) ff nn) + (own_part (cs 1) (1 : Int32) ff nn)) + (own_part (cs 2) (2 : Int32) ff nn)) + (own_part (cs 3) (3 : Int32) ff nn)))]))
              refine own_st (fun t_ k_ => XS.iconst X208.here hx rfl (hb hby at_238) k_) ?_
              show own_Go p.tables e below _ (T208.setTop (mkF m 239 #[.val (.int p0), .val (.int p1), .val (.int p2), .val (.int p3), .val (.int p4), .val (.int p5), .val (.ref b171), .val (.ref b184), .val (.int ff), .val (.int nn), .val (.int (1 : Int32)), .unset, .unset] [(.int (4 : Int32)), (.ref b171), (.int ((((own_part (cs 0) (0 : Int32) ff nn) + (own_part (cs 1) (1 : Int32) ff nn)) + (own_part (cs 2) (2 : Int32) ff nn)) + (own_part (cs 3) (3 : Int32) ff nn)))]))
              refine own_st (own_caload X208 hx hZ eq208 ((Acs.ext E184).keep Kq185 (ninS (Nat.ne_of_lt (Nat.lt_of_lt_of_le Acs.lt (Nat.le_of_eq g184.symm))) nin0)) (i := 4) (by decide) (by decide) (g := (mkF m 239 #[.val (.int p0), .val (.int p1), .val (.int p2), .val (.int p3), .val (.int p4), .val (.int p5), .val (.ref b171), .val (.ref b184), .val (.int ff), .val (.int nn), .val (.int (1 : Int32)), .unset, .unset] [(.int (4 : Int32)), (.ref b171), (.int ((((own_part (cs 0) (0 : Int32) ff nn) + (own_part (cs 1) (1 : Int32) ff nn)) + (own_part (cs 2) (2 : Int32) ff nn)) + (own_part (cs 3) (3 : Int32) ff nn)))])) rfl rfl (hb hby at_239)) ?_
              show own_Go p.tables e below _ (T208.setTop (mkF m 240 #[.val (.int p0), .val (.int p1), .val (.int p2), .val (.int p3), .val (.int p4), .val (.int p5), .val (.ref b171), .val (.ref b184), .val (.int ff), .val (.int nn), .val (.int (1 : Int32)), .unset, .unset] [(.int (cs 4)), (.int ((((own_part (cs 0) (0 : Int32) ff nn) + (own_part (cs 1) (1 : Int32) ff nn)) + (own_part (cs 2) (2 : Int32) ff nn)) + (own_part (cs 3) (3 : Int32) ff nn)))]))
              refine own_st (fun t_ k_ => XS.iconst X208.here hx rfl (hb hby at_240) k_) ?_
              show own_Go p.tables e below _ (T208.setTop (mkF m 241 #[.val (.int p0), .val (.int p1), .val (.int p2), .val (.int p3), .val (.int p4), .val (.int p5), .val (.ref b171), .val (.ref b184), .val (.int ff), .val (.int nn), .val (.int (1 : Int32)), .unset, .unset] [(.int (4 : Int32)), (.int (cs 4)), (.int ((((own_part (cs 0) (0 : Int32) ff nn) + (own_part (cs 1) (1 : Int32) ff nn)) + (own_part (cs 2) (2 : Int32) ff nn)) + (own_part (cs 3) (3 : Int32) ff nn)))]))
              refine own_st (fun t_ k_ => XS.iload X208.here hx rfl (hb hby at_241) rfl k_) ?_
              show own_Go p.tables e below _ (T208.setTop (mkF m 243 #[.val (.int p0), .val (.int p1), .val (.int p2), .val (.int p3), .val (.int p4), .val (.int p5), .val (.ref b171), .val (.ref b184), .val (.int ff), .val (.int nn), .val (.int (1 : Int32)), .unset, .unset] [(.int ff), (.int (4 : Int32)), (.int (cs 4)), (.int ((((own_part (cs 0) (0 : Int32) ff nn) + (own_part (cs 1) (1 : Int32) ff nn)) + (own_part (cs 2) (2 : Int32) ff nn)) + (own_part (cs 3) (3 : Int32) ff nn)))]))
              refine own_st (fun t_ k_ => XS.iload X208.here hx rfl (hb hby at_243) rfl k_) ?_
              show own_Go p.tables e below _ (T208.setTop (mkF m 245 #[.val (.int p0), .val (.int p1), .val (.int p2), .val (.int p3), .val (.int p4), .val (.int p5), .val (.ref b171), .val (.ref b184), .val (.int ff), .val (.int nn), .val (.int (1 : Int32)), .unset, .unset] [(.int nn), (.int ff), (.int (4 : Int32)), (.int (cs 4)), (.int ((((own_part (cs 0) (0 : Int32) ff nn) + (own_part (cs 1) (1 : Int32) ff nn)) + (own_part (cs 2) (2 : Int32) ff nn)) + (own_part (cs 3) (3 : Int32) ff nn)))]))
              obtain ⟨_, _, ⟨T209, L209, k209, n209⟩, -, X209, ⟨Lc209, hQ209, l209, y209, z209⟩, st209⟩ := Jvm.LawKit.callS X208 hx (y := (⟨"com/example/nastro/nastro/model/DigitsValuePinLaw", "part", "(CIII)I"⟩ : MethodName)) hown (mvT hZ (hw _ (List.mem_of_getElem? (i := 41) rfl))) (mvT hZ (hw _ (List.mem_of_getElem? (i := 42) rfl))) (mvT hZ (hw _ (List.mem_of_getElem? (i := 3) rfl))) (mvT hZ (hw _ (List.mem_of_getElem? (i := 43) rfl))) (by decide) (backOf (W := 1) (own_rm10 l Z a0 hw [] (cs 4) (4 : Int32) ff nn T185.heap n0 (Nat.le_trans Z0 K185.1)) hZ (hw _ (List.mem_of_getElem? (i := 43) rfl)) (hw _ (List.mem_of_getElem? (i := 3) rfl)) (by decide) (by decide)) (g := (mkF m 245 #[.val (.int p0), .val (.int p1), .val (.int p2), .val (.int p3), .val (.int p4), .val (.int p5), .val (.ref b171), .val (.ref b184), .val (.int ff), .val (.int nn), .val (.int (1 : Int32)), .unset, .unset] [(.int nn), (.int ff), (.int (4 : Int32)), (.int (cs 4)), (.int ((((own_part (cs 0) (0 : Int32) ff nn) + (own_part (cs 1) (1 : Int32) ff nn)) + (own_part (cs 2) (2 : Int32) ff nn)) + (own_part (cs 3) (3 : Int32) ff nn)))])) rfl (by rw [hml]; rfl) (argsL := [(.int (cs 4)), (.int (4 : Int32)), (.int ff), (.int nn)]) (rest := [(.int ((((own_part (cs 0) (0 : Int32) ff nn) + (own_part (cs 1) (1 : Int32) ff nn)) + (own_part (cs 2) (2 : Int32) ff nn)) + (own_part (cs 3) (3 : Int32) ff nn)))]) (lenOf own_pd17 rfl) rfl (by show 2 * 0 + _ ≤ _; exact Nat.le_of_eq rfl) (hb hby at_245) (fun _ _ => ⟨rfl, eq208, (by decide : 4 + 0 ≤ _), (by decide : 28 + 0 ≤ _)⟩)
              dsimp only [Pt.U, Pt.locs, Pt.cells, Pt.slots] at X209 l209 y209 z209 st209 hQ209
              subst y209 z209
              obtain ⟨rfl, N209q, eq209⟩ := hQ209
              have N209 : Fr n0 L209 := by rw [l209]; exact Fr.app N208 N209q
              refine own_st (st209) ?_
              show own_Go p.tables e below _ (T209.setTop (mkF m 248 #[.val (.int p0), .val (.int p1), .val (.int p2), .val (.int p3), .val (.int p4), .val (.int p5), .val (.ref b171), .val (.ref b184), .val (.int ff), .val (.int nn), .val (.int (1 : Int32)), .unset, .unset] [(.int (own_part (cs 4) (4 : Int32) ff nn)), (.int ((((own_part (cs 0) (0 : Int32) ff nn) + (own_part (cs 1) (1 : Int32) ff nn)) + (own_part (cs 2) (2 : Int32) ff nn)) + (own_part (cs 3) (3 : Int32) ff nn)))]))
              refine own_st (fun t_ k_ => XS.iadd X209.here hx rfl (hb hby at_248) rfl k_) ?_
              show own_Go p.tables e below _ (T209.setTop (mkF m 249 #[.val (.int p0), .val (.int p1), .val (.int p2), .val (.int p3), .val (.int p4), .val (.int p5), .val (.ref b171), .val (.ref b184), .val (.int ff), .val (.int nn), .val (.int (1 : Int32)), .unset, .unset] [(.int (((((own_part (cs 0) (0 : Int32) ff nn) + (own_part (cs 1) (1 : Int32) ff nn)) + (own_part (cs 2) (2 : Int32) ff nn)) + (own_part (cs 3) (3 : Int32) ff nn)) + (own_part (cs 4) (4 : Int32) ff nn)))]))
              refine own_st (fun t_ k_ => XS.aload X209.here hx rfl (hb hby at_249) rfl rfl k_) ?_
              show own_Go p.tables e below _ (T209.setTop (mkF m 251 #[.val (.int p0), .val (.int p1), .val (.int p2), .val (.int p3), .val (.int p4), .val (.int p5), .val (.ref b171), .val (.ref b184), .val (.int ff), .val (.int nn), .val (.int (1 : Int32)), .unset, .unset] [(.ref b171), (.int (((((own_part (cs 0) (0 : Int32) ff nn) + (own_part (cs 1) (1 : Int32) ff nn)) + (own_part (cs 2) (2 : Int32) ff nn)) + (own_part (cs 3) (3 : Int32) ff nn)) + (own_part (cs 4) (4 : Int32) ff nn)))]))
              refine own_st (fun t_ k_ => XS.iconst X209.here hx rfl (hb hby at_251) k_) ?_
              show own_Go p.tables e below _ (T209.setTop (mkF m 252 #[.val (.int p0), .val (.int p1), .val (.int p2), .val (.int p3), .val (.int p4), .val (.int p5), .val (.ref b171), .val (.ref b184), .val (.int ff), .val (.int nn), .val (.int (1 : Int32)), .unset, .unset] [(.int (5 : Int32)), (.ref b171), (.int (((((own_part (cs 0) (0 : Int32) ff nn) + (own_part (cs 1) (1 : Int32) ff nn)) + (own_part (cs 2) (2 : Int32) ff nn)) + (own_part (cs 3) (3 : Int32) ff nn)) + (own_part (cs 4) (4 : Int32) ff nn)))]))
              refine own_st (own_caload X209 hx hZ eq209 ((Acs.ext E184).keep Kq185 (ninS (Nat.ne_of_lt (Nat.lt_of_lt_of_le Acs.lt (Nat.le_of_eq g184.symm))) nin0)) (i := 5) (by decide) (by decide) (g := (mkF m 252 #[.val (.int p0), .val (.int p1), .val (.int p2), .val (.int p3), .val (.int p4), .val (.int p5), .val (.ref b171), .val (.ref b184), .val (.int ff), .val (.int nn), .val (.int (1 : Int32)), .unset, .unset] [(.int (5 : Int32)), (.ref b171), (.int (((((own_part (cs 0) (0 : Int32) ff nn) + (own_part (cs 1) (1 : Int32) ff nn)) + (own_part (cs 2) (2 : Int32) ff nn)) + (own_part (cs 3) (3 : Int32) ff nn)) + (own_part (cs 4) (4 : Int32) ff nn)))])) rfl rfl (hb hby at_252)) ?_
              show own_Go p.tables e below _ (T209.setTop (mkF m 253 #[.val (.int p0), .val (.int p1), .val (.int p2), .val (.int p3), .val (.int p4), .val (.int p5), .val (.ref b171), .val (.ref b184), .val (.int ff), .val (.int nn), .val (.int (1 : Int32)), .unset, .unset] [(.int (cs 5)), (.int (((((own_part (cs 0) (0 : Int32) ff nn) + (own_part (cs 1) (1 : Int32) ff nn)) + (own_part (cs 2) (2 : Int32) ff nn)) + (own_part (cs 3) (3 : Int32) ff nn)) + (own_part (cs 4) (4 : Int32) ff nn)))]))
              refine own_st (fun t_ k_ => XS.iconst X209.here hx rfl (hb hby at_253) k_) ?_
              show own_Go p.tables e below _ (T209.setTop (mkF m 254 #[.val (.int p0), .val (.int p1), .val (.int p2), .val (.int p3), .val (.int p4), .val (.int p5), .val (.ref b171), .val (.ref b184), .val (.int ff), .val (.int nn), .val (.int (1 : Int32)), .unset, .unset] [(.int (5 : Int32)), (.int (cs 5)), (.int (((((own_part (cs 0) (0 : Int32) ff nn) + (own_part (cs 1) (1 : Int32) ff nn)) + (own_part (cs 2) (2 : Int32) ff nn)) + (own_part (cs 3) (3 : Int32) ff nn)) + (own_part (cs 4) (4 : Int32) ff nn)))]))
              refine own_st (fun t_ k_ => XS.iload X209.here hx rfl (hb hby at_254) rfl k_) ?_
              show own_Go p.tables e below _ (T209.setTop (mkF m 256 #[.val (.int p0), .val (.int p1), .val (.int p2), .val (.int p3), .val (.int p4), .val (.int p5), .val (.ref b171), .val (.ref b184), .val (.int ff), .val (.int nn), .val (.int (1 : Int32)), .unset, .unset] [(.int ff), (.int (5 : Int32)), (.int (cs 5)), (.int (((((own_part (cs 0) (0 : Int32) ff nn) + (own_part (cs 1) (1 : Int32) ff nn)) + (own_part (cs 2) (2 : Int32) ff nn)) + (own_part (cs 3) (3 : Int32) ff nn)) + (own_part (cs 4) (4 : Int32) ff nn)))]))
              refine own_st (fun t_ k_ => XS.iload X209.here hx rfl (hb hby at_256) rfl k_) ?_
              show own_Go p.tables e below _ (T209.setTop (mkF m 258 #[.val (.int p0), .val (.int p1), .val (.int p2), .val (.int p3), .val (.int p4), .val (.int p5), .val (.ref b171), .val (.ref b184), .val (.int ff), .val (.int nn), .val (.int (1 : Int32)), .unset, .unset] [(.int nn), (.int ff), (.int (5 : Int32)), (.int (cs 5)), (.int (((((own_part (cs 0) (0 : Int32) ff nn) + (own_part (cs 1) (1 : Int32) ff nn)) + (own_part (cs 2) (2 : Int32) ff nn)) + (own_part (cs 3) (3 : Int32) ff nn)) + (own_part (cs 4) (4 : Int32) ff nn)))]))
              obtain ⟨_, _, ⟨T210, L210, k210, n210⟩, -, X210, ⟨Lc210, hQ210, l210, y210, z210⟩, st210⟩ := Jvm.LawKit.callS X209 hx (y := (⟨"com/example/nastro/nastro/model/DigitsValuePinLaw", "part", "(CIII)I"⟩ : MethodName)) hown (mvT hZ (hw _ (List.mem_of_getElem? (i := 41) rfl))) (mvT hZ (hw _ (List.mem_of_getElem? (i := 42) rfl))) (mvT hZ (hw _ (List.mem_of_getElem? (i := 3) rfl))) (mvT hZ (hw _ (List.mem_of_getElem? (i := 43) rfl))) (by decide) (backOf (W := 1) (own_rm10 l Z a0 hw [] (cs 5) (5 : Int32) ff nn T185.heap n0 (Nat.le_trans Z0 K185.1)) hZ (hw _ (List.mem_of_getElem? (i := 43) rfl)) (hw _ (List.mem_of_getElem? (i := 3) rfl)) (by decide) (by decide)) (g := (mkF m 258 #[.val (.int p0), .val (.int p1), .val (.int p2), .val (.int p3), .val (.int p4), .val (.int p5), .val (.ref b171), .val (.ref b184), .val (.int ff), .val (.int nn), .val (.int (1 : Int32)), .unset, .unset] [(.int nn), (.int ff), (.int (5 : Int32)), (.int (cs 5)), (.int (((((own_part (cs 0) (0 : Int32) ff nn) + (own_part (cs 1) (1 : Int32) ff nn)) + (own_part (cs 2) (2 : Int32) ff nn)) + (own_part (cs 3) (3 : Int32) ff nn)) + (own_part (cs 4) (4 : Int32) ff nn)))])) rfl (by rw [hml]; rfl) (argsL := [(.int (cs 5)), (.int (5 : Int32)), (.int ff), (.int nn)]) (rest := [(.int (((((own_part (cs 0) (0 : Int32) ff nn) + (own_part (cs 1) (1 : Int32) ff nn)) + (own_part (cs 2) (2 : Int32) ff nn)) + (own_part (cs 3) (3 : Int32) ff nn)) + (own_part (cs 4) (4 : Int32) ff nn)))]) (lenOf own_pd17 rfl) rfl (by show 2 * 0 + _ ≤ _; exact Nat.le_of_eq rfl) (hb hby at_258) (fun _ _ => ⟨rfl, eq209, (by decide : 4 + 0 ≤ _), (by decide : 28 + 0 ≤ _)⟩)
              dsimp only [Pt.U, Pt.locs, Pt.cells, Pt.slots] at X210 l210 y210 z210 st210 hQ210
              subst y210 z210
              obtain ⟨rfl, N210q, eq210⟩ := hQ210
              have N210 : Fr n0 L210 := by rw [l210]; exact Fr.app N209 N210q
              refine own_st (st210) ?_
              show own_Go p.tables e below _ (T210.setTop (mkF m 261 #[.val (.int p0), .val (.int p1), .val (.int p2), .val (.int p3), .val (.int p4), .val (.int p5), .val (.ref b171), .val (.ref b184), .val (.int ff), .val (.int nn), .val (.int (1 : Int32)), .unset, .unset] [(.int (own_part (cs 5) (5 : Int32) ff nn)), (.int (((((own_part (cs 0) (0 : Int32) ff nn) + (own_part (cs 1) (1 : Int32) ff nn)) + (own_part (cs 2) (2 : Int32) ff nn)) + (own_part (cs 3) (3 : Int32) ff nn)) + (own_part (cs 4) (4 : Int32) ff nn)))]))
              refine own_st (fun t_ k_ => XS.iadd X210.here hx rfl (hb hby at_261) rfl k_) ?_
              show own_Go p.tables e below _ (T210.setTop (mkF m 262 #[.val (.int p0), .val (.int p1), .val (.int p2), .val (.int p3), .val (.int p4), .val (.int p5), .val (.ref b171), .val (.ref b184), .val (.int ff), .val (.int nn), .val (.int (1 : Int32)), .unset, .unset] [(.int ((((((own_part (cs 0) (0 : Int32) ff nn) + (own_part (cs 1) (1 : Int32) ff nn)) + (own_part (cs 2) (2 : Int32) ff nn)) + (own_part (cs 3) (3 : Int32) ff nn)) + (own_part (cs 4) (4 : Int32) ff nn)) + (own_part (cs 5) (5 : Int32) ff nn)))]))
              refine own_st (fun t_ k_ => XS.istore X210.here hx rfl (hb hby at_262) rfl (l' := #[.val (.int p0), .val (.int p1), .val (.int p2), .val (.int p3), .val (.int p4), .val (.int p5), .val (.ref b171), .val (.ref b184), .val (.int ff), .val (.int nn), .val (.int (1 : Int32)), .val (.int ((((((own_part (cs 0) (0 : Int32) ff nn) + (own_part (cs 1) (1 : Int32) ff nn)) + (own_part (cs 2) (2 : Int32) ff nn)) + (own_part (cs 3) (3 : Int32) ff nn)) + (own_part (cs 4) (4 : Int32) ff nn)) + (own_part (cs 5) (5 : Int32) ff nn))), .unset]) rfl k_) ?_
              show own_Go p.tables e below _ (T210.setTop (mkF m 264 #[.val (.int p0), .val (.int p1), .val (.int p2), .val (.int p3), .val (.int p4), .val (.int p5), .val (.ref b171), .val (.ref b184), .val (.int ff), .val (.int nn), .val (.int (1 : Int32)), .val (.int ((((((own_part (cs 0) (0 : Int32) ff nn) + (own_part (cs 1) (1 : Int32) ff nn)) + (own_part (cs 2) (2 : Int32) ff nn)) + (own_part (cs 3) (3 : Int32) ff nn)) + (own_part (cs 4) (4 : Int32) ff nn)) + (own_part (cs 5) (5 : Int32) ff nn))), .unset] []))
              refine own_st (fun t_ k_ => XS.iload X210.here hx rfl (hb hby at_264) rfl k_) ?_
              show own_Go p.tables e below _ (T210.setTop (mkF m 266 #[.val (.int p0), .val (.int p1), .val (.int p2), .val (.int p3), .val (.int p4), .val (.int p5), .val (.ref b171), .val (.ref b184), .val (.int ff), .val (.int nn), .val (.int (1 : Int32)), .val (.int ((((((own_part (cs 0) (0 : Int32) ff nn) + (own_part (cs 1) (1 : Int32) ff nn)) + (own_part (cs 2) (2 : Int32) ff nn)) + (own_part (cs 3) (3 : Int32) ff nn)) + (own_part (cs 4) (4 : Int32) ff nn)) + (own_part (cs 5) (5 : Int32) ff nn))), .unset] [(.int (1 : Int32))]))
              refine own_st (fun t_ k_ => XS.ifNo X210.here hx rfl (hb hby at_266) rfl ((if0 _ _).trans (feq (by decide : ¬ ((1 : Int32) = (0 : Int32)))).1) k_) ?_
              show own_Go p.tables e below _ (T210.setTop (mkF m 269 #[.val (.int p0), .val (.int p1), .val (.int p2), .val (.int p3), .val (.int p4), .val (.int p5), .val (.ref b171), .val (.ref b184), .val (.int ff), .val (.int nn), .val (.int (1 : Int32)), .val (.int ((((((own_part (cs 0) (0 : Int32) ff nn) + (own_part (cs 1) (1 : Int32) ff nn)) + (own_part (cs 2) (2 : Int32) ff nn)) + (own_part (cs 3) (3 : Int32) ff nn)) + (own_part (cs 4) (4 : Int32) ff nn)) + (own_part (cs 5) (5 : Int32) ff nn))), .unset] []))
              refine own_st (fun t_ k_ => XS.iconst X210.here hx rfl (hb hby at_269) k_) ?_
              show own_Go p.tables e below _ (T210.setTop (mkF m 270 #[.val (.int p0), .val (.int p1), .val (.int p2), .val (.int p3), .val (.int p4), .val (.int p5), .val (.ref b171), .val (.ref b184), .val (.int ff), .val (.int nn), .val (.int (1 : Int32)), .val (.int ((((((own_part (cs 0) (0 : Int32) ff nn) + (own_part (cs 1) (1 : Int32) ff nn)) + (own_part (cs 2) (2 : Int32) ff nn)) + (own_part (cs 3) (3 : Int32) ff nn)) + (own_part (cs 4) (4 : Int32) ff nn)) + (own_part (cs 5) (5 : Int32) ff nn))), .unset] [(.int (-1 : Int32))]))
              refine own_st (fun t_ k_ => XS.goto X210.here hx rfl (pc0 := 270) (pc' := 275) rfl (hb hby at_270) (by decide) (by decide) k_) ?_
              show own_Go p.tables e below _ (T210.setTop (mkF m 275 #[.val (.int p0), .val (.int p1), .val (.int p2), .val (.int p3), .val (.int p4), .val (.int p5), .val (.ref b171), .val (.ref b184), .val (.int ff), .val (.int nn), .val (.int (1 : Int32)), .val (.int ((((((own_part (cs 0) (0 : Int32) ff nn) + (own_part (cs 1) (1 : Int32) ff nn)) + (own_part (cs 2) (2 : Int32) ff nn)) + (own_part (cs 3) (3 : Int32) ff nn)) + (own_part (cs 4) (4 : Int32) ff nn)) + (own_part (cs 5) (5 : Int32) ff nn))), .unset] [(.int (-1 : Int32))]))
              refine own_st (fun t_ k_ => XS.istore X210.here hx rfl (hb hby at_275) rfl (l' := #[.val (.int p0), .val (.int p1), .val (.int p2), .val (.int p3), .val (.int p4), .val (.int p5), .val (.ref b171), .val (.ref b184), .val (.int ff), .val (.int nn), .val (.int (1 : Int32)), .val (.int ((((((own_part (cs 0) (0 : Int32) ff nn) + (own_part (cs 1) (1 : Int32) ff nn)) + (own_part (cs 2) (2 : Int32) ff nn)) + (own_part (cs 3) (3 : Int32) ff nn)) + (own_part (cs 4) (4 : Int32) ff nn)) + (own_part (cs 5) (5 : Int32) ff nn))), .val (.int (-1 : Int32))]) rfl k_) ?_
              show own_Go p.tables e below _ (T210.setTop (mkF m 277 #[.val (.int p0), .val (.int p1), .val (.int p2), .val (.int p3), .val (.int p4), .val (.int p5), .val (.ref b171), .val (.ref b184), .val (.int ff), .val (.int nn), .val (.int (1 : Int32)), .val (.int ((((((own_part (cs 0) (0 : Int32) ff nn) + (own_part (cs 1) (1 : Int32) ff nn)) + (own_part (cs 2) (2 : Int32) ff nn)) + (own_part (cs 3) (3 : Int32) ff nn)) + (own_part (cs 4) (4 : Int32) ff nn)) + (own_part (cs 5) (5 : Int32) ff nn))), .val (.int (-1 : Int32))] []))
              refine own_st (fun t_ k_ => XS.aload X210.here hx rfl (hb hby at_277) rfl rfl k_) ?_
              show own_Go p.tables e below _ (T210.setTop (mkF m 279 #[.val (.int p0), .val (.int p1), .val (.int p2), .val (.int p3), .val (.int p4), .val (.int p5), .val (.ref b171), .val (.ref b184), .val (.int ff), .val (.int nn), .val (.int (1 : Int32)), .val (.int ((((((own_part (cs 0) (0 : Int32) ff nn) + (own_part (cs 1) (1 : Int32) ff nn)) + (own_part (cs 2) (2 : Int32) ff nn)) + (own_part (cs 3) (3 : Int32) ff nn)) + (own_part (cs 4) (4 : Int32) ff nn)) + (own_part (cs 5) (5 : Int32) ff nn))), .val (.int (-1 : Int32))] [(.ref b184)]))
              refine own_st (fun t_ k_ => XS.iload X210.here hx rfl (hb hby at_279) rfl k_) ?_
              show own_Go p.tables e below _ (T210.setTop (mkF m 281 #[.val (.int p0), .val (.int p1), .val (.int p2), .val (.int p3), .val (.int p4), .val (.int p5), .val (.ref b171), .val (.ref b184), .val (.int ff), .val (.int nn), .val (.int (1 : Int32)), .val (.int ((((((own_part (cs 0) (0 : Int32) ff nn) + (own_part (cs 1) (1 : Int32) ff nn)) + (own_part (cs 2) (2 : Int32) ff nn)) + (own_part (cs 3) (3 : Int32) ff nn)) + (own_part (cs 4) (4 : Int32) ff nn)) + (own_part (cs 5) (5 : Int32) ff nn))), .val (.int (-1 : Int32))] [(.int ff), (.ref b184)]))
              refine own_st (fun t_ k_ => XS.iload X210.here hx rfl (hb hby at_281) rfl k_) ?_
              show own_Go p.tables e below _ (T210.setTop (mkF m 283 #[.val (.int p0), .val (.int p1), .val (.int p2), .val (.int p3), .val (.int p4), .val (.int p5), .val (.ref b171), .val (.ref b184), .val (.int ff), .val (.int nn), .val (.int (1 : Int32)), .val (.int ((((((own_part (cs 0) (0 : Int32) ff nn) + (own_part (cs 1) (1 : Int32) ff nn)) + (own_part (cs 2) (2 : Int32) ff nn)) + (own_part (cs 3) (3 : Int32) ff nn)) + (own_part (cs 4) (4 : Int32) ff nn)) + (own_part (cs 5) (5 : Int32) ff nn))), .val (.int (-1 : Int32))] [(.int nn), (.int ff), (.ref b184)]))
              obtain ⟨_, _, ⟨T211, L211, k211, n211⟩, -, X211, ⟨Lc211, hQ211, l211, y211, z211⟩, st211⟩ := Jvm.LawKit.callS X210 hx (y := (⟨"com/example/nastro/nastro/model/Digits", "value", "(Ljava/lang/String;II)I"⟩ : MethodName)) hown (mvT hZ (hw _ (List.mem_of_getElem? (i := 44) rfl))) (mvT hZ (hw _ (List.mem_of_getElem? (i := 45) rfl))) (mvT hZ (hw _ (List.mem_of_getElem? (i := 46) rfl))) (mvT hZ (hw _ (List.mem_of_getElem? (i := 47) rfl))) (by decide) (backOf (W := 0) (own_rm11 l Z a0 hw [] b184 ff nn t_185 kt_185 cd_185 6 cs fm ct G1 G3 T185.heap n0 (Nat.le_trans Z0 K185.1) (A184.keep Kq185) P185_1 P185_2 P185_3 P185_4 (((((((((q0.ext E171).wr W173 ge171).wr W175 ge171).wr W177 ge171).wr W179 ge171).wr W181 ge171).wr W183 ge171).ext E184).keep Kq185 (allS ge184 all0)) q1 hG1 q3 rG3 q5 q6 q7 hall ⟨hfm, hct, (by omega), (by decide)⟩) hZ (hw _ (List.mem_of_getElem? (i := 47) rfl)) (hw _ (List.mem_of_getElem? (i := 46) rfl)) (by decide) (by decide)) (g := (mkF m 283 #[.val (.int p0), .val (.int p1), .val (.int p2), .val (.int p3), .val (.int p4), .val (.int p5), .val (.ref b171), .val (.ref b184), .val (.int ff), .val (.int nn), .val (.int (1 : Int32)), .val (.int ((((((own_part (cs 0) (0 : Int32) ff nn) + (own_part (cs 1) (1 : Int32) ff nn)) + (own_part (cs 2) (2 : Int32) ff nn)) + (own_part (cs 3) (3 : Int32) ff nn)) + (own_part (cs 4) (4 : Int32) ff nn)) + (own_part (cs 5) (5 : Int32) ff nn))), .val (.int (-1 : Int32))] [(.int nn), (.int ff), (.ref b184)])) rfl (by rw [hml]; rfl) (argsL := [(.ref b184), (.int ff), (.int nn)]) (rest := []) (lenOf own_pd18 rfl) rfl (by show 2 * 0 + _ ≤ _; exact Nat.le_of_eq rfl) (hb hby at_283) (fun _ _ => ⟨rfl, eq210, (by decide : 4 + 0 ≤ _), (by decide : 28 + 0 ≤ _)⟩)
              dsimp only [Pt.U, Pt.locs, Pt.cells, Pt.slots] at X211 l211 y211 z211 st211 hQ211
              subst y211 z211
              obtain ⟨rfl, N211q, eq211⟩ := hQ211
              have N211 : Fr n0 L211 := by rw [l211]; exact Fr.app N210 N211q
              refine own_st (st211) ?_
              show own_Go p.tables e below _ (T211.setTop (mkF m 286 #[.val (.int p0), .val (.int p1), .val (.int p2), .val (.int p3), .val (.int p4), .val (.int p5), .val (.ref b171), .val (.ref b184), .val (.int ff), .val (.int nn), .val (.int (1 : Int32)), .val (.int ((((((own_part (cs 0) (0 : Int32) ff nn) + (own_part (cs 1) (1 : Int32) ff nn)) + (own_part (cs 2) (2 : Int32) ff nn)) + (own_part (cs 3) (3 : Int32) ff nn)) + (own_part (cs 4) (4 : Int32) ff nn)) + (own_part (cs 5) (5 : Int32) ff nn))), .val (.int (-1 : Int32))] [(.int (own_dig cs ct fm 0))]))
              refine own_st (fun t_ k_ => XS.iload X211.here hx rfl (hb hby at_286) rfl k_) ?_
              show own_Go p.tables e below _ (T211.setTop (mkF m 288 #[.val (.int p0), .val (.int p1), .val (.int p2), .val (.int p3), .val (.int p4), .val (.int p5), .val (.ref b171), .val (.ref b184), .val (.int ff), .val (.int nn), .val (.int (1 : Int32)), .val (.int ((((((own_part (cs 0) (0 : Int32) ff nn) + (own_part (cs 1) (1 : Int32) ff nn)) + (own_part (cs 2) (2 : Int32) ff nn)) + (own_part (cs 3) (3 : Int32) ff nn)) + (own_part (cs 4) (4 : Int32) ff nn)) + (own_part (cs 5) (5 : Int32) ff nn))), .val (.int (-1 : Int32))] [(.int (-1 : Int32)), (.int (own_dig cs ct fm 0))]))
              refine own_st (fun t_ k_ => XS.icmpNo X211.here hx rfl (hb hby at_288) rfl (teq (own_lawB (i := 5) (k := 5) (by decide) hfm hct (by omega) c175_197 : (own_dig cs ct fm 0) = (-1 : Int32))).2 k_) ?_
              show own_Go p.tables e below _ (T211.setTop (mkF m 291 #[.val (.int p0), .val (.int p1), .val (.int p2), .val (.int p3), .val (.int p4), .val (.int p5), .val (.ref b171), .val (.ref b184), .val (.int ff), .val (.int nn), .val (.int (1 : Int32)), .val (.int ((((((own_part (cs 0) (0 : Int32) ff nn) + (own_part (cs 1) (1 : Int32) ff nn)) + (own_part (cs 2) (2 : Int32) ff nn)) + (own_part (cs 3) (3 : Int32) ff nn)) + (own_part (cs 4) (4 : Int32) ff nn)) + (own_part (cs 5) (5 : Int32) ff nn))), .val (.int (-1 : Int32))] []))
              refine own_st (fun t_ k_ => XS.iconst X211.here hx rfl (hb hby at_291) k_) ?_
              show own_Go p.tables e below _ (T211.setTop (mkF m 292 #[.val (.int p0), .val (.int p1), .val (.int p2), .val (.int p3), .val (.int p4), .val (.int p5), .val (.ref b171), .val (.ref b184), .val (.int ff), .val (.int nn), .val (.int (1 : Int32)), .val (.int ((((((own_part (cs 0) (0 : Int32) ff nn) + (own_part (cs 1) (1 : Int32) ff nn)) + (own_part (cs 2) (2 : Int32) ff nn)) + (own_part (cs 3) (3 : Int32) ff nn)) + (own_part (cs 4) (4 : Int32) ff nn)) + (own_part (cs 5) (5 : Int32) ff nn))), .val (.int (-1 : Int32))] [(.int (1 : Int32))]))
              refine own_st (fun t_ k_ => XS.goto X211.here hx rfl (pc0 := 292) (pc' := 296) rfl (hb hby at_292) (by decide) (by decide) k_) ?_
              show own_Go p.tables e below _ (T211.setTop (mkF m 296 #[.val (.int p0), .val (.int p1), .val (.int p2), .val (.int p3), .val (.int p4), .val (.int p5), .val (.ref b171), .val (.ref b184), .val (.int ff), .val (.int nn), .val (.int (1 : Int32)), .val (.int ((((((own_part (cs 0) (0 : Int32) ff nn) + (own_part (cs 1) (1 : Int32) ff nn)) + (own_part (cs 2) (2 : Int32) ff nn)) + (own_part (cs 3) (3 : Int32) ff nn)) + (own_part (cs 4) (4 : Int32) ff nn)) + (own_part (cs 5) (5 : Int32) ff nn))), .val (.int (-1 : Int32))] [(.int (1 : Int32))]))
              exact own_ret (w := (.int (1 : Int32))) X211 hx hnl Bd.returns rfl (Or.inl ⟨rfl, by decide, _, rfl⟩) (hb hby at_296) ⟨rfl, N211, (by rw [eq211]; exact K185)⟩ (by decide) (by decide)
          · skip
            refine own_st (fun t_ k_ => XS.ifYes X194.here hx rfl (pc0 := 160) (pc' := 178) rfl (hb hby at_160) rfl ((if0 _ _).trans (feq c160_195).2) (by decide) (by decide) k_) ?_
            show own_Go p.tables e below _ (T194.setTop (mkF m 178 #[.val (.int p0), .val (.int p1), .val (.int p2), .val (.int p3), .val (.int p4), .val (.int p5), .val (.ref b171), .val (.ref b184), .val (.int ff), .val (.int nn), .unset, .unset, .unset] []))
            refine own_st (fun t_ k_ => XS.iconst X194.here hx rfl (hb hby at_178) k_) ?_
            show own_Go p.tables e below _ (T194.setTop (mkF m 179 #[.val (.int p0), .val (.int p1), .val (.int p2), .val (.int p3), .val (.int p4), .val (.int p5), .val (.ref b171), .val (.ref b184), .val (.int ff), .val (.int nn), .unset, .unset, .unset] [(.int (1 : Int32))]))
            refine own_st (fun t_ k_ => XS.goto X194.here hx rfl (pc0 := 179) (pc' := 183) rfl (hb hby at_179) (by decide) (by decide) k_) ?_
            show own_Go p.tables e below _ (T194.setTop (mkF m 183 #[.val (.int p0), .val (.int p1), .val (.int p2), .val (.int p3), .val (.int p4), .val (.int p5), .val (.ref b171), .val (.ref b184), .val (.int ff), .val (.int nn), .unset, .unset, .unset] [(.int (1 : Int32))]))
            refine own_st (fun t_ k_ => XS.istore X194.here hx rfl (hb hby at_183) rfl (l' := #[.val (.int p0), .val (.int p1), .val (.int p2), .val (.int p3), .val (.int p4), .val (.int p5), .val (.ref b171), .val (.ref b184), .val (.int ff), .val (.int nn), .val (.int (1 : Int32)), .unset, .unset]) rfl k_) ?_
            show own_Go p.tables e below _ (T194.setTop (mkF m 185 #[.val (.int p0), .val (.int p1), .val (.int p2), .val (.int p3), .val (.int p4), .val (.int p5), .val (.ref b171), .val (.ref b184), .val (.int ff), .val (.int nn), .val (.int (1 : Int32)), .unset, .unset] []))
            refine own_st (fun t_ k_ => XS.aload X194.here hx rfl (hb hby at_185) rfl rfl k_) ?_
            show own_Go p.tables e below _ (T194.setTop (mkF m 187 #[.val (.int p0), .val (.int p1), .val (.int p2), .val (.int p3), .val (.int p4), .val (.int p5), .val (.ref b171), .val (.ref b184), .val (.int ff), .val (.int nn), .val (.int (1 : Int32)), .unset, .unset] [(.ref b171)]))
            refine own_st (fun t_ k_ => XS.iconst X194.here hx rfl (hb hby at_187) k_) ?_
            show own_Go p.tables e below _ (T194.setTop (mkF m 188 #[.val (.int p0), .val (.int p1), .val (.int p2), .val (.int p3), .val (.int p4), .val (.int p5), .val (.ref b171), .val (.ref b184), .val (.int ff), .val (.int nn), .val (.int (1 : Int32)), .unset, .unset] [(.int (0 : Int32)), (.ref b171)]))
            refine own_st (own_caload X194 hx hZ eq194 ((Acs.ext E184).keep Kq185 (ninS (Nat.ne_of_lt (Nat.lt_of_lt_of_le Acs.lt (Nat.le_of_eq g184.symm))) nin0)) (i := 0) (by decide) (by decide) (g := (mkF m 188 #[.val (.int p0), .val (.int p1), .val (.int p2), .val (.int p3), .val (.int p4), .val (.int p5), .val (.ref b171), .val (.ref b184), .val (.int ff), .val (.int nn), .val (.int (1 : Int32)), .unset, .unset] [(.int (0 : Int32)), (.ref b171)])) rfl rfl (hb hby at_188)) ?_
            show own_Go p.tables e below _ (T194.setTop (mkF m 189 #[.val (.int p0), .val (.int p1), .val (.int p2), .val (.int p3), .val (.int p4), .val (.int p5), .val (.ref b171), .val (.ref b184), .val (.int ff), .val (.int nn), .val (.int (1 : Int32)), .unset, .unset] [(.int (cs 0))]))
            refine own_st (fun t_ k_ => XS.iconst X194.here hx rfl (hb hby at_189) k_) ?_
            show own_Go p.tables e below _ (T194.setTop (mkF m 190 #[.val (.int p0), .val (.int p1), .val (.int p2), .val (.int p3), .val (.int p4), .val (.int p5), .val (.ref b171), .val (.ref b184), .val (.int ff), .val (.int nn), .val (.int (1 : Int32)), .unset, .unset] [(.int (0 : Int32)), (.int (cs 0))]))
            refine own_st (fun t_ k_ => XS.iload X194.here hx rfl (hb hby at_190) rfl k_) ?_
            show own_Go p.tables e below _ (T194.setTop (mkF m 192 #[.val (.int p0), .val (.int p1), .val (.int p2), .val (.int p3), .val (.int p4), .val (.int p5), .val (.ref b171), .val (.ref b184), .val (.int ff), .val (.int nn), .val (.int (1 : Int32)), .unset, .unset] [(.int ff), (.int (0 : Int32)), (.int (cs 0))]))
            refine own_st (fun t_ k_ => XS.iload X194.here hx rfl (hb hby at_192) rfl k_) ?_
            show own_Go p.tables e below _ (T194.setTop (mkF m 194 #[.val (.int p0), .val (.int p1), .val (.int p2), .val (.int p3), .val (.int p4), .val (.int p5), .val (.ref b171), .val (.ref b184), .val (.int ff), .val (.int nn), .val (.int (1 : Int32)), .unset, .unset] [(.int nn), (.int ff), (.int (0 : Int32)), (.int (cs 0))]))
            obtain ⟨_, _, ⟨T212, L212, k212, n212⟩, -, X212, ⟨Lc212, hQ212, l212, y212, z212⟩, st212⟩ := Jvm.LawKit.callS X194 hx (y := (⟨"com/example/nastro/nastro/model/DigitsValuePinLaw", "part", "(CIII)I"⟩ : MethodName)) hown (mvT hZ (hw _ (List.mem_of_getElem? (i := 41) rfl))) (mvT hZ (hw _ (List.mem_of_getElem? (i := 42) rfl))) (mvT hZ (hw _ (List.mem_of_getElem? (i := 3) rfl))) (mvT hZ (hw _ (List.mem_of_getElem? (i := 43) rfl))) (by decide) (backOf (W := 0) (own_rm10 l Z a0 hw [] (cs 0) (0 : Int32) ff nn T185.heap n0 (Nat.le_trans Z0 K185.1)) hZ (hw _ (List.mem_of_getElem? (i := 43) rfl)) (hw _ (List.mem_of_getElem? (i := 3) rfl)) (by decide) (by decide)) (g := (mkF m 194 #[.val (.int p0), .val (.int p1), .val (.int p2), .val (.int p3), .val (.int p4), .val (.int p5), .val (.ref b171), .val (.ref b184), .val (.int ff), .val (.int nn), .val (.int (1 : Int32)), .unset, .unset] [(.int nn), (.int ff), (.int (0 : Int32)), (.int (cs 0))])) rfl (by rw [hml]; rfl) (argsL := [(.int (cs 0)), (.int (0 : Int32)), (.int ff), (.int nn)]) (rest := []) (lenOf own_pd17 rfl) rfl (by show 2 * 0 + _ ≤ _; exact Nat.le_of_eq rfl) (hb hby at_194) (fun _ _ => ⟨rfl, eq194, (by decide : 4 + 0 ≤ _), (by decide : 28 + 0 ≤ _)⟩)
            dsimp only [Pt.U, Pt.locs, Pt.cells, Pt.slots] at X212 l212 y212 z212 st212 hQ212
            subst y212 z212
            obtain ⟨rfl, N212q, eq212⟩ := hQ212
            have N212 : Fr n0 L212 := by rw [l212]; exact Fr.app N194 N212q
            refine own_st (st212) ?_
            show own_Go p.tables e below _ (T212.setTop (mkF m 197 #[.val (.int p0), .val (.int p1), .val (.int p2), .val (.int p3), .val (.int p4), .val (.int p5), .val (.ref b171), .val (.ref b184), .val (.int ff), .val (.int nn), .val (.int (1 : Int32)), .unset, .unset] [(.int (own_part (cs 0) (0 : Int32) ff nn))]))
            refine own_st (fun t_ k_ => XS.aload X212.here hx rfl (hb hby at_197) rfl rfl k_) ?_
            show own_Go p.tables e below _ (T212.setTop (mkF m 199 #[.val (.int p0), .val (.int p1), .val (.int p2), .val (.int p3), .val (.int p4), .val (.int p5), .val (.ref b171), .val (.ref b184), .val (.int ff), .val (.int nn), .val (.int (1 : Int32)), .unset, .unset] [(.ref b171), (.int (own_part (cs 0) (0 : Int32) ff nn))]))
            refine own_st (fun t_ k_ => XS.iconst X212.here hx rfl (hb hby at_199) k_) ?_
            show own_Go p.tables e below _ (T212.setTop (mkF m 200 #[.val (.int p0), .val (.int p1), .val (.int p2), .val (.int p3), .val (.int p4), .val (.int p5), .val (.ref b171), .val (.ref b184), .val (.int ff), .val (.int nn), .val (.int (1 : Int32)), .unset, .unset] [(.int (1 : Int32)), (.ref b171), (.int (own_part (cs 0) (0 : Int32) ff nn))]))
            refine own_st (own_caload X212 hx hZ eq212 ((Acs.ext E184).keep Kq185 (ninS (Nat.ne_of_lt (Nat.lt_of_lt_of_le Acs.lt (Nat.le_of_eq g184.symm))) nin0)) (i := 1) (by decide) (by decide) (g := (mkF m 200 #[.val (.int p0), .val (.int p1), .val (.int p2), .val (.int p3), .val (.int p4), .val (.int p5), .val (.ref b171), .val (.ref b184), .val (.int ff), .val (.int nn), .val (.int (1 : Int32)), .unset, .unset] [(.int (1 : Int32)), (.ref b171), (.int (own_part (cs 0) (0 : Int32) ff nn))])) rfl rfl (hb hby at_200)) ?_
            show own_Go p.tables e below _ (T212.setTop (mkF m 201 #[.val (.int p0), .val (.int p1), .val (.int p2), .val (.int p3), .val (.int p4), .val (.int p5), .val (.ref b171), .val (.ref b184), .val (.int ff), .val (.int nn), .val (.int (1 : Int32)), .unset, .unset] [(.int (cs 1)), (.int (own_part (cs 0) (0 : Int32) ff nn))]))
            refine own_st (fun t_ k_ => XS.iconst X212.here hx rfl (hb hby at_201) k_) ?_
            show own_Go p.tables e below _ (T212.setTop (mkF m 202 #[.val (.int p0), .val (.int p1), .val (.int p2), .val (.int p3), .val (.int p4), .val (.int p5), .val (.ref b171), .val (.ref b184), .val (.int ff), .val (.int nn), .val (.int (1 : Int32)), .unset, .unset] [(.int (1 : Int32)), (.int (cs 1)), (.int (own_part (cs 0) (0 : Int32) ff nn))]))
            refine own_st (fun t_ k_ => XS.iload X212.here hx rfl (hb hby at_202) rfl k_) ?_
            show own_Go p.tables e below _ (T212.setTop (mkF m 204 #[.val (.int p0), .val (.int p1), .val (.int p2), .val (.int p3), .val (.int p4), .val (.int p5), .val (.ref b171), .val (.ref b184), .val (.int ff), .val (.int nn), .val (.int (1 : Int32)), .unset, .unset] [(.int ff), (.int (1 : Int32)), (.int (cs 1)), (.int (own_part (cs 0) (0 : Int32) ff nn))]))
            refine own_st (fun t_ k_ => XS.iload X212.here hx rfl (hb hby at_204) rfl k_) ?_
            show own_Go p.tables e below _ (T212.setTop (mkF m 206 #[.val (.int p0), .val (.int p1), .val (.int p2), .val (.int p3), .val (.int p4), .val (.int p5), .val (.ref b171), .val (.ref b184), .val (.int ff), .val (.int nn), .val (.int (1 : Int32)), .unset, .unset] [(.int nn), (.int ff), (.int (1 : Int32)), (.int (cs 1)), (.int (own_part (cs 0) (0 : Int32) ff nn))]))
            obtain ⟨_, _, ⟨T213, L213, k213, n213⟩, -, X213, ⟨Lc213, hQ213, l213, y213, z213⟩, st213⟩ := Jvm.LawKit.callS X212 hx (y := (⟨"com/example/nastro/nastro/model/DigitsValuePinLaw", "part", "(CIII)I"⟩ : MethodName)) hown (mvT hZ (hw _ (List.mem_of_getElem? (i := 41) rfl))) (mvT hZ (hw _ (List.mem_of_getElem? (i := 42) rfl))) (mvT hZ (hw _ (List.mem_of_getElem? (i := 3) rfl))) (mvT hZ (hw _ (List.mem_of_getElem? (i := 43) rfl))) (by decide) (backOf (W := 1) (own_rm10 l Z a0 hw [] (cs 1) (1 : Int32) ff nn T185.heap n0 (Nat.le_trans Z0 K185.1)) hZ (hw _ (List.mem_of_getElem? (i := 43) rfl)) (hw _ (List.mem_of_getElem? (i := 3) rfl)) (by decide) (by decide)) (g := (mkF m 206 #[.val (.int p0), .val (.int p1), .val (.int p2), .val (.int p3), .val (.int p4), .val (.int p5), .val (.ref b171), .val (.ref b184), .val (.int ff), .val (.int nn), .val (.int (1 : Int32)), .unset, .unset] [(.int nn), (.int ff), (.int (1 : Int32)), (.int (cs 1)), (.int (own_part (cs 0) (0 : Int32) ff nn))])) rfl (by rw [hml]; rfl) (argsL := [(.int (cs 1)), (.int (1 : Int32)), (.int ff), (.int nn)]) (rest := [(.int (own_part (cs 0) (0 : Int32) ff nn))]) (lenOf own_pd17 rfl) rfl (by show 2 * 0 + _ ≤ _; exact Nat.le_of_eq rfl) (hb hby at_206) (fun _ _ => ⟨rfl, eq212, (by decide : 4 + 0 ≤ _), (by decide : 28 + 0 ≤ _)⟩)
            dsimp only [Pt.U, Pt.locs, Pt.cells, Pt.slots] at X213 l213 y213 z213 st213 hQ213
            subst y213 z213
            obtain ⟨rfl, N213q, eq213⟩ := hQ213
            have N213 : Fr n0 L213 := by rw [l213]; exact Fr.app N212 N213q
            refine own_st (st213) ?_
            show own_Go p.tables e below _ (T213.setTop (mkF m 209 #[.val (.int p0), .val (.int p1), .val (.int p2), .val (.int p3), .val (.int p4), .val (.int p5), .val (.ref b171), .val (.ref b184), .val (.int ff), .val (.int nn), .val (.int (1 : Int32)), .unset, .unset] [(.int (own_part (cs 1) (1 : Int32) ff nn)), (.int (own_part (cs 0) (0 : Int32) ff nn))]))
            refine own_st (fun t_ k_ => XS.iadd X213.here hx rfl (hb hby at_209) rfl k_) ?_
            show own_Go p.tables e below _ (T213.setTop (mkF m 210 #[.val (.int p0), .val (.int p1), .val (.int p2), .val (.int p3), .val (.int p4), .val (.int p5), .val (.ref b171), .val (.ref b184), .val (.int ff), .val (.int nn), .val (.int (1 : Int32)), .unset, .unset] [(.int ((own_part (cs 0) (0 : Int32) ff nn) + (own_part (cs 1) (1 : Int32) ff nn)))]))
            refine own_st (fun t_ k_ => XS.aload X213.here hx rfl (hb hby at_210) rfl rfl k_) ?_
            show own_Go p.tables e below _ (T213.setTop (mkF m 212 #[.val (.int p0), .val (.int p1), .val (.int p2), .val (.int p3), .val (.int p4), .val (.int p5), .val (.ref b171), .val (.ref b184), .val (.int ff), .val (.int nn), .val (.int (1 : Int32)), .unset, .unset] [(.ref b171), (.int ((own_part (cs 0) (0 : Int32) ff nn) + (own_part (cs 1) (1 : Int32) ff nn)))]))
            refine own_st (fun t_ k_ => XS.iconst X213.here hx rfl (hb hby at_212) k_) ?_
            show own_Go p.tables e below _ (T213.setTop (mkF m 213 #[.val (.int p0), .val (.int p1), .val (.int p2), .val (.int p3), .val (.int p4), .val (.int p5), .val (.ref b171), .val (.ref b184), .val (.int ff), .val (.int nn), .val (.int (1 : Int32)), .unset, .unset] [(.int (2 : Int32)), (.ref b171), (.int ((own_part (cs 0) (0 : Int32) ff nn) + (own_part (cs 1) (1 : Int32) ff nn)))]))
            refine own_st (own_caload X213 hx hZ eq213 ((Acs.ext E184).keep Kq185 (ninS (Nat.ne_of_lt (Nat.lt_of_lt_of_le Acs.lt (Nat.le_of_eq g184.symm))) nin0)) (i := 2) (by decide) (by decide) (g := (mkF m 213 #[.val (.int p0), .val (.int p1), .val (.int p2), .val (.int p3), .val (.int p4), .val (.int p5), .val (.ref b171), .val (.ref b184), .val (.int ff), .val (.int nn), .val (.int (1 : Int32)), .unset, .unset] [(.int (2 : Int32)), (.ref b171), (.int ((own_part (cs 0) (0 : Int32) ff nn) + (own_part (cs 1) (1 : Int32) ff nn)))])) rfl rfl (hb hby at_213)) ?_
            show own_Go p.tables e below _ (T213.setTop (mkF m 214 #[.val (.int p0), .val (.int p1), .val (.int p2), .val (.int p3), .val (.int p4), .val (.int p5), .val (.ref b171), .val (.ref b184), .val (.int ff), .val (.int nn), .val (.int (1 : Int32)), .unset, .unset] [(.int (cs 2)), (.int ((own_part (cs 0) (0 : Int32) ff nn) + (own_part (cs 1) (1 : Int32) ff nn)))]))
            refine own_st (fun t_ k_ => XS.iconst X213.here hx rfl (hb hby at_214) k_) ?_
            show own_Go p.tables e below _ (T213.setTop (mkF m 215 #[.val (.int p0), .val (.int p1), .val (.int p2), .val (.int p3), .val (.int p4), .val (.int p5), .val (.ref b171), .val (.ref b184), .val (.int ff), .val (.int nn), .val (.int (1 : Int32)), .unset, .unset] [(.int (2 : Int32)), (.int (cs 2)), (.int ((own_part (cs 0) (0 : Int32) ff nn) + (own_part (cs 1) (1 : Int32) ff nn)))]))
            refine own_st (fun t_ k_ => XS.iload X213.here hx rfl (hb hby at_215) rfl k_) ?_
            show own_Go p.tables e below _ (T213.setTop (mkF m 217 #[.val (.int p0), .val (.int p1), .val (.int p2), .val (.int p3), .val (.int p4), .val (.int p5), .val (.ref b171), .val (.ref b184), .val (.int ff), .val (.int nn), .val (.int (1 : Int32)), .unset, .unset] [(.int ff), (.int (2 : Int32)), (.int (cs 2)), (.int ((own_part (cs 0) (0 : Int32) ff nn) + (own_part (cs 1) (1 : Int32) ff nn)))]))
            refine own_st (fun t_ k_ => XS.iload X213.here hx rfl (hb hby at_217) rfl k_) ?_
            show own_Go p.tables e below _ (T213.setTop (mkF m 219 #[.val (.int p0), .val (.int p1), .val (.int p2), .val (.int p3), .val (.int p4), .val (.int p5), .val (.ref b171), .val (.ref b184), .val (.int ff), .val (.int nn), .val (.int (1 : Int32)), .unset, .unset] [(.int nn), (.int ff), (.int (2 : Int32)), (.int (cs 2)), (.int ((own_part (cs 0) (0 : Int32) ff nn) + (own_part (cs 1) (1 : Int32) ff nn)))]))
            obtain ⟨_, _, ⟨T214, L214, k214, n214⟩, -, X214, ⟨Lc214, hQ214, l214, y214, z214⟩, st214⟩ := Jvm.LawKit.callS X213 hx (y := (⟨"com/example/nastro/nastro/model/DigitsValuePinLaw", "part", "(CIII)I"⟩ : MethodName)) hown (mvT hZ (hw _ (List.mem_of_getElem? (i := 41) rfl))) (mvT hZ (hw _ (List.mem_of_getElem? (i := 42) rfl))) (mvT hZ (hw _ (List.mem_of_getElem? (i := 3) rfl))) (mvT hZ (hw _ (List.mem_of_getElem? (i := 43) rfl))) (by decide) (backOf (W := 1) (own_rm10 l Z a0 hw [] (cs 2) (2 : Int32) ff nn T185.heap n0 (Nat.le_trans Z0 K185.1)) hZ (hw _ (List.mem_of_getElem? (i := 43) rfl)) (hw _ (List.mem_of_getElem? (i := 3) rfl)) (by decide) (by decide)) (g := (mkF m 219 #[.val (.int p0), .val (.int p1), .val (.int p2), .val (.int p3), .val (.int p4), .val (.int p5), .val (.ref b171), .val (.ref b184), .val (.int ff), .val (.int nn), .val (.int (1 : Int32)), .unset, .unset] [(.int nn), (.int ff), (.int (2 : Int32)), (.int (cs 2)), (.int ((own_part (cs 0) (0 : Int32) ff nn) + (own_part (cs 1) (1 : Int32) ff nn)))])) rfl (by rw [hml]; rfl) (argsL := [(.int (cs 2)), (.int (2 : Int32)), (.int ff), (.int nn)]) (rest := [(.int ((own_part (cs 0) (0 : Int32) ff nn) + (own_part (cs 1) (1 : Int32) ff nn)))]) (lenOf own_pd17 rfl) rfl (by show 2 * 0 + _ ≤ _; exact Nat.le_of_eq rfl) (hb hby at_219) (fun _ _ => ⟨rfl, eq213, (by decide : 4 + 0 ≤ _), (by decide : 28 + 0 ≤ _)⟩)
            dsimp only [Pt.U, Pt.locs, Pt.cells, Pt.slots] at X214 l214 y214 z214 st214 hQ214
            subst y214 z214
            obtain ⟨rfl, N214q, eq214⟩ := hQ214
            have N214 : Fr n0 L214 := by rw [l214]; exact Fr.app N213 N214q
            refine own_st (st214) ?_
            show own_Go p.tables e below _ (T214.setTop (mkF m 222 #[.val (.int p0), .val (.int p1), .val (.int p2), .val (.int p3), .val (.int p4), .val (.int p5), .val (.ref b171), .val (.ref b184), .val (.int ff), .val (.int nn), .val (.int (1 : Int32)), .unset, .unset] [(.int (own_part (cs 2) (2 : Int32) ff nn)), (.int ((own_part (cs 0) (0 : Int32) ff nn) + (own_part (cs 1) (1 : Int32) ff nn)))]))
            refine own_st (fun t_ k_ => XS.iadd X214.here hx rfl (hb hby at_222) rfl k_) ?_
            show own_Go p.tables e below _ (T214.setTop (mkF m 223 #[.val (.int p0), .val (.int p1), .val (.int p2), .val (.int p3), .val (.int p4), .val (.int p5), .val (.ref b171), .val (.ref b184), .val (.int ff), .val (.int nn), .val (.int (1 : Int32)), .unset, .unset] [(.int (((own_part (cs 0) (0 : Int32) ff nn) + (own_part (cs 1) (1 : Int32) ff nn)) + (own_part (cs 2) (2 : Int32) ff nn)))]))
            refine own_st (fun t_ k_ => XS.aload X214.here hx rfl (hb hby at_223) rfl rfl k_) ?_
            show own_Go p.tables e below _ (T214.setTop (mkF m 225 #[.val (.int p0), .val (.int p1), .val (.int p2), .val (.int p3), .val (.int p4), .val (.int p5), .val (.ref b171), .val (.ref b184), .val (.int ff), .val (.int nn), .val (.int (1 : Int32)), .unset, .unset] [(.ref b171), (.int (((own_part (cs 0) (0 : Int32) ff nn) + (own_part (cs 1) (1 : Int32) ff nn)) + (own_part (cs 2) (2 : Int32) ff nn)))]))
            refine own_st (fun t_ k_ => XS.iconst X214.here hx rfl (hb hby at_225) k_) ?_
            show own_Go p.tables e below _ (T214.setTop (mkF m 226 #[.val (.int p0), .val (.int p1), .val (.int p2), .val (.int p3), .val (.int p4), .val (.int p5), .val (.ref b171), .val (.ref b184), .val (.int ff), .val (.int nn), .val (.int (1 : Int32)), .unset, .unset] [(.int (3 : Int32)), (.ref b171), (.int (((own_part (cs 0) (0 : Int32) ff nn) + (own_part (cs 1) (1 : Int32) ff nn)) + (own_part (cs 2) (2 : Int32) ff nn)))]))
            refine own_st (own_caload X214 hx hZ eq214 ((Acs.ext E184).keep Kq185 (ninS (Nat.ne_of_lt (Nat.lt_of_lt_of_le Acs.lt (Nat.le_of_eq g184.symm))) nin0)) (i := 3) (by decide) (by decide) (g := (mkF m 226 #[.val (.int p0), .val (.int p1), .val (.int p2), .val (.int p3), .val (.int p4), .val (.int p5), .val (.ref b171), .val (.ref b184), .val (.int ff), .val (.int nn), .val (.int (1 : Int32)), .unset, .unset] [(.int (3 : Int32)), (.ref b171), (.int (((own_part (cs 0) (0 : Int32) ff nn) + (own_part (cs 1) (1 : Int32) ff nn)) + (own_part (cs 2) (2 : Int32) ff nn)))])) rfl rfl (hb hby at_226)) ?_
            show own_Go p.tables e below _ (T214.setTop (mkF m 227 #[.val (.int p0), .val (.int p1), .val (.int p2), .val (.int p3), .val (.int p4), .val (.int p5), .val (.ref b171), .val (.ref b184), .val (.int ff), .val (.int nn), .val (.int (1 : Int32)), .unset, .unset] [(.int (cs 3)), (.int (((own_part (cs 0) (0 : Int32) ff nn) + (own_part (cs 1) (1 : Int32) ff nn)) + (own_part (cs 2) (2 : Int32) ff nn)))]))
            refine own_st (fun t_ k_ => XS.iconst X214.here hx rfl (hb hby at_227) k_) ?_
            show own_Go p.tables e below _ (T214.setTop (mkF m 228 #[.val (.int p0), .val (.int p1), .val (.int p2), .val (.int p3), .val (.int p4), .val (.int p5), .val (.ref b171), .val (.ref b184), .val (.int ff), .val (.int nn), .val (.int (1 : Int32)), .unset, .unset] [(.int (3 : Int32)), (.int (cs 3)), (.int (((own_part (cs 0) (0 : Int32) ff nn) + (own_part (cs 1) (1 : Int32) ff nn)) + (own_part (cs 2) (2 : Int32) ff nn)))]))
            refine own_st (fun t_ k_ => XS.iload X214.here hx rfl (hb hby at_228) rfl k_) ?_
            show own_Go p.tables e below _ (T214.setTop (mkF m 230 #[.val (.int p0), .val (.int p1), .val (.int p2), .val (.int p3), .val (.int p4), .val (.int p5), .val (.ref b171), .val (.ref b184), .val (.int ff), .val (.int nn), .val (.int (1 : Int32)), .unset, .unset] [(.int ff), (.int (3 : Int32)), (.int (cs 3)), (.int (((own_part (cs 0) (0 : Int32) ff nn) + (own_part (cs 1) (1 : Int32) ff nn)) + (own_part (cs 2) (2 : Int32) ff nn)))]))
            refine own_st (fun t_ k_ => XS.iload X214.here hx rfl (hb hby at_230) rfl k_) ?_
            show own_Go p.tables e below _ (T214.setTop (mkF m 232 #[.val (.int p0), .val (.int p1), .val (.int p2), .val (.int p3), .val (.int p4), .val (.int p5), .val (.ref b171), .val (.ref b184), .val (.int ff), .val (.int nn), .val (.int (1 : Int32)), .unset, .unset] [(.int nn), (.int ff), (.int (3 : Int32)), (.int (cs 3)), (.int (((own_part (cs 0) (0 : Int32) ff nn) + (own_part (cs 1) (1 : Int32) ff nn)) + (own_part (cs 2) (2 : Int32) ff nn)))]))
            obtain ⟨_, _, ⟨T215, L215, k215, n215⟩, -, X215, ⟨Lc215, hQ215, l215, y215, z215⟩, st215⟩ := Jvm.LawKit.callS X214 hx (y := (⟨"com/example/nastro/nastro/model/DigitsValuePinLaw", "part", "(CIII)I"⟩ : MethodName)) hown (mvT hZ (hw _ (List.mem_of_getElem? (i := 41) rfl))) (mvT hZ (hw _ (List.mem_of_getElem? (i := 42) rfl))) (mvT hZ (hw _ (List.mem_of_getElem? (i := 3) rfl))) (mvT hZ (hw _ (List.mem_of_getElem? (i := 43) rfl))) (by decide) (backOf (W := 1) (own_rm10 l Z a0 hw [] (cs 3) (3 : Int32) ff nn T185.heap n0 (Nat.le_trans Z0 K185.1)) hZ (hw _ (List.mem_of_getElem? (i := 43) rfl)) (hw _ (List.mem_of_getElem? (i := 3) rfl)) (by decide) (by decide)) (g := (mkF m 232 #[.val (.int p0), .val (.int p1), .val (.int p2), .val (.int p3), .val (.int p4), .val (.int p5), .val (.ref b171), .val (.ref b184), .val (.int ff), .val (.int nn), .val (.int (1 : Int32)), .unset, .unset] [(.int nn), (.int ff), (.int (3 : Int32)), (.int (cs 3)), (.int (((own_part (cs 0) (0 : Int32) ff nn) + (own_part (cs 1) (1 : Int32) ff nn)) + (own_part (cs 2) (2 : Int32) ff nn)))])) rfl (by rw [hml]; rfl) (argsL := [(.int (cs 3)), (.int (3 : Int32)), (.int ff), (.int nn)]) (rest := [(.int (((own_part (cs 0) (0 : Int32) ff nn) + (own_part (cs 1) (1 : Int32) ff nn)) + (own_part (cs 2) (2 : Int32) ff nn)))]) (lenOf own_pd17 rfl) rfl (by show 2 * 0 + _ ≤ _; exact Nat.le_of_eq rfl) (hb hby at_232) (fun _ _ => ⟨rfl, eq214, (by decide : 4 + 0 ≤ _), (by decide : 28 + 0 ≤ _)⟩)
            dsimp only [Pt.U, Pt.locs, Pt.cells, Pt.slots] at X215 l215 y215 z215 st215 hQ215
            subst y215 z215
            obtain ⟨rfl, N215q, eq215⟩ := hQ215
            have N215 : Fr n0 L215 := by rw [l215]; exact Fr.app N214 N215q
            refine own_st (st215) ?_
            show own_Go p.tables e below _ (T215.setTop (mkF m 235 #[.val (.int p0), .val (.int p1), .val (.int p2), .val (.int p3), .val (.int p4), .val (.int p5), .val (.ref b171), .val (.ref b184), .val (.int ff), .val (.int nn), .val (.int (1 : Int32)), .unset, .unset] [(.int (own_part (cs 3) (3 : Int32) ff nn)), (.int (((own_part (cs 0) (0 : Int32) ff nn) + (own_part (cs 1) (1 : Int32) ff nn)) + (own_part (cs 2) (2 : Int32) ff nn)))]))
            refine own_st (fun t_ k_ => XS.iadd X215.here hx rfl (hb hby at_235) rfl k_) ?_
            show own_Go p.tables e below _ (T215.setTop (mkF m 236 #[.val (.int p0), .val (.int p1), .val (.int p2), .val (.int p3), .val (.int p4), .val (.int p5), .val (.ref b171), .val (.ref b184), .val (.int ff), .val (.int nn), .val (.int (1 : Int32)), .unset, .unset] [(.int ((((own_part (cs 0) (0 : Int32) ff nn) + (own_part (cs 1) (1 : Int32) ff nn)) + (own_part (cs 2) (2 : Int32) ff nn)) + (own_part (cs 3) (3 : Int32) ff nn)))]))
            refine own_st (fun t_ k_ => XS.aload X215.here hx rfl (hb hby at_236) rfl rfl k_) ?_
            show own_Go p.tables e below _ (T215.setTop (mkF m 238 #[.val (.int p0), .val (.int p1), .val (.int p2), .val (.int p3), .val (.int p4), .val (.int p5), .val (.ref b171), .val (.ref b184), .val (.int ff), .val (.int nn), .val (.int (1 : Int32)), .unset, .unset] [(.ref b171), (.int ((((own_part (cs 0) (0 : Int32) ff nn) + (own_part (cs 1) (1 : Int32) ff nn)) + (own_part (cs 2) (2 : Int32) ff nn)) + (own_part (cs 3) (3 : Int32) ff nn)))]))
            refine own_st (fun t_ k_ => XS.iconst X215.here hx rfl (hb hby at_238) k_) ?_
            show own_Go p.tables e below _ (T215.setTop (mkF m 239 #[.val (.int p0), .val (.int p1), .val (.int p2), .val (.int p3), .val (.int p4), .val (.int p5), .val (.ref b171), .val (.ref b184), .val (.int ff), .val (.int nn), .val (.int (1 : Int32)), .unset, .unset] [(.int (4 : Int32)), (.ref b171), (.int ((((own_part (cs 0) (0 : Int32) ff nn) + (own_part (cs 1) (1 : Int32) ff nn)) + (own_part (cs 2) (2 : Int32) ff nn)) + (own_part (cs 3) (3 : Int32) ff nn)))]))
            refine own_st (own_caload X215 hx hZ eq215 ((Acs.ext E184).keep Kq185 (ninS (Nat.ne_of_lt (Nat.lt_of_lt_of_le Acs.lt (Nat.le_of_eq g184.symm))) nin0)) (i := 4) (by decide) (by decide) (g := (mkF m 239 #[.val (.int p0), .val (.int p1), .val (.int p2), .val (.int p3), .val (.int p4), .val (.int p5), .val (.ref b171), .val (.ref b184), .val (.int ff), .val (.int nn), .val (.int (1 : Int32)), .unset, .unset] [(.int (4 : Int32)), (.ref b171), (.int ((((own_part (cs 0) (0 : Int32) ff nn) + (own_part (cs 1) (1 : Int32) ff nn)) + (own_part (cs 2) (2 : Int32) ff nn)) + (own_part (cs 3) (3 : Int32) ff nn)))])) rfl rfl (hb hby at_239)) ?_
            show own_Go p.tables e below _ (T215.setTop (mkF m 240 #[.val (.int p0), .val (.int p1), .val (.int p2), .val (.int p3), .val (.int p4), .val (.int p5), .val (.ref b171), .val (.ref b184), .val (.int ff), .val (.int nn), .val (.int (1 : Int32)), .unset, .unset] [(.int (cs 4)), (.int ((((own_part (cs 0) (0 : Int32) ff nn) + (own_part (cs 1) (1 : Int32) ff nn)) + (own_part (cs 2) (2 : Int32) ff nn)) + (own_part (cs 3) (3 : Int32) ff nn)))]))
            refine own_st (fun t_ k_ => XS.iconst X215.here hx rfl (hb hby at_240) k_) ?_
            show own_Go p.tables e below _ (T215.setTop (mkF m 241 #[.val (.int p0), .val (.int p1), .val (.int p2), .val (.int p3), .val (.int p4), .val (.int p5), .val (.ref b171), .val (.ref b184), .val (.int ff), .val (.int nn), .val (.int (1 : Int32)), .unset, .unset] [(.int (4 : Int32)), (.int (cs 4)), (.int ((((own_part (cs 0) (0 : Int32) ff nn) + (own_part (cs 1) (1 : Int32) ff nn)) + (own_part (cs 2) (2 : Int32) ff nn)) + (own_part (cs 3) (3 : Int32) ff nn)))]))
            refine own_st (fun t_ k_ => XS.iload X215.here hx rfl (hb hby at_241) rfl k_) ?_
            show own_Go p.tables e below _ (T215.setTop (mkF m 243 #[.val (.int p0), .val (.int p1), .val (.int p2), .val (.int p3), .val (.int p4), .val (.int p5), .val (.ref b171), .val (.ref b184), .val (.int ff), .val (.int nn), .val (.int (1 : Int32)), .unset, .unset] [(.int ff), (.int (4 : Int32)), (.int (cs 4)), (.int ((((own_part (cs 0) (0 : Int32) ff nn) + (own_part (cs 1) (1 : Int32) ff nn)) + (own_part (cs 2) (2 : Int32) ff nn)) + (own_part (cs 3) (3 : Int32) ff nn)))]))
            refine own_st (fun t_ k_ => XS.iload X215.here hx rfl (hb hby at_243) rfl k_) ?_
            show own_Go p.tables e below _ (T215.setTop (mkF m 245 #[.val (.int p0), .val (.int p1), .val (.int p2), .val (.int p3), .val (.int p4), .val (.int p5), .val (.ref b171), .val (.ref b184), .val (.int ff), .val (.int nn), .val (.int (1 : Int32)), .unset, .unset] [(.int nn), (.int ff), (.int (4 : Int32)), (.int (cs 4)), (.int ((((own_part (cs 0) (0 : Int32) ff nn) + (own_part (cs 1) (1 : Int32) ff nn)) + (own_part (cs 2) (2 : Int32) ff nn)) + (own_part (cs 3) (3 : Int32) ff nn)))]))
            obtain ⟨_, _, ⟨T216, L216, k216, n216⟩, -, X216, ⟨Lc216, hQ216, l216, y216, z216⟩, st216⟩ := Jvm.LawKit.callS X215 hx (y := (⟨"com/example/nastro/nastro/model/DigitsValuePinLaw", "part", "(CIII)I"⟩ : MethodName)) hown (mvT hZ (hw _ (List.mem_of_getElem? (i := 41) rfl))) (mvT hZ (hw _ (List.mem_of_getElem? (i := 42) rfl))) (mvT hZ (hw _ (List.mem_of_getElem? (i := 3) rfl))) (mvT hZ (hw _ (List.mem_of_getElem? (i := 43) rfl))) (by decide) (backOf (W := 1) (own_rm10 l Z a0 hw [] (cs 4) (4 : Int32) ff nn T185.heap n0 (Nat.le_trans Z0 K185.1)) hZ (hw _ (List.mem_of_getElem? (i := 43) rfl)) (hw _ (List.mem_of_getElem? (i := 3) rfl)) (by decide) (by decide)) (g := (mkF m 245 #[.val (.int p0), .val (.int p1), .val (.int p2), .val (.int p3), .val (.int p4), .val (.int p5), .val (.ref b171), .val (.ref b184), .val (.int ff), .val (.int nn), .val (.int (1 : Int32)), .unset, .unset] [(.int nn), (.int ff), (.int (4 : Int32)), (.int (cs 4)), (.int ((((own_part (cs 0) (0 : Int32) ff nn) + (own_part (cs 1) (1 : Int32) ff nn)) + (own_part (cs 2) (2 : Int32) ff nn)) + (own_part (cs 3) (3 : Int32) ff nn)))])) rfl (by rw [hml]; rfl) (argsL := [(.int (cs 4)), (.int (4 : Int32)), (.int ff), (.int nn)]) (rest := [(.int ((((own_part (cs 0) (0 : Int32) ff nn) + (own_part (cs 1) (1 : Int32) ff nn)) + (own_part (cs 2) (2 : Int32) ff nn)) + (own_part (cs 3) (3 : Int32) ff nn)))]) (lenOf own_pd17 rfl) rfl (by show 2 * 0 + _ ≤ _; exact Nat.le_of_eq rfl) (hb hby at_245) (fun _ _ => ⟨rfl, eq215, (by decide : 4 + 0 ≤ _), (by decide : 28 + 0 ≤ _)⟩)
            dsimp only [Pt.U, Pt.locs, Pt.cells, Pt.slots] at X216 l216 y216 z216 st216 hQ216
            subst y216 z216
            obtain ⟨rfl, N216q, eq216⟩ := hQ216
            have N216 : Fr n0 L216 := by rw [l216]; exact Fr.app N215 N216q
            refine own_st (st216) ?_
            show own_Go p.tables e below _ (T216.setTop (mkF m 248 #[.val (.int p0), .val (.int p1), .val (.int p2), .val (.int p3), .val (.int p4), .val (.int p5), .val (.ref b171), .val (.ref b184), .val (.int ff), .val (.int nn), .val (.int (1 : Int32)), .unset, .unset] [(.int (own_part (cs 4) (4 : Int32) ff nn)), (.int ((((own_part (cs 0) (0 : Int32) ff nn) + (own_part (cs 1) (1 : Int32) ff nn)) + (own_part (cs 2) (2 : Int32) ff nn)) + (own_part (cs 3) (3 : Int32) ff nn)))]))
            refine own_st (fun t_ k_ => XS.iadd X216.here hx rfl (hb hby at_248) rfl k_) ?_
            show own_Go p.tables e below _ (T216.setTop (mkF m 249 #[.val (.int p0), .val (.int p1), .val (.int p2), .val (.int p3), .val (.int p4), .val (.int p5), .val (.ref b171), .val (.ref b184), .val (.int ff), .val (.int nn), .val (.int (1 : Int32)), .unset, .unset] [(.int (((((own_part (cs 0) (0 : Int32) ff nn) + (own_part (cs 1) (1 : Int32) ff nn)) + (own_part (cs 2) (2 : Int32) ff nn)) + (own_part (cs 3) (3 : Int32) ff nn)) + (own_part (cs 4) (4 : Int32) ff nn)))]))
            refine own_st (fun t_ k_ => XS.aload X216.here hx rfl (hb hby at_249) rfl rfl k_) ?_
            show own_Go p.tables e below _ (T216.setTop (mkF m 251 #[.val (.int p0), .val (.int p1), .val (.int p2), .val (.int p3), .val (.int p4), .val (.int p5), .val (.ref b171), .val (.ref b184), .val (.int ff), .val (.int nn), .val (.int (1 : Int32)), .unset, .unset] [(.ref b171), (.int (((((own_part (cs 0) (0 : Int32) ff nn) + (own_part (cs 1) (1 : Int32) ff nn)) + (own_part (cs 2) (2 : Int32) ff nn)) + (own_part (cs 3) (3 : Int32) ff nn)) + (own_part (cs 4) (4 : Int32) ff nn)))]))
            refine own_st (fun t_ k_ => XS.iconst X216.here hx rfl (hb hby at_251) k_) ?_
            show own_Go p.tables e below _ (T216.setTop (mkF m 252 #[.val (.int p0), .val (.int p1), .val (.int p2), .val (.int p3), .val (.int p4), .val (.int p5), .val (.ref b171), .val (.ref b184), .val (.int ff), .val (.int nn), .val (.int (1 : Int32)), .unset, .unset] [(.int (5 : Int32)), (.ref b171), (.int (((((own_part (cs 0) (0 : Int32) ff nn) + (own_part (cs 1) (1 : Int32) ff nn)) + (own_part (cs 2) (2 : Int32) ff nn)) + (own_part (cs 3) (3 : Int32) ff nn)) + (own_part (cs 4) (4 : Int32) ff nn)))]))
            refine own_st (own_caload X216 hx hZ eq216 ((Acs.ext E184).keep Kq185 (ninS (Nat.ne_of_lt (Nat.lt_of_lt_of_le Acs.lt (Nat.le_of_eq g184.symm))) nin0)) (i := 5) (by decide) (by decide) (g := (mkF m 252 #[.val (.int p0), .val (.int p1), .val (.int p2), .val (.int p3), .val (.int p4), .val (.int p5), .val (.ref b171), .val (.ref b184), .val (.int ff), .val (.int nn), .val (.int (1 : Int32)), .unset, .unset] [(.int (5 : Int32)), (.ref b171), (.int (((((own_part (cs 0) (0 : Int32) ff nn) + (own_part (cs 1) (1 : Int32) ff nn)) + (own_part (cs 2) (2 : Int32) ff nn)) + (own_part (cs 3) (3 : Int32) ff nn)) + (own_part (cs 4) (4 : Int32) ff nn)))])) rfl rfl (hb hby at_252)) ?_
            show own_Go p.tables e below _ (T216.setTop (mkF m 253 #[.val (.int p0), .val (.int p1), .val (.int p2), .val (.int p3), .val (.int p4), .val (.int p5), .val (.ref b171), .val (.ref b184), .val (.int ff), .val (.int nn), .val (.int (1 : Int32)), .unset, .unset] [(.int (cs 5)), (.int (((((own_part (cs 0) (0 : Int32) ff nn) + (own_part (cs 1) (1 : Int32) ff nn)) + (own_part (cs 2) (2 : Int32) ff nn)) + (own_part (cs 3) (3 : Int32) ff nn)) + (own_part (cs 4) (4 : Int32) ff nn)))]))
            refine own_st (fun t_ k_ => XS.iconst X216.here hx rfl (hb hby at_253) k_) ?_
            show own_Go p.tables e below _ (T216.setTop (mkF m 254 #[.val (.int p0), .val (.int p1), .val (.int p2), .val (.int p3), .val (.int p4), .val (.int p5), .val (.ref b171), .val (.ref b184), .val (.int ff), .val (.int nn), .val (.int (1 : Int32)), .unset, .unset] [(.int (5 : Int32)), (.int (cs 5)), (.int (((((own_part (cs 0) (0 : Int32) ff nn) + (own_part (cs 1) (1 : Int32) ff nn)) + (own_part (cs 2) (2 : Int32) ff nn)) + (own_part (cs 3) (3 : Int32) ff nn)) + (own_part (cs 4) (4 : Int32) ff nn)))]))
            refine own_st (fun t_ k_ => XS.iload X216.here hx rfl (hb hby at_254) rfl k_) ?_
            show own_Go p.tables e below _ (T216.setTop (mkF m 256 #[.val (.int p0), .val (.int p1), .val (.int p2), .val (.int p3), .val (.int p4), .val (.int p5), .val (.ref b171), .val (.ref b184), .val (.int ff), .val (.int nn), .val (.int (1 : Int32)), .unset, .unset] [(.int ff), (.int (5 : Int32)), (.int (cs 5)), (.int (((((own_part (cs 0) (0 : Int32) ff nn) + (own_part (cs 1) (1 : Int32) ff nn)) + (own_part (cs 2) (2 : Int32) ff nn)) + (own_part (cs 3) (3 : Int32) ff nn)) + (own_part (cs 4) (4 : Int32) ff nn)))]))
            refine own_st (fun t_ k_ => XS.iload X216.here hx rfl (hb hby at_256) rfl k_) ?_
            show own_Go p.tables e below _ (T216.setTop (mkF m 258 #[.val (.int p0), .val (.int p1), .val (.int p2), .val (.int p3), .val (.int p4), .val (.int p5), .val (.ref b171), .val (.ref b184), .val (.int ff), .val (.int nn), .val (.int (1 : Int32)), .unset, .unset] [(.int nn), (.int ff), (.int (5 : Int32)), (.int (cs 5)), (.int (((((own_part (cs 0) (0 : Int32) ff nn) + (own_part (cs 1) (1 : Int32) ff nn)) + (own_part (cs 2) (2 : Int32) ff nn)) + (own_part (cs 3) (3 : Int32) ff nn)) + (own_part (cs 4) (4 : Int32) ff nn)))]))
            obtain ⟨_, _, ⟨T217, L217, k217, n217⟩, -, X217, ⟨Lc217, hQ217, l217, y217, z217⟩, st217⟩ := Jvm.LawKit.callS X216 hx (y := (⟨"com/example/nastro/nastro/model/DigitsValuePinLaw", "part", "(CIII)I"⟩ : MethodName)) hown (mvT hZ (hw _ (List.mem_of_getElem? (i := 41) rfl))) (mvT hZ (hw _ (List.mem_of_getElem? (i := 42) rfl))) (mvT hZ (hw _ (List.mem_of_getElem? (i := 3) rfl))) (mvT hZ (hw _ (List.mem_of_getElem? (i := 43) rfl))) (by decide) (backOf (W := 1) (own_rm10 l Z a0 hw [] (cs 5) (5 : Int32) ff nn T185.heap n0 (Nat.le_trans Z0 K185.1)) hZ (hw _ (List.mem_of_getElem? (i := 43) rfl)) (hw _ (List.mem_of_getElem? (i := 3) rfl)) (by decide) (by decide)) (g := (mkF m 258 #[.val (.int p0), .val (.int p1), .val (.int p2), .val (.int p3), .val (.int p4), .val (.int p5), .val (.ref b171), .val (.ref b184), .val (.int ff), .val (.int nn), .val (.int (1 : Int32)), .unset, .unset] [(.int nn), (.int ff), (.int (5 : Int32)), (.int (cs 5)), (.int (((((own_part (cs 0) (0 : Int32) ff nn) + (own_part (cs 1) (1 : Int32) ff nn)) + (own_part (cs 2) (2 : Int32) ff nn)) + (own_part (cs 3) (3 : Int32) ff nn)) + (own_part (cs 4) (4 : Int32) ff nn)))])) rfl (by rw [hml]; rfl) (argsL := [(.int (cs 5)), (.int (5 : Int32)), (.int ff), (.int nn)]) (rest := [(.int (((((own_part (cs 0) (0 : Int32) ff nn) + (own_part (cs 1) (1 : Int32) ff nn)) + (own_part (cs 2) (2 : Int32) ff nn)) + (own_part (cs 3) (3 : Int32) ff nn)) + (own_part (cs 4) (4 : Int32) ff nn)))]) (lenOf own_pd17 rfl) rfl (by show 2 * 0 + _ ≤ _; exact Nat.le_of_eq rfl) (hb hby at_258) (fun _ _ => ⟨rfl, eq216, (by decide : 4 + 0 ≤ _), (by decide : 28 + 0 ≤ _)⟩)
            dsimp only [Pt.U, Pt.locs, Pt.cells, Pt.slots] at X217 l217 y217 z217 st217 hQ217
            subst y217 z217
            obtain ⟨rfl, N217q, eq217⟩ := hQ217
            have N217 : Fr n0 L217 := by rw [l217]; exact Fr.app N216 N217q
            refine own_st (st217) ?_
            show own_Go p.tables e below _ (T217.setTop (mkF m 261 #[.val (.int p0), .val (.int p1), .val (.int p2), .val (.int p3), .val (.int p4), .val (.int p5), .val (.ref b171), .val (.ref b184), .val (.int ff), .val (.int nn), .val (.int (1 : Int32)), .unset, .unset] [(.int (own_part (cs 5) (5 : Int32) ff nn)), (.int (((((own_part (cs 0) (0 : Int32) ff nn) + (own_part (cs 1) (1 : Int32) ff nn)) + (own_part (cs 2) (2 : Int32) ff nn)) + (own_part (cs 3) (3 : Int32) ff nn)) + (own_part (cs 4) (4 : Int32) ff nn)))]))
            refine own_st (fun t_ k_ => XS.iadd X217.here hx rfl (hb hby at_261) rfl k_) ?_
            show own_Go p.tables e below _ (T217.setTop (mkF m 262 #[.val (.int p0), .val (.int p1), .val (.int p2), .val (.int p3), .val (.int p4), .val (.int p5), .val (.ref b171), .val (.ref b184), .val (.int ff), .val (.int nn), .val (.int (1 : Int32)), .unset, .unset] [(.int ((((((own_part (cs 0) (0 : Int32) ff nn) + (own_part (cs 1) (1 : Int32) ff nn)) + (own_part (cs 2) (2 : Int32) ff nn)) + (own_part (cs 3) (3 : Int32) ff nn)) + (own_part (cs 4) (4 : Int32) ff nn)) + (own_part (cs 5) (5 : Int32) ff nn)))]))
            refine own_st (fun t_ k_ => XS.istore X217.here hx rfl (hb hby at_262) rfl (l' := #[.val (.int p0), .val (.int p1), .val (.int p2), .val (.int p3), .val (.int p4), .val (.int p5), .val (.ref b171), .val (.ref b184), .val (.int ff), .val (.int nn), .val (.int (1 : Int32)), .val (.int ((((((own_part (cs 0) (0 : Int32) ff nn) + (own_part (cs 1) (1 : Int32) ff nn)) + (own_part (cs 2) (2 : Int32) ff nn)) + (own_part (cs 3) (3 : Int32) ff nn)) + (own_part (cs 4) (4 : Int32) ff nn)) + (own_part (cs 5) (5 : Int32) ff nn))), .unset]) rfl k_) ?_
            show own_Go p.tables e below _ (T217.setTop (mkF m 264 #[.val (.int p0), .val (.int p1), .val (.int p2), .val (.int p3), .val (.int p4), .val (.int p5), .val (.ref b171), .val (.ref b184), .val (.int ff), .val (.int nn), .val (.int (1 : Int32)), .val (.int ((((((own_part (cs 0) (0 : Int32) ff nn) + (own_part (cs 1) (1 : Int32) ff nn)) + (own_part (cs 2) (2 : Int32) ff nn)) + (own_part (cs 3) (3 : Int32) ff nn)) + (own_part (cs 4) (4 : Int32) ff nn)) + (own_part (cs 5) (5 : Int32) ff nn))), .unset] []))
            refine own_st (fun t_ k_ => XS.iload X217.here hx rfl (hb hby at_264) rfl k_) ?_
            show own_Go p.tables e below _ (T217.setTop (mkF m 266 #[.val (.int p0), .val (.int p1), .val (.int p2), .val (.int p3), .val (.int p4), .val (.int p5), .val (.ref b171), .val (.ref b184), .val (.int ff), .val (.int nn), .val (.int (1 : Int32)), .val (.int ((((((own_part (cs 0) (0 : Int32) ff nn) + (own_part (cs 1) (1 : Int32) ff nn)) + (own_part (cs 2) (2 : Int32) ff nn)) + (own_part (cs 3) (3 : Int32) ff nn)) + (own_part (cs 4) (4 : Int32) ff nn)) + (own_part (cs 5) (5 : Int32) ff nn))), .unset] [(.int (1 : Int32))]))
            refine own_st (fun t_ k_ => XS.ifNo X217.here hx rfl (hb hby at_266) rfl ((if0 _ _).trans (feq (by decide : ¬ ((1 : Int32) = (0 : Int32)))).1) k_) ?_
            show own_Go p.tables e below _ (T217.setTop (mkF m 269 #[.val (.int p0), .val (.int p1), .val (.int p2), .val (.int p3), .val (.int p4), .val (.int p5), .val (.ref b171), .val (.ref b184), .val (.int ff), .val (.int nn), .val (.int (1 : Int32)), .val (.int ((((((own_part (cs 0) (0 : Int32) ff nn) + (own_part (cs 1) (1 : Int32) ff nn)) + (own_part (cs 2) (2 : Int32) ff nn)) + (own_part (cs 3) (3 : Int32) ff nn)) + (own_part (cs 4) (4 : Int32) ff nn)) + (own_part (cs 5) (5 : Int32) ff nn))), .unset] []))
            refine own_st (fun t_ k_ => XS.iconst X217.here hx rfl (hb hby at_269) k_) ?_
            show own_Go p.tables e below _ (T217.setTop (mkF m 270 #[.val (.int p0), .val (.int p1), .val (.int p2), .val (.int p3), .val (.int p4), .val (.int p5), .val (.ref b171), .val (.ref b184), .val (.int ff), .val (.int nn), .val (.int (1 : Int32)), .val (.int ((((((own_part (cs 0) (0 : Int32) ff nn) + (own_part (cs 1) (1 : Int32) ff nn)) + (own_part (cs 2) (2 : Int32) ff nn)) + (own_part (cs 3) (3 : Int32) ff nn)) + (own_part (cs 4) (4 : Int32) ff nn)) + (own_part (cs 5) (5 : Int32) ff nn))), .unset] [(.int (-1 : Int32))]))
            refine own_st (fun t_ k_ => XS.goto X217.here hx rfl (pc0 := 270) (pc' := 275) rfl (hb hby at_270) (by decide) (by decide) k_) ?_
            show own_Go p.tables e below _ (T217.setTop (mkF m 275 #[.val (.int p0), .val (.int p1), .val (.int p2), .val (.int p3), .val (.int p4), .val (.int p5), .val (.ref b171), .val (.ref b184), .val (.int ff), .val (.int nn), .val (.int (1 : Int32)), .val (.int ((((((own_part (cs 0) (0 : Int32) ff nn) + (own_part (cs 1) (1 : Int32) ff nn)) + (own_part (cs 2) (2 : Int32) ff nn)) + (own_part (cs 3) (3 : Int32) ff nn)) + (own_part (cs 4) (4 : Int32) ff nn)) + (own_part (cs 5) (5 : Int32) ff nn))), .unset] [(.int (-1 : Int32))]))
            refine own_st (fun t_ k_ => XS.istore X217.here hx rfl (hb hby at_275) rfl (l' := #[.val (.int p0), .val (.int p1), .val (.int p2), .val (.int p3), .val (.int p4), .val (.int p5), .val (.ref b171), .val (.ref b184), .val (.int ff), .val (.int nn), .val (.int (1 : Int32)), .val (.int ((((((own_part (cs 0) (0 : Int32) ff nn) + (own_part (cs 1) (1 : Int32) ff nn)) + (own_part (cs 2) (2 : Int32) ff nn)) + (own_part (cs 3) (3 : Int32) ff nn)) + (own_part (cs 4) (4 : Int32) ff nn)) + (own_part (cs 5) (5 : Int32) ff nn))), .val (.int (-1 : Int32))]) rfl k_) ?_
            show own_Go p.tables e below _ (T217.setTop (mkF m 277 #[.val (.int p0), .val (.int p1), .val (.int p2), .val (.int p3), .val (.int p4), .val (.int p5), .val (.ref b171), .val (.ref b184), .val (.int ff), .val (.int nn), .val (.int (1 : Int32)), .val (.int ((((((own_part (cs 0) (0 : Int32) ff nn) + (own_part (cs 1) (1 : Int32) ff nn)) + (own_part (cs 2) (2 : Int32) ff nn)) + (own_part (cs 3) (3 : Int32) ff nn)) + (own_part (cs 4) (4 : Int32) ff nn)) + (own_part (cs 5) (5 : Int32) ff nn))), .val (.int (-1 : Int32))] []))
            refine own_st (fun t_ k_ => XS.aload X217.here hx rfl (hb hby at_277) rfl rfl k_) ?_
            show own_Go p.tables e below _ (T217.setTop (mkF m 279 #[.val (.int p0), .val (.int p1), .val (.int p2), .val (.int p3), .val (.int p4), .val (.int p5), .val (.ref b171), .val (.ref b184), .val (.int ff), .val (.int nn), .val (.int (1 : Int32)), .val (.int ((((((own_part (cs 0) (0 : Int32) ff nn) + (own_part (cs 1) (1 : Int32) ff nn)) + (own_part (cs 2) (2 : Int32) ff nn)) + (own_part (cs 3) (3 : Int32) ff nn)) + (own_part (cs 4) (4 : Int32) ff nn)) + (own_part (cs 5) (5 : Int32) ff nn))), .val (.int (-1 : Int32))] [(.ref b184)]))
            refine own_st (fun t_ k_ => XS.iload X217.here hx rfl (hb hby at_279) rfl k_) ?_
            show own_Go p.tables e below _ (T217.setTop (mkF m 281 #[.val (.int p0), .val (.int p1), .val (.int p2), .val (.int p3), .val (.int p4), .val (.int p5), .val (.ref b171), .val (.ref b184), .val (.int ff), .val (.int nn), .val (.int (1 : Int32)), .val (.int ((((((own_part (cs 0) (0 : Int32) ff nn) + (own_part (cs 1) (1 : Int32) ff nn)) + (own_part (cs 2) (2 : Int32) ff nn)) + (own_part (cs 3) (3 : Int32) ff nn)) + (own_part (cs 4) (4 : Int32) ff nn)) + (own_part (cs 5) (5 : Int32) ff nn))), .val (.int (-1 : Int32))] [(.int ff), (.ref b184)]))
            refine own_st (fun t_ k_ => XS.iload X217.here hx rfl (hb hby at_281) rfl k_) ?_
            show own_Go p.tables e below _ (T217.setTop (mkF m 283 #[.val (.int p0), .val (.int p1), .val (.int p2), .val (.int p3), .val (.int p4), .val (.int p5), .val (.ref b171), .val (.ref b184), .val (.int ff), .val (.int nn), .val (.int (1 : Int32)), .val (.int ((((((own_part (cs 0) (0 : Int32) ff nn) + (own_part (cs 1) (1 : Int32) ff nn)) + (own_part (cs 2) (2 : Int32) ff nn)) + (own_part (cs 3) (3 : Int32) ff nn)) + (own_part (cs 4) (4 : Int32) ff nn)) + (own_part (cs 5) (5 : Int32) ff nn))), .val (.int (-1 : Int32))] [(.int nn), (.int ff), (.ref b184)]))
            obtain ⟨_, _, ⟨T218, L218, k218, n218⟩, -, X218, ⟨Lc218, hQ218, l218, y218, z218⟩, st218⟩ := Jvm.LawKit.callS X217 hx (y := (⟨"com/example/nastro/nastro/model/Digits", "value", "(Ljava/lang/String;II)I"⟩ : MethodName)) hown (mvT hZ (hw _ (List.mem_of_getElem? (i := 44) rfl))) (mvT hZ (hw _ (List.mem_of_getElem? (i := 45) rfl))) (mvT hZ (hw _ (List.mem_of_getElem? (i := 46) rfl))) (mvT hZ (hw _ (List.mem_of_getElem? (i := 47) rfl))) (by decide) (backOf (W := 0) (own_rm11 l Z a0 hw [] b184 ff nn t_185 kt_185 cd_185 6 cs fm ct G1 G3 T185.heap n0 (Nat.le_trans Z0 K185.1) (A184.keep Kq185) P185_1 P185_2 P185_3 P185_4 (((((((((q0.ext E171).wr W173 ge171).wr W175 ge171).wr W177 ge171).wr W179 ge171).wr W181 ge171).wr W183 ge171).ext E184).keep Kq185 (allS ge184 all0)) q1 hG1 q3 rG3 q5 q6 q7 hall ⟨hfm, hct, (by omega), (by decide)⟩) hZ (hw _ (List.mem_of_getElem? (i := 47) rfl)) (hw _ (List.mem_of_getElem? (i := 46) rfl)) (by decide) (by decide)) (g := (mkF m 283 #[.val (.int p0), .val (.int p1), .val (.int p2), .val (.int p3), .val (.int p4), .val (.int p5), .val (.ref b171), .val (.ref b184), .val (.int ff), .val (.int nn), .val (.int (1 : Int32)), .val (.int ((((((own_part (cs 0) (0 : Int32) ff nn) + (own_part (cs 1) (1 : Int32) ff nn)) + (own_part (cs 2) (2 : Int32) ff nn)) + (own_part (cs 3) (3 : Int32) ff nn)) + (own_part (cs 4) (4 : Int32) ff nn)) + (own_part (cs 5) (5 : Int32) ff nn))), .val (.int (-1 : Int32))] [(.int nn), (.int ff), (.ref b184)])) rfl (by rw [hml]; rfl) (argsL := [(.ref b184), (.int ff), (.int nn)]) (rest := []) (lenOf own_pd18 rfl) rfl (by show 2 * 0 + _ ≤ _; exact Nat.le_of_eq rfl) (hb hby at_283) (fun _ _ => ⟨rfl, eq217, (by decide : 4 + 0 ≤ _), (by decide : 28 + 0 ≤ _)⟩)
            dsimp only [Pt.U, Pt.locs, Pt.cells, Pt.slots] at X218 l218 y218 z218 st218 hQ218
            subst y218 z218
            obtain ⟨rfl, N218q, eq218⟩ := hQ218
            have N218 : Fr n0 L218 := by rw [l218]; exact Fr.app N217 N218q
            refine own_st (st218) ?_
            show own_Go p.tables e below _ (T218.setTop (mkF m 286 #[.val (.int p0), .val (.int p1), .val (.int p2), .val (.int p3), .val (.int p4), .val (.int p5), .val (.ref b171), .val (.ref b184), .val (.int ff), .val (.int nn), .val (.int (1 : Int32)), .val (.int ((((((own_part (cs 0) (0 : Int32) ff nn) + (own_part (cs 1) (1 : Int32) ff nn)) + (own_part (cs 2) (2 : Int32) ff nn)) + (own_part (cs 3) (3 : Int32) ff nn)) + (own_part (cs 4) (4 : Int32) ff nn)) + (own_part (cs 5) (5 : Int32) ff nn))), .val (.int (-1 : Int32))] [(.int (own_dig cs ct fm 0))]))
            refine own_st (fun t_ k_ => XS.iload X218.here hx rfl (hb hby at_286) rfl k_) ?_
            show own_Go p.tables e below _ (T218.setTop (mkF m 288 #[.val (.int p0), .val (.int p1), .val (.int p2), .val (.int p3), .val (.int p4), .val (.int p5), .val (.ref b171), .val (.ref b184), .val (.int ff), .val (.int nn), .val (.int (1 : Int32)), .val (.int ((((((own_part (cs 0) (0 : Int32) ff nn) + (own_part (cs 1) (1 : Int32) ff nn)) + (own_part (cs 2) (2 : Int32) ff nn)) + (own_part (cs 3) (3 : Int32) ff nn)) + (own_part (cs 4) (4 : Int32) ff nn)) + (own_part (cs 5) (5 : Int32) ff nn))), .val (.int (-1 : Int32))] [(.int (-1 : Int32)), (.int (own_dig cs ct fm 0))]))
            refine own_st (fun t_ k_ => XS.icmpNo X218.here hx rfl (hb hby at_288) rfl (teq (own_lawB (i := 4) (k := 4) (by decide) hfm hct (by omega) c160_195 : (own_dig cs ct fm 0) = (-1 : Int32))).2 k_) ?_
            show own_Go p.tables e below _ (T218.setTop (mkF m 291 #[.val (.int p0), .val (.int p1), .val (.int p2), .val (.int p3), .val (.int p4), .val (.int p5), .val (.ref b171), .val (.ref b184), .val (.int ff), .val (.int nn), .val (.int (1 : Int32)), .val (.int ((((((own_part (cs 0) (0 : Int32) ff nn) + (own_part (cs 1) (1 : Int32) ff nn)) + (own_part (cs 2) (2 : Int32) ff nn)) + (own_part (cs 3) (3 : Int32) ff nn)) + (own_part (cs 4) (4 : Int32) ff nn)) + (own_part (cs 5) (5 : Int32) ff nn))), .val (.int (-1 : Int32))] []))
            refine own_st (fun t_ k_ => XS.iconst X218.here hx rfl (hb hby at_291) k_) ?_
            show own_Go p.tables e below _ (T218.setTop (mkF m 292 #[.val (.int p0), .val (.int p1), .val (.int p2), .val (.int p3), .val (.int p4), .val (.int p5), .val (.ref b171), .val (.ref b184), .val (.int ff), .val (.int nn), .val (.int (1 : Int32)), .val (.int ((((((own_part (cs 0) (0 : Int32) ff nn) + (own_part (cs 1) (1 : Int32) ff nn)) + (own_part (cs 2) (2 : Int32) ff nn)) + (own_part (cs 3) (3 : Int32) ff nn)) + (own_part (cs 4) (4 : Int32) ff nn)) + (own_part (cs 5) (5 : Int32) ff nn))), .val (.int (-1 : Int32))] [(.int (1 : Int32))]))
            refine own_st (fun t_ k_ => XS.goto X218.here hx rfl (pc0 := 292) (pc' := 296) rfl (hb hby at_292) (by decide) (by decide) k_) ?_
            show own_Go p.tables e below _ (T218.setTop (mkF m 296 #[.val (.int p0), .val (.int p1), .val (.int p2), .val (.int p3), .val (.int p4), .val (.int p5), .val (.ref b171), .val (.ref b184), .val (.int ff), .val (.int nn), .val (.int (1 : Int32)), .val (.int ((((((own_part (cs 0) (0 : Int32) ff nn) + (own_part (cs 1) (1 : Int32) ff nn)) + (own_part (cs 2) (2 : Int32) ff nn)) + (own_part (cs 3) (3 : Int32) ff nn)) + (own_part (cs 4) (4 : Int32) ff nn)) + (own_part (cs 5) (5 : Int32) ff nn))), .val (.int (-1 : Int32))] [(.int (1 : Int32))]))
            exact own_ret (w := (.int (1 : Int32))) X218 hx hnl Bd.returns rfl (Or.inl ⟨rfl, by decide, _, rfl⟩) (hb hby at_296) ⟨rfl, N218, (by rw [eq218]; exact K185)⟩ (by decide) (by decide)
        · skip
          refine own_st (fun t_ k_ => XS.ifYes X192.here hx rfl (pc0 := 145) (pc' := 178) rfl (hb hby at_145) rfl ((if0 _ _).trans (feq c145_193).2) (by decide) (by decide) k_) ?_
          show own_Go p.tables e below _ (T192.setTop (mkF m 178 #[.val (.int p0), .val (.int p1), .val (.int p2), .val (.int p3), .val (.int p4), .val (.int p5), .val (.ref b171), .val (.ref b184), .val (.int ff), .val (.int nn), .unset, .unset, .unset] []))
          refine own_st (fun t_ k_ => XS.iconst X192.here hx rfl (hb hby at_178) k_) ?_
          show own_Go p.tables e below _ (T192.setTop (mkF m 179 #[.val (.int p0), .val (.int p1), .val (.int p2), .val (.int p3), .val (.int p4), .val (.int p5), .val (.ref b171), .val (.ref b184), .val (.int ff), .val (.int nn), .unset, .unset, .unset] [(.int (1 : Int32))]))
          refine own_st (fun t_ k_ => XS.goto X192.here hx rfl (pc0 := 179) (pc' := 183) rfl (hb hby at_179) (by decide) (by decide) k_) ?_
          show own_Go p.tables e below _ (T192.setTop (mkF m 183 #[.val (.int p0), .val (.int p1), .val (.int p2), .val (.int p3), .val (.int p4), .val (.int p5), .val (.ref b171), .val (.ref b184), .val (.int ff), .val (.int nn), .unset, .unset, .unset] [(.int (1 : Int32))]))
          refine own_st (fun t_ k_ => XS.istore X192.here hx rfl (hb hby at_183) rfl (l' := #[.val (.int p0), .val (.int p1), .val (.int p2), .val (.int p3), .val (.int p4), .val (.int p5), .val (.ref b171), .val (.ref b184), .val (.int ff), .val (.int nn), .val (.int (1 : Int32)), .unset, .unset]) rfl k_) ?_
          show own_Go p.tables e below _ (T192.setTop (mkF m 185 #[.val (.int p0), .val (.int p1), .val (.int p2), .val (.int p3), .val (.int p4), .val (.int p5), .val (.ref b171), .val (.ref b184), .val (.int ff), .val (.int nn), .val (.int (1 : Int32)), .unset, .unset] []))
          refine own_st (fun t_ k_ => XS.aload X192.here hx rfl (hb hby at_185) rfl rfl k_) ?_
          show own_Go p.tables e below _ (T192.setTop (mkF m 187 #[.val (.int p0), .val (.int p1), .val (.int p2), .val (.int p3), .val (.int p4), .val (.int p5), .val (.ref b171), .val (.ref b184), .val (.int ff), .val (.int nn), .val (.int (1 : Int32)), .unset, .unset] [(.ref b171)]))
          refine own_st (fun t_ k_ => XS.iconst X192.here hx rfl (hb hby at_187) k_) ?_
          show own_Go p.tables e below _ (T192.setTop (mkF m 188 #[.val (.int p0), .val (.int p1), .val (.int p2), .val (.int p3), .val (.int p4), .val (.int p5), .val (.ref b171), .val (.ref b184), .val (.int ff), .val (.int nn), .val (.int (1 : Int32)), .unset, .unset] [(.int (0 : Int32)), (.ref b171)]))
          refine own_st (own_caload X192 hx hZ eq192 ((Acs.ext E184).keep Kq185 (ninS (Nat.ne_of_lt (Nat.lt_of_lt_of_le Acs.lt (Nat.le_of_eq g184.symm))) nin0)) (i := 0) (by decide) (by decide) (g := (mkF m 188 #[.val (.int p0), .val (.int p1), .val (.int p2), .val (.int p3), .val (.int p4), .val (.int p5), .val (.ref b171), .val (.ref b184), .val (.int ff), .val (.int nn), .val (.int (1 : Int32)), .unset, .unset] [(.int (0 : Int32)), (.ref b171)])) rfl rfl (hb hby at_188)) ?_
          show own_Go p.tables e below _ (T192.setTop (mkF m 189 #[.val (.int p0), .val (.int p1), .val (.int p2), .val (.int p3), .val (.int p4), .val (.int p5), .val (.ref b171), .val (.ref b184), .val (.int ff), .val (.int nn), .val (.int (1 : Int32)), .unset, .unset] [(.int (cs 0))]))
          refine own_st (fun t_ k_ => XS.iconst X192.here hx rfl (hb hby at_189) k_) ?_
          show own_Go p.tables e below _ (T192.setTop (mkF m 190 #[.val (.int p0), .val (.int p1), .val (.int p2), .val (.int p3), .val (.int p4), .val (.int p5), .val (.ref b171), .val (.ref b184), .val (.int ff), .val (.int nn), .val (.int (1 : Int32)), .unset, .unset] [(.int (0 : Int32)), (.int (cs 0))]))
          refine own_st (fun t_ k_ => XS.iload X192.here hx rfl (hb hby at_190) rfl k_) ?_
          show own_Go p.tables e below _ (T192.setTop (mkF m 192 #[.val (.int p0), .val (.int p1), .val (.int p2), .val (.int p3), .val (.int p4), .val (.int p5), .val (.ref b171), .val (.ref b184), .val (.int ff), .val (.int nn), .val (.int (1 : Int32)), .unset, .unset] [(.int ff), (.int (0 : Int32)), (.int (cs 0))]))
          refine own_st (fun t_ k_ => XS.iload X192.here hx rfl (hb hby at_192) rfl k_) ?_
          show own_Go p.tables e below _ (T192.setTop (mkF m 194 #[.val (.int p0), .val (.int p1), .val (.int p2), .val (.int p3), .val (.int p4), .val (.int p5), .val (.ref b171), .val (.ref b184), .val (.int ff), .val (.int nn), .val (.int (1 : Int32)), .unset, .unset] [(.int nn), (.int ff), (.int (0 : Int32)), (.int (cs 0))]))
          obtain ⟨_, _, ⟨T219, L219, k219, n219⟩, -, X219, ⟨Lc219, hQ219, l219, y219, z219⟩, st219⟩ := Jvm.LawKit.callS X192 hx (y := (⟨"com/example/nastro/nastro/model/DigitsValuePinLaw", "part", "(CIII)I"⟩ : MethodName)) hown (mvT hZ (hw _ (List.mem_of_getElem? (i := 41) rfl))) (mvT hZ (hw _ (List.mem_of_getElem? (i := 42) rfl))) (mvT hZ (hw _ (List.mem_of_getElem? (i := 3) rfl))) (mvT hZ (hw _ (List.mem_of_getElem? (i := 43) rfl))) (by decide) (backOf (W := 0) (own_rm10 l Z a0 hw [] (cs 0) (0 : Int32) ff nn T185.heap n0 (Nat.le_trans Z0 K185.1)) hZ (hw _ (List.mem_of_getElem? (i := 43) rfl)) (hw _ (List.mem_of_getElem? (i := 3) rfl)) (by decide) (by decide)) (g := (mkF m 194 #[.val (.int p0), .val (.int p1), .val (.int p2), .val (.int p3), .val (.int p4), .val (.int p5), .val (.ref b171), .val (.ref b184), .val (.int ff), .val (.int nn), .val (.int (1 : Int32)), .unset, .unset] [(.int nn), (.int ff), (.int (0 : Int32)), (.int (cs 0))])) rfl (by rw [hml]; rfl) (argsL := [(.int (cs 0)), (.int (0 : Int32)), (.int ff), (.int nn)]) (rest := []) (lenOf own_pd17 rfl) rfl (by show 2 * 0 + _ ≤ _; exact Nat.le_of_eq rfl) (hb hby at_194) (fun _ _ => ⟨rfl, eq192, (by decide : 4 + 0 ≤ _), (by decide : 28 + 0 ≤ _)⟩)
          dsimp only [Pt.U, Pt.locs, Pt.cells, Pt.slots] at X219 l219 y219 z219 st219 hQ219
          subst y219 z219
          obtain ⟨rfl, N219q, eq219⟩ := hQ219
          have N219 : Fr n0 L219 := by rw [l219]; exact Fr.app N192 N219q
          refine own_st (st219) ?_
          show own_Go p.tables e below _ (T219.setTop (mkF m 197 #[.val (.int p0), .val (.int p1), .val (.int p2), .val (.int p3), .val (.int p4), .val (.int p5), .val (.ref b171), .val (.ref b184), .val (.int ff), .val (.int nn), .val (.int (1 : Int32)), .unset, .unset] [(.int (own_part (cs 0) (0 : Int32) ff nn))]))
          refine own_st (fun t_ k_ => XS.aload X219.here hx rfl (hb hby at_197) rfl rfl k_) ?_
          show own_Go p.tables e below _ (T219.setTop (mkF m 199 #[.val (.int p0), .val (.int p1), .val (.int p2), .val (.int p3), .val (.int p4), .val (.int p5), .val (.ref b171), .val (.ref b184), .val (.int ff), .val (.int nn), .val (.int (1 : Int32)), .unset, .unset] [(.ref b171), (.int (own_part (cs 0) (0 : Int32) ff nn))]))
          refine own_st (fun t_ k_ => XS.iconst X219.here hx rfl (hb hby at_199) k_) ?_
          show own_Go p.tables e below _ (T219.setTop (mkF m 200 #[.val (.int p0), .val (.int p1), .val (.int p2), .val (.int p3), .val (.int p4), .val (.int p5), .val (.ref b171), .val (.ref b184), .val (.int ff), .val (.int nn), .val (.int (1 : Int32)), .unset, .unset] [(.int (1 : Int32)), (.ref b171), (.int (own_part (cs 0) (0 : Int32) ff nn))]))
          refine own_st (own_caload X219 hx hZ eq219 ((Acs.ext E184).keep Kq185 (ninS (Nat.ne_of_lt (Nat.lt_of_lt_of_le Acs.lt (Nat.le_of_eq g184.symm))) nin0)) (i := 1) (by decide) (by decide) (g := (mkF m 200 #[.val (.int p0), .val (.int p1), .val (.int p2), .val (.int p3), .val (.int p4), .val (.int p5), .val (.ref b171), .val (.ref b184), .val (.int ff), .val (.int nn), .val (.int (1 : Int32)), .unset, .unset] [(.int (1 : Int32)), (.ref b171), (.int (own_part (cs 0) (0 : Int32) ff nn))])) rfl rfl (hb hby at_200)) ?_
          show own_Go p.tables e below _ (T219.setTop (mkF m 201 #[.val (.int p0), .val (.int p1), .val (.int p2), .val (.int p3), .val (.int p4), .val (.int p5), .val (.ref b171), .val (.ref b184), .val (.int ff), .val (.int nn), .val (.int (1 : Int32)), .unset, .unset] [(.int (cs 1)), (.int (own_part (cs 0) (0 : Int32) ff nn))]))
          refine own_st (fun t_ k_ => XS.iconst X219.here hx rfl (hb hby at_201) k_) ?_
          show own_Go p.tables e below _ (T219.setTop (mkF m 202 #[.val (.int p0), .val (.int p1), .val (.int p2), .val (.int p3), .val (.int p4), .val (.int p5), .val (.ref b171), .val (.ref b184), .val (.int ff), .val (.int nn), .val (.int (1 : Int32)), .unset, .unset] [(.int (1 : Int32)), (.int (cs 1)), (.int (own_part (cs 0) (0 : Int32) ff nn))]))
          refine own_st (fun t_ k_ => XS.iload X219.here hx rfl (hb hby at_202) rfl k_) ?_
          show own_Go p.tables e below _ (T219.setTop (mkF m 204 #[.val (.int p0), .val (.int p1), .val (.int p2), .val (.int p3), .val (.int p4), .val (.int p5), .val (.ref b171), .val (.ref b184), .val (.int ff), .val (.int nn), .val (.int (1 : Int32)), .unset, .unset] [(.int ff), (.int (1 : Int32)), (.int (cs 1)), (.int (own_part (cs 0) (0 : Int32) ff nn))]))
          refine own_st (fun t_ k_ => XS.iload X219.here hx rfl (hb hby at_204) rfl k_) ?_
          show own_Go p.tables e below _ (T219.setTop (mkF m 206 #[.val (.int p0), .val (.int p1), .val (.int p2), .val (.int p3), .val (.int p4), .val (.int p5), .val (.ref b171), .val (.ref b184), .val (.int ff), .val (.int nn), .val (.int (1 : Int32)), .unset, .unset] [(.int nn), (.int ff), (.int (1 : Int32)), (.int (cs 1)), (.int (own_part (cs 0) (0 : Int32) ff nn))]))
          obtain ⟨_, _, ⟨T220, L220, k220, n220⟩, -, X220, ⟨Lc220, hQ220, l220, y220, z220⟩, st220⟩ := Jvm.LawKit.callS X219 hx (y := (⟨"com/example/nastro/nastro/model/DigitsValuePinLaw", "part", "(CIII)I"⟩ : MethodName)) hown (mvT hZ (hw _ (List.mem_of_getElem? (i := 41) rfl))) (mvT hZ (hw _ (List.mem_of_getElem? (i := 42) rfl))) (mvT hZ (hw _ (List.mem_of_getElem? (i := 3) rfl))) (mvT hZ (hw _ (List.mem_of_getElem? (i := 43) rfl))) (by decide) (backOf (W := 1) (own_rm10 l Z a0 hw [] (cs 1) (1 : Int32) ff nn T185.heap n0 (Nat.le_trans Z0 K185.1)) hZ (hw _ (List.mem_of_getElem? (i := 43) rfl)) (hw _ (List.mem_of_getElem? (i := 3) rfl)) (by decide) (by decide)) (g := (mkF m 206 #[.val (.int p0), .val (.int p1), .val (.int p2), .val (.int p3), .val (.int p4), .val (.int p5), .val (.ref b171), .val (.ref b184), .val (.int ff), .val (.int nn), .val (.int (1 : Int32)), .unset, .unset] [(.int nn), (.int ff), (.int (1 : Int32)), (.int (cs 1)), (.int (own_part (cs 0) (0 : Int32) ff nn))])) rfl (by rw [hml]; rfl) (argsL := [(.int (cs 1)), (.int (1 : Int32)), (.int ff), (.int nn)]) (rest := [(.int (own_part (cs 0) (0 : Int32) ff nn))]) (lenOf own_pd17 rfl) rfl (by show 2 * 0 + _ ≤ _; exact Nat.le_of_eq rfl) (hb hby at_206) (fun _ _ => ⟨rfl, eq219, (by decide : 4 + 0 ≤ _), (by decide : 28 + 0 ≤ _)⟩)
          dsimp only [Pt.U, Pt.locs, Pt.cells, Pt.slots] at X220 l220 y220 z220 st220 hQ220
          subst y220 z220
          obtain ⟨rfl, N220q, eq220⟩ := hQ220
          have N220 : Fr n0 L220 := by rw [l220]; exact Fr.app N219 N220q
          refine own_st (st220) ?_
          show own_Go p.tables e below _ (T220.setTop (mkF m 209 #[.val (.int p0), .val (.int p1), .val (.int p2), .val (.int p3), .val (.int p4), .val (.int p5), .val (.ref b171), .val (.ref b184), .val (.int ff), .val (.int nn), .val (.int (1 : Int32)), .unset, .unset] [(.int (own_part (cs 1) (1 : Int32) ff nn)), (.int (own_part (cs 0) (0 : Int32) ff nn))]))
          refine own_st (fun t_ k_ => XS.iadd X220.here hx rfl (hb hby at_209) rfl k_) ?_
          show own_Go p.tables e below _ (T220.setTop (mkF m 210 #[.val (.int p0), .val (.int p1), .val (.int p2), .val (.int p3), .val (.int p4), .val (.int p5), .val (.ref b171), .val (.ref b184), .val (.int ff), .val (.int nn), .val (.int (1 : Int32)), .unset, .unset] [(.int ((own_part (cs 0) (0 : Int32) ff nn) + (own_part (cs 1) (1 : Int32) ff nn)))]))
          refine own_st (fun t_ k_ => XS.aload X220.here hx rfl (hb hby at_210) rfl rfl k_) ?_
          show own_Go p.tables e below _ (T220.setTop (mkF m 212 #[.val (.int p0), .val (.int p1), .val (.int p2), .val (.int p3), .val (.int p4), .val (.int p5), .val (.ref b171), .val (.ref b184), .val (.int ff), .val (.int nn), .val (.int (1 : Int32)), .unset, .unset] [(.ref b171), (.int ((own_part (cs 0) (0 : Int32) ff nn) + (own_part (cs 1) (1 : Int32) ff nn)))]))
          refine own_st (fun t_ k_ => XS.iconst X220.here hx rfl (hb hby at_212) k_) ?_
          show own_Go p.tables e below _ (T220.setTop (mkF m 213 #[.val (.int p0), .val (.int p1), .val (.int p2), .val (.int p3), .val (.int p4), .val (.int p5), .val (.ref b171), .val (.ref b184), .val (.int ff), .val (.int nn), .val (.int (1 : Int32)), .unset, .unset] [(.int (2 : Int32)), (.ref b171), (.int ((own_part (cs 0) (0 : Int32) ff nn) + (own_part (cs 1) (1 : Int32) ff nn)))]))
          refine own_st (own_caload X220 hx hZ eq220 ((Acs.ext E184).keep Kq185 (ninS (Nat.ne_of_lt (Nat.lt_of_lt_of_le Acs.lt (Nat.le_of_eq g184.symm))) nin0)) (i := 2) (by decide) (by decide) (g := (mkF m 213 #[.val (.int p0), .val (.int p1), .val (.int p2), .val (.int p3), .val (.int p4), .val (.int p5), .val (.ref b171), .val (.ref b184), .val (.int ff), .val (.int nn), .val (.int (1 : Int32)), .unset, .unset] [(.int (2 : Int32)), (.ref b171), (.int ((own_part (cs 0) (0 : Int32) ff nn) + (own_part (cs 1) (1 : Int32) ff nn)))])) rfl rfl (hb hby at_213)) ?_
          show own_Go p.tables e below _ (T220.setTop (mkF m 214 #[.val (.int p0), .val (.int p1), .val (.int p2), .val (.int p3), .val (.int p4), .val (.int p5), .val (.ref b171), .val (.ref b184), .val (.int ff), .val (.int nn), .val (.int (1 : Int32)), .unset, .unset] [(.int (cs 2)), (.int ((own_part (cs 0) (0 : Int32) ff nn) + (own_part (cs 1) (1 : Int32) ff nn)))]))
          refine own_st (fun t_ k_ => XS.iconst X220.here hx rfl (hb hby at_214) k_) ?_
          show own_Go p.tables e below _ (T220.setTop (mkF m 215 #[.val (.int p0), .val (.int p1), .val (.int p2), .val (.int p3), .val (.int p4), .val (.int p5), .val (.ref b171), .val (.ref b184), .val (.int ff), .val (.int nn), .val (.int (1 : Int32)), .unset, .unset] [(.int (2 : Int32)), (.int (cs 2)), (.int ((own_part (cs 0) (0 : Int32) ff nn) + (own_part (cs 1) (1 : Int32) ff nn)))]))
          refine own_st (fun t_ k_ => XS.iload X220.here hx rfl (hb hby at_215) rfl k_) ?_
          show own_Go p.tables e below _ (T220.setTop (mkF m 217 #[.val (.int p0), .val (.int p1), .val (.int p2), .val (.int p3), .val (.int p4), .val (.int p5), .val (.ref b171), .val (.ref b184), .val (.int ff), .val (.int nn), .val (.int (1 : Int32)), .unset, .unset] [(.int ff), (.int (2 : Int32)), (.int (cs 2)), (.int ((own_part (cs 0) (0 : Int32) ff nn) + (own_part (cs 1) (1 : Int32) ff nn)))]))
          refine own_st (fun t_ k_ => XS.iload X220.here hx rfl (hb hby at_217) rfl k_) ?_
          show own_Go p.tables e below _ (T220.setTop (mkF m 219 #[.val (.int p0), .val (.int p1), .val (.int p2), .val (.int p3), .val (.int p4), .val (.int p5), .val (.ref b171), .val (.ref b184), .val (.int ff), .val (.int nn), .val (.int (1 : Int32)), .unset, .unset] [(.int nn), (.int ff), (.int (2 : Int32)), (.int (cs 2)), (.int ((own_part (cs 0) (0 : Int32) ff nn) + (own_part (cs 1) (1 : Int32) ff nn)))]))
          obtain ⟨_, _, ⟨T221, L221, k221, n221⟩, -, X221, ⟨Lc221, hQ221, l221, y221, z221⟩, st221⟩ := Jvm.LawKit.callS X220 hx (y := (⟨"com/example/nastro/nastro/model/DigitsValuePinLaw", "part", "(CIII)I"⟩ : MethodName)) hown (mvT hZ (hw _ (List.mem_of_getElem? (i := 41) rfl))) (mvT hZ (hw _ (List.mem_of_getElem? (i := 42) rfl))) (mvT hZ (hw _ (List.mem_of_getElem? (i := 3) rfl))) (mvT hZ (hw _ (List.mem_of_getElem? (i := 43) rfl))) (by decide) (backOf (W := 1) (own_rm10 l Z a0 hw [] (cs 2) (2 : Int32) ff nn T185.heap n0 (Nat.le_trans Z0 K185.1)) hZ (hw _ (List.mem_of_getElem? (i := 43) rfl)) (hw _ (List.mem_of_getElem? (i := 3) rfl)) (by decide) (by decide)) (g := (mkF m 219 #[.val (.int p0), .val (.int p1), .val (.int p2), .val (.int p3), .val (.int p4), .val (.int p5), .val (.ref b171), .val (.ref b184), .val (.int ff), .val (.int nn), .val (.int (1 : Int32)), .unset, .unset] [(.int nn), (.int ff), (.int (2 : Int32)), (.int (cs 2)), (.int ((own_part (cs 0) (0 : Int32) ff nn) + (own_part (cs 1) (1 : Int32) ff nn)))])) rfl (by rw [hml]; rfl) (argsL := [(.int (cs 2)), (.int (2 : Int32)), (.int ff), (.int nn)]) (rest := [(.int ((own_part (cs 0) (0 : Int32) ff nn) + (own_part (cs 1) (1 : Int32) ff nn)))]) (lenOf own_pd17 rfl) rfl (by show 2 * 0 + _ ≤ _; exact Nat.le_of_eq rfl) (hb hby at_219) (fun _ _ => ⟨rfl, eq220, (by decide : 4 + 0 ≤ _), (by decide : 28 + 0 ≤ _)⟩)
          dsimp only [Pt.U, Pt.locs, Pt.cells, Pt.slots] at X221 l221 y221 z221 st221 hQ221
          subst y221 z221
          obtain ⟨rfl, N221q, eq221⟩ := hQ221
          have N221 : Fr n0 L221 := by rw [l221]; exact Fr.app N220 N221q
          refine own_st (st221) ?_
          show own_Go p.tables e below _ (T221.setTop (mkF m 222 #[.val (.int p0), .val (.int p1), .val (.int p2), .val (.int p3), .val (.int p4), .val (.int p5), .val (.ref b171), .val (.ref b184), .val (.int ff), .val (.int nn), .val (.int (1 : Int32)), .unset, .unset] [(.int (own_part (cs 2) (2 : Int32) ff nn)), (.int ((own_part (cs 0) (0 : Int32) ff nn) + (own_part (cs 1) (1 : Int32) ff nn)))]))
          refine own_st (fun t_ k_ => XS.iadd X221.here hx rfl (hb hby at_222) rfl k_) ?_
          show own_Go p.tables e below _ (T221.setTop (mkF m 223 #[.val (.int p0), .val (.int p1), .val (.int p2), .val (.int p3), .val (.int p4), .val (.int p5), .val (.ref b171), .val (.ref b184), .val (.int ff), .val (.int nn), .val (.int (1 : Int32)), .unset, .unset] [(.int (((own_part (cs 0) (0 : Int32) ff nn) + (own_part (cs 1) (1 : Int32) ff nn)) + (own_part (cs 2) (2 : Int32) ff nn)))]))
          refine own_st (fun t_ k_ => XS.aload X221.here hx rfl (hb hby at_223) rfl rfl k_) ?_
          show own_Go p.tables e below _ (T221.setTop (mkF m 225 #[.val (.int p0), .val (.int p1), .val (.int p2), .val (.int p3), .val (.int p4), .val (.int p5), .val (.ref b171), .val (.ref b184), .val (.int ff), .val (.int nn), .val (.int (1 : Int32)), .unset, .unset] [(.ref b171), (.int (((own_part (cs 0) (0 : Int32) ff nn) + (own_part (cs 1) (1 : Int32) ff nn)) + (own_part (cs 2) (2 : Int32) ff nn)))]))
          refine own_st (fun t_ k_ => XS.iconst X221.here hx rfl (hb hby at_225) k_) ?_
          show own_Go p.tables e below _ (T221.setTop (mkF m 226 #[.val (.int p0), .val (.int p1), .val (.int p2), .val (.int p3), .val (.int p4), .val (.int p5), .val (.ref b171), .val (.ref b184), .val (.int ff), .val (.int nn), .val (.int (1 : Int32)), .unset, .unset] [(.int (3 : Int32)), (.ref b171), (.int (((own_part (cs 0) (0 : Int32) ff nn) + (own_part (cs 1) (1 : Int32) ff nn)) + (own_part (cs 2) (2 : Int32) ff nn)))]))
          refine own_st (own_caload X221 hx hZ eq221 ((Acs.ext E184).keep Kq185 (ninS (Nat.ne_of_lt (Nat.lt_of_lt_of_le Acs.lt (Nat.le_of_eq g184.symm))) nin0)) (i := 3) (by decide) (by decide) (g := (mkF m 226 #[.val (.int p0), .val (.int p1), .val (.int p2), .val (.int p3), .val (.int p4), .val (.int p5), .val (.ref b171), .val (.ref b184), .val (.int ff), .val (.int nn), .val (.int (1 : Int32)), .unset, .unset] [(.int (3 : Int32)), (.ref b171), (.int (((own_part (cs 0) (0 : Int32) ff nn) + (own_part (cs 1) (1 : Int32) ff nn)) + (own_part (cs 2) (2 : Int32) ff nn)))])) rfl rfl (hb hby at_226)) ?_
          show own_Go p.tables e below _ (T221.setTop (mkF m 227 #[.val (.int p0), .val (.int p1), .val (.int p2), .val (.int p3), .val (.int p4), .val (.int p5), .val (.ref b171), .val (.ref b184), .val (.int ff), .val (.int nn), .val (.int (1 : Int32)), .unset, .unset] [(.int (cs 3)), (.int (((own_part (cs 0) (0 : Int32) ff nn) + (own_part (cs 1) (1 : Int32) ff nn)) + (own_part (cs 2) (2 : Int32) ff nn)))]))
          refine own_st (fun t_ k_ => XS.iconst X221.here hx rfl (hb hby at_227) k_) ?_
          show own_Go p.tables e below _ (T221.setTop (mkF m 228 #[.val (.int p0), .val (.int p1), .val (.int p2), .val (.int p3), .val (.int p4), .val (.int p5), .val (.ref b171), .val (.ref b184), .val (.int ff), .val (.int nn), .val (.int (1 : Int32)), .unset, .unset] [(.int (3 : Int32)), (.int (cs 3)), (.int (((own_part (cs 0) (0 : Int32) ff nn) + (own_part (cs 1) (1 : Int32) ff nn)) + (own_part (cs 2) (2 : Int32) ff nn)))]))
          refine own_st (fun t_ k_ => XS.iload X221.here hx rfl (hb hby at_228) rfl k_) ?_
          show own_Go p.tables e below _ (T221.setTop (mkF m 230 #[.val (.int p0), .val (.int p1), .val (.int p2), .val (.int p3), .val (.int p4), .val (.int p5), .val (.ref b171), .val (.ref b184), .val (.int ff), .val (.int nn), .val (.int (1 : Int32)), .unset, .unset] [(.int ff), (.int (3 : Int32)), (.int (cs 3)), (.int (((own_part (cs 0) (0 : Int32) ff nn) + (own_part (cs 1) (1 : Int32) ff nn)) + (own_part (cs 2) (2 : Int32) ff nn)))]))
          refine own_st (fun t_ k_ => XS.iload X221.here hx rfl (hb hby at_230) rfl k_) ?_
          show own_Go p.tables e below _ (T221.setTop (mkF m 232 #[.val (.int p0), .val (.int p1), .val (.int p2), .val (.int p3), .val (.int p4), .val (.int p5), .val (.ref b171), .val (.ref b184), .val (.int ff), .val (.int nn), .val (.int (1 : Int32)), .unset, .unset] [(.int nn), (.int ff), (.int (3 : Int32)), (.int (cs 3)), (.int (((own_part (cs 0) (0 : Int32) ff nn) + (own_part (cs 1) (1 : Int32) ff nn)) + (own_part (cs 2) (2 : Int32) ff nn)))]))
          obtain ⟨_, _, ⟨T222, L222, k222, n222⟩, -, X222, ⟨Lc222, hQ222, l222, y222, z222⟩, st222⟩ := Jvm.LawKit.callS X221 hx (y := (⟨"com/example/nastro/nastro/model/DigitsValuePinLaw", "part", "(CIII)I"⟩ : MethodName)) hown (mvT hZ (hw _ (List.mem_of_getElem? (i := 41) rfl))) (mvT hZ (hw _ (List.mem_of_getElem? (i := 42) rfl))) (mvT hZ (hw _ (List.mem_of_getElem? (i := 3) rfl))) (mvT hZ (hw _ (List.mem_of_getElem? (i := 43) rfl))) (by decide) (backOf (W := 1) (own_rm10 l Z a0 hw [] (cs 3) (3 : Int32) ff nn T185.heap n0 (Nat.le_trans Z0 K185.1)) hZ (hw _ (List.mem_of_getElem? (i := 43) rfl)) (hw _ (List.mem_of_getElem? (i := 3) rfl)) (by decide) (by decide)) (g := (mkF m 232 #[.val (.int p0), .val (.int p1), .val (.int p2), .val (.int p3), .val (.int p4), .val (.int p5), .val (.ref b171), .val (.ref b184), .val (.int ff), .val (.int nn), .val (.int (1 : Int32)), .unset, .unset] [(.int nn), (.int ff), (.int (3 : Int32)), (.int (cs 3)), (.int (((own_part (cs 0) (0 : Int32) ff nn) + (own_part (cs 1) (1 : Int32) ff nn)) + (own_part (cs 2) (2 : Int32) ff nn)))])) rfl (by rw [hml]; rfl) (argsL := [(.int (cs 3)), (.int (3 : Int32)), (.int ff), (.int nn)]) (rest := [(.int (((own_part (cs 0) (0 : Int32) ff nn) + (own_part (cs 1) (1 : Int32) ff nn)) + (own_part (cs 2) (2 : Int32) ff nn)))]) (lenOf own_pd17 rfl) rfl (by show 2 * 0 + _ ≤ _; exact Nat.le_of_eq rfl) (hb hby at_232) (fun _ _ => ⟨rfl, eq221, (by decide : 4 + 0 ≤ _), (by decide : 28 + 0 ≤ _)⟩)
          dsimp only [Pt.U, Pt.locs, Pt.cells, Pt.slots] at X222 l222 y222 z222 st222 hQ222
          subst y222 z222
          obtain ⟨rfl, N222q, eq222⟩ := hQ222
          have N222 : Fr n0 L222 := by rw [l222]; exact Fr.app N221 N222q
          refine own_st (st222) ?_
          show own_Go p.tables e below _ (T222.setTop (mkF m 235 #[.val (.int p0), .val (.int p1), .val (.int p2), .val (.int p3), .val (.int p4), .val (.int p5), .val (.ref b171), .val (.ref b184), .val (.int ff), .val (.int nn), .val (.int (1 : Int32)), .unset, .unset] [(.int (own_part (cs 3) (3 : Int32) ff nn)), (.int (((own_part (cs 0) (0 : Int32) ff nn) + (own_part (cs 1) (1 : Int32) ff nn)) + (own_part (cs 2) (2 : Int32) ff nn)))]))
          refine own_st (fun t_ k_ => XS.iadd X222.here hx rfl (hb hby at_235) rfl k_) ?_
          show own_Go p.tables e below _ (T222.setTop (mkF m 236 #[.val (.int p0), .val (.int p1), .val (.int p2), .val (.int p3), .val (.int p4), .val (.int p5), .val (.ref b171), .val (.ref b184), .val (.int ff), .val (.int nn), .val (.int (1 : Int32)), .unset, .unset] [(.int ((((own_part (cs 0) (0 : Int32) ff nn) + (own_part (cs 1) (1 : Int32) ff nn)) + (own_part (cs 2) (2 : Int32) ff nn)) + (own_part (cs 3) (3 : Int32) ff nn)))]))
          refine own_st (fun t_ k_ => XS.aload X222.here hx rfl (hb hby at_236) rfl rfl k_) ?_
          show own_Go p.tables e below _ (T222.setTop (mkF m 238 #[.val (.int p0), .val (.int p1), .val (.int p2), .val (.int p3), .val (.int p4), .val (.int p5), .val (.ref b171), .val (.ref b184), .val (.int ff), .val (.int nn), .val (.int (1 : Int32)), .unset, .unset] [(.ref b171), (.int ((((own_part (cs 0) (0 : Int32) ff nn) + (own_part (cs 1) (1 : Int32) ff nn)) + (own_part (cs 2) (2 : Int32) ff nn)) + (own_part (cs 3) (3 : Int32) ff nn)))]))
          refine own_st (fun t_ k_ => XS.iconst X222.here hx rfl (hb hby at_238) k_) ?_
          show own_Go p.tables e below _ (T222.setTop (mkF m 239 #[.val (.int p0), .val (.int p1), .val (.int p2), .val (.int p3), .val (.int p4), .val (.int p5), .val (.ref b171), .val (.ref b184), .val (.int ff), .val (.int nn), .val (.int (1 : Int32)), .unset, .unset] [(.int (4 : Int32)), (.ref b171), (.int ((((own_part (cs 0) (0 : Int32) ff nn) + (own_part (cs 1) (1 : Int32) ff nn)) + (own_part (cs 2) (2 : Int32) ff nn)) + (own_part (cs 3) (3 : Int32) ff nn)))]))
          refine own_st (own_caload X222 hx hZ eq222 ((Acs.ext E184).keep Kq185 (ninS (Nat.ne_of_lt (Nat.lt_of_lt_of_le Acs.lt (Nat.le_of_eq g184.symm))) nin0)) (i := 4) (by decide) (by decide) (g := (mkF m 239 #[.val (.int p0), .val (.int p1), .val (.int p2), .val (.int p3), .val (.int p4), .val (.int p5), .val (.ref b171), .val (.ref b184), .val (.int ff), .val (.int nn), .val (.int (1 : Int32)), .unset, .unset] [(.int (4 : Int32)), (.ref b171), (.int ((((own_part (cs 0) (0 : Int32) ff nn) + (own_part (cs 1) (1 : Int32) ff nn)) + (own_part (cs 2) (2 : Int32) ff nn)) + (own_part (cs 3) (3 : Int32) ff nn)))])) rfl rfl (hb hby at_239)) ?_
          show own_Go p.tables e below _ (T222.setTop (mkF m 240 #[.val (.int p0), .val (.int p1), .val (.int p2), .val (.int p3), .val (.int p4), .val (.int p5), .val (.ref b171), .val (.ref b184), .val (.int ff), .val (.int nn), .val (.int (1 : Int32)), .unset, .unset] [(.int (cs 4)), (.int ((((own_part (cs 0) (0 : Int32) ff nn) + (own_part (cs 1) (1 : Int32) ff nn)) + (own_part (cs 2) (2 : Int32) ff nn)) + (own_part (cs 3) (3 : Int32) ff nn)))]))
          refine own_st (fun t_ k_ => XS.iconst X222.here hx rfl (hb hby at_240) k_) ?_
          show own_Go p.tables e below _ (T222.setTop (mkF m 241 #[.val (.int p0), .val (.int p1), .val (.int p2), .val (.int p3), .val (.int p4), .val (.int p5), .val (.ref b171), .val (.ref b184), .val (.int ff), .val (.int nn), .val (.int (1 : Int32)), .unset, .unset] [(.int (4 : Int32)), (.int (cs 4)), (.int ((((own_part (cs 0) (0 : Int32) ff nn) + (own_part (cs 1) (1 : Int32) ff nn)) + (own_part (cs 2) (2 : Int32) ff nn)) + (own_part (cs 3) (3 : Int32) ff nn)))]))
          refine own_st (fun t_ k_ => XS.iload X222.here hx rfl (hb hby at_241) rfl k_) ?_
          show own_Go p.tables e below _ (T222.setTop (mkF m 243 #[.val (.int p0), .val (.int p1), .val (.int p2), .val (.int p3), .val (.int p4), .val (.int p5), .val (.ref b171), .val (.ref b184), .val (.int ff), .val (.int nn), .val (.int (1 : Int32)), .unset, .unset] [(.int ff), (.int (4 : Int32)), (.int (cs 4)), (.int ((((own_part (cs 0) (0 : Int32) ff nn) + (own_part (cs 1) (1 : Int32) ff nn)) + (own_part (cs 2) (2 : Int32) ff nn)) + (own_part (cs 3) (3 : Int32) ff nn)))]))
          refine own_st (fun t_ k_ => XS.iload X222.here hx rfl (hb hby at_243) rfl k_) ?_
          show own_Go p.tables e below _ (T222.setTop (mkF m 245 #[.val (.int p0), .val (.int p1), .val (.int p2), .val (.int p3), .val (.int p4), .val (.int p5), .val (.ref b171), .val (.ref b184), .val (.int ff), .val (.int nn), .val (.int (1 : Int32)), .unset, .unset] [(.int nn), (.int ff), (.int (4 : Int32)), (.int (cs 4)), (.int ((((own_part (cs 0) (0 : Int32) ff nn) + (own_part (cs 1) (1 : Int32) ff nn)) + (own_part (cs 2) (2 : Int32) ff nn)) + (own_part (cs 3) (3 : Int32) ff nn)))]))
          obtain ⟨_, _, ⟨T223, L223, k223, n223⟩, -, X223, ⟨Lc223, hQ223, l223, y223, z223⟩, st223⟩ := Jvm.LawKit.callS X222 hx (y := (⟨"com/example/nastro/nastro/model/DigitsValuePinLaw", "part", "(CIII)I"⟩ : MethodName)) hown (mvT hZ (hw _ (List.mem_of_getElem? (i := 41) rfl))) (mvT hZ (hw _ (List.mem_of_getElem? (i := 42) rfl))) (mvT hZ (hw _ (List.mem_of_getElem? (i := 3) rfl))) (mvT hZ (hw _ (List.mem_of_getElem? (i := 43) rfl))) (by decide) (backOf (W := 1) (own_rm10 l Z a0 hw [] (cs 4) (4 : Int32) ff nn T185.heap n0 (Nat.le_trans Z0 K185.1)) hZ (hw _ (List.mem_of_getElem? (i := 43) rfl)) (hw _ (List.mem_of_getElem? (i := 3) rfl)) (by decide) (by decide)) (g := (mkF m 245 #[.val (.int p0), .val (.int p1), .val (.int p2), .val (.int p3), .val (.int p4), .val (.int p5), .val (.ref b171), .val (.ref b184), .val (.int ff), .val (.int nn), .val (.int (1 : Int32)), .unset, .unset] [(.int nn), (.int ff), (.int (4 : Int32)), (.int (cs 4)), (.int ((((own_part (cs 0) (0 : Int32) ff nn) + (own_part (cs 1) (1 : Int32) ff nn)) + (own_part (cs 2) (2 : Int32) ff nn)) + (own_part (cs 3) (3 : Int32) ff nn)))])) rfl (by rw [hml]; rfl) (argsL := [(.int (cs 4)), (.int (4 : Int32)), (.int ff), (.int nn)]) (rest := [(.int ((((own_part (cs 0) (0 : Int32) ff nn) + (own_part (cs 1) (1 : Int32) ff nn)) + (own_part (cs 2) (2 : Int32) ff nn)) + (own_part (cs 3) (3 : Int32) ff nn)))]) (lenOf own_pd17 rfl) rfl (by show 2 * 0 + _ ≤ _; exact Nat.le_of_eq rfl) (hb hby at_245) (fun _ _ => ⟨rfl, eq222, (by decide : 4 + 0 ≤ _), (by decide : 28 + 0 ≤ _)⟩)
          dsimp only [Pt.U, Pt.locs, Pt.cells, Pt.slots] at X223 l223 y223 z223 st223 hQ223
          subst y223 z223
          obtain ⟨rfl, N223q, eq223⟩ := hQ223
          have N223 : Fr n0 L223 := by rw [l223]; exact Fr.app N222 N223q
          refine own_st (st223) ?_
          show own_Go p.tables e below _ (T223.setTop (mkF m 248 #[.val (.int p0), .val (.int p1), .val (.int p2), .val (.int p3), .val (.int p4), .val (.int p5), .val (.ref b171), .val (.ref b184), .val (.int ff), .val (.int nn), .val (.int (1 : Int32)), .unset, .unset] [(.int (own_part (cs 4) (4 : Int32) ff nn)), (.int ((((own_part (cs 0) (0 : Int32) ff nn) + (own_part (cs 1) (1 : Int32) ff nn)) + (own_part (cs 2) (2 : Int32) ff nn)) + (own_part (cs 3) (3 : Int32) ff nn)))]))
          refine own_st (fun t_ k_ => XS.iadd X223.here hx rfl (hb hby at_248) rfl k_) ?_
          show own_Go p.tables e below _ (T223.setTop (mkF m 249 #[.val (.int p0), .val (.int p1), .val (.int p2), .val (.int p3), .val (.int p4), .val (.int p5), .val (.ref b171), .val (.ref b184), .val (.int ff), .val (.int nn), .val (.int (1 : Int32)), .unset, .unset] [(.int (((((own_part (cs 0) (0 : Int32) ff nn) + (own_part (cs 1) (1 : Int32) ff nn)) + (own_part (cs 2) (2 : Int32) ff nn)) + (own_part (cs 3) (3 : Int32) ff nn)) + (own_part (cs 4) (4 : Int32) ff nn)))]))
          refine own_st (fun t_ k_ => XS.aload X223.here hx rfl (hb hby at_249) rfl rfl k_) ?_
          show own_Go p.tables e below _ (T223.setTop (mkF m 251 #[.val (.int p0), .val (.int p1), .val (.int p2), .val (.int p3), .val (.int p4), .val (.int p5), .val (.ref b171), .val (.ref b184), .val (.int ff), .val (.int nn), .val (.int (1 : Int32)), .unset, .unset] [(.ref b171), (.int (((((own_part (cs 0) (0 : Int32) ff nn) + (own_part (cs 1) (1 : Int32) ff nn)) + (own_part (cs 2) (2 : Int32) ff nn)) + (own_part (cs 3) (3 : Int32) ff nn)) + (own_part (cs 4) (4 : Int32) ff nn)))]))
          refine own_st (fun t_ k_ => XS.iconst X223.here hx rfl (hb hby at_251) k_) ?_
          show own_Go p.tables e below _ (T223.setTop (mkF m 252 #[.val (.int p0), .val (.int p1), .val (.int p2), .val (.int p3), .val (.int p4), .val (.int p5), .val (.ref b171), .val (.ref b184), .val (.int ff), .val (.int nn), .val (.int (1 : Int32)), .unset, .unset] [(.int (5 : Int32)), (.ref b171), (.int (((((own_part (cs 0) (0 : Int32) ff nn) + (own_part (cs 1) (1 : Int32) ff nn)) + (own_part (cs 2) (2 : Int32) ff nn)) + (own_part (cs 3) (3 : Int32) ff nn)) + (own_part (cs 4) (4 : Int32) ff nn)))]))
          refine own_st (own_caload X223 hx hZ eq223 ((Acs.ext E184).keep Kq185 (ninS (Nat.ne_of_lt (Nat.lt_of_lt_of_le Acs.lt (Nat.le_of_eq g184.symm))) nin0)) (i := 5) (by decide) (by decide) (g := (mkF m 252 #[.val (.int p0), .val (.int p1), .val (.int p2), .val (.int p3), .val (.int p4), .val (.int p5), .val (.ref b171), .val (.ref b184), .val (.int ff), .val (.int nn), .val (.int (1 : Int32)), .unset, .unset] [(.int (5 : Int32)), (.ref b171), (.int (((((own_part (cs 0) (0 : Int32) ff nn) + (own_part (cs 1) (1 : Int32) ff nn)) + (own_part (cs 2) (2 : Int32) ff nn)) + (own_part (cs 3) (3 : Int32) ff nn)) + (own_part (cs 4) (4 : Int32) ff nn)))])) rfl rfl (hb hby at_252)) ?_
          show own_Go p.tables e below _ (T223.setTop (mkF m 253 #[.val (.int p0), .val (.int p1), .val (.int p2), .val (.int p3), .val (.int p4), .val (.int p5), .val (.ref b171), .val (.ref b184), .val (.int ff), .val (.int nn), .val (.int (1 : Int32)), .unset, .unset] [(.int (cs 5)), (.int (((((own_part (cs 0) (0 : Int32) ff nn) + (own_part (cs 1) (1 : Int32) ff nn)) + (own_part (cs 2) (2 : Int32) ff nn)) + (own_part (cs 3) (3 : Int32) ff nn)) + (own_part (cs 4) (4 : Int32) ff nn)))]))
          refine own_st (fun t_ k_ => XS.iconst X223.here hx rfl (hb hby at_253) k_) ?_
          show own_Go p.tables e below _ (T223.setTop (mkF m 254 #[.val (.int p0), .val (.int p1), .val (.int p2), .val (.int p3), .val (.int p4), .val (.int p5), .val (.ref b171), .val (.ref b184), .val (.int ff), .val (.int nn), .val (.int (1 : Int32)), .unset, .unset] [(.int (5 : Int32)), (.int (cs 5)), (.int (((((own_part (cs 0) (0 : Int32) ff nn) + (own_part (cs 1) (1 : Int32) ff nn)) + (own_part (cs 2) (2 : Int32) ff nn)) + (own_part (cs 3) (3 : Int32) ff nn)) + (own_part (cs 4) (4 : Int32) ff nn)))]))
          refine own_st (fun t_ k_ => XS.iload X223.here hx rfl (hb hby at_254) rfl k_) ?_
          show own_Go p.tables e below _ (T223.setTop (mkF m 256 #[.val (.int p0), .val (.int p1), .val (.int p2), .val (.int p3), .val (.int p4), .val (.int p5), .val (.ref b171), .val (.ref b184), .val (.int ff), .val (.int nn), .val (.int (1 : Int32)), .unset, .unset] [(.int ff), (.int (5 : Int32)), (.int (cs 5)), (.int (((((own_part (cs 0) (0 : Int32) ff nn) + (own_part (cs 1) (1 : Int32) ff nn)) + (own_part (cs 2) (2 : Int32) ff nn)) + (own_part (cs 3) (3 : Int32) ff nn)) + (own_part (cs 4) (4 : Int32) ff nn)))]))
          refine own_st (fun t_ k_ => XS.iload X223.here hx rfl (hb hby at_256) rfl k_) ?_
          show own_Go p.tables e below _ (T223.setTop (mkF m 258 #[.val (.int p0), .val (.int p1), .val (.int p2), .val (.int p3), .val (.int p4), .val (.int p5), .val (.ref b171), .val (.ref b184), .val (.int ff), .val (.int nn), .val (.int (1 : Int32)), .unset, .unset] [(.int nn), (.int ff), (.int (5 : Int32)), (.int (cs 5)), (.int (((((own_part (cs 0) (0 : Int32) ff nn) + (own_part (cs 1) (1 : Int32) ff nn)) + (own_part (cs 2) (2 : Int32) ff nn)) + (own_part (cs 3) (3 : Int32) ff nn)) + (own_part (cs 4) (4 : Int32) ff nn)))]))
          obtain ⟨_, _, ⟨T224, L224, k224, n224⟩, -, X224, ⟨Lc224, hQ224, l224, y224, z224⟩, st224⟩ := Jvm.LawKit.callS X223 hx (y := (⟨"com/example/nastro/nastro/model/DigitsValuePinLaw", "part", "(CIII)I"⟩ : MethodName)) hown (mvT hZ (hw _ (List.mem_of_getElem? (i := 41) rfl))) (mvT hZ (hw _ (List.mem_of_getElem? (i := 42) rfl))) (mvT hZ (hw _ (List.mem_of_getElem? (i := 3) rfl))) (mvT hZ (hw _ (List.mem_of_getElem? (i := 43) rfl))) (by decide) (backOf (W := 1) (own_rm10 l Z a0 hw [] (cs 5) (5 : Int32) ff nn T185.heap n0 (Nat.le_trans Z0 K185.1)) hZ (hw _ (List.mem_of_getElem? (i := 43) rfl)) (hw _ (List.mem_of_getElem? (i := 3) rfl)) (by decide) (by decide)) (g := (mkF m 258 #[.val (.int p0), .val (.int p1), .val (.int p2), .val (.int p3), .val (.int p4), .val (.int p5), .val (.ref b171), .val (.ref b184), .val (.int ff), .val (.int nn), .val (.int (1 : Int32)), .unset, .unset] [(.int nn), (.int ff), (.int (5 : Int32)), (.int (cs 5)), (.int (((((own_part (cs 0) (0 : Int32) ff nn) + (own_part (cs 1) (1 : Int32) ff nn)) + (own_part (cs 2) (2 : Int32) ff nn)) + (own_part (cs 3) (3 : Int32) ff nn)) + (own_part (cs 4) (4 : Int32) ff nn)))])) rfl (by rw [hml]; rfl) (argsL := [(.int (cs 5)), (.int (5 : Int32)), (.int ff), (.int nn)]) (rest := [(.int (((((own_part (cs 0) (0 : Int32) ff nn) + (own_part (cs 1) (1 : Int32) ff nn)) + (own_part (cs 2) (2 : Int32) ff nn)) + (own_part (cs 3) (3 : Int32) ff nn)) + (own_part (cs 4) (4 : Int32) ff nn)))]) (lenOf own_pd17 rfl) rfl (by show 2 * 0 + _ ≤ _; exact Nat.le_of_eq rfl) (hb hby at_258) (fun _ _ => ⟨rfl, eq223, (by decide : 4 + 0 ≤ _), (by decide : 28 + 0 ≤ _)⟩)
          dsimp only [Pt.U, Pt.locs, Pt.cells, Pt.slots] at X224 l224 y224 z224 st224 hQ224
          subst y224 z224
          obtain ⟨rfl, N224q, eq224⟩ := hQ224
          have N224 : Fr n0 L224 := by rw [l224]; exact Fr.app N223 N224q
          refine own_st (st224) ?_
          show own_Go p.tables e below _ (T224.setTop (mkF m 261 #[.val (.int p0), .val (.int p1), .val (.int p2), .val (.int p3), .val (.int p4), .val (.int p5), .val (.ref b171), .val (.ref b184), .val (.int ff), .val (.int nn), .val (.int (1 : Int32)), .unset, .unset] [(.int (own_part (cs 5) (5 : Int32) ff nn)), (.int (((((own_part (cs 0) (0 : Int32) ff nn) + (own_part (cs 1) (1 : Int32) ff nn)) + (own_part (cs 2) (2 : Int32) ff nn)) + (own_part (cs 3) (3 : Int32) ff nn)) + (own_part (cs 4) (4 : Int32) ff nn)))]))
          refine own_st (fun t_ k_ => XS.iadd X224.here hx rfl (hb hby at_261) rfl k_) ?_
          show own_Go p.tables e below _ (T224.setTop (mkF m 262 #[.val (.int p0), .val (.int p1), .val (.int p2), .val (.int p3), .val (.int p4), .val (.int p5), .val (.ref b171), .val (.ref b184), .val (.int ff), .val (.int nn), .val (.int (1 : Int32)), .unset, .unset] [(.int ((((((own_part (cs 0) (0 : Int32) ff nn) + (own_part (cs 1) (1 : Int32) ff nn)) + (own_part (cs 2) (2 : Int32) ff nn)) + (own_part (cs 3) (3 : Int32) ff nn)) + (own_part (cs 4) (4 : Int32) ff nn)) + (own_part (cs 5) (5 : Int32) ff nn)))]))
          refine own_st (fun t_ k_ => XS.istore X224.here hx rfl (hb hby at_262) rfl (l' := #[.val (.int p0), .val (.int p1), .val (.int p2), .val (.int p3), .val (.int p4), .val (.int p5), .val (.ref b171), .val (.ref b184), .val (.int ff), .val (.int nn), .val (.int (1 : Int32)), .val (.int ((((((own_part (cs 0) (0 : Int32) ff nn) + (own_part (cs 1) (1 : Int32) ff nn)) + (own_part (cs 2) (2 : Int32) ff nn)) + (own_part (cs 3) (3 : Int32) ff nn)) + (own_part (cs 4) (4 : Int32) ff nn)) + (own_part (cs 5) (5 : Int32) ff nn))), .unset]) rfl k_) ?_
          show own_Go p.tables e below _ (T224.setTop (mkF m 264 #[.val (.int p0), .val (.int p1), .val (.int p2), .val (.int p3), .val (.int p4), .val (.int p5), .val (.ref b171), .val (.ref b184), .val (.int ff), .val (.int nn), .val (.int (1 : Int32)), .val (.int ((((((own_part (cs 0) (0 : Int32) ff nn) + (own_part (cs 1) (1 : Int32) ff nn)) + (own_part (cs 2) (2 : Int32) ff nn)) + (own_part (cs 3) (3 : Int32) ff nn)) + (own_part (cs 4) (4 : Int32) ff nn)) + (own_part (cs 5) (5 : Int32) ff nn))), .unset] []))
          refine own_st (fun t_ k_ => XS.iload X224.here hx rfl (hb hby at_264) rfl k_) ?_
          show own_Go p.tables e below _ (T224.setTop (mkF m 266 #[.val (.int p0), .val (.int p1), .val (.int p2), .val (.int p3), .val (.int p4), .val (.int p5), .val (.ref b171), .val (.ref b184), .val (.int ff), .val (.int nn), .val (.int (1 : Int32)), .val (.int ((((((own_part (cs 0) (0 : Int32) ff nn) + (own_part (cs 1) (1 : Int32) ff nn)) + (own_part (cs 2) (2 : Int32) ff nn)) + (own_part (cs 3) (3 : Int32) ff nn)) + (own_part (cs 4) (4 : Int32) ff nn)) + (own_part (cs 5) (5 : Int32) ff nn))), .unset] [(.int (1 : Int32))]))
          refine own_st (fun t_ k_ => XS.ifNo X224.here hx rfl (hb hby at_266) rfl ((if0 _ _).trans (feq (by decide : ¬ ((1 : Int32) = (0 : Int32)))).1) k_) ?_
          show own_Go p.tables e below _ (T224.setTop (mkF m 269 #[.val (.int p0), .val (.int p1), .val (.int p2), .val (.int p3), .val (.int p4), .val (.int p5), .val (.ref b171), .val (.ref b184), .val (.int ff), .val (.int nn), .val (.int (1 : Int32)), .val (.int ((((((own_part (cs 0) (0 : Int32) ff nn) + (own_part (cs 1) (1 : Int32) ff nn)) + (own_part (cs 2) (2 : Int32) ff nn)) + (own_part (cs 3) (3 : Int32) ff nn)) + (own_part (cs 4) (4 : Int32) ff nn)) + (own_part (cs 5) (5 : Int32) ff nn))), .unset] []))
          refine own_st (fun t_ k_ => XS.iconst X224.here hx rfl (hb hby at_269) k_) ?_
          show own_Go p.tables e below _ (T224.setTop (mkF m 270 #[.val (.int p0), .val (.int p1), .val (.int p2), .val (.int p3), .val (.int p4), .val (.int p5), .val (.ref b171), .val (.ref b184), .val (.int ff), .val (.int nn), .val (.int (1 : Int32)), .val (.int ((((((own_part (cs 0) (0 : Int32) ff nn) + (own_part (cs 1) (1 : Int32) ff nn)) + (own_part (cs 2) (2 : Int32) ff nn)) + (own_part (cs 3) (3 : Int32) ff nn)) + (own_part (cs 4) (4 : Int32) ff nn)) + (own_part (cs 5) (5 : Int32) ff nn))), .unset] [(.int (-1 : Int32))]))
          refine own_st (fun t_ k_ => XS.goto X224.here hx rfl (pc0 := 270) (pc' := 275) rfl (hb hby at_270) (by decide) (by decide) k_) ?_
          show own_Go p.tables e below _ (T224.setTop (mkF m 275 #[.val (.int p0), .val (.int p1), .val (.int p2), .val (.int p3), .val (.int p4), .val (.int p5), .val (.ref b171), .val (.ref b184), .val (.int ff), .val (.int nn), .val (.int (1 : Int32)), .val (.int ((((((own_part (cs 0) (0 : Int32) ff nn) + (own_part (cs 1) (1 : Int32) ff nn)) + (own_part (cs 2) (2 : Int32) ff nn)) + (own_part (cs 3) (3 : Int32) ff nn)) + (own_part (cs 4) (4 : Int32) ff nn)) + (own_part (cs 5) (5 : Int32) ff nn))), .unset] [(.int (-1 : Int32))]))
          refine own_st (fun t_ k_ => XS.istore X224.here hx rfl (hb hby at_275) rfl (l' := #[.val (.int p0), .val (.int p1), .val (.int p2), .val (.int p3), .val (.int p4), .val (.int p5), .val (.ref b171), .val (.ref b184), .val (.int ff), .val (.int nn), .val (.int (1 : Int32)), .val (.int ((((((own_part (cs 0) (0 : Int32) ff nn) + (own_part (cs 1) (1 : Int32) ff nn)) + (own_part (cs 2) (2 : Int32) ff nn)) + (own_part (cs 3) (3 : Int32) ff nn)) + (own_part (cs 4) (4 : Int32) ff nn)) + (own_part (cs 5) (5 : Int32) ff nn))), .val (.int (-1 : Int32))]) rfl k_) ?_
          show own_Go p.tables e below _ (T224.setTop (mkF m 277 #[.val (.int p0), .val (.int p1), .val (.int p2), .val (.int p3), .val (.int p4), .val (.int p5), .val (.ref b171), .val (.ref b184), .val (.int ff), .val (.int nn), .val (.int (1 : Int32)), .val (.int ((((((own_part (cs 0) (0 : Int32) ff nn) + (own_part (cs 1) (1 : Int32) ff nn)) + (own_part (cs 2) (2 : Int32) ff nn)) + (own_part (cs 3) (3 : Int32) ff nn)) + (own_part (cs 4) (4 : Int32) ff nn)) + (own_part (cs 5) (5 : Int32) ff nn))), .val (.int (-1 : Int32))] []))
          refine own_st (fun t_ k_ => XS.aload X224.here hx rfl (hb hby at_277) rfl rfl k_) ?_
          show own_Go p.tables e below _ (T224.setTop (mkF m 279 #[.val (.int p0), .val (.int p1), .val (.int p2), .val (.int p3), .val (.int p4), .val (.int p5), .val (.ref b171), .val (.ref b184), .val (.int ff), .val (.int nn), .val (.int (1 : Int32)), .val (.int ((((((own_part (cs 0) (0 : Int32) ff nn) + (own_part (cs 1) (1 : Int32) ff nn)) + (own_part (cs 2) (2 : Int32) ff nn)) + (own_part (cs 3) (3 : Int32) ff nn)) + (own_part (cs 4) (4 : Int32) ff nn)) + (own_part (cs 5) (5 : Int32) ff nn))), .val (.int (-1 : Int32))] [(.ref b184)]))
          refine own_st (fun t_ k_ => XS.iload X224.here hx rfl (hb hby at_279) rfl k_) ?_
          show own_Go p.tables e below _ (T224.setTop (mkF m 281 #[.val (.int p0), .val (.int p1), .val (.int p2), .val (.int p3), .val (.int p4), .val (.int p5), .val (.ref b171), .val (.ref b184), .val (.int ff), .val (.int nn), .val (.int (1 : Int32)), .val (.int ((((((own_part (cs 0) (0 : Int32) ff nn) + (own_part (cs 1) (1 : Int32) ff nn)) + (own_part (cs 2) (2 : Int32) ff nn)) + (own_part (cs 3) (3 : Int32) ff nn)) + (own_part (cs 4) (4 : Int32) ff nn)) + (own_part (cs 5) (5 : Int32) ff nn))), .val (.int (-1 : Int32))] [(.int ff), (.ref b184)]))
          refine own_st (fun t_ k_ => XS.iload X224.here hx rfl (hb hby at_281) rfl k_) ?_
          show own_Go p.tables e below _ (T224.setTop (mkF m 283 #[.val (.int p0), .val (.int p1), .val (.int p2), .val (.int p3), .val (.int p4), .val (.int p5), .val (.ref b171), .val (.ref b184), .val (.int ff), .val (.int nn), .val (.int (1 : Int32)), .val (.int ((((((own_part (cs 0) (0 : Int32) ff nn) + (own_part (cs 1) (1 : Int32) ff nn)) + (own_part (cs 2) (2 : Int32) ff nn)) + (own_part (cs 3) (3 : Int32) ff nn)) + (own_part (cs 4) (4 : Int32) ff nn)) + (own_part (cs 5) (5 : Int32) ff nn))), .val (.int (-1 : Int32))] [(.int nn), (.int ff), (.ref b184)]))
          obtain ⟨_, _, ⟨T225, L225, k225, n225⟩, -, X225, ⟨Lc225, hQ225, l225, y225, z225⟩, st225⟩ := Jvm.LawKit.callS X224 hx (y := (⟨"com/example/nastro/nastro/model/Digits", "value", "(Ljava/lang/String;II)I"⟩ : MethodName)) hown (mvT hZ (hw _ (List.mem_of_getElem? (i := 44) rfl))) (mvT hZ (hw _ (List.mem_of_getElem? (i := 45) rfl))) (mvT hZ (hw _ (List.mem_of_getElem? (i := 46) rfl))) (mvT hZ (hw _ (List.mem_of_getElem? (i := 47) rfl))) (by decide) (backOf (W := 0) (own_rm11 l Z a0 hw [] b184 ff nn t_185 kt_185 cd_185 6 cs fm ct G1 G3 T185.heap n0 (Nat.le_trans Z0 K185.1) (A184.keep Kq185) P185_1 P185_2 P185_3 P185_4 (((((((((q0.ext E171).wr W173 ge171).wr W175 ge171).wr W177 ge171).wr W179 ge171).wr W181 ge171).wr W183 ge171).ext E184).keep Kq185 (allS ge184 all0)) q1 hG1 q3 rG3 q5 q6 q7 hall ⟨hfm, hct, (by omega), (by decide)⟩) hZ (hw _ (List.mem_of_getElem? (i := 47) rfl)) (hw _ (List.mem_of_getElem? (i := 46) rfl)) (by decide) (by decide)) (g := (mkF m 283 #[.val (.int p0), .val (.int p1), .val (.int p2), .val (.int p3), .val (.int p4), .val (.int p5), .val (.ref b171), .val (.ref b184), .val (.int ff), .val (.int nn), .val (.int (1 : Int32)), .val (.int ((((((own_part (cs 0) (0 : Int32) ff nn) + (own_part (cs 1) (1 : Int32) ff nn)) + (own_part (cs 2) (2 : Int32) ff nn)) + (own_part (cs 3) (3 : Int32) ff nn)) + (own_part (cs 4) (4 : Int32) ff nn)) + (own_part (cs 5) (5 : Int32) ff nn))), .val (.int (-1 : Int32))] [(.int nn), (.int ff), (.ref b184)])) rfl (by rw [hml]; rfl) (argsL := [(.ref b184), (.int ff), (.int nn)]) (rest := []) (lenOf own_pd18 rfl) rfl (by show 2 * 0 + _ ≤ _; exact Nat.le_of_eq rfl) (hb hby at_283) (fun _ _ => ⟨rfl, eq224, (by decide : 4 + 0 ≤ _), (by decide : 28 + 0 ≤ _)⟩)
          dsimp only [Pt.U, Pt.locs, Pt.cells, Pt.slots] at X225 l225 y225 z225 st225 hQ225
          subst y225 z225
          obtain ⟨rfl, N225q, eq225⟩ := hQ225
          have N225 : Fr n0 L225 := by rw [l225]; exact Fr.app N224 N225q
          refine own_st (st225) ?_
          show own_Go p.tables e below _ (T225.setTop (mkF m 286 #[.val (.int p0), .val (.int p1), .val (.int p2), .val (.int p3), .val (.int p4), .val (.int p5), .val (.ref b171), .val (.ref b184), .val (.int ff), .val (.int nn), .val (.int (1 : Int32)), .val (.int ((((((own_part (cs 0) (0 : Int32) ff nn) + (own_part (cs 1) (1 : Int32) ff nn)) + (own_part (cs 2) (2 : Int32) ff nn)) + (own_part (cs 3) (3 : Int32) ff nn)) + (own_part (cs 4) (4 : Int32) ff nn)) + (own_part (cs 5) (5 : Int32) ff nn))), .val (.int (-1 : Int32))] [(.int (own_dig cs ct fm 0))]))
          refine own_st (fun t_ k_ => XS.iload X225.here hx rfl (hb hby at_286) rfl k_) ?_
          show own_Go p.tables e below _ (T225.setTop (mkF m 288 #[.val (.int p0), .val (.int p1), .val (.int p2), .val (.int p3), .val (.int p4), .val (.int p5), .val (.ref b171), .val (.ref b184), .val (.int ff), .val (.int nn), .val (.int (1 : Int32)), .val (.int ((((((own_part (cs 0) (0 : Int32) ff nn) + (own_part (cs 1) (1 : Int32) ff nn)) + (own_part (cs 2) (2 : Int32) ff nn)) + (own_part (cs 3) (3 : Int32) ff nn)) + (own_part (cs 4) (4 : Int32) ff nn)) + (own_part (cs 5) (5 : Int32) ff nn))), .val (.int (-1 : Int32))] [(.int (-1 : Int32)), (.int (own_dig cs ct fm 0))]))
          refine own_st (fun t_ k_ => XS.icmpNo X225.here hx rfl (hb hby at_288) rfl (teq (own_lawB (i := 3) (k := 3) (by decide) hfm hct (by omega) c145_193 : (own_dig cs ct fm 0) = (-1 : Int32))).2 k_) ?_
          show own_Go p.tables e below _ (T225.setTop (mkF m 291 #[.val (.int p0), .val (.int p1), .val (.int p2), .val (.int p3), .val (.int p4), .val (.int p5), .val (.ref b171), .val (.ref b184), .val (.int ff), .val (.int nn), .val (.int (1 : Int32)), .val (.int ((((((own_part (cs 0) (0 : Int32) ff nn) + (own_part (cs 1) (1 : Int32) ff nn)) + (own_part (cs 2) (2 : Int32) ff nn)) + (own_part (cs 3) (3 : Int32) ff nn)) + (own_part (cs 4) (4 : Int32) ff nn)) + (own_part (cs 5) (5 : Int32) ff nn))), .val (.int (-1 : Int32))] []))
          refine own_st (fun t_ k_ => XS.iconst X225.here hx rfl (hb hby at_291) k_) ?_
          show own_Go p.tables e below _ (T225.setTop (mkF m 292 #[.val (.int p0), .val (.int p1), .val (.int p2), .val (.int p3), .val (.int p4), .val (.int p5), .val (.ref b171), .val (.ref b184), .val (.int ff), .val (.int nn), .val (.int (1 : Int32)), .val (.int ((((((own_part (cs 0) (0 : Int32) ff nn) + (own_part (cs 1) (1 : Int32) ff nn)) + (own_part (cs 2) (2 : Int32) ff nn)) + (own_part (cs 3) (3 : Int32) ff nn)) + (own_part (cs 4) (4 : Int32) ff nn)) + (own_part (cs 5) (5 : Int32) ff nn))), .val (.int (-1 : Int32))] [(.int (1 : Int32))]))
          refine own_st (fun t_ k_ => XS.goto X225.here hx rfl (pc0 := 292) (pc' := 296) rfl (hb hby at_292) (by decide) (by decide) k_) ?_
          show own_Go p.tables e below _ (T225.setTop (mkF m 296 #[.val (.int p0), .val (.int p1), .val (.int p2), .val (.int p3), .val (.int p4), .val (.int p5), .val (.ref b171), .val (.ref b184), .val (.int ff), .val (.int nn), .val (.int (1 : Int32)), .val (.int ((((((own_part (cs 0) (0 : Int32) ff nn) + (own_part (cs 1) (1 : Int32) ff nn)) + (own_part (cs 2) (2 : Int32) ff nn)) + (own_part (cs 3) (3 : Int32) ff nn)) + (own_part (cs 4) (4 : Int32) ff nn)) + (own_part (cs 5) (5 : Int32) ff nn))), .val (.int (-1 : Int32))] [(.int (1 : Int32))]))
          exact own_ret (w := (.int (1 : Int32))) X225 hx hnl Bd.returns rfl (Or.inl ⟨rfl, by decide, _, rfl⟩) (hb hby at_296) ⟨rfl, N225, (by rw [eq225]; exact K185)⟩ (by decide) (by decide)
      · skip
        refine own_st (fun t_ k_ => XS.ifYes X190.here hx rfl (pc0 := 130) (pc' := 178) rfl (hb hby at_130) rfl ((if0 _ _).trans (feq c130_191).2) (by decide) (by decide) k_) ?_
        show own_Go p.tables e below _ (T190.setTop (mkF m 178 #[.val (.int p0), .val (.int p1), .val (.int p2), .val (.int p3), .val (.int p4), .val (.int p5), .val (.ref b171), .val (.ref b184), .val (.int ff), .val (.int nn), .unset, .unset, .unset] []))
        refine own_st (fun t_ k_ => XS.iconst X190.here hx rfl (hb hby at_178) k_) ?_
        show own_Go p.tables e below _ (T190.setTop (mkF m 179 #[.val (.int p0), .val (.int p1), .val (.int p2), .val (.int p3), .val (.int p4), .val (.int p5), .val (.ref b171), .val (.ref b184), .val (.int ff), .val (.int nn), .unset, .unset, .unset] [(.int (1 : Int32))]))
        refine own_st (fun t_ k_ => XS.goto X190.here hx rfl (pc0 := 179) (pc' := 183) rfl (hb hby at_179) (by decide) (by decide) k_) ?_
        show own_Go p.tables e below _ (T190.setTop (mkF m 183 #[.val (.int p0), .val (.int p1), .val (.int p2), .val (.int p3), .val (.int p4), .val (.int p5), .val (.ref b171), .val (.ref b184), .val (.int ff), .val (.int nn), .unset, .unset, .unset] [(.int (1 : Int32))]))
        refine own_st (fun t_ k_ => XS.istore X190.here hx rfl (hb hby at_183) rfl (l' := #[.val (.int p0), .val (.int p1), .val (.int p2), .val (.int p3), .val (.int p4), .val (.int p5), .val (.ref b171), .val (.ref b184), .val (.int ff), .val (.int nn), .val (.int (1 : Int32)), .unset, .unset]) rfl k_) ?_
        show own_Go p.tables e below _ (T190.setTop (mkF m 185 #[.val (.int p0), .val (.int p1), .val (.int p2), .val (.int p3), .val (.int p4), .val (.int p5), .val (.ref b171), .val (.ref b184), .val (.int ff), .val (.int nn), .val (.int (1 : Int32)), .unset, .unset] []))
        refine own_st (fun t_ k_ => XS.aload X190.here hx rfl (hb hby at_185) rfl rfl k_) ?_
        show own_Go p.tables e below _ (T190.setTop (mkF m 187 #[.val (.int p0), .val (.int p1), .val (.int p2), .val (.int p3), .val (.int p4), .val (.int p5), .val (.ref b171), .val (.ref b184), .val (.int ff), .val (.int nn), .val (.int (1 : Int32)), .unset, .unset] [(.ref b171)]))
        refine own_st (fun t_ k_ => XS.iconst X190.here hx rfl (hb hby at_187) k_) ?_
        show own_Go p.tables e below _ (T190.setTop (mkF m 188 #[.val (.int p0), .val (.int p1), .val (.int p2), .val (.int p3), .val (.int p4), .val (.int p5), .val (.ref b171), .val (.ref b184), .val (.int ff), .val (.int nn), .val (.int (1 : Int32)), .unset, .unset] [(.int (0 : Int32)), (.ref b171)]))
        refine own_st (own_caload X190 hx hZ eq190 ((Acs.ext E184).keep Kq185 (ninS (Nat.ne_of_lt (Nat.lt_of_lt_of_le Acs.lt (Nat.le_of_eq g184.symm))) nin0)) (i := 0) (by decide) (by decide) (g := (mkF m 188 #[.val (.int p0), .val (.int p1), .val (.int p2), .val (.int p3), .val (.int p4), .val (.int p5), .val (.ref b171), .val (.ref b184), .val (.int ff), .val (.int nn), .val (.int (1 : Int32)), .unset, .unset] [(.int (0 : Int32)), (.ref b171)])) rfl rfl (hb hby at_188)) ?_
        show own_Go p.tables e below _ (T190.setTop (mkF m 189 #[.val (.int p0), .val (.int p1), .val (.int p2), .val (.int p3), .val (.int p4), .val (.int p5), .val (.ref b171), .val (.ref b184), .val (.int ff), .val (.int nn), .val (.int (1 : Int32)), .unset, .unset] [(.int (cs 0))]))
        refine own_st (fun t_ k_ => XS.iconst X190.here hx rfl (hb hby at_189) k_) ?_
        show own_Go p.tables e below _ (T190.setTop (mkF m 190 #[.val (.int p0), .val (.int p1), .val (.int p2), .val (.int p3), .val (.int p4), .val (.int p5), .val (.ref b171), .val (.ref b184), .val (.int ff), .val (.int nn), .val (.int (1 : Int32)), .unset, .unset] [(.int (0 : Int32)), (.int (cs 0))]))
        refine own_st (fun t_ k_ => XS.iload X190.here hx rfl (hb hby at_190) rfl k_) ?_
        show own_Go p.tables e below _ (T190.setTop (mkF m 192 #[.val (.int p0), .val (.int p1), .val (.int p2), .val (.int p3), .val (.int p4), .val (.int p5), .val (.ref b171), .val (.ref b184), .val (.int ff), .val (.int nn), .val (.int (1 : Int32)), .unset, .unset] [(.int ff), (.int (0 : Int32)), (.int (cs 0))]))
        refine own_st (fun t_ k_ => XS.iload X190.here hx rfl (hb hby at_192) rfl k_) ?_
        show own_Go p.tables e below _ (T190.setTop (mkF m 194 #[.val (.int p0), .val (.int p1), .val (.int p2), .val (.int p3), .val (.int p4), .val (.int p5), .val (.ref b171), .val (.ref b184), .val (.int ff), .val (.int nn), .val (.int (1 : Int32)), .unset, .unset] [(.int nn), (.int ff), (.int (0 : Int32)), (.int (cs 0))]))
        obtain ⟨_, _, ⟨T226, L226, k226, n226⟩, -, X226, ⟨Lc226, hQ226, l226, y226, z226⟩, st226⟩ := Jvm.LawKit.callS X190 hx (y := (⟨"com/example/nastro/nastro/model/DigitsValuePinLaw", "part", "(CIII)I"⟩ : MethodName)) hown (mvT hZ (hw _ (List.mem_of_getElem? (i := 41) rfl))) (mvT hZ (hw _ (List.mem_of_getElem? (i := 42) rfl))) (mvT hZ (hw _ (List.mem_of_getElem? (i := 3) rfl))) (mvT hZ (hw _ (List.mem_of_getElem? (i := 43) rfl))) (by decide) (backOf (W := 0) (own_rm10 l Z a0 hw [] (cs 0) (0 : Int32) ff nn T185.heap n0 (Nat.le_trans Z0 K185.1)) hZ (hw _ (List.mem_of_getElem? (i := 43) rfl)) (hw _ (List.mem_of_getElem? (i := 3) rfl)) (by decide) (by decide)) (g := (mkF m 194 #[.val (.int p0), .val (.int p1), .val (.int p2), .val (.int p3), .val (.int p4), .val (.int p5), .val (.ref b171), .val (.ref b184), .val (.int ff), .val (.int nn), .val (.int (1 : Int32)), .unset, .unset] [(.int nn), (.int ff), (.int (0 : Int32)), (.int (cs 0))])) rfl (by rw [hml]; rfl) (argsL := [(.int (cs 0)), (.int (0 : Int32)), (.int ff), (.int nn)]) (rest := []) (lenOf own_pd17 rfl) rfl (by show 2 * 0 + _ ≤ _; exact Nat.le_of_eq rfl) (hb hby at_194) (fun _ _ => ⟨rfl, eq190, (by decide : 4 + 0 ≤ _), (by decide : 28 + 0 ≤ _)⟩)
        dsimp only [Pt.U, Pt.locs, Pt.cells, Pt.slots] at X226 l226 y226 z226 st226 hQ226
        subst y226 z226
        obtain ⟨rfl, N226q, eq226⟩ := hQ226
        have N226 : Fr n0 L226 := by rw [l226]; exact Fr.app N190 N226q
        refine own_st (st226) ?_
        show own_Go p.tables e below _ (T226.setTop (mkF m 197 #[.val (.int p0), .val (.int p1), .val (.int p2), .val (.int p3), .val (.int p4), .val (.int p5), .val (.ref b171), .val (.ref b184), .val (.int ff), .val (.int nn), .val (.int (1 : Int32)), .unset, .unset] [(.int (own_part (cs 0) (0 : Int32) ff nn))]))
        refine own_st (fun t_ k_ => XS.aload X226.here hx rfl (hb hby at_197) rfl rfl k_) ?_
        show own_Go p.tables e below _ (T226.setTop (mkF m 199 #[.val (.int p0), .val (.int p1), .val (.int p2), .val (.int p3), .val (.int p4), .val (.int p5), .val (.ref b171), .val (.ref b184), .val (.int ff), .val (.int nn), .val (.int (1 : Int32)), .unset, .unset] [(.ref b171), (.int (own_part (cs 0) (0 : Int32) ff nn))]))
        refine own_st (fun t_ k_ => XS.iconst X226.here hx rfl (hb hby at_199) k_) ?_
        show own_Go p.tables e below _ (T226.setTop (mkF m 200 #[.val (.int p0), .val (.int p1), .val (.int p2), .val (.int p3), .val (.int p4), .val (.int p5), .val (.ref b171), .val (.ref b184), .val (.int ff), .val (.int nn), .val (.int (1 : Int32)), .unset, .unset] [(.int (1 : Int32)), (.ref b171), (.int (own_part (cs 0) (0 : Int32) ff nn))]))
        refine own_st (own_caload X226 hx hZ eq226 ((Acs.ext E184).keep Kq185 (ninS (Nat.ne_of_lt (Nat.lt_of_lt_of_le Acs.lt (Nat.le_of_eq g184.symm))) nin0)) (i := 1) (by decide) (by decide) (g := (mkF m 200 #[.val (.int p0), .val (.int p1), .val (.int p2), .val (.int p3), .val (.int p4), .val (.int p5), .val (.ref b171), .val (.ref b184), .val (.int ff), .val (.int nn), .val (.int (1 : Int32)), .unset, .unset] [(.int (1 : Int32)), (.ref b171), (.int (own_part (cs 0) (0 : Int32) ff nn))])) rfl rfl (hb hby at_200)) ?_
        show own_Go p.tables e below _ (T226.setTop (mkF m 201 #[.val (.int p0), .val (.int p1), .val (.int p2), .val (.int p3), .val (.int p4), .val (.int p5), .val (.ref b171), .val (.ref b184), .val (.int ff), .val (.int nn), .val (.int (1 : Int32)), .unset, .unset] [(.int (cs 1)), (.int (own_part (cs 0) (0 : Int32) ff nn))]))
        refine own_st (fun t_ k_ => XS.iconst X226.here hx rfl (hb hby at_201) k_) ?_
        show own_Go p.tables e below _ (T226.setTop (mkF m 202 #[.val (.int p0), .val (.int p1), .val (.int p2), .val (.int p3), .val (.int p4), .val (.int p5), .val (.ref b171), .val (.ref b184), .val (.int ff), .val (.int nn), .val (.int (1 : Int32)), .unset, .unset] [(.int (1 : Int32)), (.int (cs 1)), (.int (own_part (cs 0) (0 : Int32) ff nn))]))
        refine own_st (fun t_ k_ => XS.iload X226.here hx rfl (hb hby at_202) rfl k_) ?_
        show own_Go p.tables e below _ (T226.setTop (mkF m 204 #[.val (.int p0), .val (.int p1), .val (.int p2), .val (.int p3), .val (.int p4), .val (.int p5), .val (.ref b171), .val (.ref b184), .val (.int ff), .val (.int nn), .val (.int (1 : Int32)), .unset, .unset] [(.int ff), (.int (1 : Int32)), (.int (cs 1)), (.int (own_part (cs 0) (0 : Int32) ff nn))]))
        refine own_st (fun t_ k_ => XS.iload X226.here hx rfl (hb hby at_204) rfl k_) ?_
        show own_Go p.tables e below _ (T226.setTop (mkF m 206 #[.val (.int p0), .val (.int p1), .val (.int p2), .val (.int p3), .val (.int p4), .val (.int p5), .val (.ref b171), .val (.ref b184), .val (.int ff), .val (.int nn), .val (.int (1 : Int32)), .unset, .unset] [(.int nn), (.int ff), (.int (1 : Int32)), (.int (cs 1)), (.int (own_part (cs 0) (0 : Int32) ff nn))]))
        obtain ⟨_, _, ⟨T227, L227, k227, n227⟩, -, X227, ⟨Lc227, hQ227, l227, y227, z227⟩, st227⟩ := Jvm.LawKit.callS X226 hx (y := (⟨"com/example/nastro/nastro/model/DigitsValuePinLaw", "part", "(CIII)I"⟩ : MethodName)) hown (mvT hZ (hw _ (List.mem_of_getElem? (i := 41) rfl))) (mvT hZ (hw _ (List.mem_of_getElem? (i := 42) rfl))) (mvT hZ (hw _ (List.mem_of_getElem? (i := 3) rfl))) (mvT hZ (hw _ (List.mem_of_getElem? (i := 43) rfl))) (by decide) (backOf (W := 1) (own_rm10 l Z a0 hw [] (cs 1) (1 : Int32) ff nn T185.heap n0 (Nat.le_trans Z0 K185.1)) hZ (hw _ (List.mem_of_getElem? (i := 43) rfl)) (hw _ (List.mem_of_getElem? (i := 3) rfl)) (by decide) (by decide)) (g := (mkF m 206 #[.val (.int p0), .val (.int p1), .val (.int p2), .val (.int p3), .val (.int p4), .val (.int p5), .val (.ref b171), .val (.ref b184), .val (.int ff), .val (.int nn), .val (.int (1 : Int32)), .unset, .unset] [(.int nn), (.int ff), (.int (1 : Int32)), (.int (cs 1)), (.int (own_part (cs 0) (0 : Int32) ff nn))])) rfl (by rw [hml]; rfl) (argsL := [(.int (cs 1)), (.int (1 : Int32)), (.int ff), (.int nn)]) (rest := [(.int (own_part (cs 0) (0 : Int32) ff nn))]) (lenOf own_pd17 rfl) rfl (by show 2 * 0 + _ ≤ _; exact Nat.le_of_eq rfl) (hb hby at_206) (fun _ _ => ⟨rfl, eq226, (by decide : 4 + 0 ≤ _), (by decide : 28 + 0 ≤ _)⟩)
        dsimp only [Pt.U, Pt.locs, Pt.cells, Pt.slots] at X227 l227 y227 z227 st227 hQ227
        subst y227 z227
        obtain ⟨rfl, N227q, eq227⟩ := hQ227
        have N227 : Fr n0 L227 := by rw [l227]; exact Fr.app N226 N227q
        refine own_st (st227) ?_
        show own_Go p.tables e below _ (T227.setTop (mkF m 209 #[.val (.int p0), .val (.int p1), .val (.int p2), .val (.int p3), .val (.int p4), .val (.int p5), .val (.ref b171), .val (.ref b184), .val (.int ff), .val (.int nn), .val (.int (1 : Int32)), .unset, .unset] [(.int (own_part (cs 1) (1 : Int32) ff nn)), (.int (own_part (cs 0) (0 : Int32) ff nn))]))
        refine own_st (fun t_ k_ => XS.iadd X227.here hx rfl (hb hby at_209) rfl k_) ?_
        show own_Go p.tables e below _ (T227.setTop (mkF m 210 #[.val (.int p0), .val (.int p1), .val (.int p2), .val (.int p3), .val (.int p4), .val (.int p5), .val (.ref b171), .val (.ref b184), .val (.int ff), .val (.int nn), .val (.int (1 : Int32)), .unset, .unset] [(.int ((own_part (cs 0) (0 : Int32) ff nn) + (own_part (cs 1) (1 : Int32) ff nn)))]))
        refine own_st (fun t_ k_ => XS.aload X227.here hx rfl (hb hby at_210) rfl rfl k_) ?_
        show own_Go p.tables e below _ (T227.setTop (mkF m 212 #[.val (.int p0), .val (.int p1), .val (.int p2), .val (.int p3), .val (.int p4), .val (.int p5), .val (.ref b171), .val (.ref b184), .val (.int ff), .val (.int nn), .val (.int (1 : Int32)), .unset, .unset] [(.ref b171), (.int ((own_part (cs 0) (0 : Int32) ff nn) + (own_part (cs 1) (1 : Int32) ff nn)))]))
        refine own_st (fun t_ k_ => XS.iconst X227.here hx rfl (hb hby at_212) k_) ?_
        show own_Go p.tables e below _ (T227.setTop (mkF m 213 #[.val (.int p0), .val (.int p1), .val (.int p2), .val (.int p3), .val (.int p4), .val (.int p5), .val (.ref b171), .val (.ref b184), .val (.int ff), .val (.int nn), .val (.int (1 : Int32)), .unset, .unset] [(.int (2 : Int32)), (.ref b171), (.int ((own_part (cs 0) (0 : Int32) ff nn) + (own_part (cs 1) (1 : Int32) ff nn)))]))
        refine own_st (own_caload X227 hx hZ eq227 ((Acs.ext E184).keep Kq185 (ninS (Nat.ne_of_lt (Nat.lt_of_lt_of_le Acs.lt (Nat.le_of_eq g184.symm))) nin0)) (i := 2) (by decide) (by decide) (g := (mkF m 213 #[.val (.int p0), .val (.int p1), .val (.int p2), .val (.int p3), .val (.int p4), .val (.int p5), .val (.ref b171), .val (.ref b184), .val (.int ff), .val (.int nn), .val (.int (1 : Int32)), .unset, .unset] [(.int (2 : Int32)), (.ref b171), (.int ((own_part (cs 0) (0 : Int32) ff nn) + (own_part (cs 1) (1 : Int32) ff nn)))])) rfl rfl (hb hby at_213)) ?_
        show own_Go p.tables e below _ (T227.setTop (mkF m 214 #[.val (.int p0), .val (.int p1), .val (.int p2), .val (.int p3), .val (.int p4), .val (.int p5), .val (.ref b171), .val (.ref b184), .val (.int ff), .val (.int nn), .val (.int (1 : Int32)), .unset, .unset] [(.int (cs 2)), (.int ((own_part (cs 0) (0 : Int32) ff nn) + (own_part (cs 1) (1 : Int32) ff nn)))]))
        refine own_st (fun t_ k_ => XS.iconst X227.here hx rfl (hb hby at_214) k_) ?_
        show own_Go p.tables e below _ (T227.setTop (mkF m 215 #[.val (.int p0), .val (.int p1), .val (.int p2), .val (.int p3), .val (.int p4), .val (.int p5), .val (.ref b171), .val (.ref b184), .val (.int ff), .val (.int nn), .val (.int (1 : Int32)), .unset, .unset] [(.int (2 : Int32)), (.int (cs 2)), (.int ((own_part (cs 0) (0 : Int32) ff nn) + (own_part (cs 1) (1 : Int32) ff nn)))]))
        refine own_st (fun t_ k_ => XS.iload X227.here hx rfl (hb hby at_215) rfl k_) ?_
        show own_Go p.tables e below _ (T227.setTop (mkF m 217 #[.val (.int p0), .val (.int p1), .val (.int p2), .val (.int p3), .val (.int p4), .val (.int p5), .val (.ref b171), .val (.ref b184), .val (.int ff), .val (.int nn), .val (.int (1 : Int32)), .unset, .unset] [(.int ff), (.int (2 : Int32)), (.int (cs 2)), (.int ((own_part (cs 0) (0 : Int32) ff nn) + (own_part (cs 1) (1 : Int32) ff nn)))]))
        refine own_st (fun t_ k_ => XS.iload X227.here hx rfl (hb hby at_217) rfl k_) ?_
        show own_Go p.tables e below _ (T227.setTop (mkF m 219 #[.val (.int p0), .val (.int p1), .val (.int p2), .val (.int p3), .val (.int p4), .val (.int p5), .val (.ref b171), .val (.ref b184), .val (.int ff), .val (.int nn), .val (.int (1 : Int32)), .unset, .unset] [(.int nn), (.int ff), (.int (2 : Int32)), (.int (cs 2)), (.int ((own_part (cs 0) (0 : Int32) ff nn) + (own_part (cs 1) (1 : Int32) ff nn)))]))
        obtain ⟨_, _, ⟨T228, L228, k228, n228⟩, -, X228, ⟨Lc228, hQ228, l228, y228, z228⟩, st228⟩ := Jvm.LawKit.callS X227 hx (y := (⟨"com/example/nastro/nastro/model/DigitsValuePinLaw", "part", "(CIII)I"⟩ : MethodName)) hown (mvT hZ (hw _ (List.mem_of_getElem? (i := 41) rfl))) (mvT hZ (hw _ (List.mem_of_getElem? (i := 42) rfl))) (mvT hZ (hw _ (List.mem_of_getElem? (i := 3) rfl))) (mvT hZ (hw _ (List.mem_of_getElem? (i := 43) rfl))) (by decide) (backOf (W := 1) (own_rm10 l Z a0 hw [] (cs 2) (2 : Int32) ff nn T185.heap n0 (Nat.le_trans Z0 K185.1)) hZ (hw _ (List.mem_of_getElem? (i := 43) rfl)) (hw _ (List.mem_of_getElem? (i := 3) rfl)) (by decide) (by decide)) (g := (mkF m 219 #[.val (.int p0), .val (.int p1), .val (.int p2), .val (.int p3), .val (.int p4), .val (.int p5), .val (.ref b171), .val (.ref b184), .val (.int ff), .val (.int nn), .val (.int (1 : Int32)), .unset, .unset] [(.int nn), (.int ff), (.int (2 : Int32)), (.int (cs 2)), (.int ((own_part (cs 0) (0 : Int32) ff nn) + (own_part (cs 1) (1 : Int32) ff nn)))])) rfl (by rw [hml]; rfl) (argsL := [(.int (cs 2)), (.int (2 : Int32)), (.int ff), (.int nn)]) (rest := [(.int ((own_part (cs 0) (0 : Int32) ff nn) + (own_part (cs 1) (1 : Int32) ff nn)))]) (lenOf own_pd17 rfl) rfl (by show 2 * 0 + _ ≤ _; exact Nat.le_of_eq rfl) (hb hby at_219) (fun _ _ => ⟨rfl, eq227, (by decide : 4 + 0 ≤ _), (by decide : 28 + 0 ≤ _)⟩)
        dsimp only [Pt.U, Pt.locs, Pt.cells, Pt.slots] at X228 l228 y228 z228 st228 hQ228
        subst y228 z228
        obtain ⟨rfl, N228q, eq228⟩ := hQ228
        have N228 : Fr n0 L228 := by rw [l228]; exact Fr.app N227 N228q
        refine own_st (st228) ?_
        show own_Go p.tables e below _ (T228.setTop (mkF m 222 #[.val (.int p0), .val (.int p1), .val (.int p2), .val (.int p3), .val (.int p4), .val (.int p5), .val (.ref b171), .val (.ref b184), .val (.int ff), .val (.int nn), .val (.int (1 : Int32)), .unset, .unset] [(.int (own_part (cs 2) (2 : Int32) ff nn)), (.int ((own_part (cs 0) (0 : Int32) ff nn) + (own_part (cs 1) (1 : Int32) ff nn)))]))
        refine own_st (fun t_ k_ => XS.iadd X228.here hx rfl (hb hby at_222) rfl k_) ?_
        show own_Go p.tables e below _ (T228.setTop (mkF m 223 #[.val (.int p0), .val (.int p1), .val (.int p2), .val (.int p3), .val (.int p4), .val (.int p5), .val (.ref b171), .val (.ref b184), .val (.int ff), .val (.int nn), .val (.int (1 : Int32)), .unset, .unset] [(.int (((own_part (cs 0) (0 : Int32) ff nn) + (own_part (cs 1) (1 : Int32) ff nn)) + (own_part (cs 2) (2 : Int32) ff nn)))]))
        refine own_st (fun t_ k_ => XS.aload X228.here hx rfl (hb hby at_223) rfl rfl k_) ?_
        show own_Go p.tables e below _ (T228.setTop (mkF m 225 #[.val (.int p0), .val (.int p1), .val (.int p2), .val (.int p3), .val (.int p4), .val (.int p5), .val (.ref b171), .val (.ref b184), .val (.int ff), .val (.int nn), .val (.int (1 : Int32)), .unset, .unset] [(.ref b171), (.int (((own_part (cs 0) (0 : Int32) ff nn) + (own_part (cs 1) (1 : Int32) ff nn)) + (own_part (cs 2) (2 : Int32) ff nn)))]))
        refine own_st (fun t_ k_ => XS.iconst X228.here hx rfl (hb hby at_225) k_) ?_
        show own_Go p.tables e below _ (T228.setTop (mkF m 226 #[.val (.int p0), .val (.int p1), .val (.int p2), .val (.int p3), .val (.int p4), .val (.int p5), .val (.ref b171), .val (.ref b184), .val (.int ff), .val (.int nn), .val (.int (1 : Int32)), .unset, .unset] [(.int (3 : Int32)), (.ref b171), (.int (((own_part (cs 0) (0 : Int32) ff nn) + (own_part (cs 1) (1 : Int32) ff nn)) + (own_part (cs 2) (2 : Int32) ff nn)))]))
        refine own_st (own_caload X228 hx hZ eq228 ((Acs.ext E184).keep Kq185 (ninS (Nat.ne_of_lt (Nat.lt_of_lt_of_le Acs.lt (Nat.le_of_eq g184.symm))) nin0)) (i := 3) (by decide) (by decide) (g := (mkF m 226 #[.val (.int p0), .val (.int p1), .val (.int p2), .val (.int p3), .val (.int p4), .val (.int p5), .val (.ref b171), .val (.ref b184), .val (.int ff), .val (.int nn), .val (.int (1 : Int32)), .unset, .unset] [(.int (3 : Int32)), (.ref b171), (.int (((own_part (cs 0) (0 : Int32) ff nn) + (own_part (cs 1) (1 : Int32) ff nn)) + (own_part (cs 2) (2 : Int32) ff nn)))])) rfl rfl (hb hby at_226)) ?_
        show own_Go p.tables e below _ (T228.setTop (mkF m 227 #[.val (.int p0), .val (.int p1), .val (.int p2), .val (.int p3), .val (.int p4), .val (.int p5), .val (.ref b171), .val (.ref b184), .val (.int ff), .val (.int nn), .val (.int (1 : Int32)), .unset, .unset] [(.int (cs 3)), (.int (((own_part (cs 0) (0 : Int32) ff nn) + (own_part (cs 1) (1 : Int32) ff nn)) + (own_part (cs 2) (2 : Int32) ff nn)))]))
        refine own_st (fun t_ k_ => XS.iconst X228.here hx rfl (hb hby at_227) k_) ?_
        show own_Go p.tables e below _ (T228.setTop (mkF m 228 #[.val (.int p0), .val (.int p1), .val (.int p2), .val (.int p3), .val (.int p4), .val (.int p5), .val (.ref b171), .val (.ref b184), .val (.int ff), .val (.int nn), .val (.int (1 : Int32)), .unset, .unset] [(.int (3 : Int32)), (.int (cs 3)), (.int (((own_part (cs 0) (0 : Int32) ff nn) + (own_part (cs 1) (1 : Int32) ff nn)) + (own_part (cs 2) (2 : Int32) ff nn)))]))
        refine own_st (fun t_ k_ => XS.iload X228.here hx rfl (hb hby at_228) rfl k_) ?_
        show own_Go p.tables e below _ (T228.setTop (mkF m 230 #[.val (.int p0), .val (.int p1), .val (.int p2), .val (.int p3), .val (.int p4), .val (.int p5), .val (.ref b171), .val (.ref b184), .val (.int ff), .val (.int nn), .val (.int (1 : Int32)), .unset, .unset] [(.int ff), (.int (3 : Int32)), (.int (cs 3)), (.int (((own_part (cs 0) (0 : Int32) ff nn) + (own_part (cs 1) (1 : Int32) ff nn)) + (own_part (cs 2) (2 : Int32) ff nn)))]))
        refine own_st (fun t_ k_ => XS.iload X228.here hx rfl (hb hby at_230) rfl k_) ?_
        show own_Go p.tables e below _ (T228.setTop (mkF m 232 #[.val (.int p0), .val (.int p1), .val (.int p2), .val (.int p3), .val (.int p4), .val (.int p5), .val (.ref b171), .val (.ref b184), .val (.int ff), .val (.int nn), .val (.int (1 : Int32)), .unset, .unset] [(.int nn), (.int ff), (.int (3 : Int32)), (.int (cs 3)), (.int (((own_part (cs 0) (0 : Int32) ff nn) + (own_part (cs 1) (1 : Int32) ff nn)) + (own_part (cs 2) (2 : Int32) ff nn)))]))
        obtain ⟨_, _, ⟨T229, L229, k229, n229⟩, -, X229, ⟨Lc229, hQ229, l229, y229, z229⟩, st229⟩ := Jvm.LawKit.callS X228 hx (y := (⟨"com/example/nastro/nastro/model/DigitsValuePinLaw", "part", "(CIII)I"⟩ : MethodName)) hown (mvT hZ (hw _ (List.mem_of_getElem? (i := 41) rfl))) (mvT hZ (hw _ (List.mem_of_getElem? (i := 42) rfl))) (mvT hZ (hw _ (List.mem_of_getElem? (i := 3) rfl))) (mvT hZ (hw _ (List.mem_of_getElem? (i := 43) rfl))) (by decide) (backOf (W := 1) (own_rm10 l Z a0 hw [] (cs 3) (3 : Int32) ff nn T185.heap n0 (Nat.le_trans Z0 K185.1)) hZ (hw _ (List.mem_of_getElem? (i := 43) rfl)) (hw _ (List.mem_of_getElem? (i := 3) rfl)) (by decide) (by decide)) (g := (mkF m 232 #[.val (.int p0), .val (.int p1), .val (.int p2), .val (.int p3), .val (.int p4), .val (.int p5), .val (.ref b171), .val (.ref b184), .val (.int ff), .val (.int nn), .val (.int (1 : Int32)), .unset, .unset] [(.int nn), (.int ff), (.int (3 : Int32)), (.int (cs 3)), (.int (((own_part (cs 0) (0 : Int32) ff nn) + (own_part (cs 1) (1 : Int32) ff nn)) + (own_part (cs 2) (2 : Int32) ff nn)))])) rfl (by rw [hml]; rfl) (argsL := [(.int (cs 3)), (.int (3 : Int32)), (.int ff), (.int nn)]) (rest := [(.int (((own_part (cs 0) (0 : Int32) ff nn) + (own_part (cs 1) (1 : Int32) ff nn)) + (own_part (cs 2) (2 : Int32) ff nn)))]) (lenOf own_pd17 rfl) rfl (by show 2 * 0 + _ ≤ _; exact Nat.le_of_eq rfl) (hb hby at_232) (fun _ _ => ⟨rfl, eq228, (by decide : 4 + 0 ≤ _), (by decide : 28 + 0 ≤ _)⟩)
        dsimp only [Pt.U, Pt.locs, Pt.cells, Pt.slots] at X229 l229 y229 z229 st229 hQ229
        subst y229 z229
        obtain ⟨rfl, N229q, eq229⟩ := hQ229
        have N229 : Fr n0 L229 := by rw [l229]; exact Fr.app N228 N229q
        refine own_st (st229) ?_
        show own_Go p.tables e below _ (T229.setTop (mkF m 235 #[.val (.int p0), .val (.int p1), .val (.int p2), .val (.int p3), .val (.int p4), .val (.int p5), .val (.ref b171), .val (.ref b184), .val (.int ff), .val (.int nn), .val (.int (1 : Int32)), .unset, .unset] [(.int (own_part (cs 3) (3 : Int32) ff nn)), (.int (((own_part (cs 0) (0 : Int32) ff nn) + (own_part (cs 1) (1 : Int32) ff nn)) + (own_part (cs 2) (2 : Int32) ff nn)))]))
        refine own_st (fun t_ k_ => XS.iadd X229.here hx rfl (hb hby at_235) rfl k_) ?_
        show own_Go p.tables e below _ (T229.setTop (mkF m 236 #[.val (.int p0), .val (.int p1), .val (.int p2), .val (.int p3), .val (.int p4), .val (.int p5), .val (.ref b171), .val (.ref b184), .val (.int ff), .val (.int nn), .val (.int (1 : Int32)), .unset, .unset] [(.int ((((own_part (cs 0) (0 : Int32) ff nn) + (own_part (cs 1) (1 : Int32) ff nn)) + (own_part (cs 2) (2 : Int32) ff nn)) + (own_part (cs 3) (3 : Int32) ff nn)))]))
        refine own_st (fun t_ k_ => XS.aload X229.here hx rfl (hb hby at_236) rfl rfl k_) ?_
        show own_Go p.tables e below _ (T229.setTop (mkF m 238 #[.val (.int p0), .val (.int p1), .val (.int p2), .val (.int p3), .val (.int p4), .val (.int p5), .val (.ref b171), .val (.ref b184), .val (.int ff), .val (.int nn), .val (.int (1 : Int32)), .unset, .unset] [(.ref b171), (.int ((((own_part (cs 0) (0 : Int32) ff nn) + (own_part (cs 1) (1 : Int32) ff nn)) + (own_part (cs 2) (2 : Int32) ff nn)) + (own_part (cs 3) (3 : Int32) ff nn)))]))
        refine own_st (fun t_ k_ => XS.iconst X229.here hx rfl (hb hby at_238) k_) ?_
        show own_Go p.tables e below _ (T229.setTop (mkF m 239 #[.val (.int p0), .val (.int p1), .val (.int p2), .val (.int p3), .val (.int p4), .val (.int p5), .val (.ref b171), .val (.ref b184), .val (.int ff), .val (.int nn), .val (.int (1 : Int32)), .unset, .unset] [(.int (4 : Int32)), (.ref b171), (.int ((((own_part (cs 0) (0 : Int32) ff nn) + (own_part (cs 1) (1 : Int32) ff nn)) + (own_part (cs 2) (2 : Int32) ff nn)) + (own_part (cs 3) (3 : Int32) ff nn)))]))
        refine own_st (own_caload X229 hx hZ eq229 ((Acs.ext E184).keep Kq185 (ninS (Nat.ne_of_lt (Nat.lt_of_lt_of_le Acs.lt (Nat.le_of_eq g184.symm))) nin0)) (i := 4) (by decide) (by decide) (g := (mkF m 239 #[.val (.int p0), .val (.int p1), .val (.int p2), .val (.int p3), .val (.int p4), .val (.int p5), .val (.ref b171), .val (.ref b184), .val (.int ff), .val (.int nn), .val (.int (1 : Int32)), .unset, .unset] [(.int (4 : Int32)), (.ref b171), (.int ((((own_part (cs 0) (0 : Int32) ff nn) + (own_part (cs 1) (1 : Int32) ff nn)) + (own_part (cs 2) (2 : Int32) ff nn)) + (own_part (cs 3) (3 : Int32) ff nn)))])) rfl rfl (hb hby at_239)) ?_
        show own_Go p.tables e below _ (T229.setTop (mkF m 240 #[.val (.int p0), .val (.int p1), .val (.int p2), .val (.int p3), .val (.int p4), .val (.int p5), .val (.ref b171), .val (.ref b184), .val (.int ff), .val (.int nn), .val (.int (1 : Int32)), .unset, .unset] [(.int (cs 4)), (.int ((((own_part (cs 0) (0 : Int32) ff nn) + (own_part (cs 1) (1 : Int32) ff nn)) + (own_part (cs 2) (2 : Int32) ff nn)) + (own_part (cs 3) (3 : Int32) ff nn)))]))
        refine own_st (fun t_ k_ => XS.iconst X229.here hx rfl (hb hby at_240) k_) ?_
        show own_Go p.tables e below _ (T229.setTop (mkF m 241 #[.val (.int p0), .val (.int p1), .val (.int p2), .val (.int p3), .val (.int p4), .val (.int p5), .val (.ref b171), .val (.ref b184), .val (.int ff), .val (.int nn), .val (.int (1 : Int32)), .unset, .unset] [(.int (4 : Int32)), (.int (cs 4)), (.int ((((own_part (cs 0) (0 : Int32) ff nn) + (own_part (cs 1) (1 : Int32) ff nn)) + (own_part (cs 2) (2 : Int32) ff nn)) + (own_part (cs 3) (3 : Int32) ff nn)))]))
        refine own_st (fun t_ k_ => XS.iload X229.here hx rfl (hb hby at_241) rfl k_) ?_
        show own_Go p.tables e below _ (T229.setTop (mkF m 243 #[.val (.int p0), .val (.int p1), .val (.int p2), .val (.int p3), .val (.int p4), .val (.int p5), .val (.ref b171), .val (.ref b184), .val (.int ff), .val (.int nn), .val (.int (1 : Int32)), .unset, .unset] [(.int ff), (.int (4 : Int32)), (.int (cs 4)), (.int ((((own_part (cs 0) (0 : Int32) ff nn) + (own_part (cs 1) (1 : Int32) ff nn)) + (own_part (cs 2) (2 : Int32) ff nn)) + (own_part (cs 3) (3 : Int32) ff nn)))]))
        refine own_st (fun t_ k_ => XS.iload X229.here hx rfl (hb hby at_243) rfl k_) ?_
        show own_Go p.tables e below _ (T229.setTop (mkF m 245 #[.val (.int p0), .val (.int p1), .val (.int p2), .val (.int p3), .val (.int p4), .val (.int p5), .val (.ref b171), .val (.ref b184), .val (.int ff), .val (.int nn), .val (.int (1 : Int32)), .unset, .unset] [(.int nn), (.int ff), (.int (4 : Int32)), (.int (cs 4)), (.int ((((own_part (cs 0) (0 : Int32) ff nn) + (own_part (cs 1) (1 : Int32) ff nn)) + (own_part (cs 2) (2 : Int32) ff nn)) + (own_part (cs 3) (3 : Int32) ff nn)))]))
        obtain ⟨_, _, ⟨T230, L230, k230, n230⟩, -, X230, ⟨Lc230, hQ230, l230, y230, z230⟩, st230⟩ := Jvm.LawKit.callS X229 hx (y := (⟨"com/example/nastro/nastro/model/DigitsValuePinLaw", "part", "(CIII)I"⟩ : MethodName)) hown (mvT hZ (hw _ (List.mem_of_getElem? (i := 41) rfl))) (mvT hZ (hw _ (List.mem_of_getElem? (i := 42) rfl))) (mvT hZ (hw _ (List.mem_of_getElem? (i := 3) rfl))) (mvT hZ (hw _ (List.mem_of_getElem? (i := 43) rfl))) (by decide) (backOf (W := 1) (own_rm10 l Z a0 hw [] (cs 4) (4 : Int32) ff nn T185.heap n0 (Nat.le_trans Z0 K185.1)) hZ (hw _ (List.mem_of_getElem? (i := 43) rfl)) (hw _ (List.mem_of_getElem? (i := 3) rfl)) (by decide) (by decide)) (g := (mkF m 245 #[.val (.int p0), .val (.int p1), .val (.int p2), .val (.int p3), .val (.int p4), .val (.int p5), .val (.ref b171), .val (.ref b184), .val (.int ff), .val (.int nn), .val (.int (1 : Int32)), .unset, .unset] [(.int nn), (.int ff), (.int (4 : Int32)), (.int (cs 4)), (.int ((((own_part (cs 0) (0 : Int32) ff nn) + (own_part (cs 1) (1 : Int32) ff nn)) + (own_part (cs 2) (2 : Int32) ff nn)) + (own_part (cs 3) (3 : Int32) ff nn)))])) rfl (by rw [hml]; rfl) (argsL := [(.int (cs 4)), (.int (4 : Int32)), (.int ff), (.int nn)]) (rest := [(.int ((((own_part (cs 0) (0 : Int32) ff nn) + (own_part (cs 1) (1 : Int32) ff nn)) + (own_part (cs 2) (2 : Int32) ff nn)) + (own_part (cs 3) (3 : Int32) ff nn)))]) (lenOf own_pd17 rfl) rfl (by show 2 * 0 + _ ≤ _; exact Nat.le_of_eq rfl) (hb hby at_245) (fun _ _ => ⟨rfl, eq229, (by decide : 4 + 0 ≤ _), (by decide : 28 + 0 ≤ _)⟩)
        dsimp only [Pt.U, Pt.locs, Pt.cells, Pt.slots] at X230 l230 y230 z230 st230 hQ230
        subst y230 z230
        obtain ⟨rfl, N230q, eq230⟩ := hQ230
        have N230 : Fr n0 L230 := by rw [l230]; exact Fr.app N229 N230q
        refine own_st (st230) ?_
        show own_Go p.tables e below _ (T230.setTop (mkF m 248 #[.val (.int p0), .val (.int p1), .val (.int p2), .val (.int p3), .val (.int p4), .val (.int p5), .val (.ref b171), .val (.ref b184), .val (.int ff), .val (.int nn), .val (.int (1 : Int32)), .unset, .unset] [(.int (own_part (cs 4) (4 : Int32) ff nn)), (.int ((((own_part (cs 0) (0 : Int32) ff nn) + (own_part (cs 1) (1 : Int32) ff nn)) + (own_part (cs 2) (2 : Int32) ff nn)) + (own_part (cs 3) (3 : Int32) ff nn)))]))
        refine own_st (fun t_ k_ => XS.iadd X230.here hx rfl (hb hby at_248) rfl k_) ?_
        show own_Go p.tables e below _ (T230.setTop (mkF m 249 #[.val (.int p0), .val (.int p1), .val (.int p2), .val (.int p3), .val (.int p4), .val (.int p5), .val (.ref b171), .val (.ref b184), .val (.int ff), .val (.int nn), .val (.int (1 : Int32)), .unset, .unset] [(.int (((((own_part (cs 0) (0 : Int32) ff nn) + (own_part (cs 1) (1 : Int32) ff nn)) + (own_part (cs 2) (2 : Int32) ff nn)) + (own_part (cs 3) (3 : Int32) ff nn)) + (own_part (cs 4) (4 : Int32) ff nn)))]))
        refine own_st (fun t_ k_ => XS.aload X230.here hx rfl (hb hby at_249) rfl rfl k_) ?_
        show own_Go p.tables e below _ (T230.setTop (mkF m 251 #[.val (.int p0), .val (.int p1), .val (.int p2), .val (.int p3), .val (.int p4), .val (.int p5), .val (.ref b171), .val (.ref b184), .val (.int ff), .val (.int nn), .val (.int (1 : Int32)), .unset, .unset] [(.ref b171), (.int (((((own_part (cs 0) (0 : Int32) ff nn) + (own_part (cs 1) (1 : Int32) ff nn)) + (own_part (cs 2) (2 : Int32) ff nn)) + (own_part (cs 3) (3 : Int32) ff nn)) + (own_part (cs 4) (4 : Int32) ff nn)))]))
        refine own_st (fun t_ k_ => XS.iconst X230.here hx rfl (hb hby at_251) k_) ?_
        show own_Go p.tables e below _ (T230.setTop (mkF m 252 #[.val (.int p0), .val (.int p1), .val (.int p2), .val (.int p3), .val (.int p4), .val (.int p5), .val (.ref b171), .val (.ref b184), .val (.int ff), .val (.int nn), .val (.int (1 : Int32)), .unset, .unset] [(.int (5 : Int32)), (.ref b171), (.int (((((own_part (cs 0) (0 : Int32) ff nn) + (own_part (cs 1) (1 : Int32) ff nn)) + (own_part (cs 2) (2 : Int32) ff nn)) + (own_part (cs 3) (3 : Int32) ff nn)) + (own_part (cs 4) (4 : Int32) ff nn)))]))
        refine own_st (own_caload X230 hx hZ eq230 ((Acs.ext E184).keep Kq185 (ninS (Nat.ne_of_lt (Nat.lt_of_lt_of_le Acs.lt (Nat.le_of_eq g184.symm))) nin0)) (i := 5) (by decide) (by decide) (g := (mkF m 252 #[.val (.int p0), .val (.int p1), .val (.int p2), .val (.int p3), .val (.int p4), .val (.int p5), .val (.ref b171), .val (.ref b184), .val (.int ff), .val (.int nn), .val (.int (1 : Int32)), .unset, .unset] [(.int (5 : Int32)), (.ref b171), (.int (((((own_part (cs 0) (0 : Int32) ff nn) + (own_part (cs 1) (1 : Int32) ff nn)) + (own_part (cs 2) (2 : Int32) ff nn)) + (own_part (cs 3) (3 : Int32) ff nn)) + (own_part (cs 4) (4 : Int32) ff nn)))])) rfl rfl (hb hby at_252)) ?_
        show own_Go p.tables e below _ (T230.setTop (mkF m 253 #[.val (.int p0), .val (.int p1), .val (.int p2), .val (.int p3), .val (.int p4), .val (.int p5), .val (.ref b171), .val (.ref b184), .val (.int ff), .val (.int nn), .val (.int (1 : Int32)), .unset, .unset] [(.int (cs 5)), (.int (((((own_part (cs 0) (0 : Int32) ff nn) + (own_part (cs 1) (1 : Int32) ff nn)) + (own_part (cs 2) (2 : Int32) ff nn)) + (own_part (cs 3) (3 : Int32) ff nn)) + (own_part (cs 4) (4 : Int32) ff nn)))]))
        refine own_st (fun t_ k_ => XS.iconst X230.here hx rfl (hb hby at_253) k_) ?_
        show own_Go p.tables e below _ (T230.setTop (mkF m 254 #[.val (.int p0), .val (.int p1), .val (.int p2), .val (.int p3), .val (.int p4), .val (.int p5), .val (.ref b171), .val (.ref b184), .val (.int ff), .val (.int nn), .val (.int (1 : Int32)), .unset, .unset] [(.int (5 : Int32)), (.int (cs 5)), (.int (((((own_part (cs 0) (0 : Int32) ff nn) + (own_part (cs 1) (1 : Int32) ff nn)) + (own_part (cs 2) (2 : Int32) ff nn)) + (own_part (cs 3) (3 : Int32) ff nn)) + (own_part (cs 4) (4 : Int32) ff nn)))]))
        refine own_st (fun t_ k_ => XS.iload X230.here hx rfl (hb hby at_254) rfl k_) ?_
        show own_Go p.tables e below _ (T230.setTop (mkF m 256 #[.val (.int p0), .val (.int p1), .val (.int p2), .val (.int p3), .val (.int p4), .val (.int p5), .val (.ref b171), .val (.ref b184), .val (.int ff), .val (.int nn), .val (.int (1 : Int32)), .unset, .unset] [(.int ff), (.int (5 : Int32)), (.int (cs 5)), (.int (((((own_part (cs 0) (0 : Int32) ff nn) + (own_part (cs 1) (1 : Int32) ff nn)) + (own_part (cs 2) (2 : Int32) ff nn)) + (own_part (cs 3) (3 : Int32) ff nn)) + (own_part (cs 4) (4 : Int32) ff nn)))]))
        refine own_st (fun t_ k_ => XS.iload X230.here hx rfl (hb hby at_256) rfl k_) ?_
        show own_Go p.tables e below _ (T230.setTop (mkF m 258 #[.val (.int p0), .val (.int p1), .val (.int p2), .val (.int p3), .val (.int p4), .val (.int p5), .val (.ref b171), .val (.ref b184), .val (.int ff), .val (.int nn), .val (.int (1 : Int32)), .unset, .unset] [(.int nn), (.int ff), (.int (5 : Int32)), (.int (cs 5)), (.int (((((own_part (cs 0) (0 : Int32) ff nn) + (own_part (cs 1) (1 : Int32) ff nn)) + (own_part (cs 2) (2 : Int32) ff nn)) + (own_part (cs 3) (3 : Int32) ff nn)) + (own_part (cs 4) (4 : Int32) ff nn)))]))
        obtain ⟨_, _, ⟨T231, L231, k231, n231⟩, -, X231, ⟨Lc231, hQ231, l231, y231, z231⟩, st231⟩ := Jvm.LawKit.callS X230 hx (y := (⟨"com/example/nastro/nastro/model/DigitsValuePinLaw", "part", "(CIII)I"⟩ : MethodName)) hown (mvT hZ (hw _ (List.mem_of_getElem? (i := 41) rfl))) (mvT hZ (hw _ (List.mem_of_getElem? (i := 42) rfl))) (mvT hZ (hw _ (List.mem_of_getElem? (i := 3) rfl))) (mvT hZ (hw _ (List.mem_of_getElem? (i := 43) rfl))) (by decide) (backOf (W := 1) (own_rm10 l Z a0 hw [] (cs 5) (5 : Int32) ff nn T185.heap n0 (Nat.le_trans Z0 K185.1)) hZ (hw _ (List.mem_of_getElem? (i := 43) rfl)) (hw _ (List.mem_of_getElem? (i := 3) rfl)) (by decide) (by decide)) (g := (mkF m 258 #[.val (.int p0), .val (.int p1), .val (.int p2), .val (.int p3), .val (.int p4), .val (.int p5), .val (.ref b171), .val (.ref b184), .val (.int ff), .val (.int nn), .val (.int (1 : Int32)), .unset, .unset] [(.int nn), (.int ff), (.int (5 : Int32)), (.int (cs 5)), (.int (((((own_part (cs 0) (0 : Int32) ff nn) + (own_part (cs 1) (1 : Int32) ff nn)) + (own_part (cs 2) (2 : Int32) ff nn)) + (own_part (cs 3) (3 : Int32) ff nn)) + (own_part (cs 4) (4 : Int32) ff nn)))])) rfl (by rw [hml]; rfl) (argsL := [(.int (cs 5)), (.int (5 : Int32)), (.int ff), (.int nn)]) (rest := [(.int (((((own_part (cs 0) (0 : Int32) ff nn) + (own_part (cs 1) (1 : Int32) ff nn)) + (own_part (cs 2) (2 : Int32) ff nn)) + (own_part (cs 3) (3 : Int32) ff nn)) + (own_part (cs 4) (4 : Int32) ff nn)))]) (lenOf own_pd17 rfl) rfl (by show 2 * 0 + _ ≤ _; exact Nat.le_of_eq rfl) (hb hby at_258) (fun _ _ => ⟨rfl, eq230, (by decide : 4 + 0 ≤ _), (by decide : 28 + 0 ≤ _)⟩)
        dsimp only [Pt.U, Pt.locs, Pt.cells, Pt.slots] at X231 l231 y231 z231 st231 hQ231
        subst y231 z231
        obtain ⟨rfl, N231q, eq231⟩ := hQ231
        have N231 : Fr n0 L231 := by rw [l231]; exact Fr.app N230 N231q
        refine own_st (st231) ?_
        show own_Go p.tables e below _ (T231.setTop (mkF m 261 #[.val (.int p0), .val (.int p1), .val (.int p2), .val (.int p3), .val (.int p4), .val (.int p5), .val (.ref b171), .val (.ref b184), .val (.int ff), .val (.int nn), .val (.int (1 : Int32)), .unset, .unset] [(.int (own_part (cs 5) (5 : Int32) ff nn)), (.int (((((own_part (cs 0) (0 : Int32) ff nn) + (own_part (cs 1) (1 : Int32) ff nn)) + (own_part (cs 2) (2 : Int32) ff nn)) + (own_part (cs 3) (3 : Int32) ff nn)) + (own_part (cs 4) (4 : Int32) ff nn)))]))
        refine own_st (fun t_ k_ => XS.iadd X231.here hx rfl (hb hby at_261) rfl k_) ?_
        show own_Go p.tables e below _ (T231.setTop (mkF m 262 #[.val (.int p0), .val (.int p1), .val (.int p2), .val (.int p3), .val (.int p4), .val (.int p5), .val (.ref b171), .val (.ref b184), .val (.int ff), .val (.int nn), .val (.int (1 : Int32)), .unset, .unset] [(.int ((((((own_part (cs 0) (0 : Int32) ff nn) + (own_part (cs 1) (1 : Int32) ff nn)) + (own_part (cs 2) (2 : Int32) ff nn)) + (own_part (cs 3) (3 : Int32) ff nn)) + (own_part (cs 4) (4 : Int32) ff nn)) + (own_part (cs 5) (5 : Int32) ff nn)))]))
        refine own_st (fun t_ k_ => XS.istore X231.here hx rfl (hb hby at_262) rfl (l' := #[.val (.int p0), .val (.int p1), .val (.int p2), .val (.int p3), .val (.int p4), .val (.int p5), .val (.ref b171), .val (.ref b184), .val (.int ff), .val (.int nn), .val (.int (1 : Int32)), .val (.int ((((((own_part (cs 0) (0 : Int32) ff nn) + (own_part (cs 1) (1 : Int32) ff nn)) + (own_part (cs 2) (2 : Int32) ff nn)) + (own_part (cs 3) (3 : Int32) ff nn)) + (own_part (cs 4) (4 : Int32) ff nn)) + (own_part (cs 5) (5 : Int32) ff nn))), .unset]) rfl k_) ?_
        show own_Go p.tables e below _ (T231.setTop (mkF m 264 #[.val (.int p0), .val (.int p1), .val (.int p2), .val (.int p3), .val (.int p4), .val (.int p5), .val (.ref b171), .val (.ref b184), .val (.int ff), .val (.int nn), .val (.int (1 : Int32)), .val (.int ((((((own_part (cs 0) (0 : Int32) ff nn) + (own_part (cs 1) (1 : Int32) ff nn)) + (own_part (cs 2) (2 : Int32) ff nn)) + (own_part (cs 3) (3 : Int32) ff nn)) + (own_part (cs 4) (4 : Int32) ff nn)) + (own_part (cs 5) (5 : Int32) ff nn))), .unset] []))
        refine own_st (fun t_ k_ => XS.iload X231.here hx rfl (hb hby at_264) rfl k_) ?_
        show own_Go p.tables e below _ (T231.setTop (mkF m 266 #[.val (.int p0), .val (.int p1), .val (.int p2), .val (.int p3), .val (.int p4), .val (.int p5), .val (.ref b171), .val (.ref b184), .val (.int ff), .val (.int nn), .val (.int (1 : Int32)), .val (.int ((((((own_part (cs 0) (0 : Int32) ff nn) + (own_part (cs 1) (1 : Int32) ff nn)) + (own_part (cs 2) (2 : Int32) ff nn)) + (own_part (cs 3) (3 : Int32) ff nn)) + (own_part (cs 4) (4 : Int32) ff nn)) + (own_part (cs 5) (5 : Int32) ff nn))), .unset] [(.int (1 : Int32))]))
        refine own_st (fun t_ k_ => XS.ifNo X231.here hx rfl (hb hby at_266) rfl ((if0 _ _).trans (feq (by decide : ¬ ((1 : Int32) = (0 : Int32)))).1) k_) ?_
        show own_Go p.tables e below _ (T231.setTop (mkF m 269 #[.val (.int p0), .val (.int p1), .val (.int p2), .val (.int p3), .val (.int p4), .val (.int p5), .val (.ref b171), .val (.ref b184), .val (.int ff), .val (.int nn), .val (.int (1 : Int32)), .val (.int ((((((own_part (cs 0) (0 : Int32) ff nn) + (own_part (cs 1) (1 : Int32) ff nn)) + (own_part (cs 2) (2 : Int32) ff nn)) + (own_part (cs 3) (3 : Int32) ff nn)) + (own_part (cs 4) (4 : Int32) ff nn)) + (own_part (cs 5) (5 : Int32) ff nn))), .unset] []))
        refine own_st (fun t_ k_ => XS.iconst X231.here hx rfl (hb hby at_269) k_) ?_
        show own_Go p.tables e below _ (T231.setTop (mkF m 270 #[.val (.int p0), .val (.int p1), .val (.int p2), .val (.int p3), .val (.int p4), .val (.int p5), .val (.ref b171), .val (.ref b184), .val (.int ff), .val (.int nn), .val (.int (1 : Int32)), .val (.int ((((((own_part (cs 0) (0 : Int32) ff nn) + (own_part (cs 1) (1 : Int32) ff nn)) + (own_part (cs 2) (2 : Int32) ff nn)) + (own_part (cs 3) (3 : Int32) ff nn)) + (own_part (cs 4) (4 : Int32) ff nn)) + (own_part (cs 5) (5 : Int32) ff nn))), .unset] [(.int (-1 : Int32))]))
        refine own_st (fun t_ k_ => XS.goto X231.here hx rfl (pc0 := 270) (pc' := 275) rfl (hb hby at_270) (by decide) (by decide) k_) ?_
        show own_Go p.tables e below _ (T231.setTop (mkF m 275 #[.val (.int p0), .val (.int p1), .val (.int p2), .val (.int p3), .val (.int p4), .val (.int p5), .val (.ref b171), .val (.ref b184), .val (.int ff), .val (.int nn), .val (.int (1 : Int32)), .val (.int ((((((own_part (cs 0) (0 : Int32) ff nn) + (own_part (cs 1) (1 : Int32) ff nn)) + (own_part (cs 2) (2 : Int32) ff nn)) + (own_part (cs 3) (3 : Int32) ff nn)) + (own_part (cs 4) (4 : Int32) ff nn)) + (own_part (cs 5) (5 : Int32) ff nn))), .unset] [(.int (-1 : Int32))]))
        refine own_st (fun t_ k_ => XS.istore X231.here hx rfl (hb hby at_275) rfl (l' := #[.val (.int p0), .val (.int p1), .val (.int p2), .val (.int p3), .val (.int p4), .val (.int p5), .val (.ref b171), .val (.ref b184), .val (.int ff), .val (.int nn), .val (.int (1 : Int32)), .val (.int ((((((own_part (cs 0) (0 : Int32) ff nn) + (own_part (cs 1) (1 : Int32) ff nn)) + (own_part (cs 2) (2 : Int32) ff nn)) + (own_part (cs 3) (3 : Int32) ff nn)) + (own_part (cs 4) (4 : Int32) ff nn)) + (own_part (cs 5) (5 : Int32) ff nn))), .val (.int (-1 : Int32))]) rfl k_) ?_
        show own_Go p.tables e below _ (T231.setTop (mkF m 277 #[.val (.int p0), .val (.int p1), .val (.int p2), .val (.int p3), .val (.int p4), .val (.int p5), .val (.ref b171), .val (.ref b184), .val (.int ff), .val (.int nn), .val (.int (1 : Int32)), .val (.int ((((((own_part (cs 0) (0 : Int32) ff nn) + (own_part (cs 1) (1 : Int32) ff nn)) + (own_part (cs 2) (2 : Int32) ff nn)) + (own_part (cs 3) (3 : Int32) ff nn)) + (own_part (cs 4) (4 : Int32) ff nn)) + (own_part (cs 5) (5 : Int32) ff nn))), .val (.int (-1 : Int32))] []))
        refine own_st (fun t_ k_ => XS.aload X231.here hx rfl (hb hby at_277) rfl rfl k_) ?_
        show own_Go p.tables e below _ (T231.setTop (mkF m 279 #[.val (.int p0), .val (.int p1), .val (.int p2), .val (.int p3), .val (.int p4), .val (.int p5), .val (.ref b171), .val (.ref b184), .val (.int ff), .val (.int nn), .val (.int (1 : Int32)), .val (.int ((((((own_part (cs 0) (0 : Int32) ff nn) + (own_part (cs 1) (1 : Int32) ff nn)) + (own_part (cs 2) (2 : Int32) ff nn)) + (own_part (cs 3) (3 : Int32) ff nn)) + (own_part (cs 4) (4 : Int32) ff nn)) + (own_part (cs 5) (5 : Int32) ff nn))), .val (.int (-1 : Int32))] [(.ref b184)]))
        refine own_st (fun t_ k_ => XS.iload X231.here hx rfl (hb hby at_279) rfl k_) ?_
        show own_Go p.tables e below _ (T231.setTop (mkF m 281 #[.val (.int p0), .val (.int p1), .val (.int p2), .val (.int p3), .val (.int p4), .val (.int p5), .val (.ref b171), .val (.ref b184), .val (.int ff), .val (.int nn), .val (.int (1 : Int32)), .val (.int ((((((own_part (cs 0) (0 : Int32) ff nn) + (own_part (cs 1) (1 : Int32) ff nn)) + (own_part (cs 2) (2 : Int32) ff nn)) + (own_part (cs 3) (3 : Int32) ff nn)) + (own_part (cs 4) (4 : Int32) ff nn)) + (own_part (cs 5) (5 : Int32) ff nn))), .val (.int (-1 : Int32))] [(.int ff), (.ref b184)]))
        refine own_st (fun t_ k_ => XS.iload X231.here hx rfl (hb hby at_281) rfl k_) ?_
        show own_Go p.tables e below _ (T231.setTop (mkF m 283 #[.val (.int p0), .val (.int p1), .val (.int p2), .val (.int p3), .val (.int p4), .val (.int p5), .val (.ref b171), .val (.ref b184), .val (.int ff), .val (.int nn), .val (.int (1 : Int32)), .val (.int ((((((own_part (cs 0) (0 : Int32) ff nn) + (own_part (cs 1) (1 : Int32) ff nn)) + (own_part (cs 2) (2 : Int32) ff nn)) + (own_part (cs 3) (3 : Int32) ff nn)) + (own_part (cs 4) (4 : Int32) ff nn)) + (own_part (cs 5) (5 : Int32) ff nn))), .val (.int (-1 : Int32))] [(.int nn), (.int ff), (.ref b184)]))
        obtain ⟨_, _, ⟨T232, L232, k232, n232⟩, -, X232, ⟨Lc232, hQ232, l232, y232, z232⟩, st232⟩ := Jvm.LawKit.callS X231 hx (y := (⟨"com/example/nastro/nastro/model/Digits", "value", "(Ljava/lang/String;II)I"⟩ : MethodName)) hown (mvT hZ (hw _ (List.mem_of_getElem? (i := 44) rfl))) (mvT hZ (hw _ (List.mem_of_getElem? (i := 45) rfl))) (mvT hZ (hw _ (List.mem_of_getElem? (i := 46) rfl))) (mvT hZ (hw _ (List.mem_of_getElem? (i := 47) rfl))) (by decide) (backOf (W := 0) (own_rm11 l Z a0 hw [] b184 ff nn t_185 kt_185 cd_185 6 cs fm ct G1 G3 T185.heap n0 (Nat.le_trans Z0 K185.1) (A184.keep Kq185) P185_1 P185_2 P185_3 P185_4 (((((((((q0.ext E171).wr W173 ge171).wr W175 ge171).wr W177 ge171).wr W179 ge171).wr W181 ge171).wr W183 ge171).ext E184).keep Kq185 (allS ge184 all0)) q1 hG1 q3 rG3 q5 q6 q7 hall ⟨hfm, hct, (by omega), (by decide)⟩) hZ (hw _ (List.mem_of_getElem? (i := 47) rfl)) (hw _ (List.mem_of_getElem? (i := 46) rfl)) (by decide) (by decide)) (g := (mkF m 283 #[.val (.int p0), .val (.int p1), .val (.int p2), .val (.int p3), .val (.int p4), .val (.int p5), .val (.ref b171), .val (.ref b184), .val (.int ff), .val (.int nn), .val (.int (1 : Int32)), .val (.int ((((((own_part (cs 0) (0 : Int32) ff nn) + (own_part (cs 1) (1 : Int32) ff nn)) + (own_part (cs 2) (2 : Int32) ff nn)) + (own_part (cs 3) (3 : Int32) ff nn)) + (own_part (cs 4) (4 : Int32) ff nn)) + (own_part (cs 5) (5 : Int32) ff nn))), .val (.int (-1 : Int32))] [(.int nn), (.int ff), (.ref b184)])) rfl (by rw [hml]; rfl) (argsL := [(.ref b184), (.int ff), (.int nn)]) (rest := []) (lenOf own_pd18 rfl) rfl (by show 2 * 0 + _ ≤ _; exact Nat.le_of_eq rfl) (hb hby at_283) (fun _ _ => ⟨rfl, eq231, (by decide : 4 + 0 ≤ _), (by decide : 28 + 0 ≤ _)⟩)
        dsimp only [Pt.U, Pt.locs, Pt.cells, Pt.slots] at X232 l232 y232 z232 st232 hQ232
        subst y232 z232
        obtain ⟨rfl, N232q, eq232⟩ := hQ232
        have N232 : Fr n0 L232 := by rw [l232]; exact Fr.app N231 N232q
        refine own_st (st232) ?_
        show own_Go p.tables e below _ (T232.setTop (mkF m 286 #[.val (.int p0), .val (.int p1), .val (.int p2), .val (.int p3), .val (.int p4), .val (.int p5), .val (.ref b171), .val (.ref b184), .val (.int ff), .val (.int nn), .val (.int (1 : Int32)), .val (.int ((((((own_part (cs 0) (0 : Int32) ff nn) + (own_part (cs 1) (1 : Int32) ff nn)) + (own_part (cs 2) (2 : Int32) ff nn)) + (own_part (cs 3) (3 : Int32) ff nn)) + (own_part (cs 4) (4 : Int32) ff nn)) + (own_part (cs 5) (5 : Int32) ff nn))), .val (.int (-1 : Int32))] [(.int (own_dig cs ct fm 0))]))
        refine own_st (fun t_ k_ => XS.iload X232.here hx rfl (hb hby at_286) rfl k_) ?_
        show own_Go p.tables e below _ (T232.setTop (mkF m 288 #[.val (.int p0), .val (.int p1), .val (.int p2), .val (.int p3), .val (.int p4), .val (.int p5), .val (.ref b171), .val (.ref b184), .val (.int ff), .val (.int nn), .val (.int (1 : Int32)), .val (.int ((((((own_part (cs 0) (0 : Int32) ff nn) + (own_part (cs 1) (1 : Int32) ff nn)) + (own_part (cs 2) (2 : Int32) ff nn)) + (own_part (cs 3) (3 : Int32) ff nn)) + (own_part (cs 4) (4 : Int32) ff nn)) + (own_part (cs 5) (5 : Int32) ff nn))), .val (.int (-1 : Int32))] [(.int (-1 : Int32)), (.int (own_dig cs ct fm 0))]))
        refine own_st (fun t_ k_ => XS.icmpNo X232.here hx rfl (hb hby at_288) rfl (teq (own_lawB (i := 2) (k := 2) (by decide) hfm hct (by omega) c130_191 : (own_dig cs ct fm 0) = (-1 : Int32))).2 k_) ?_
        show own_Go p.tables e below _ (T232.setTop (mkF m 291 #[.val (.int p0), .val (.int p1), .val (.int p2), .val (.int p3), .val (.int p4), .val (.int p5), .val (.ref b171), .val (.ref b184), .val (.int ff), .val (.int nn), .val (.int (1 : Int32)), .val (.int ((((((own_part (cs 0) (0 : Int32) ff nn) + (own_part (cs 1) (1 : Int32) ff nn)) + (own_part (cs 2) (2 : Int32) ff nn)) + (own_part (cs 3) (3 : Int32) ff nn)) + (own_part (cs 4) (4 : Int32) ff nn)) + (own_part (cs 5) (5 : Int32) ff nn))), .val (.int (-1 : Int32))] []))
        refine own_st (fun t_ k_ => XS.iconst X232.here hx rfl (hb hby at_291) k_) ?_
        show own_Go p.tables e below _ (T232.setTop (mkF m 292 #[.val (.int p0), .val (.int p1), .val (.int p2), .val (.int p3), .val (.int p4), .val (.int p5), .val (.ref b171), .val (.ref b184), .val (.int ff), .val (.int nn), .val (.int (1 : Int32)), .val (.int ((((((own_part (cs 0) (0 : Int32) ff nn) + (own_part (cs 1) (1 : Int32) ff nn)) + (own_part (cs 2) (2 : Int32) ff nn)) + (own_part (cs 3) (3 : Int32) ff nn)) + (own_part (cs 4) (4 : Int32) ff nn)) + (own_part (cs 5) (5 : Int32) ff nn))), .val (.int (-1 : Int32))] [(.int (1 : Int32))]))
        refine own_st (fun t_ k_ => XS.goto X232.here hx rfl (pc0 := 292) (pc' := 296) rfl (hb hby at_292) (by decide) (by decide) k_) ?_
        show own_Go p.tables e below _ (T232.setTop (mkF m 296 #[.val (.int p0), .val (.int p1), .val (.int p2), .val (.int p3), .val (.int p4), .val (.int p5), .val (.ref b171), .val (.ref b184), .val (.int ff), .val (.int nn), .val (.int (1 : Int32)), .val (.int ((((((own_part (cs 0) (0 : Int32) ff nn) + (own_part (cs 1) (1 : Int32) ff nn)) + (own_part (cs 2) (2 : Int32) ff nn)) + (own_part (cs 3) (3 : Int32) ff nn)) + (own_part (cs 4) (4 : Int32) ff nn)) + (own_part (cs 5) (5 : Int32) ff nn))), .val (.int (-1 : Int32))] [(.int (1 : Int32))]))
        exact own_ret (w := (.int (1 : Int32))) X232 hx hnl Bd.returns rfl (Or.inl ⟨rfl, by decide, _, rfl⟩) (hb hby at_296) ⟨rfl, N232, (by rw [eq232]; exact K185)⟩ (by decide) (by decide)
    · skip
      refine own_st (fun t_ k_ => XS.ifYes X188.here hx rfl (pc0 := 115) (pc' := 178) rfl (hb hby at_115) rfl ((if0 _ _).trans (feq c115_189).2) (by decide) (by decide) k_) ?_
      show own_Go p.tables e below _ (T188.setTop (mkF m 178 #[.val (.int p0), .val (.int p1), .val (.int p2), .val (.int p3), .val (.int p4), .val (.int p5), .val (.ref b171), .val (.ref b184), .val (.int ff), .val (.int nn), .unset, .unset, .unset] []))
      refine own_st (fun t_ k_ => XS.iconst X188.here hx rfl (hb hby at_178) k_) ?_
      show own_Go p.tables e below _ (T188.setTop (mkF m 179 #[.val (.int p0), .val (.int p1), .val (.int p2), .val (.int p3), .val (.int p4), .val (.int p5), .val (.ref b171), .val (.ref b184), .val (.int ff), .val (.int nn), .unset, .unset, .unset] [(.int (1 : Int32))]))
      refine own_st (fun t_ k_ => XS.goto X188.here hx rfl (pc0 := 179) (pc' := 183) rfl (hb hby at_179) (by decide) (by decide) k_) ?_
      show own_Go p.tables e below _ (T188.setTop (mkF m 183 #[.val (.int p0), .val (.int p1), .val (.int p2), .val (.int p3), .val (.int p4), .val (.int p5), .val (.ref b171), .val (.ref b184), .val (.int ff), .val (.int nn), .unset, .unset, .unset] [(.int (1 : Int32))]))
      refine own_st (fun t_ k_ => XS.istore X188.here hx rfl (hb hby at_183) rfl (l' := #[.val (.int p0), .val (.int p1), .val (.int p2), .val (.int p3), .val (.int p4), .val (.int p5), .val (.ref b171), .val (.ref b184), .val (.int ff), .val (.int nn), .val (.int (1 : Int32)), .unset, .unset]) rfl k_) ?_
      show own_Go p.tables e below _ (T188.setTop (mkF m 185 #[.val (.int p0), .val (.int p1), .val (.int p2), .val (.int p3), .val (.int p4), .val (.int p5), .val (.ref b171), .val (.ref b184), .val (.int ff), .val (.int nn), .val (.int (1 : Int32)), .unset, .unset] []))
      refine own_st (fun t_ k_ => XS.aload X188.here hx rfl (hb hby at_185) rfl rfl k_) ?_
      show own_Go p.tables e below _ (T188.setTop (mkF m 187 #[.val (.int p0), .val (.int p1), .val (.int p2), .val (.int p3), .val (.int p4), .val (.int p5), .val (.ref b171), .val (.ref b184), .val (.int ff), .val (.int nn), .val (.int (1 : Int32)), .unset, .unset] [(.ref b171)]))
      refine own_st (fun t_ k_ => XS.iconst X188.here hx rfl (hb hby at_187) k_) ?_
      show own_Go p.tables e below _ (T188.setTop (mkF m 188 #[.val (.int p0), .val (.int p1), .val (.int p2), .val (.int p3), .val (.int p4), .val (.int p5), .val (.ref b171), .val (.ref b184), .val (.int ff), .val (.int nn), .val (.int (1 : Int32)), .unset, .unset] [(.int (0 : Int32)), (.ref b171)]))
      refine own_st (own_caload X188 hx hZ eq188 ((Acs.ext E184).keep Kq185 (ninS (Nat.ne_of_lt (Nat.lt_of_lt_of_le Acs.lt (Nat.le_of_eq g184.symm))) nin0)) (i := 0) (by decide) (by decide) (g := (mkF m 188 #[.val (.int p0), .val (.int p1), .val (.int p2), .val (.int p3), .val (.int p4), .val (.int p5), .val (.ref b171), .val (.ref b184), .val (.int ff), .val (.int nn), .val (.int (1 : Int32)), .unset, .unset] [(.int (0 : Int32)), (.ref b171)])) rfl rfl (hb hby at_188)) ?_
      show own_Go p.tables e below _ (T188.setTop (mkF m 189 #[.val (.int p0), .val (.int p1), .val (.int p2), .val (.int p3), .val (.int p4), .val (.int p5), .val (.ref b171), .val (.ref b184), .val (.int ff), .val (.int nn), .val (.int (1 : Int32)), .unset, .unset] [(.int (cs 0))]))
      refine own_st (fun t_ k_ => XS.iconst X188.here hx rfl (hb hby at_189) k_) ?_
      show own_Go p.tables e below _ (T188.setTop (mkF m 190 #[.val (.int p0), .val (.int p1), .val (.int p2), .val (.int p3), .val (.int p4), .val (.int p5), .val (.ref b171), .val (.ref b184), .val (.int ff), .val (.int nn), .val (.int (1 : Int32)), .unset, .unset] [(.int (0 : Int32)), (.int (cs 0))]))
      refine own_st (fun t_ k_ => XS.iload X188.here hx rfl (hb hby at_190) rfl k_) ?_
      show own_Go p.tables e below _ (T188.setTop (mkF m 192 #[.val (.int p0), .val (.int p1), .val (.int p2), .val (.int p3), .val (.int p4), .val (.int p5), .val (.ref b171), .val (.ref b184), .val (.int ff), .val (.int nn), .val (.int (1 : Int32)), .unset, .unset] [(.int ff), (.int (0 : Int32)), (.int (cs 0))]))
      refine own_st (fun t_ k_ => XS.iload X188.here hx rfl (hb hby at_192) rfl k_) ?_
      show own_Go p.tables e below _ (T188.setTop (mkF m 194 #[.val (.int p0), .val (.int p1), .val (.int p2), .val (.int p3), .val (.int p4), .val (.int p5), .val (.ref b171), .val (.ref b184), .val (.int ff), .val (.int nn), .val (.int (1 : Int32)), .unset, .unset] [(.int nn), (.int ff), (.int (0 : Int32)), (.int (cs 0))]))
      obtain ⟨_, _, ⟨T233, L233, k233, n233⟩, -, X233, ⟨Lc233, hQ233, l233, y233, z233⟩, st233⟩ := Jvm.LawKit.callS X188 hx (y := (⟨"com/example/nastro/nastro/model/DigitsValuePinLaw", "part", "(CIII)I"⟩ : MethodName)) hown (mvT hZ (hw _ (List.mem_of_getElem? (i := 41) rfl))) (mvT hZ (hw _ (List.mem_of_getElem? (i := 42) rfl))) (mvT hZ (hw _ (List.mem_of_getElem? (i := 3) rfl))) (mvT hZ (hw _ (List.mem_of_getElem? (i := 43) rfl))) (by decide) (backOf (W := 0) (own_rm10 l Z a0 hw [] (cs 0) (0 : Int32) ff nn T185.heap n0 (Nat.le_trans Z0 K185.1)) hZ (hw _ (List.mem_of_getElem? (i := 43) rfl)) (hw _ (List.mem_of_getElem? (i := 3) rfl)) (by decide) (by decide)) (g := (mkF m 194 #[.val (.int p0), .val (.int p1), .val (.int p2), .val (.int p3), .val (.int p4), .val (.int p5), .val (.ref b171), .val (.ref b184), .val (.int ff), .val (.int nn), .val (.int (1 : Int32)), .unset, .unset] [(.int nn), (.int ff), (.int (0 : Int32)), (.int (cs 0))])) rfl (by rw [hml]; rfl) (argsL := [(.int (cs 0)), (.int (0 : Int32)), (.int ff), (.int nn)]) (rest := []) (lenOf own_pd17 rfl) rfl (by show 2 * 0 + _ ≤ _; exact Nat.le_of_eq rfl) (hb hby at_194) (fun _ _ => ⟨rfl, eq188, (by decide : 4 + 0 ≤ _), (by decide : 28 + 0 ≤ _)⟩)
      dsimp only [Pt.U, Pt.locs, Pt.cells, Pt.slots] at X233 l233 y233 z233 st233 hQ233
      subst y233 z233
      obtain ⟨rfl, N233q, eq233⟩ := hQ233
      have N233 : Fr n0 L233 := by rw [l233]; exact Fr.app N188 N233q
      refine own_st (st233) ?_
      show own_Go p.tables e below _ (T233.setTop (mkF m 197 #[.val (.int p0), .val (.int p1), .val (.int p2), .val (.int p3), .val (.int p4), .val (.int p5), .val (.ref b171), .val (.ref b184), .val (.int ff), .val (.int nn), .val (.int (1 : Int32)), .unset, .unset] [(.int (own_part (cs 0) (0 : Int32) ff nn))]))
      refine own_st (fun t_ k_ => XS.aload X233.here hx rfl (hb hby at_197) rfl rfl k_) ?_
      show own_Go p.tables e below _ (T233.setTop (mkF m 199 #[.val (.int p0), .val (.int p1), .val (.int p2), .val (.int p3), .val (.int p4), .val (.int p5), .val (.ref b171), .val (.ref b184), .val (.int ff), .val (.int nn), .val (.int (1 : Int32)), .unset, .unset] [(.ref b171), (.int (own_part (cs 0) (0 : Int32) ff nn))]))
      refine own_st (fun t_ k_ => XS.iconst X233.here hx rfl (hb hby at_199) k_) ?_
      show own_Go p.tables e below _ (T233.setTop (mkF m 200 #[.val (.int p0), .val (.int p1), .val (.int p2), .val (.int p3), .val (.int p4), .val (.int p5), .val (.ref b171), .val (.ref b184), .val (.int ff), .val (.int nn), .val (.int (1 : Int32)), .unset, .unset] [(.int (1 : Int32)), (.ref b171), (.int (own_part (cs 0) (0 : Int32) ff nn))]))
      refine own_st (own_caload X233 hx hZ eq233 ((Acs.ext E184).keep Kq185 (ninS (Nat.ne_of_lt (Nat.lt_of_lt_of_le Acs.lt (Nat.le_of_eq g184.symm))) nin0)) (i := 1) (by decide) (by decide) (g := (mkF m 200 #[.val (.int p0), .val (.int p1), .val (.int p2), .val (.int p3), .val (.int p4), .val (.int p5), .val (.ref b171), .val (.ref b184), .val (.int ff), .val (.int nn), .val (.int (1 : Int32)), .unset, .unset] [(.int (1 : Int32)), (.ref b171), (.int (own_part (cs 0) (0 : Int32) ff nn))])) rfl rfl (hb hby at_200)) ?_
      show own_Go p.tables e below _ (T233.setTop (mkF m 201 #[.val (.int p0), .val (.int p1), .val (.int p2), .val (.int p3), .val (.int p4), .val (.int p5), .val (.ref b171), .val (.ref b184), .val (.int ff), .val (.int nn), .val (.int (1 : Int32)), .unset, .unset] [(.int (cs 1)), (.int (own_part (cs 0) (0 : Int32) ff nn))]))
      refine own_st (fun t_ k_ => XS.iconst X233.here hx rfl (hb hby at_201) k_) ?_
      show own_Go p.tables e below _ (T233.setTop (mkF m 202 #[.val (.int p0), .val (.int p1), .val (.int p2), .val (.int p3), .val (.int p4), .val (.int p5), .val (.ref b171), .val (.ref b184), .val (.int ff), .val (.int nn), .val (.int (1 : Int32)), .unset, .unset] [(.int (1 : Int32)), (.int (cs 1)), (.int (own_part (cs 0) (0 : Int32) ff nn))]))
      refine own_st (fun t_ k_ => XS.iload X233.here hx rfl (hb hby at_202) rfl k_) ?_
      show own_Go p.tables e below _ (T233.setTop (mkF m 204 #[.val (.int p0), .val (.int p1), .val (.int p2), .val (.int p3), .val (.int p4), .val (.int p5), .val (.ref b171), .val (.ref b184), .val (.int ff), .val (.int nn), .val (.int (1 : Int32)), .unset, .unset] [(.int ff), (.int (1 : Int32)), (.int (cs 1)), (.int (own_part (cs 0) (0 : Int32) ff nn))]))
      refine own_st (fun t_ k_ => XS.iload X233.here hx rfl (hb hby at_204) rfl k_) ?_
      show own_Go p.tables e below _ (T233.setTop (mkF m 206 #[.val (.int p0), .val (.int p1), .val (.int p2), .val (.int p3), .val (.int p4), .val (.int p5), .val (.ref b171), .val (.ref b184), .val (.int ff), .val (.int nn), .val (.int (1 : Int32)), .unset, .unset] [(.int nn), (.int ff), (.int (1 : Int32)), (.int (cs 1)), (.int (own_part (cs 0) (0 : Int32) ff nn))]))
      obtain ⟨_, _, ⟨T234, L234, k234, n234⟩, -, X234, ⟨Lc234, hQ234, l234, y234, z234⟩, st234⟩ := Jvm.LawKit.callS X233 hx (y := (⟨"com/example/nastro/nastro/model/DigitsValuePinLaw", "part", "(CIII)I"⟩ : MethodName)) hown (mvT hZ (hw _ (List.mem_of_getElem? (i := 41) rfl))) (mvT hZ (hw _ (List.mem_of_getElem? (i := 42) rfl))) (mvT hZ (hw _ (List.mem_of_getElem? (i := 3) rfl))) (mvT hZ (hw _ (List.mem_of_getElem? (i := 43) rfl))) (by decide) (backOf (W := 1) (own_rm10 l Z a0 hw [] (cs 1) (1 : Int32) ff nn T185.heap n0 (Nat.le_trans Z0 K185.1)) hZ (hw _ (List.mem_of_getElem? (i := 43) rfl)) (hw _ (List.mem_of_getElem? (i := 3) rfl)) (by decide) (by decide)) (g := (mkF m 206 #[.val (.int p0), .val (.int p1), .val (.int p2), .val (.int p3), .val (.int p4), .val (.int p5), .val (.ref b171), .val (.ref b184), .val (.int ff), .val (.int nn), .val (.int (1 : Int32)), .unset, .unset] [(.int nn), (.int ff), (.int (1 : Int32)), (.int (cs 1)), (.int (own_part (cs 0) (0 : Int32) ff nn))])) rfl (by rw [hml]; rfl) (argsL := [(.int (cs 1)), (.int (1 : Int32)), (.int ff), (.int nn)]) (rest := [(.int (own_part (cs 0) (0 : Int32) ff nn))]) (lenOf own_pd17 rfl) rfl (by show 2 * 0 + _ ≤ _; exact Nat.le_of_eq rfl) (hb hby at_206) (fun _ _ => ⟨rfl, eq233, (by decide : 4 + 0 ≤ _), (by decide : 28 + 0 ≤ _)⟩)
      dsimp only [Pt.U, Pt.locs, Pt.cells, Pt.slots] at X234 l234 y234 z234 st234 hQ234
      subst y234 z234
      obtain ⟨rfl, N234q, eq234⟩ := hQ234
      have N234 : Fr n0 L234 := by rw [l234]; exact Fr.app N233 N234q
      refine own_st (st234) ?_
      show own_Go p.tables e below _ (T234.setTop (mkF m 209 #[.val (.int p0), .val (.int p1), .val (.int p2), .val (.int p3), .val (.int p4), .val (.int p5), .val (.ref b171), .val (.ref b184), .val (.int ff), .val (.int nn), .val (.int (1 : Int32)), .unset, .unset] [(.int (own_part (cs 1) (1 : Int32) ff nn)), (.int (own_part (cs 0) (0 : Int32) ff nn))]))
      refine own_st (fun t_ k_ => XS.iadd X234.here hx rfl (hb hby at_209) rfl k_) ?_
      show own_Go p.tables e below _ (T234.setTop (mkF m 210 #[.val (.int p0), .val (.int p1), .val (.int p2), .val (.int p3), .val (.int p4), .val (.int p5), .val (.ref b171), .val (.ref b184), .val (.int ff), .val (.int nn), .val (.int (1 : Int32)), .unset, .unset] [(.int ((own_part (cs 0) (0 : Int32) ff nn) + (own_part (cs 1) (1 : Int32) ff nn)))]))
      refine own_st (fun t_ k_ => XS.aload X234.here hx rfl (hb hby at_210) rfl rfl k_) ?_
      show own_Go p.tables e below _ (T234.setTop (mkF m 212 #[.val (.int p0), .val (.int p1), .val (.int p2), .val (.int p3), .val (.int p4), .val (.int p5), .val (.ref b171), .val (.ref b184), .val (.int ff), .val (.int nn), .val (.int (1 : Int32)), .unset, .unset] [(.ref b171), (.int ((own_part (cs 0) (0 : Int32) ff nn) + (own_part (cs 1) (1 : Int32) ff nn)))]))
      refine own_st (fun t_ k_ => XS.iconst X234.here hx rfl (hb hby at_212) k_) ?_
      show own_Go p.tables e below _ (T234.setTop (mkF m 213 #[.val (.int p0), .val (.int p1), .val (.int p2), .val (.int p3), .val (.int p4), .val (.int p5), .val (.ref b171), .val (.ref b184), .val (.int ff), .val (.int nn), .val (.int (1 : Int32)), .unset, .unset] [(.int (2 : Int32)), (.ref b171), (.int ((own_part (cs 0) (0 : Int32) ff nn) + (own_part (cs 1) (1 : Int32) ff nn)))]))
      refine own_st (own_caload X234 hx hZ eq234 ((Acs.ext E184).keep Kq185 (ninS (Nat.ne_of_lt (Nat.lt_of_lt_of_le Acs.lt (Nat.le_of_eq g184.symm))) nin0)) (i := 2) (by decide) (by decide) (g := (mkF m 213 #[.val (.int p0), .val (.int p1), .val (.int p2), .val (.int p3), .val (.int p4), .val (.int p5), .val (.ref b171), .val (.ref b184), .val (.int ff), .val (.int nn), .val (.int (1 : Int32)), .unset, .unset] [(.int (2 : Int32)), (.ref b171), (.int ((own_part (cs 0) (0 : Int32) ff nn) + (own_part (cs 1) (1 : Int32) ff nn)))])) rfl rfl (hb hby at_213)) ?_
      show own_Go p.tables e below _ (T234.setTop (mkF m 214 #[.val (.int p0), .val (.int p1), .val (.int p2), .val (.int p3), .val (.int p4), .val (.int p5), .val (.ref b171), .val (.ref b184), .val (.int ff), .val (.int nn), .val (.int (1 : Int32)), .unset, .unset] [(.int (cs 2)), (.int ((own_part (cs 0) (0 : Int32) ff nn) + (own_part (cs 1) (1 : Int32) ff nn)))]))
      refine own_st (fun t_ k_ => XS.iconst X234.here hx rfl (hb hby at_214) k_) ?_
      show own_Go p.tables e below _ (T234.setTop (mkF m 215 #[.val (.int p0), .val (.int p1), .val (.int p2), .val (.int p3), .val (.int p4), .val (.int p5), .val (.ref b171), .val (.ref b184), .val (.int ff), .val (.int nn), .val (.int (1 : Int32)), .unset, .unset] [(.int (2 : Int32)), (.int (cs 2)), (.int ((own_part (cs 0) (0 : Int32) ff nn) + (own_part (cs 1) (1 : Int32) ff nn)))]))
      refine own_st (fun t_ k_ => XS.iload X234.here hx rfl (hb hby at_215) rfl k_) ?_
      show own_Go p.tables e below _ (T234.setTop (mkF m 217 #[.val (.int p0), .val (.int p1), .val (.int p2), .val (.int p3), .val (.int p4), .val (.int p5), .val (.ref b171), .val (.ref b184), .val (.int ff), .val (.int nn), .val (.int (1 : Int32)), .unset, .unset] [(.int ff), (.int (2 : Int32)), (.int (cs 2)), (.int ((own_part (cs 0) (0 : Int32) ff nn) + (own_part (cs 1) (1 : Int32) ff nn)))]))
      refine own_st (fun t_ k_ => XS.iload X234.here hx rfl (hb hby at_217) rfl k_) ?_
      show own_Go p.tables e below _ (T234.setTop (mkF m 219 #[.val (.int p0), .val (.int p1), .val (.int p2), .val (.int p3), .val (.int p4), .val (.int p5), .val (.ref b171), .val (.ref b184), .val (.int ff), .val (.int nn), .val (.int (1 : Int32)), .unset, .unset] [(.int nn), (.int ff), (.int (2 : Int32)), (.int (cs 2)), (.int ((own_part (cs 0) (0 : Int32) ff nn) + (own_part (cs 1) (1 : Int32) ff nn)))]))
      obtain ⟨_, _, ⟨T235, L235, k235, n235⟩, -, X235, ⟨Lc235, hQ235, l235, y235, z235⟩, st235⟩ := Jvm.LawKit.callS X234 hx (y := (⟨"com/example/nastro/nastro/model/DigitsValuePinLaw", "part", "(CIII)I"⟩ : MethodName)) hown (mvT hZ (hw _ (List.mem_of_getElem? (i := 41) rfl))) (mvT hZ (hw _ (List.mem_of_getElem? (i := 42) rfl))) (mvT hZ (hw _ (List.mem_of_getElem? (i := 3) rfl))) (mvT hZ (hw _ (List.mem_of_getElem? (i := 43) rfl))) (by decide) (backOf (W := 1) (own_rm10 l Z a0 hw [] (cs 2) (2 : Int32) ff nn T185.heap n0 (Nat.le_trans Z0 K185.1)) hZ (hw _ (List.mem_of_getElem? (i := 43) rfl)) (hw _ (List.mem_of_getElem? (i := 3) rfl)) (by decide) (by decide)) (g := (mkF m 219 #[.val (.int p0), .val (.int p1), .val (.int p2), .val (.int p3), .val (.int p4), .val (.int p5), .val (.ref b171), .val (.ref b184), .val (.int ff), .val (.int nn), .val (.int (1 : Int32)), .unset, .unset] [(.int nn), (.int ff), (.int (2 : Int32)), (.int (cs 2)), (.int ((own_part (cs 0) (0 : Int32) ff nn) + (own_part (cs 1) (1 : Int32) ff nn)))])) rfl (by rw [hml]; rfl) (argsL := [(.int (cs 2)), (.int (2 : Int32)), (.int ff), (.int nn)]) (rest := [(.int ((own_part (cs 0) (0 : Int32) ff nn) + (own_part (cs 1) (1 : Int32) ff nn)))]) (lenOf own_pd17 rfl) rfl (by show 2 * 0 + _ ≤ _; exact Nat.le_of_eq rfl) (hb hby at_219) (fun _ _ => ⟨rfl, eq234, (by decide : 4 + 0 ≤ _), (by decide : 28 + 0 ≤ _)⟩)
      dsimp only [Pt.U, Pt.locs, Pt.cells, Pt.slots] at X235 l235 y235 z235 st235 hQ235
      subst y235 z235
      obtain ⟨rfl, N235q, eq235⟩ := hQ235
      have N235 : Fr n0 L235 := by rw [l235]; exact Fr.app N234 N235q
      refine own_st (st235) ?_
      show own_Go p.tables e below _ (T235.setTop (mkF m 222 #[.val (.int p0), .val (.int p1), .val (.int p2), .val (.int p3), .val (.int p4), .val (.int p5), .val (.ref b171), .val (.ref b184), .val (.int ff), .val (.int nn), .val (.int (1 : Int32)), .unset, .unset] [(.int (own_part (cs 2) (2 : Int32) ff nn)), (.int ((own_part (cs 0) (0 : Int32) ff nn) + (own_part (cs 1) (1 : Int32) ff nn)))]))
      refine own_st (fun t_ k_ => XS.iadd X235.here hx rfl (hb hby at_222) rfl k_) ?_
      show own_Go p.tables e below _ (T235.setTop (mkF m 223 #[.val (.int p0), .val (.int p1), .val (.int p2), .val (.int p3), .val (.int p4), .val (.int p5), .val (.ref b171), .val (.ref b184), .val (.int ff), .val (.int nn), .val (.int (1 : Int32)), .unset, .unset] [(.int (((own_part (cs 0) (0 : Int32) ff nn) + (own_part (cs 1) (1 : Int32) ff nn)) + (own_part (cs 2) (2 : Int32) ff nn)))]))
      refine own_st (fun t_ k_ => XS.aload X235.here hx rfl (hb hby at_223) rfl rfl k_) ?_
      show own_Go p.tables e below _ (T235.setTop (mkF m 225 #[.val (.int p0), .val (.int p1), .val (.int p2), .val (.int p3), .val (.int p4), .val (.int p5), .val (.ref b171), .val (.ref b184), .val (.int ff), .val (.int nn), .val (.int (1 : Int32)), .unset, .unset] [(.ref b171), (.int (((own_part (cs 0) (0 : Int32) ff nn) + (own_part (cs 1) (1 : Int32) ff nn)) + (own_part (cs 2) (2 : Int32) ff nn)))]))
      refine own_st (fun t_ k_ => XS.iconst X235.here hx rfl (hb hby at_225) k_) ?_
      show own_Go p.tables e below _ (T235.setTop (mkF m 226 #[.val (.int p0), .val (.int p1), .val (.int p2), .val (.int p3), .val (.int p4), .val (.int p5), .val (.ref b171), .val (.ref b184), .val (.int ff), .val (.int nn), .val (.int (1 : Int32)), .unset, .unset] [(.int (3 : Int32)), (.ref b171), (.int (((own_part (cs 0) (0 : Int32) ff nn) + (own_part (cs 1) (1 : Int32) ff nn)) + (own_part (cs 2) (2 : Int32) ff nn)))]))
      refine own_st (own_caload X235 hx hZ eq235 ((Acs.ext E184).keep Kq185 (ninS (Nat.ne_of_lt (Nat.lt_of_lt_of_le Acs.lt (Nat.le_of_eq g184.symm))) nin0)) (i := 3) (by decide) (by decide) (g := (mkF m 226 #[.val (.int p0), .val (.int p1), .val (.int p2), .val (.int p3), .val (.int p4), .val (.int p5), .val (.ref b171), .val (.ref b184), .val (.int ff), .val (.int nn), .val (.int (1 : Int32)), .unset, .unset] [(.int (3 : Int32)), (.ref b171), (.int (((own_part (cs 0) (0 : Int32) ff nn) + (own_part (cs 1) (1 : Int32) ff nn)) + (own_part (cs 2) (2 : Int32) ff nn)))])) rfl rfl (hb hby at_226)) ?_
      show own_Go p.tables e below _ (T235.setTop (mkF m 227 #[.val (.int p0), .val (.int p1), .val (.int p2), .val (.int p3), .val (.int p4), .val (.int p5), .val (.ref b171), .val (.ref b184), .val (.int ff), .val (.int nn), .val (.int (1 : Int32)), .unset, .unset] [(.int (cs 3)), (.int (((own_part (cs 0) (0 : Int32) ff nn) + (own_part (cs 1) (1 : Int32) ff nn)) + (own_part (cs 2) (2 : Int32) ff nn)))]))
      refine own_st (fun t_ k_ => XS.iconst X235.here hx rfl (hb hby at_227) k_) ?_
      show own_Go p.tables e below _ (T235.setTop (mkF m 228 #[.val (.int p0), .val (.int p1), .val (.int p2), .val (.int p3), .val (.int p4), .val (.int p5), .val (.ref b171), .val (.ref b184), .val (.int ff), .val (.int nn), .val (.int (1 : Int32)), .unset, .unset] [(.int (3 : Int32)), (.int (cs 3)), (.int (((own_part (cs 0) (0 : Int32) ff nn) + (own_part (cs 1) (1 : Int32) ff nn)) + (own_part (cs 2) (2 : Int32) ff nn)))]))
      refine own_st (fun t_ k_ => XS.iload X235.here hx rfl (hb hby at_228) rfl k_) ?_
      show own_Go p.tables e below _ (T235.setTop (mkF m 230 #[.val (.int p0), .val (.int p1), .val (.int p2), .val (.int p3), .val (.int p4), .val (.int p5), .val (.ref b171), .val (.ref b184), .val (.int ff), .val (.int nn), .val (.int (1 : Int32)), .unset, .unset] [(.int ff), (.int (3 : Int32)), (.int (cs 3)), (.int (((own_part (cs 0) (0 : Int32) ff nn) + (own_part (cs 1) (1 : Int32) ff nn)) + (own_part (cs 2) (2 : Int32) ff nn)))]))
      refine own_st (fun t_ k_ => XS.iload X235.here hx rfl (hb hby at_230) rfl k_) ?_
      show own_Go p.tables e below _ (T235.setTop (mkF m 232 #[.val (.int p0), .val (.int p1), .val (.int p2), .val (.int p3), .val (.int p4), .val (.int p5), .val (.ref b171), .val (.ref b184), .val (.int ff), .val (.int nn), .val (.int (1 : Int32)), .unset, .unset] [(.int nn), (.int ff), (.int (3 : Int32)), (.int (cs 3)), (.int (((own_part (cs 0) (0 : Int32) ff nn) + (own_part (cs 1) (1 : Int32) ff nn)) + (own_part (cs 2) (2 : Int32) ff nn)))]))
      obtain ⟨_, _, ⟨T236, L236, k236, n236⟩, -, X236, ⟨Lc236, hQ236, l236, y236, z236⟩, st236⟩ := Jvm.LawKit.callS X235 hx (y := (⟨"com/example/nastro/nastro/model/DigitsValuePinLaw", "part", "(CIII)I"⟩ : MethodName)) hown (mvT hZ (hw _ (List.mem_of_getElem? (i := 41) rfl))) (mvT hZ (hw _ (List.mem_of_getElem? (i := 42) rfl))) (mvT hZ (hw _ (List.mem_of_getElem? (i := 3) rfl))) (mvT hZ (hw _ (List.mem_of_getElem? (i := 43) rfl))) (by decide) (backOf (W := 1) (own_rm10 l Z a0 hw [] (cs 3) (3 : Int32) ff nn T185.heap n0 (Nat.le_trans Z0 K185.1)) hZ (hw _ (List.mem_of_getElem? (i := 43) rfl)) (hw _ (List.mem_of_getElem? (i := 3) rfl)) (by decide) (by decide)) (g := (mkF m 232 #[.val (.int p0), .val (.int p1), .val (.int p2), .val (.int p3), .val (.int p4), .val (.int p5), .val (.ref b171), .val (.ref b184), .val (.int ff), .val (.int nn), .val (.int (1 : Int32)), .unset, .unset] [(.int nn), (.int ff), (.int (3 : Int32)), (.int (cs 3)), (.int (((own_part (cs 0) (0 : Int32) ff nn) + (own_part (cs 1) (1 : Int32) ff nn)) + (own_part (cs 2) (2 : Int32) ff nn)))])) rfl (by rw [hml]; rfl) (argsL := [(.int (cs 3)), (.int (3 : Int32)), (.int ff), (.int nn)]) (rest := [(.int (((own_part (cs 0) (0 : Int32) ff nn) + (own_part (cs 1) (1 : Int32) ff nn)) + (own_part (cs 2) (2 : Int32) ff nn)))]) (lenOf own_pd17 rfl) rfl (by show 2 * 0 + _ ≤ _; exact Nat.le_of_eq rfl) (hb hby at_232) (fun _ _ => ⟨rfl, eq235, (by decide : 4 + 0 ≤ _), (by decide : 28 + 0 ≤ _)⟩)
      dsimp only [Pt.U, Pt.locs, Pt.cells, Pt.slots] at X236 l236 y236 z236 st236 hQ236
      subst y236 z236
      obtain ⟨rfl, N236q, eq236⟩ := hQ236
      have N236 : Fr n0 L236 := by rw [l236]; exact Fr.app N235 N236q
      refine own_st (st236) ?_
      show own_Go p.tables e below _ (T236.setTop (mkF m 235 #[.val (.int p0), .val (.int p1), .val (.int p2), .val (.int p3), .val (.int p4), .val (.int p5), .val (.ref b171), .val (.ref b184), .val (.int ff), .val (.int nn), .val (.int (1 : Int32)), .unset, .unset] [(.int (own_part (cs 3) (3 : Int32) ff nn)), (.int (((own_part (cs 0) (0 : Int32) ff nn) + (own_part (cs 1) (1 : Int32) ff nn)) + (own_part (cs 2) (2 : Int32) ff nn)))]))
      refine own_st (fun t_ k_ => XS.iadd X236.here hx rfl (hb hby at_235) rfl k_) ?_
      show own_Go p.tables e below _ (T236.setTop (mkF m 236 #[.val (.int p0), .val (.int p1), .val (.int p2), .val (.int p3), .val (.int p4), .val (.int p5), .val (.ref b171), .val (.ref b184), .val (.int ff), .val (.int nn), .val (.int (1 : Int32)), .unset, .unset] [(.int ((((own_part (cs 0) (0 : Int32) ff nn) + (own_part (cs 1) (1 : Int32) ff nn)) + (own_part (cs 2) (2 : Int32) ff nn)) + (own_part (cs 3) (3 : Int32) ff nn)))]))
      refine own_st (fun t_ k_ => XS.aload X236.here hx rfl (hb hby at_236) rfl rfl k_) ?_
      show own_Go p.tables e below _ (T236.setTop (mkF m 238 #[.val (.int p0), .val (.int p1), .val (.int p2), .val (.int p3), .val (.int p4), .val (.int p5), .val (.ref b171), .val (.ref b184), .val (.int ff), .val (.int nn), .val (.int (1 : Int32)), .unset, .unset] [(.ref b171), (.int ((((own_part (cs 0) (0 : Int32) ff nn) + (own_part (cs 1) (1 : Int32) ff nn)) + (own_part (cs 2) (2 : Int32) ff nn)) + (own_part (cs 3) (3 : Int32) ff nn)))]))
      refine own_st (fun t_ k_ => XS.iconst X236.here hx rfl (hb hby at_238) k_) ?_
      show own_Go p.tables e below _ (T236.setTop (mkF m 239 #[.val (.int p0), .val (.int p1), .val (.int p2), .val (.int p3), .val (.int p4), .val (.int p5), .val (.ref b171), .val (.ref b184), .val (.int ff), .val (.int nn), .val (.int (1 : Int32)), .unset, .unset] [(.int (4 : Int32)), (.ref b171), (.int ((((own_part (cs 0) (0 : Int32) ff nn) + (own_part (cs 1) (1 : Int32) ff nn)) + (own_part (cs 2) (2 : Int32) ff nn)) + (own_part (cs 3) (3 : Int32) ff nn)))]))
      refine own_st (own_caload X236 hx hZ eq236 ((Acs.ext E184).keep Kq185 (ninS (Nat.ne_of_lt (Nat.lt_of_lt_of_le Acs.lt (Nat.le_of_eq g184.symm))) nin0)) (i := 4) (by decide) (by decide) (g := (mkF m 239 #[.val (.int p0), .val (.int p1), .val (.int p2), .val (.int p3), .val (.int p4), .val (.int p5), .val (.ref b171), .val (.ref b184), .val (.int ff), .val (.int nn), .val (.int (1 : Int32)), .unset, .unset] [(.int (4 : Int32)), (.ref b171), (.int ((((own_part (cs 0) (0 : Int32) ff nn) + (own_part (cs 1) (1 : Int32) ff nn)) + (own_part (cs 2) (2 : Int32) ff nn)) + (own_part (cs 3) (3 : Int32) ff nn)))])) rfl rfl (hb hby at_239)) ?_
      show own_Go p.tables e below _ (T236.setTop (mkF m 240 #[.val (.int p0), .val (.int p1), .val (.int p2), .val (.int p3), .val (.int p4), .val (.int p5), .val (.ref b171), .val (.ref b184), .val (.int ff), .val (.int nn), .val (.int (1 : Int32)), .unset, .unset] [(.int (cs 4)), (.int ((((own_part (cs 0) (0 : Int32) ff nn) + (own_part (cs 1) (1 : Int32) ff nn)) + (own_part (cs 2) (2 : Int32) ff nn)) + (own_part (cs 3) (3 : Int32) ff nn)))]))
      refine own_st (fun t_ k_ => XS.iconst X236.here hx rfl (hb hby at_240) k_) ?_
      show own_Go p.tables e below _ (T236.setTop (mkF m 241 #[.val (.int p0), .val (.int p1), .val (.int p2), .val (.int p3), .val (.int p4), .val (.int p5), .val (.ref b171), .val (.ref b184), .val (.int ff), .val (.int nn), .val (.int (1 : Int32)), .unset, .unset] [(.int (4 : Int32)), (.int (cs 4)), (.int ((((own_part (cs 0) (0 : Int32) ff nn) + (own_part (cs 1) (1 : Int32) ff nn)) + (own_part (cs 2) (2 : Int32) ff nn)) + (own_part (cs 3) (3 : Int32) ff nn)))]))
      refine own_st (fun t_ k_ => XS.iload X236.here hx rfl (hb hby at_241) rfl k_) ?_
      show own_Go p.tables e below _ (T236.setTop (mkF m 243 #[.val (.int p0), .val (.int p1), .val (.int p2), .val (.int p3), .val (.int p4), .val (.int p5), .val (.ref b171), .val (.ref b184), .val (.int ff), .val (.int nn), .val (.int (1 : Int32)), .unset, .unset] [(.int ff), (.int (4 : Int32)), (.int (cs 4)), (.int ((((own_part (cs 0) (0 : Int32) ff nn) + (own_part (cs 1) (1 : Int32) ff nn)) + (own_part (cs 2) (2 : Int32) ff nn)) + (own_part (cs 3) (3 : Int32) ff nn)))]))
      refine own_st (fun t_ k_ => XS.iload X236.here hx rfl (hb hby at_243) rfl k_) ?_
      show own_Go p.tables e below _ (T236.setTop (mkF m 245 #[.val (.int p0), .val (.int p1), .val (.int p2), .val (.int p3), .val (.int p4), .val (.int p5), .val (.ref b171), .val (.ref b184), .val (.int ff), .val (.int nn), .val (.int (1 : Int32)), .unset, .unset] [(.int nn), (.int ff), (.int (4 : Int32)), (.int (cs 4)), (.int ((((own_part (cs 0) (0 : Int32) ff nn) + (own_part (cs 1) (1 : Int32) ff nn)) + (own_part (cs 2) (2 : Int32) ff nn)) + (own_part (cs 3) (3 : Int32) ff nn)))]))
      obtain ⟨_, _, ⟨T237, L237, k237, n237⟩, -, X237, ⟨Lc237, hQ237, l237, y237, z237⟩, st237⟩ := Jvm.LawKit.callS X236 hx (y := (⟨"com/example/nastro/nastro/model/DigitsValuePinLaw", "part", "(CIII)I"⟩ : MethodName)) hown (mvT hZ (hw _ (List.mem_of_getElem? (i := 41) rfl))) (mvT hZ (hw _ (List.mem_of_getElem? (i := 42) rfl))) (mvT hZ (hw _ (List.mem_of_getElem? (i := 3) rfl))) (mvT hZ (hw _ (List.mem_of_getElem? (i := 43) rfl))) (by decide) (backOf (W := 1) (own_rm10 l Z a0 hw [] (cs 4) (4 : Int32) ff nn T185.heap n0 (Nat.le_trans Z0 K185.1)) hZ (hw _ (List.mem_of_getElem? (i := 43) rfl)) (hw _ (List.mem_of_getElem? (i := 3) rfl)) (by decide) (by decide)) (g := (mkF m 245 #[.val (.int p0), .val (.int p1), .val (.int p2), .val (.int p3), .val (.int p4), .val (.int p5), .val (.ref b171), .val (.ref b184), .val (.int ff), .val (.int nn), .val (.int (1 : Int32)), .unset, .unset] [(.int nn), (.int ff), (.int (4 : Int32)), (.int (cs 4)), (.int ((((own_part (cs 0) (0 : Int32) ff nn) + (own_part (cs 1) (1 : Int32) ff nn)) + (own_part (cs 2) (2 : Int32) ff nn)) + (own_part (cs 3) (3 : Int32) ff nn)))])) rfl (by rw [hml]; rfl) (argsL := [(.int (cs 4)), (.int (4 : Int32)), (.int ff), (.int nn)]) (rest := [(.int ((((own_part (cs 0) (0 : Int32) ff nn) + (own_part (cs 1) (1 : Int32) ff nn)) + (own_part (cs 2) (2 : Int32) ff nn)) + (own_part (cs 3) (3 : Int32) ff nn)))]) (lenOf own_pd17 rfl) rfl (by show 2 * 0 + _ ≤ _; exact Nat.le_of_eq rfl) (hb hby at_245) (fun _ _ => ⟨rfl, eq236, (by decide : 4 + 0 ≤ _), (by decide : 28 + 0 ≤ _)⟩)
      dsimp only [Pt.U, Pt.locs, Pt.cells, Pt.slots] at X237 l237 y237 z237 st237 hQ237
      subst y237 z237
      obtain ⟨rfl, N237q, eq237⟩ := hQ237
      have N237 : Fr n0 L237 := by rw [l237]; exact Fr.app N236 N237q
      refine own_st (st237) ?_
      show own_Go p.tables e below _ (T237.setTop (mkF m 248 #[.val (.int p0), .val (.int p1), .val (.int p2), .val (.int p3), .val (.int p4), .val (.int p5), .val (.ref b171), .val (.ref b184), .val (.int ff), .val (.int nn), .val (.int (1 : Int32)), .unset, .unset] [(.int (own_part (cs 4) (4 : Int32) ff nn)), (.int ((((own_part (cs 0) (0 : Int32) ff nn) + (own_part (cs 1) (1 : Int32) ff nn)) + (own_part (cs 2) (2 : Int32) ff nn)) + (own_part (cs 3) (3 : Int32) ff nn)))]))
      refine own_st (fun t_ k_ => XS.iadd X237.here hx rfl (hb hby at_248) rfl k_) ?_
      show own_Go p.tables e below _ (T237.setTop (mkF m 249 #[.val (.int p0), .val (.int p1), .val (.int p2), .val (.int p3), .val (.int p4), .val (.int p5), .val (.ref b171), .val (.ref b184), .val (.int ff), .val (.int nn), .val (.int (1 : Int32)), .unset, .unset] [(.int (((((own_part (cs 0) (0 : Int32) ff nn) + (own_part (cs 1) (1 : Int32) ff nn)) + (own_part (cs 2) (2 : Int32) ff nn)) + (own_part (cs 3) (3 : Int32) ff nn)) + (own_part (cs 4) (4 : Int32) ff nn)))]))
      refine own_st (fun t_ k_ => XS.aload X237.here hx rfl (hb hby at_249) rfl rfl k_) ?_
      show own_Go p.tables e below _ (T237.setTop (mkF m 251 #[.val (.int p0), .val (.int p1), .val (.int p2), .val (.int p3), .val (.int p4), .val (.int p5), .val (.ref b171), .val (.ref b184), .val (.int ff), .val (.int nn), .val (.int (1 : Int32)), .unset, .unset] [(.ref b171), (.int (((((own_part (cs 0) (0 : Int32) ff nn) + (own_part (cs 1) (1 : Int32) ff nn)) + (own_part (cs 2) (2 : Int32) ff nn)) + (own_part (cs 3) (3 : Int32) ff nn)) + (own_part (cs 4) (4 : Int32) ff nn)))]))
      refine own_st (fun t_ k_ => XS.iconst X237.here hx rfl (hb hby at_251) k_) ?_
      show own_Go p.tables e below _ (T237.setTop (mkF m 252 #[.val (.int p0), .val (.int p1), .val (.int p2), .val (.int p3), .val (.int p4), .val (.int p5), .val (.ref b171), .val (.ref b184), .val (.int ff), .val (.int nn), .val (.int (1 : Int32)), .unset, .unset] [(.int (5 : Int32)), (.ref b171), (.int (((((own_part (cs 0) (0 : Int32) ff nn) + (own_part (cs 1) (1 : Int32) ff nn)) + (own_part (cs 2) (2 : Int32) ff nn)) + (own_part (cs 3) (3 : Int32) ff nn)) + (own_part (cs 4) (4 : Int32) ff nn)))]))
      refine own_st (own_caload X237 hx hZ eq237 ((Acs.ext E184).keep Kq185 (ninS (Nat.ne_of_lt (Nat.lt_of_lt_of_le Acs.lt (Nat.le_of_eq g184.symm))) nin0)) (i := 5) (by decide) (by decide) (g := (mkF m 252 #[.val (.int p0), .val (.int p1), .val (.int p2), .val (.int p3), .val (.int p4), .val (.int p5), .val (.ref b171), .val (.ref b184), .val (.int ff), .val (.int nn), .val (.int (1 : Int32)), .unset, .unset] [(.int (5 : Int32)), (.ref b171), (.int (((((own_part (cs 0) (0 : Int32) ff nn) + (own_part (cs 1) (1 : Int32) ff nn)) + (own_part (cs 2) (2 : Int32) ff nn)) + (own_part (cs 3) (3 : Int32) ff nn)) + (own_part (cs 4) (4 : Int32) ff nn)))])) rfl rfl (hb hby at_252)) ?_
      show own_Go p.tables e below _ (T237.setTop (mkF m 253 #[.val (.int p0), .val (.int p1), .val (.int p2), .val (.int p3), .val (.int p4), .val (.int p5), .val (.ref b171), .val (.ref b184), .val (.int ff), .val (.int nn), .val (.int (1 : Int32)), .unset, .unset] [(.int (cs 5)), (.int (((((own_part (cs 0) (0 : Int32) ff nn) + (own_part (cs 1) (1 : Int32) ff nn)) + (own_part (cs 2) (2 : Int32) ff nn)) + (own_part (cs 3) (3 : Int32) ff nn)) + (own_part (cs 4) (4 : Int32) ff nn)))]))
      refine own_st (fun t_ k_ => XS.iconst X237.here hx rfl (hb hby at_253) k_) ?_
      show own_Go p.tables e below _ (T237.setTop (mkF m 254 #[.val (.int p0), .val (.int p1), .val (.int p2), .val (.int p3), .val (.int p4), .val (.int p5), .val (.ref b171), .val (.ref b184), .val (.int ff), .val (.int nn), .val (.int (1 : Int32)), .unset, .unset] [(.int (5 : Int32)), (.int (cs 5)), (.int (((((own_part (cs 0) (0 : Int32) ff nn) + (own_part (cs 1) (1 : Int32) ff nn)) + (own_part (cs 2) (2 : Int32) ff nn)) + (own_part (cs 3) (3 : Int32) ff nn)) + (own_part (cs 4) (4 : Int32) ff nn)))]))
      refine own_st (fun t_ k_ => XS.iload X237.here hx rfl (hb hby at_254) rfl k_) ?_
      show own_Go p.tables e below _ (T237.setTop (mkF m 256 #[.val (.int p0), .val (.int p1), .val (.int p2), .val (.int p3), .val (.int p4), .val (.int p5), .val (.ref b171), .val (.ref b184), .val (.int ff), .val (.int nn), .val (.int (1 : Int32)), .unset, .unset] [(.int ff), (.int (5 : Int32)), (.int (cs 5)), (.int (((((own_part (cs 0) (0 : Int32) ff nn) + (own_part (cs 1) (1 : Int32) ff nn)) + (own_part (cs 2) (2 : Int32) ff nn)) + (own_part (cs 3) (3 : Int32) ff nn)) + (own_part (cs 4) (4 : Int32) ff nn)))]))
      refine own_st (fun t_ k_ => XS.iload X237.here hx rfl (hb hby at_256) rfl k_) ?_
      show own_Go p.tables e below _ (T237.setTop (mkF m 258 #[.val (.int p0), .val (.int p1), .val (.int p2), .val (.int p3), .val (.int p4), .val (.int p5), .val (.ref b171), .val (.ref b184), .val (.int ff), .val (.int nn), .val (.int (1 : Int32)), .unset, .unset] [(.int nn), (.int ff), (.int (5 : Int32)), (.int (cs 5)), (.int (((((own_part (cs 0) (0 : Int32) ff nn) + (own_part (cs 1) (1 : Int32) ff nn)) + (own_part (cs 2) (2 : Int32) ff nn)) + (own_part (cs 3) (3 : Int32) ff nn)) + (own_part (cs 4) (4 : Int32) ff nn)))]))
      obtain ⟨_, _, ⟨T238, L238, k238, n238⟩, -, X238, ⟨Lc238, hQ238, l238, y238, z238⟩, st238⟩ := Jvm.LawKit.callS X237 hx (y := (⟨"com/example/nastro/nastro/model/DigitsValuePinLaw", "part", "(CIII)I"⟩ : MethodName)) hown (mvT hZ (hw _ (List.mem_of_getElem? (i := 41) rfl))) (mvT hZ (hw _ (List.mem_of_getElem? (i := 42) rfl))) (mvT hZ (hw _ (List.mem_of_getElem? (i := 3) rfl))) (mvT hZ (hw _ (List.mem_of_getElem? (i := 43) rfl))) (by decide) (backOf (W := 1) (own_rm10 l Z a0 hw [] (cs 5) (5 : Int32) ff nn T185.heap n0 (Nat.le_trans Z0 K185.1)) hZ (hw _ (List.mem_of_getElem? (i := 43) rfl)) (hw _ (List.mem_of_getElem? (i := 3) rfl)) (by decide) (by decide)) (g := (mkF m 258 #[.val (.int p0), .val (.int p1), .val (.int p2), .val (.int p3), .val (.int p4), .val (.int p5), .val (.ref b171), .val (.ref b184), .val (.int ff), .val (.int nn), .val (.int (1 : Int32)), .unset, .unset] [(.int nn), (.int ff), (.int (5 : Int32)), (.int (cs 5)), (.int (((((own_part (cs 0) (0 : Int32) ff nn) + (own_part (cs 1) (1 : Int32) ff nn)) + (own_part (cs 2) (2 : Int32) ff nn)) + (own_part (cs 3) (3 : Int32) ff nn)) + (own_part (cs 4) (4 : Int32) ff nn)))])) rfl (by rw [hml]; rfl) (argsL := [(.int (cs 5)), (.int (5 : Int32)), (.int ff), (.int nn)]) (rest := [(.int (((((own_part (cs 0) (0 : Int32) ff nn) + (own_part (cs 1) (1 : Int32) ff nn)) + (own_part (cs 2) (2 : Int32) ff nn)) + (own_part (cs 3) (3 : Int32) ff nn)) + (own_part (cs 4) (4 : Int32) ff nn)))]) (lenOf own_pd17 rfl) rfl (by show 2 * 0 + _ ≤ _; exact Nat.le_of_eq rfl) (hb hby at_258) (fun _ _ => ⟨rfl, eq237, (by decide : 4 + 0 ≤ _), (by decide : 28 + 0 ≤ _)⟩)
      dsimp only [Pt.U, Pt.locs, Pt.cells, Pt.slots] at X238 l238 y238 z238 st238 hQ238
      subst y238 z238
      obtain ⟨rfl, N238q, eq238⟩ := hQ238
      have N238 : Fr n0 L238 := by rw [l238]; exact Fr.app N237 N238q
      refine own_st (st238) ?_
      show own_Go p.tables e below _ (T238.setTop (mkF m 261 #[.val (.int p0), .val (.int p1), .val (.int p2), .val (.int p3), .val (.int p4), .val (.int p5), .val (.ref b171), .val (.ref b184), .val (.int ff), .val (.int nn), .val (.int (1 : Int32)), .unset, .unset] [(.int (own_part (cs 5) (5 : Int32) ff nn)), (.int (((((own_part (cs 0) (0 : Int32) ff nn) + (own_part (cs 1) (1 : Int32) ff nn)) + (own_part (cs 2) (2 : Int32) ff nn)) + (own_part (cs 3) (3 : Int32) ff nn)) + (own_part (cs 4) (4 : Int32) ff nn)))]))
      refine own_st (fun t_ k_ => XS.iadd X238.here hx rfl (hb hby at_261) rfl k_) ?_
      show own_Go p.tables e below _ (T238.setTop (mkF m 262 #[.val (.int p0), .val (.int p1), .val (.int p2), .val (.int p3), .val (.int p4), .val (.int p5), .val (.ref b171), .val (.ref b184), .val (.int ff), .val (.int nn), .val (.int (1 : Int32)), .unset, .unset] [(.int ((((((own_part (cs 0) (0 : Int32) ff nn) + (own_part (cs 1) (1 : Int32) ff nn)) + (own_part (cs 2) (2 : Int32) ff nn)) + (own_part (cs 3) (3 : Int32) ff nn)) + (own_part (cs 4) (4 : Int32) ff nn)) + (own_part (cs 5) (5 : Int32) ff nn)))]))
      refine own_st (fun t_ k_ => XS.istore X238.here hx rfl (hb hby at_262) rfl (l' := #[.val (.int p0), .val (.int p1), .val (.int p2), .val (.int p3), .val (.int p4), .val (.int p5), .val (.ref b171), .val (.ref b184), .val (.int ff), .val (.int nn), .val (.int (1 : Int32)), .val (.int ((((((own_part (cs 0) (0 : Int32) ff nn) + (own_part (cs 1) (1 : Int32) ff nn)) + (own_part (cs 2) (2 : Int32) ff nn)) + (own_part (cs 3) (3 : Int32) ff nn)) + (own_part (cs 4) (4 : Int32) ff nn)) + (own_part (cs 5) (5 : Int32) ff nn))), .unset]) rfl k_) ?_
      show own_Go p.tables e below _ (T238.setTop (mkF m 264 #[.val (.int p0), .val (.int p1), .val (.int p2), .val (.int p3), .val (.int p4), .val (.int p5), .val (.ref b171), .val (.ref b184), .val (.int ff), .val (.int nn), .val (.int (1 : Int32)), .val (.int ((((((own_part (cs 0) (0 : Int32) ff nn) + (own_part (cs 1) (1 : Int32) ff nn)) + (own_part (cs 2) (2 : Int32) ff nn)) + (own_part (cs 3) (3 : Int32) ff nn)) + (own_part (cs 4) (4 : Int32) ff nn)) + (own_part (cs 5) (5 : Int32) ff nn))), .unset] []))
      refine own_st (fun t_ k_ => XS.iload X238.here hx rfl (hb hby at_264) rfl k_) ?_
      show own_Go p.tables e below _ (T238.setTop (mkF m 266 #[.val (.int p0), .val (.int p1), .val (.int p2), .val (.int p3), .val (.int p4), .val (.int p5), .val (.ref b171), .val (.ref b184), .val (.int ff), .val (.int nn), .val (.int (1 : Int32)), .val (.int ((((((own_part (cs 0) (0 : Int32) ff nn) + (own_part (cs 1) (1 : Int32) ff nn)) + (own_part (cs 2) (2 : Int32) ff nn)) + (own_part (cs 3) (3 : Int32) ff nn)) + (own_part (cs 4) (4 : Int32) ff nn)) + (own_part (cs 5) (5 : Int32) ff nn))), .unset] [(.int (1 : Int32))]))
      refine own_st (fun t_ k_ => XS.ifNo X238.here hx rfl (hb hby at_266) rfl ((if0 _ _).trans (feq (by decide : ¬ ((1 : Int32) = (0 : Int32)))).1) k_) ?_
      show own_Go p.tables e below _ (T238.setTop (mkF m 269 #[.val (.int p0), .val (.int p1), .val (.int p2), .val (.int p3), .val (.int p4), .val (.int p5), .val (.ref b171), .val (.ref b184), .val (.int ff), .val (.int nn), .val (.int (1 : Int32)), .val (.int ((((((own_part (cs 0) (0 : Int32) ff nn) + (own_part (cs 1) (1 : Int32) ff nn)) + (own_part (cs 2) (2 : Int32) ff nn)) + (own_part (cs 3) (3 : Int32) ff nn)) + (own_part (cs 4) (4 : Int32) ff nn)) + (own_part (cs 5) (5 : Int32) ff nn))), .unset] []))
      refine own_st (fun t_ k_ => XS.iconst X238.here hx rfl (hb hby at_269) k_) ?_
      show own_Go p.tables e below _ (T238.setTop (mkF m 270 #[.val (.int p0), .val (.int p1), .val (.int p2), .val (.int p3), .val (.int p4), .val (.int p5), .val (.ref b171), .val (.ref b184), .val (.int ff), .val (.int nn), .val (.int (1 : Int32)), .val (.int ((((((own_part (cs 0) (0 : Int32) ff nn) + (own_part (cs 1) (1 : Int32) ff nn)) + (own_part (cs 2) (2 : Int32) ff nn)) + (own_part (cs 3) (3 : Int32) ff nn)) + (own_part (cs 4) (4 : Int32) ff nn)) + (own_part (cs 5) (5 : Int32) ff nn))), .unset] [(.int (-1 : Int32))]))
      refine own_st (fun t_ k_ => XS.goto X238.here hx rfl (pc0 := 270) (pc' := 275) rfl (hb hby at_270) (by decide) (by decide) k_) ?_
      show own_Go p.tables e below _ (T238.setTop (mkF m 275 #[.val (.int p0), .val (.int p1), .val (.int p2), .val (.int p3), .val (.int p4), .val (.int p5), .val (.ref b171), .val (.ref b184), .val (.int ff), .val (.int nn), .val (.int (1 : Int32)), .val (.int ((((((own_part (cs 0) (0 : Int32) ff nn) + (own_part (cs 1) (1 : Int32) ff nn)) + (own_part (cs 2) (2 : Int32) ff nn)) + (own_part (cs 3) (3 : Int32) ff nn)) + (own_part (cs 4) (4 : Int32) ff nn)) + (own_part (cs 5) (5 : Int32) ff nn))), .unset] [(.int (-1 : Int32))]))
      refine own_st (fun t_ k_ => XS.istore X238.here hx rfl (hb hby at_275) rfl (l' := #[.val (.int p0), .val (.int p1), .val (.int p2), .val (.int p3), .val (.int p4), .val (.int p5), .val (.ref b171), .val (.ref b184), .val (.int ff), .val (.int nn), .val (.int (1 : Int32)), .val (.int ((((((own_part (cs 0) (0 : Int32) ff nn) + (own_part (cs 1) (1 : Int32) ff nn)) + (own_part (cs 2) (2 : Int32) ff nn)) + (own_part (cs 3) (3 : Int32) ff nn)) + (own_part (cs 4) (4 : Int32) ff nn)) + (own_part (cs 5) (5 : Int32) ff nn))), .val (.int (-1 : Int32))]) rfl k_) ?_
      show own_Go p.tables e below _ (T238.setTop (mkF m 277 #[.val (.int p0), .val (.int p1), .val (.int p2), .val (.int p3), .val (.int p4), .val (.int p5), .val (.ref b171), .val (.ref b184), .val (.int ff), .val (.int nn), .val (.int (1 : Int32)), .val (.int ((((((own_part (cs 0) (0 : Int32) ff nn) + (own_part (cs 1) (1 : Int32) ff nn)) + (own_part (cs 2) (2 : Int32) ff nn)) + (own_part (cs 3) (3 : Int32) ff nn)) + (own_part (cs 4) (4 : Int32) ff nn)) + (own_part (cs 5) (5 : Int32) ff nn))), .val (.int (-1 : Int32))] []))
      refine own_st (fun t_ k_ => XS.aload X238.here hx rfl (hb hby at_277) rfl rfl k_) ?_
      show own_Go p.tables e below _ (T238.setTop (mkF m 279 #[.val (.int p0), .val (.int p1), .val (.int p2), .val (.int p3), .val (.int p4), .val (.int p5), .val (.ref b171), .val (.ref b184), .val (.int ff), .val (.int nn), .val (.int (1 : Int32)), .val (.int ((((((own_part (cs 0) (0 : Int32) ff nn) + (own_part (cs 1) (1 : Int32) ff nn)) + (own_part (cs 2) (2 : Int32) ff nn)) + (own_part (cs 3) (3 : Int32) ff nn)) + (own_part (cs 4) (4 : Int32) ff nn)) + (own_part (cs 5) (5 : Int32) ff nn))), .val (.int (-1 : Int32))] [(.ref b184)]))
      refine own_st (fun t_ k_ => XS.iload X238.here hx rfl (hb hby at_279) rfl k_) ?_
      show own_Go p.tables e below _ (T238.setTop (mkF m 281 #[.val (.int p0), .val (.int p1), .val (.int p2), .val (.int p3), .val (.int p4), .val (.int p5), .val (.ref b171), .val (.ref b184), .val (.int ff), .val (.int nn), .val (.int (1 : Int32)), .val (.int ((((((own_part (cs 0) (0 : Int32) ff nn) + (own_part (cs 1) (1 : Int32) ff nn)) + (own_part (cs 2) (2 : Int32) ff nn)) + (own_part (cs 3) (3 : Int32) ff nn)) + (own_part (cs 4) (4 : Int32) ff nn)) + (own_part (cs 5) (5 : Int32) ff nn))), .val (.int (-1 : Int32))] [(.int ff), (.ref b184)]))
      refine own_st (fun t_ k_ => XS.iload X238.here hx rfl (hb hby at_281) rfl k_) ?_
      show own_Go p.tables e below _ (T238.setTop (mkF m 283 #[.val (.int p0), .val (.int p1), .val (.int p2), .val (.int p3), .val (.int p4), .val (.int p5), .val (.ref b171), .val (.ref b184), .val (.int ff), .val (.int nn), .val (.int (1 : Int32)), .val (.int ((((((own_part (cs 0) (0 : Int32) ff nn) + (own_part (cs 1) (1 : Int32) ff nn)) + (own_part (cs 2) (2 : Int32) ff nn)) + (own_part (cs 3) (3 : Int32) ff nn)) + (own_part (cs 4) (4 : Int32) ff nn)) + (own_part (cs 5) (5 : Int32) ff nn))), .val (.int (-1 : Int32))] [(.int nn), (.int ff), (.ref b184)]))
      obtain ⟨_, _, ⟨T239, L239, k239, n239⟩, -, X239, ⟨Lc239, hQ239, l239, y239, z239⟩, st239⟩ := Jvm.LawKit.callS X238 hx (y := (⟨"com/example/nastro/nastro/model/Digits", "value", "(Ljava/lang/String;II)I"⟩ : MethodName)) hown (mvT hZ (hw _ (List.mem_of_getElem? (i := 44) rfl))) (mvT hZ (hw _ (List.mem_of_getElem? (i := 45) rfl))) (mvT hZ (hw _ (List.mem_of_getElem? (i := 46) rfl))) (mvT hZ (hw _ (List.mem_of_getElem? (i := 47) rfl))) (by decide) (backOf (W := 0) (own_rm11 l Z a0 hw [] b184 ff nn t_185 kt_185 cd_185 6 cs fm ct G1 G3 T185.heap n0 (Nat.le_trans Z0 K185.1) (A184.keep Kq185) P185_1 P185_2 P185_3 P185_4 (((((((((q0.ext E171).wr W173 ge171).wr W175 ge171).wr W177 ge171).wr W179 ge171).wr W181 ge171).wr W183 ge171).ext E184).keep Kq185 (allS ge184 all0)) q1 hG1 q3 rG3 q5 q6 q7 hall ⟨hfm, hct, (by omega), (by decide)⟩) hZ (hw _ (List.mem_of_getElem? (i := 47) rfl)) (hw _ (List.mem_of_getElem? (i := 46) rfl)) (by decide) (by decide)) (g := (mkF m 283 #[.val (.int p0), .val (.int p1), .val (.int p2), .val (.int p3), .val (.int p4), .val (.int p5), .val (.ref b171), .val (.ref b184), .val (.int ff), .val (.int nn), .val (.int (1 : Int32)), .val (.int ((((((own_part (cs 0) (0 : Int32) ff nn) + (own_part (cs 1) (1 : Int32) ff nn)) + (own_part (cs 2) (2 : Int32) ff nn)) + (own_part (cs 3) (3 : Int32) ff nn)) + (own_part (cs 4) (4 : Int32) ff nn)) + (own_part (cs 5) (5 : Int32) ff nn))), .val (.int (-1 : Int32))] [(.int nn), (.int ff), (.ref b184)])) rfl (by rw [hml]; rfl) (argsL := [(.ref b184), (.int ff), (.int nn)]) (rest := []) (lenOf own_pd18 rfl) rfl (by show 2 * 0 + _ ≤ _; exact Nat.le_of_eq rfl) (hb hby at_283) (fun _ _ => ⟨rfl, eq238, (by decide : 4 + 0 ≤ _), (by decide : 28 + 0 ≤ _)⟩)
      dsimp only [Pt.U, Pt.locs, Pt.cells, Pt.slots] at X239 l239 y239 z239 st239 hQ239
      subst y239 z239
      obtain ⟨rfl, N239q, eq239⟩ := hQ239
      have N239 : Fr n0 L239 := by rw [l239]; exact Fr.app N238 N239q
      refine own_st (st239) ?_
      show own_Go p.tables e below _ (T239.setTop (mkF m 286 #[.val (.int p0), .val (.int p1), .val (.int p2), .val (.int p3), .val (.int p4), .val (.int p5), .val (.ref b171), .val (.ref b184), .val (.int ff), .val (.int nn), .val (.int (1 : Int32)), .val (.int ((((((own_part (cs 0) (0 : Int32) ff nn) + (own_part (cs 1) (1 : Int32) ff nn)) + (own_part (cs 2) (2 : Int32) ff nn)) + (own_part (cs 3) (3 : Int32) ff nn)) + (own_part (cs 4) (4 : Int32) ff nn)) + (own_part (cs 5) (5 : Int32) ff nn))), .val (.int (-1 : Int32))] [(.int (own_dig cs ct fm 0))]))
      refine own_st (fun t_ k_ => XS.iload X239.here hx rfl (hb hby at_286) rfl k_) ?_
      show own_Go p.tables e below _ (T239.setTop (mkF m 288 #[.val (.int p0), .val (.int p1), .val (.int p2), .val (.int p3), .val (.int p4), .val (.int p5), .val (.ref b171), .val (.ref b184), .val (.int ff), .val (.int nn), .val (.int (1 : Int32)), .val (.int ((((((own_part (cs 0) (0 : Int32) ff nn) + (own_part (cs 1) (1 : Int32) ff nn)) + (own_part (cs 2) (2 : Int32) ff nn)) + (own_part (cs 3) (3 : Int32) ff nn)) + (own_part (cs 4) (4 : Int32) ff nn)) + (own_part (cs 5) (5 : Int32) ff nn))), .val (.int (-1 : Int32))] [(.int (-1 : Int32)), (.int (own_dig cs ct fm 0))]))
      refine own_st (fun t_ k_ => XS.icmpNo X239.here hx rfl (hb hby at_288) rfl (teq (own_lawB (i := 1) (k := 1) (by decide) hfm hct (by omega) c115_189 : (own_dig cs ct fm 0) = (-1 : Int32))).2 k_) ?_
      show own_Go p.tables e below _ (T239.setTop (mkF m 291 #[.val (.int p0), .val (.int p1), .val (.int p2), .val (.int p3), .val (.int p4), .val (.int p5), .val (.ref b171), .val (.ref b184), .val (.int ff), .val (.int nn), .val (.int (1 : Int32)), .val (.int ((((((own_part (cs 0) (0 : Int32) ff nn) + (own_part (cs 1) (1 : Int32) ff nn)) + (own_part (cs 2) (2 : Int32) ff nn)) + (own_part (cs 3) (3 : Int32) ff nn)) + (own_part (cs 4) (4 : Int32) ff nn)) + (own_part (cs 5) (5 : Int32) ff nn))), .val (.int (-1 : Int32))] []))
      refine own_st (fun t_ k_ => XS.iconst X239.here hx rfl (hb hby at_291) k_) ?_
      show own_Go p.tables e below _ (T239.setTop (mkF m 292 #[.val (.int p0), .val (.int p1), .val (.int p2), .val (.int p3), .val (.int p4), .val (.int p5), .val (.ref b171), .val (.ref b184), .val (.int ff), .val (.int nn), .val (.int (1 : Int32)), .val (.int ((((((own_part (cs 0) (0 : Int32) ff nn) + (own_part (cs 1) (1 : Int32) ff nn)) + (own_part (cs 2) (2 : Int32) ff nn)) + (own_part (cs 3) (3 : Int32) ff nn)) + (own_part (cs 4) (4 : Int32) ff nn)) + (own_part (cs 5) (5 : Int32) ff nn))), .val (.int (-1 : Int32))] [(.int (1 : Int32))]))
      refine own_st (fun t_ k_ => XS.goto X239.here hx rfl (pc0 := 292) (pc' := 296) rfl (hb hby at_292) (by decide) (by decide) k_) ?_
      show own_Go p.tables e below _ (T239.setTop (mkF m 296 #[.val (.int p0), .val (.int p1), .val (.int p2), .val (.int p3), .val (.int p4), .val (.int p5), .val (.ref b171), .val (.ref b184), .val (.int ff), .val (.int nn), .val (.int (1 : Int32)), .val (.int ((((((own_part (cs 0) (0 : Int32) ff nn) + (own_part (cs 1) (1 : Int32) ff nn)) + (own_part (cs 2) (2 : Int32) ff nn)) + (own_part (cs 3) (3 : Int32) ff nn)) + (own_part (cs 4) (4 : Int32) ff nn)) + (own_part (cs 5) (5 : Int32) ff nn))), .val (.int (-1 : Int32))] [(.int (1 : Int32))]))
      exact own_ret (w := (.int (1 : Int32))) X239 hx hnl Bd.returns rfl (Or.inl ⟨rfl, by decide, _, rfl⟩) (hb hby at_296) ⟨rfl, N239, (by rw [eq239]; exact K185)⟩ (by decide) (by decide)
  · skip
    refine own_st (fun t_ k_ => XS.ifYes X186.here hx rfl (pc0 := 100) (pc' := 178) rfl (hb hby at_100) rfl ((if0 _ _).trans (feq c100_187).2) (by decide) (by decide) k_) ?_
    show own_Go p.tables e below _ (T186.setTop (mkF m 178 #[.val (.int p0), .val (.int p1), .val (.int p2), .val (.int p3), .val (.int p4), .val (.int p5), .val (.ref b171), .val (.ref b184), .val (.int ff), .val (.int nn), .unset, .unset, .unset] []))
    refine own_st (fun t_ k_ => XS.iconst X186.here hx rfl (hb hby at_178) k_) ?_
    show own_Go p.tables e below _ (T186.setTop (mkF m 179 #[.val (.int p0), .val (.int p1), .val (.int p2), .val (.int p3), .val (.int p4), .val (.int p5), .val (.ref b171), .val (.ref b184), .val (.int ff), .val (.int nn), .unset, .unset, .unset] [(.int (1 : Int32))]))
    refine own_st (fun t_ k_ => XS.goto X186.here hx rfl (pc0 := 179) (pc' := 183) rfl (hb hby at_179) (by decide) (by decide) k_) ?_
    show own_Go p.tables e below _ (T186.setTop (mkF m 183 #[.val (.int p0), .val (.int p1), .val (.int p2), .val (.int p3), .val (.int p4), .val (.int p5), .val (.ref b171), .val (.ref b184), .val (.int ff), .val (.int nn), .unset, .unset, .unset] [(.int (1 : Int32))]))
    refine own_st (fun t_ k_ => XS.istore X186.here hx rfl (hb hby at_183) rfl (l' := #[.val (.int p0), .val (.int p1), .val (.int p2), .val (.int p3), .val (.int p4), .val (.int p5), .val (.ref b171), .val (.ref b184), .val (.int ff), .val (.int nn), .val (.int (1 : Int32)), .unset, .unset]) rfl k_) ?_
    show own_Go p.tables e below _ (T186.setTop (mkF m 185 #[.val (.int p0), .val (.int p1), .val (.int p2), .val (.int p3), .val (.int p4), .val (.int p5), .val (.ref b171), .val (.ref b184), .val (.int ff), .val (.int nn), .val (.int (1 : Int32)), .unset, .unset] []))
    refine own_st (fun t_ k_ => XS.aload X186.here hx rfl (hb hby at_185) rfl rfl k_) ?_
    show own_Go p.tables e below _ (T186.setTop (mkF m 187 #[.val (.int p0), .val (.int p1), .val (.int p2), .val (.int p3), .val (.int p4), .val (.int p5), .val (.ref b171), .val (.ref b184), .val (.int ff), .val (.int nn), .val (.int (1 : Int32)), .unset, .unset] [(.ref b171)]))
    refine own_st (fun t_ k_ => XS.iconst X186.here hx rfl (hb hby at_187) k_) ?_
    show own_Go p.tables e below _ (T186.setTop (mkF m 188 #[.val (.int p0), .val (.int p1), .val (.int p2), .val (.int p3), .val (.int p4), .val (.int p5), .val (.ref b171), .val (.ref b184), .val (.int ff), .val (.int nn), .val (.int (1 : Int32)), .unset, .unset] [(.int (0 : Int32)), (.ref b171)]))
    refine own_st (own_caload X186 hx hZ eq186 ((Acs.ext E184).keep Kq185 (ninS (Nat.ne_of_lt (Nat.lt_of_lt_of_le Acs.lt (Nat.le_of_eq g184.symm))) nin0)) (i := 0) (by decide) (by decide) (g := (mkF m 188 #[.val (.int p0), .val (.int p1), .val (.int p2), .val (.int p3), .val (.int p4), .val (.int p5), .val (.ref b171), .val (.ref b184), .val (.int ff), .val (.int nn), .val (.int (1 : Int32)), .unset, .unset] [(.int (0 : Int32)), (.ref b171)])) rfl rfl (hb hby at_188)) ?_
    show own_Go p.tables e below _ (T186.setTop (mkF m 189 #[.val (.int p0), .val (.int p1), .val (.int p2), .val (.int p3), .val (.int p4), .val (.int p5), .val (.ref b171), .val (.ref b184), .val (.int ff), .val (.int nn), .val (.int (1 : Int32)), .unset, .unset] [(.int (cs 0))]))
    refine own_st (fun t_ k_ => XS.iconst X186.here hx rfl (hb hby at_189) k_) ?_
    show own_Go p.tables e below _ (T186.setTop (mkF m 190 #[.val (.int p0), .val (.int p1), .val (.int p2), .val (.int p3), .val (.int p4), .val (.int p5), .val (.ref b171), .val (.ref b184), .val (.int ff), .val (.int nn), .val (.int (1 : Int32)), .unset, .unset] [(.int (0 : Int32)), (.int (cs 0))]))
    refine own_st (fun t_ k_ => XS.iload X186.here hx rfl (hb hby at_190) rfl k_) ?_
    show own_Go p.tables e below _ (T186.setTop (mkF m 192 #[.val (.int p0), .val (.int p1), .val (.int p2), .val (.int p3), .val (.int p4), .val (.int p5), .val (.ref b171), .val (.ref b184), .val (.int ff), .val (.int nn), .val (.int (1 : Int32)), .unset, .unset] [(.int ff), (.int (0 : Int32)), (.int (cs 0))]))
    refine own_st (fun t_ k_ => XS.iload X186.here hx rfl (hb hby at_192) rfl k_) ?_
    show own_Go p.tables e below _ (T186.setTop (mkF m 194 #[.val (.int p0), .val (.int p1), .val (.int p2), .val (.int p3), .val (.int p4), .val (.int p5), .val (.ref b171), .val (.ref b184), .val (.int ff), .val (.int nn), .val (.int (1 : Int32)), .unset, .unset] [(.int nn), (.int ff), (.int (0 : Int32)), (.int (cs 0))]))
    obtain ⟨_, _, ⟨T240, L240, k240, n240⟩, -, X240, ⟨Lc240, hQ240, l240, y240, z240⟩, st240⟩ := Jvm.LawKit.callS X186 hx (y := (⟨"com/example/nastro/nastro/model/DigitsValuePinLaw", "part", "(CIII)I"⟩ : MethodName)) hown (mvT hZ (hw _ (List.mem_of_getElem? (i := 41) rfl))) (mvT hZ (hw _ (List.mem_of_getElem? (i := 42) rfl))) (mvT hZ (hw _ (List.mem_of_getElem? (i := 3) rfl))) (mvT hZ (hw _ (List.mem_of_getElem? (i := 43) rfl))) (by decide) (backOf (W := 0) (own_rm10 l Z a0 hw [] (cs 0) (0 : Int32) ff nn T185.heap n0 (Nat.le_trans Z0 K185.1)) hZ (hw _ (List.mem_of_getElem? (i := 43) rfl)) (hw _ (List.mem_of_getElem? (i := 3) rfl)) (by decide) (by decide)) (g := (mkF m 194 #[.val (.int p0), .val (.int p1), .val (.int p2), .val (.int p3), .val (.int p4), .val (.int p5), .val (.ref b171), .val (.ref b184), .val (.int ff), .val (.int nn), .val (.int (1 : Int32)), .unset, .unset] [(.int nn), (.int ff), (.int (0 : Int32)), (.int (cs 0))])) rfl (by rw [hml]; rfl) (argsL := [(.int (cs 0)), (.int (0 : Int32)), (.int ff), (.int nn)]) (rest := []) (lenOf own_pd17 rfl) rfl (by show 2 * 0 + _ ≤ _; exact Nat.le_of_eq rfl) (hb hby at_194) (fun _ _ => ⟨rfl, eq186, (by decide : 4 + 0 ≤ _), (by decide : 28 + 0 ≤ _)⟩)
    dsimp only [Pt.U, Pt.locs, Pt.cells, Pt.slots] at X240 l240 y240 z240 st240 hQ240
    subst y240 z240
    obtain ⟨rfl, N240q, eq240⟩ := hQ240
    have N240 : Fr n0 L240 := by rw [l240]; exact Fr.app N186 N240q
    refine own_st (st240) ?_
    show own_Go p.tables e below _ (T240.setTop (mkF m 197 #[.val (.int p0), .val (.int p1), .val (.int p2), .val (.int p3), .val (.int p4), .val (.int p5), .val (.ref b171), .val (.ref b184), .val (.int ff), .val (.int nn), .val (.int (1 : Int32)), .unset, .unset] [(.int (own_part (cs 0) (0 : Int32) ff nn))]))
    refine own_st (fun t_ k_ => XS.aload X240.here hx rfl (hb hby at_197) rfl rfl k_) ?_
    show own_Go p.tables e below _ (T240.setTop (mkF m 199 #[.val (.int p0), .val (.int p1), .val (.int p2), .val (.int p3), .val (.int p4), .val (.int p5), .val (.ref b171), .val (.ref b184), .val (.int ff), .val (.int nn), .val (.int (1 : Int32)), .unset, .unset] [(.ref b171), (.int (own_part (cs 0) (0 : Int32) ff nn))]))
    refine own_st (fun t_ k_ => XS.iconst X240.here hx rfl (hb hby at_199) k_) ?_
    show own_Go p.tables e below _ (T240.setTop (mkF m 200 #[.val (.int p0), .val (.int p1), .val (.int p2), .val (.int p3), .val (.int p4), .val (.int p5), .val (.ref b171), .val (.ref b184), .val (.int ff), .val (.int nn), .val (.int (1 : Int32)), .unset, .unset] [(.int (1 : Int32)), (.ref b171), (.int (own_part (cs 0) (0 : Int32) ff nn))]))
    refine own_st (own_caload X240 hx hZ eq240 ((Acs.ext E184).keep Kq185 (ninS (Nat.ne_of_lt (Nat.lt_of_lt_of_le Acs.lt (Nat.le_of_eq g184.symm))) nin0)) (i := 1) (by decide) (by decide) (g := (mkF m 200 #[.val (.int p0), .val (.int p1), .val (.int p2), .val (.int p3), .val (.int p4), .val (.int p5), .val (.ref b171), .val (.ref b184), .val (.int ff), .val (.int nn), .val (.int (1 : Int32)), .unset, .unset] [(.int (1 : Int32)), (.ref b171), (.int (own_part (cs 0) (0 : Int32) ff nn))])) rfl rfl (hb hby at_200)) ?_
    show own_Go p.tables e below _ (T240.setTop (mkF m 201 #[.val (.int p0), .val (.int p1), .val (.int p2), .val (.int p3), .val (.int p4), .val (.int p5), .val (.ref b171), .val (.ref b184), .val (.int ff), .val (.int nn), .val (.int (1 : Int32)), .unset, .unset] [(.int (cs 1)), (.int (own_part (cs 0) (0 : Int32) ff nn))]))
    refine own_st (fun t_ k_ => XS.iconst X240.here hx rfl (hb hby at_201) k_) ?_
    show own_Go p.tables e below _ (T240.setTop (mkF m 202 #[.val (.int p0), .val (.int p1), .val (.int p2), .val (.int p3), .val (.int p4), .val (.int p5), .val (.ref b171), .val (.ref b184), .val (.int ff), .val (.int nn), .val (.int (1 : Int32)), .unset, .unset] [(.int (1 : Int32)), (.int (cs 1)), (.int (own_part (cs 0) (0 : Int32) ff nn))]))
    refine own_st (fun t_ k_ => XS.iload X240.here hx rfl (hb hby at_202) rfl k_) ?_
    show own_Go p.tables e below _ (T240.setTop (mkF m 204 #[.val (.int p0), .val (.int p1), .val (.int p2), .val (.int p3), .val (.int p4), .val (.int p5), .val (.ref b171), .val (.ref b184), .val (.int ff), .val (.int nn), .val (.int (1 : Int32)), .unset, .unset] [(.int ff), (.int (1 : Int32)), (.int (cs 1)), (.int (own_part (cs 0) (0 : Int32) ff nn))]))
    refine own_st (fun t_ k_ => XS.iload X240.here hx rfl (hb hby at_204) rfl k_) ?_
    show own_Go p.tables e below _ (T240.setTop (mkF m 206 #[.val (.int p0), .val (.int p1), .val (.int p2), .val (.int p3), .val (.int p4), .val (.int p5), .val (.ref b171), .val (.ref b184), .val (.int ff), .val (.int nn), .val (.int (1 : Int32)), .unset, .unset] [(.int nn), (.int ff), (.int (1 : Int32)), (.int (cs 1)), (.int (own_part (cs 0) (0 : Int32) ff nn))]))
    obtain ⟨_, _, ⟨T241, L241, k241, n241⟩, -, X241, ⟨Lc241, hQ241, l241, y241, z241⟩, st241⟩ := Jvm.LawKit.callS X240 hx (y := (⟨"com/example/nastro/nastro/model/DigitsValuePinLaw", "part", "(CIII)I"⟩ : MethodName)) hown (mvT hZ (hw _ (List.mem_of_getElem? (i := 41) rfl))) (mvT hZ (hw _ (List.mem_of_getElem? (i := 42) rfl))) (mvT hZ (hw _ (List.mem_of_getElem? (i := 3) rfl))) (mvT hZ (hw _ (List.mem_of_getElem? (i := 43) rfl))) (by decide) (backOf (W := 1) (own_rm10 l Z a0 hw [] (cs 1) (1 : Int32) ff nn T185.heap n0 (Nat.le_trans Z0 K185.1)) hZ (hw _ (List.mem_of_getElem? (i := 43) rfl)) (hw _ (List.mem_of_getElem? (i := 3) rfl)) (by decide) (by decide)) (g := (mkF m 206 #[.val (.int p0), .val (.int p1), .val (.int p2), .val (.int p3), .val (.int p4), .val (.int p5), .val (.ref b171), .val (.ref b184), .val (.int ff), .val (.int nn), .val (.int (1 : Int32)), .unset, .unset] [(.int nn), (.int ff), (.int (1 : Int32)), (.int (cs 1)), (.int (own_part (cs 0) (0 : Int32) ff nn))])) rfl (by rw [hml]; rfl) (argsL := [(.int (cs 1)), (.int (1 : Int32)), (.int ff), (.int nn)]) (rest := [(.int (own_part (cs 0) (0 : Int32) ff nn))]) (lenOf own_pd17 rfl) rfl (by show 2 * 0 + _ ≤ _; exact Nat.le_of_eq rfl) (hb hby at_206) (fun _ _ => ⟨rfl, eq240, (by decide : 4 + 0 ≤ _), (by decide : 28 + 0 ≤ _)⟩)
    dsimp only [Pt.U, Pt.locs, Pt.cells, Pt.slots] at X241 l241 y241 z241 st241 hQ241
    subst y241 z241
    obtain ⟨rfl, N241q, eq241⟩ := hQ241
    have N241 : Fr n0 L241 := by rw [l241]; exact Fr.app N240 N241q
    refine own_st (st241) ?_
    show own_Go p.tables e below _ (T241.setTop (mkF m 209 #[.val (.int p0), .val (.int p1), .val (.int p2), .val (.int p3), .val (.int p4), .val (.int p5), .val (.ref b171), .val (.ref b184), .val (.int ff), .val (.int nn), .val (.int (1 : Int32)), .unset, .unset] [(.int (own_part (cs 1) (1 : Int32) ff nn)), (.int (own_part (cs 0) (0 : Int32) ff nn))]))
    refine own_st (fun t_ k_ => XS.iadd X241.here hx rfl (hb hby at_209) rfl k_) ?_
    show own_Go p.tables e below _ (T241.setTop (mkF m 210 #[.val (.int p0), .val (.int p1), .val (.int p2), .val (.int p3), .val (.int p4), .val (.int p5), .val (.ref b171), .val (.ref b184), .val (.int ff), .val (.int nn), .val (.int (1 : Int32)), .unset, .unset] [(.int ((own_part (cs 0) (0 : Int32) ff nn) + (own_part (cs 1) (1 : Int32) ff nn)))]))
    refine own_st (fun t_ k_ => XS.aload X241.here hx rfl (hb hby at_210) rfl rfl k_) ?_
    show own_Go p.tables e below _ (T241.setTop (mkF m 212 #[.val (.int p0), .val (.int p1), .val (.int p2), .val (.int p3), .val (.int p4), .val (.int p5), .val (.ref b171), .val (.ref b184), .val (.int ff), .val (.int nn), .val (.int (1 : Int32)), .unset, .unset] [(.ref b171), (.int ((own_part (cs 0) (0 : Int32) ff nn) + (own_part (cs 1) (1 : Int32) ff nn)))]))
    refine own_st (fun t_ k_ => XS.iconst X241.here hx rfl (hb hby at_212) k_) ?_
    show own_Go p.tables e below _ (T241.setTop (mkF m 213 #[.val (.int p0), .val (.int p1), .val (.int p2), .val (.int p3), .val (.int p4), .val (.int p5), .val (.ref b171), .val (.ref b184), .val (.int ff), .val (.int nn), .val (.int (1 : Int32)), .unset, .unset] [(.int (2 : Int32)), (.ref b171), (.int ((own_part (cs 0) (0 : Int32) ff nn) + (own_part (cs 1) (1 : Int32) ff nn)))]))
    refine own_st (own_caload X241 hx hZ eq241 ((Acs.ext E184).keep Kq185 (ninS (Nat.ne_of_lt (Nat.lt_of_lt_of_le Acs.lt (Nat.le_of_eq g184.symm))) nin0)) (i := 2) (by decide) (by decide) (g := (mkF m 213 #[.val (.int p0), .val (.int p1), .val (.int p2), .val (.int p3), .val (.int p4), .val (.int p5), .val (.ref b171), .val (.ref b184), .val (.int ff), .val (.int nn), .val (.int (1 : Int32)), .unset, .unset] [(.int (2 : Int32)), (.ref b171), (.int ((own_part (cs 0) (0 : Int32) ff nn) + (own_part (cs 1) (1 : Int32) ff nn)))])) rfl rfl (hb hby at_213)) ?_
    show own_Go p.tables e below _ (T241.setTop (mkF m 214 #[.val (.int p0), .val (.int p1), .val (.int p2), .val (.int p3), .val (.int p4), .val (.int p5), .val (.ref b171), .val (.ref b184), .val (.int ff), .val (.int nn), .val (.int (1 : Int32)), .unset, .unset] [(.int (cs 2)), (.int ((own_part (cs 0) (0 : Int32) ff nn) + (own_part (cs 1) (1 : Int32) ff nn)))]))
    refine own_st (fun t_ k_ => XS.iconst X241.here hx rfl (hb hby at_214) k_) ?_
    show own_Go p.tables e below _ (T241.setTop (mkF m 215 #[.val (.int p0), .val (.int p1), .val (.int p2), .val (.int p3), .val (.int p4), .val (.int p5), .val (.ref b171), .val (.ref b184), .val (.int ff), .val (.int nn), .val (.int (1 : Int32)), .unset, .unset] [(.int (2 : Int32)), (.int (cs 2)), (.int ((own_part (cs 0) (0 : Int32) ff nn) + (own_part (cs 1) (1 : Int32) ff nn)))]))
    refine own_st (fun t_ k_ => XS.iload X241.here hx rfl (hb hby at_215) rfl k_) ?_
    show own_Go p.tables e below _ (T241.setTop (mkF m 217 #[.val (.int p0), .val (.int p1), .val (.int p2), .val (.int p3), .val (.int p4), .val (.int p5), .val (.ref b171), .val (.ref b184), .val (.int ff), .val (.int nn), .val (.int (1 : Int32)), .unset, .unset] [(.int ff), (.int (2 : Int32)), (.int (cs 2)), (.int ((own_part (cs 0) (0 : Int32) ff nn) + (own_part (cs 1) (1 : Int32) ff nn)))]))
    refine own_st (fun t_ k_ => XS.iload X241.here hx rfl (hb hby at_217) rfl k_) ?_
    show own_Go p.tables e below _ (T241.setTop (mkF m 219 #[.val (.int p0), .val (.int p1), .val (.int p2), .val (.int p3), .val (.int p4), .val (.int p5), .val (.ref b171), .val (.ref b184), .val (.int ff), .val (.int nn), .val (.int (1 : Int32)), .unset, .unset] [(.int nn), (.int ff), (.int (2 : Int32)), (.int (cs 2)), (.int ((own_part (cs 0) (0 : Int32) ff nn) + (own_part (cs 1) (1 : Int32) ff nn)))]))
    obtain ⟨_, _, ⟨T242, L242, k242, n242⟩, -, X242, ⟨Lc242, hQ242, l242, y242, z242⟩, st242⟩ := Jvm.LawKit.callS X241 hx (y := (⟨"com/example/nastro/nastro/model/DigitsValuePinLaw", "part", "(CIII)I"⟩ : MethodName)) hown (mvT hZ (hw _ (List.mem_of_getElem? (i := 41) rfl))) (mvT hZ (hw _ (List.mem_of_getElem? (i := 42) rfl))) (mvT hZ (hw _ (List.mem_of_getElem? (i := 3) rfl))) (mvT hZ (hw _ (List.mem_of_getElem? (i := 43) rfl))) (by decide) (backOf (W := 1) (own_rm10 l Z a0 hw [] (cs 2) (2 : Int32) ff nn T185.heap n0 (Nat.le_trans Z0 K185.1)) hZ (hw _ (List.mem_of_getElem? (i := 43) rfl)) (hw _ (List.mem_of_getElem? (i := 3) rfl)) (by decide) (by decide)) (g := (mkF m 219 #[.val (.int p0), .val (.int p1), .val (.int p2), .val (.int p3), .val (.int p4), .val (.int p5), .val (.ref b171), .val (.ref b184), .val (.int ff), .val (.int nn), .val (.int (1 : Int32)), .unset, .unset] [(.int nn), (.int ff), (.int (2 : Int32)), (.int (cs 2)), (.int ((own_part (cs 0) (0 : Int32) ff nn) + (own_part (cs 1) (1 : Int32) ff nn)))])) rfl (by rw [hml]; rfl) (argsL := [(.int (cs 2)), (.int (2 : Int32)), (.int ff), (.int nn)]) (rest := [(.int ((own_part (cs 0) (0 : Int32) ff nn) + (own_part (cs 1) (1 : Int32) ff nn)))]) (lenOf own_pd17 rfl) rfl (by show 2 * 0 + _ ≤ _; exact Nat.le_of_eq rfl) (hb hby at_219) (fun _ _ => ⟨rfl, eq241, (by decide : 4 + 0 ≤ _), (by decide : 28 + 0 ≤ _)⟩)
    dsimp only [Pt.U, Pt.locs, Pt.cells, Pt.slots] at X242 l242 y242 z242 st242 hQ242
    subst y242 z242
    obtain ⟨rfl, N242q, eq242⟩ := hQ242
    have N242 : Fr n0 L242 := by rw [l242]; exact Fr.app N241 N242q
    refine own_st (st242) ?_
    show own_Go p.tables e below _ (T242.setTop (mkF m 222 #[.val (.int p0), .val (.int p1), .val (.int p2), .val (.int p3), .val (.int p4), .val (.int p5), .val (.ref b171), .val (.ref b184), .val (.int ff), .val (.int nn), .val (.int (1 : Int32)), .unset, .unset] [(.int (own_part (cs 2) (2 : Int32) ff nn)), (.int ((own_part (cs 0) (0 : Int32) ff nn) + (own_part (cs 1) (1 : Int32) ff nn)))]))
    refine own_st (fun t_ k_ => XS.iadd X242.here hx rfl (hb hby at_222) rfl k_) ?_
    show own_Go p.tables e below _ (T242.setTop (mkF m 223 #[.val (.int p0), .val (.int p1), .val (.int p2), .val (.int p3), .val (.int p4), .val (.int p5), .val (.ref b171), .val (.ref b184), .val (.int ff), .val (.int nn), .val (.int (1 : Int32)), .unset, .unset] [(.int (((own_part (cs 0) (0 : Int32) ff nn) + (own_part (cs 1) (1 : Int32) ff nn)) + (own_part (cs 2) (2 : Int32) ff nn)))]))
    refine own_st (fun t_ k_ => XS.aload X242.here hx rfl (hb hby at_223) rfl rfl k_) ?_
    show own_Go p.tables e below _ (T242.setTop (mkF m 225 #[.val (.int p0), .val (.int p1), .val (.int p2), .val (.int p3), .val (.int p4), .val (.int p5), .val (.ref b171), .val (.ref b184), .val (.int ff), .val (.int nn), .val (.int (1 : Int32)), .unset, .unset] [(.ref b171), (.int (((own_part (cs 0) (0 : Int32) ff nn) + (own_part (cs 1) (1 : Int32) ff nn)) + (own_part (cs 2) (2 : Int32) ff nn)))]))
    refine own_st (fun t_ k_ => XS.iconst X242.here hx rfl (hb hby at_225) k_) ?_
    show own_Go p.tables e below _ (T242.setTop (mkF m 226 #[.val (.int p0), .val (.int p1), .val (.int p2), .val (.int p3), .val (.int p4), .val (.int p5), .val (.ref b171), .val (.ref b184), .val (.int ff), .val (.int nn), .val (.int (1 : Int32)), .unset, .unset] [(.int (3 : Int32)), (.ref b171), (.int (((own_part (cs 0) (0 : Int32) ff nn) + (own_part (cs 1) (1 : Int32) ff nn)) + (own_part (cs 2) (2 : Int32) ff nn)))]))
    refine own_st (own_caload X242 hx hZ eq242 ((Acs.ext E184).keep Kq185 (ninS (Nat.ne_of_lt (Nat.lt_of_lt_of_le Acs.lt (Nat.le_of_eq g184.symm))) nin0)) (i := 3) (by decide) (by decide) (g := (mkF m 226 #[.val (.int p0), .val (.int p1), .val (.int p2), .val (.int p3), .val (.int p4), .val (.int p5), .val (.ref b171), .val (.ref b184), .val (.int ff), .val (.int nn), .val (.int (1 : Int32)), .unset, .unset] [(.int (3 : Int32)), (.ref b171), (.int (((own_part (cs 0) (0 : Int32) ff nn) + (own_part (cs 1) (1 : Int32) ff nn)) + (own_part (cs 2) (2 : Int32) ff nn)))])) rfl rfl (hb hby at_226)) ?_
    show own_Go p.tables e below _ (T242.setTop (mkF m 227 #[.val (.int p0), .val (.int p1), .val (.int p2), .val (.int p3), .val (.int p4), .val (.int p5), .val (.ref b171), .val (.ref b184), .val (.int ff), .val (.int nn), .val (.int (1 : Int32)), .unset, .unset] [(.int (cs 3)), (.int (((own_part (cs 0) (0 : Int32) ff nn) + (own_part (cs 1) (1 : Int32) ff nn)) + (own_part (cs 2) (2 : Int32) ff nn)))]))
    refine own_st (fun t_ k_ => XS.iconst X242.here hx rfl (hb hby at_227) k_) ?_
    show own_Go p.tables e below _ (T242.setTop (mkF m 228 #[.val (.int p0), .val (.int p1), .val (.int p2), .val (.int p3), .val (.int p4), .val (.int p5), .val (.ref b171), .val (.ref b184), .val (.int ff), .val (.int nn), .val (.int (1 : Int32)), .unset, .unset] [(.int (3 : Int32)), (.int (cs 3)), (.int (((own_part (cs 0) (0 : Int32) ff nn) + (own_part (cs 1) (1 : Int32) ff nn)) + (own_part (cs 2) (2 : Int32) ff nn)))]))
    refine own_st (fun t_ k_ => XS.iload X242.here hx rfl (hb hby at_228) rfl k_) ?_
    show own_Go p.tables e below _ (T242.setTop (mkF m 230 #[.val (.int p0), .val (.int p1), .val (.int p2), .val (.int p3), .val (.int p4), .val (.int p5), .val (.ref b171), .val (.ref b184), .val (.int ff), .val (.int nn), .val (.int (1 : Int32)), .unset, .unset] [(.int ff), (.int (3 : Int32)), (.int (cs 3)), (.int (((own_part (cs 0) (0 : Int32) ff nn) + (own_part (cs 1) (1 : Int32) ff nn)) + (own_part (cs 2) (2 : Int32) ff nn)))]))
    refine own_st (fun t_ k_ => XS.iload X242.here hx rfl (hb hby at_230) rfl k_) ?_
    show own_Go p.tables e below _ (T242.setTop (mkF m 232 #[.val (.int p0), .val (.int p1), .val (.int p2), .val (.int p3), .val (.int p4), .val (.int p5), .val (.ref b171), .val (.ref b184), .val (.int ff), .val (.int nn), .val (.int (1 : Int32)), .unset, .unset] [(.int nn), (.int ff), (.int (3 : Int32)), (.int (cs 3)), (.int (((own_part (cs 0) (0 : Int32) ff nn) + (own_part (cs 1) (1 : Int32) ff nn)) + (own_part (cs 2) (2 : Int32) ff nn)))]))
    obtain ⟨_, _, ⟨T243, L243, k243, n243⟩, -, X243, ⟨Lc243, hQ243, l243, y243, z243⟩, st243⟩ := Jvm.LawKit.callS X242 hx (y := (⟨"com/example/nastro/nastro/model/DigitsValuePinLaw", "part", "(CIII)I"⟩ : MethodName)) hown (mvT hZ (hw _ (List.mem_of_getElem? (i := 41) rfl))) (mvT hZ (hw _ (List.mem_of_getElem? (i := 42) rfl))) (mvT hZ (hw _ (List.mem_of_getElem? (i := 3) rfl))) (mvT hZ (hw _ (List.mem_of_getElem? (i := 43) rfl))) (by decide) (backOf (W := 1) (own_rm10 l Z a0 hw [] (cs 3) (3 : Int32) ff nn T185.heap n0 (Nat.le_trans Z0 K185.1)) hZ (hw _ (List.mem_of_getElem? (i := 43) rfl)) (hw _ (List.mem_of_getElem? (i := 3) rfl)) (by decide) (by decide)) (g := (mkF m 232 #[.val (.int p0), .val (.int p1), .val (.int p2), .val (.int p3), .val (.int p4), .val (.int p5), .val (.ref b171), .val (.ref b184), .val (.int ff), .val (.int nn), .val (.int (1 : Int32)), .unset, .unset] [(.int nn), (.int ff), (.int (3 : Int32)), (.int (cs 3)), (.int (((own_part (cs 0) (0 : Int32) ff nn) + (own_part (cs 1) (1 : Int32) ff nn)) + (own_part (cs 2) (2 : Int32) ff nn)))])) rfl (by rw [hml]; rfl) (argsL := [(.int (cs 3)), (.int (3 : Int32)), (.int ff), (.int nn)]) (rest := [(.int (((own_part (cs 0) (0 : Int32) ff nn) + (own_part (cs 1) (1 : Int32) ff nn)) + (own_part (cs 2) (2 : Int32) ff nn)))]) (lenOf own_pd17 rfl) rfl (by show 2 * 0 + _ ≤ _; exact Nat.le_of_eq rfl) (hb hby at_232) (fun _ _ => ⟨rfl, eq242, (by decide : 4 + 0 ≤ _), (by decide : 28 + 0 ≤ _)⟩)
    dsimp only [Pt.U, Pt.locs, Pt.cells, Pt.slots] at X243 l243 y243 z243 st243 hQ243
    subst y243 z243
    obtain ⟨rfl, N243q, eq243⟩ := hQ243
    have N243 : Fr n0 L243 := by rw [l243]; exact Fr.app N242 N243q
    refine own_st (st243) ?_
    show own_Go p.tables e below _ (T243.setTop (mkF m 235 #[.val (.int p0), .val (.int p1), .val (.int p2), .val (.int p3), .val (.int p4), .val (.int p5), .val (.ref b171), .val (.ref b184), .val (.int ff), .val (.int nn), .val (.int (1 : Int32)), .unset, .unset] [(.int (own_part (cs 3) (3 : Int32) ff nn)), (.int (((own_part (cs 0) (0 : Int32) ff nn) + (own_part (cs 1) (1 : Int32) ff nn)) + (own_part (cs 2) (2 : Int32) ff nn)))]))
    refine own_st (fun t_ k_ => XS.iadd X243.here hx rfl (hb hby at_235) rfl k_) ?_
    show own_Go p.tables e below _ (T243.setTop (mkF m 236 #[.val (.int p0), .val (.int p1), .val (.int p2), .val (.int p3), .val (.int p4), .val (.int p5), .val (.ref b171), .val (.ref b184), .val (.int ff), .val (.int nn), .val (.int (1 : Int32)), .unset, .unset] [(.int ((((own_part (cs 0) (0 : Int32) ff nn) + (own_part (cs 1) (1 : Int32) ff nn)) + (own_part (cs 2) (2 : Int32) ff nn)) + (own_part (cs 3) (3 : Int32) ff nn)))]))
    refine own_st (fun t_ k_ => XS.aload X243.here hx rfl (hb hby at_236) rfl rfl k_) ?_
    show own_Go p.tables e below _ (T243.setTop (mkF m 238 #[.val (.int p0), .val (.int p1), .val (.int p2), .val (.int p3), .val (.int p4), .val (.int p5), .val (.ref b171), .val (.ref b184), .val (.int ff), .val (.int nn), .val (.int (1 : Int32)), .unset, .unset] [(.ref b171), (.int ((((own_part (cs 0) (0 : Int32) ff nn) + (own_part (cs 1) (1 : Int32) ff nn)) + (own_part (cs 2) (2 : Int32) ff nn)) + (own_part (cs 3) (3 : Int32) ff nn)))]))
    refine own_st (fun t_ k_ => XS.iconst X243.here hx rfl (hb hby at_238) k_) ?_
    show own_Go p.tables e below _ (T243.setTop (mkF m 239 #[.val (.int p0), .val (.int p1), .val (.int p2), .val (.int p3), .val (.int p4), .val (.int p5), .val (.ref b171), .val (.ref b184), .val (.int ff), .val (.int nn), .val (.int (1 : Int32)), .unset, .unset] [(.int (4 : Int32)), (.ref b171), (.int ((((own_part (cs 0) (0 : Int32) ff nn) + (own_part (cs 1) (1 : Int32) ff nn)) + (own_part (cs 2) (2 : Int32) ff nn)) + (own_part (cs 3) (3 : Int32) ff nn)))]))
    refine own_st (own_caload X243 hx hZ eq243 ((Acs.ext E184).keep Kq185 (ninS (Nat.ne_of_lt (Nat.lt_of_lt_of_le Acs.lt (Nat.le_of_eq g184.symm))) nin0)) (i := 4) (by decide) (by decide) (g := (mkF m 239 #[.val (.int p0), .val (.int p1), .val (.int p2), .val (.int p3), .val (.int p4), .val (.int p5), .val (.ref b171), .val (.ref b184), .val (.int ff), .val (.int nn), .val (.int (1 : Int32)), .unset, .unset] [(.int (4 : Int32)), (.ref b171), (.int ((((own_part (cs 0) (0 : Int32) ff nn) + (own_part (cs 1) (1 : Int32) ff nn)) + (own_part (cs 2) (2 : Int32) ff nn)) + (own_part (cs 3) (3 : Int32) ff nn)))])) rfl rfl (hb hby at_239)) ?_
    show own_Go p.tables e below _ (T243.setTop (mkF m 240 #[.val (.int p0), .val (.int p1), .val (.int p2), .val (.int p3), .val (.int p4), .val (.int p5), .val (.ref b171), .val (.ref b184), .val (.int ff), .val (.int nn), .val (.int (1 : Int32)), .unset, .unset] [(.int (cs 4)), (.int ((((own_part (cs 0) (0 : Int32) ff nn) + (own_part (cs 1) (1 : Int32) ff nn)) + (own_part (cs 2) (2 : Int32) ff nn)) + (own_part (cs 3) (3 : Int32) ff nn)))]))
    refine own_st (fun t_ k_ => XS.iconst X243.here hx rfl (hb hby at_240) k_) ?_
    show own_Go p.tables e below _ (T243.setTop (mkF m 241 #[.val (.int p0), .val (.int p1), .val (.int p2), .val (.int p3), .val (.int p4), .val (.int p5), .val (.ref b171), .val (.ref b184), .val (.int ff), .val (.int nn), .val (.int (1 : Int32)), .unset, .unset] [(.int (4 : Int32)), (.int (cs 4)), (.int ((((own_part (cs 0) (0 : Int32) ff nn) + (own_part (cs 1) (1 : Int32) ff nn)) + (own_part (cs 2) (2 : Int32) ff nn)) + (own_part (cs 3) (3 : Int32) ff nn)))]))
    refine own_st (fun t_ k_ => XS.iload X243.here hx rfl (hb hby at_241) rfl k_) ?_
    show own_Go p.tables e below _ (T243.setTop (mkF m 243 #[.val (.int p0), .val (.int p1), .val (.int p2), .val (.int p3), .val (.int p4), .val (.int p5), .val (.ref b171), .val (.ref b184), .val (.int ff), .val (.int nn), .val (.int (1 : Int32)), .unset, .unset] [(.int ff), (.int (4 : Int32)), (.int (cs 4)), (.int ((((own_part (cs 0) (0 : Int32) ff nn) + (own_part (cs 1) (1 : Int32) ff nn)) + (own_part (cs 2) (2 : Int32) ff nn)) + (own_part (cs 3) (3 : Int32) ff nn)))]))
    refine own_st (fun t_ k_ => XS.iload X243.here hx rfl (hb hby at_243) rfl k_) ?_
    show own_Go p.tables e below _ (T243.setTop (mkF m 245 #[.val (.int p0), .val (.int p1), .val (.int p2), .val (.int p3), .val (.int p4), .val (.int p5), .val (.ref b171), .val (.ref b184), .val (.int ff), .val (.int nn), .val (.int (1 : Int32)), .unset, .unset] [(.int nn), (.int ff), (.int (4 : Int32)), (.int (cs 4)), (.int ((((own_part (cs 0) (0 : Int32) ff nn) + (own_part (cs 1) (1 : Int32) ff nn)) + (own_part (cs 2) (2 : Int32) ff nn)) + (own_part (cs 3) (3 : Int32) ff nn)))]))
    obtain ⟨_, _, ⟨T244, L244, k244, n244⟩, -, X244, ⟨Lc244, hQ244, l244, y244, z244⟩, st244⟩ := Jvm.LawKit.callS X243 hx (y := (⟨"com/example/nastro/nastro/model/DigitsValuePinLaw", "part", "(CIII)I"⟩ : MethodName)) hown (mvT hZ (hw _ (List.mem_of_getElem? (i := 41) rfl))) (mvT hZ (hw _ (List.mem_of_getElem? (i := 42) rfl))) (mvT hZ (hw _ (List.mem_of_getElem? (i := 3) rfl))) (mvT hZ (hw _ (List.mem_of_getElem? (i := 43) rfl))) (by decide) (backOf (W := 1) (own_rm10 l Z a0 hw [] (cs 4) (4 : Int32) ff nn T185.heap n0 (Nat.le_trans Z0 K185.1)) hZ (hw _ (List.mem_of_getElem? (i := 43) rfl)) (hw _ (List.mem_of_getElem? (i := 3) rfl)) (by decide) (by decide)) (g := (mkF m 245 #[.val (.int p0), .val (.int p1), .val (.int p2), .val (.int p3), .val (.int p4), .val (.int p5), .val (.ref b171), .val (.ref b184), .val (.int ff), .val (.int nn), .val (.int (1 : Int32)), .unset, .unset] [(.int nn), (.int ff), (.int (4 : Int32)), (.int (cs 4)), (.int ((((own_part (cs 0) (0 : Int32) ff nn) + (own_part (cs 1) (1 : Int32) ff nn)) + (own_part (cs 2) (2 : Int32) ff nn)) + (own_part (cs 3) (3 : Int32) ff nn)))])) rfl (by rw [hml]; rfl) (argsL := [(.int (cs 4)), (.int (4 : Int32)), (.int ff), (.int nn)]) (rest := [(.int ((((own_part (cs 0) (0 : Int32) ff nn) + (own_part (cs 1) (1 : Int32) ff nn)) + (own_part (cs 2) (2 : Int32) ff nn)) + (own_part (cs 3) (3 : Int32) ff nn)))]) (lenOf own_pd17 rfl) rfl (by show 2 * 0 + _ ≤ _; exact Nat.le_of_eq rfl) (hb hby at_245) (fun _ _ => ⟨rfl, eq243, (by decide : 4 + 0 ≤ _), (by decide : 28 + 0 ≤ _)⟩)
    dsimp only [Pt.U, Pt.locs, Pt.cells, Pt.slots] at X244 l244 y244 z244 st244 hQ244
    subst y244 z244
    obtain ⟨rfl, N244q, eq244⟩ := hQ244
    have N244 : Fr n0 L244 := by rw [l244]; exact Fr.app N243 N244q
    refine own_st (st244) ?_
    show own_Go p.tables e below _ (T244.setTop (mkF m 248 #[.val (.int p0), .val (.int p1), .val (.int p2), .val (.int p3), .val (.int p4), .val (.int p5), .val (.ref b171), .val (.ref b184), .val (.int ff), .val (.int nn), .val (.int (1 : Int32)), .unset, .unset] [(.int (own_part (cs 4) (4 : Int32) ff nn)), (.int ((((own_part (cs 0) (0 : Int32) ff nn) + (own_part (cs 1) (1 : Int32) ff nn)) + (own_part (cs 2) (2 : Int32) ff nn)) + (own_part (cs 3) (3 : Int32) ff nn)))]))
    refine own_st (fun t_ k_ => XS.iadd X244.here hx rfl (hb hby at_248) rfl k_) ?_
    show own_Go p.tables e below _ (T244.setTop (mkF m 249 #[.val (.int p0), .val (.int p1), .val (.int p2), .val (.int p3), .val (.int p4), .val (.int p5), .val (.ref b171), .val (.ref b184), .val (.int ff), .val (.int nn), .val (.int (1 : Int32)), .unset, .unset] [(.int (((((own_part (cs 0) (0 : Int32) ff nn) + (own_part (cs 1) (1 : Int32) ff nn)) + (own_part (cs 2) (2 : Int32) ff nn)) + (own_part (cs 3) (3 : Int32) ff nn)) + (own_part (cs 4) (4 : Int32) ff nn)))]))
    refine own_st (fun t_ k_ => XS.aload X244.here hx rfl (hb hby at_249) rfl rfl k_) ?_
    show own_Go p.tables e below _ (T244.setTop (mkF m 251 #[.val (.int p0), .val (.int p1), .val (.int p2), .val (.int p3), .val (.int p4), .val (.int p5), .val (.ref b171), .val (.ref b184), .val (.int ff), .val (.int nn), .val (.int (1 : Int32)), .unset, .unset] [(.ref b171), (.int (((((own_part (cs 0) (0 : Int32) ff nn) + (own_part (cs 1) (1 : Int32) ff nn)) + (own_part (cs 2) (2 : Int32) ff nn)) + (own_part (cs 3) (3 : Int32) ff nn)) + (own_part (cs 4) (4 : Int32) ff nn)))]))
    refine own_st (fun t_ k_ => XS.iconst X244.here hx rfl (hb hby at_251) k_) ?_
    show own_Go p.tables e below _ (T244.setTop (mkF m 252 #[.val (.int p0), .val (.int p1), .val (.int p2), .val (.int p3), .val (.int p4), .val (.int p5), .val (.ref b171), .val (.ref b184), .val (.int ff), .val (.int nn), .val (.int (1 : Int32)), .unset, .unset] [(.int (5 : Int32)), (.ref b171), (.int (((((own_part (cs 0) (0 : Int32) ff nn) + (own_part (cs 1) (1 : Int32) ff nn)) + (own_part (cs 2) (2 : Int32) ff nn)) + (own_part (cs 3) (3 : Int32) ff nn)) + (own_part (cs 4) (4 : Int32) ff nn)))]))
    refine own_st (own_caload X244 hx hZ eq244 ((Acs.ext E184).keep Kq185 (ninS (Nat.ne_of_lt (Nat.lt_of_lt_of_le Acs.lt (Nat.le_of_eq g184.symm))) nin0)) (i := 5) (by decide) (by decide) (g := (mkF m 252 #[.val (.int p0), .val (.int p1), .val (.int p2), .val (.int p3), .val (.int p4), .val (.int p5), .val (.ref b171), .val (.ref b184), .val (.int ff), .val (.int nn), .val (.int (1 : Int32)), .unset, .unset] [(.int (5 : Int32)), (.ref b171), (.int (((((own_part (cs 0) (0 : Int32) ff nn) + (own_part (cs 1) (1 : Int32) ff nn)) + (own_part (cs 2) (2 : Int32) ff nn)) + (own_part (cs 3) (3 : Int32) ff nn)) + (own_part (cs 4) (4 : Int32) ff nn)))])) rfl rfl (hb hby at_252)) ?_
    show own_Go p.tables e below _ (T244.setTop (mkF m 253 #[.val (.int p0), .val (.int p1), .val (.int p2), .val (.int p3), .val (.int p4), .val (.int p5), .val (.ref b171), .val (.ref b184), .val (.int ff), .val (.int nn), .val (.int (1 : Int32)), .unset, .unset] [(.int (cs 5)), (.int (((((own_part (cs 0) (0 : Int32) ff nn) + (own_part (cs 1) (1 : Int32) ff nn)) + (own_part (cs 2) (2 : Int32) ff nn)) + (own_part (cs 3) (3 : Int32) ff nn)) + (own_part (cs 4) (4 : Int32) ff nn)))]))
    refine own_st (fun t_ k_ => XS.iconst X244.here hx rfl (hb hby at_253) k_) ?_
    show own_Go p.tables e below _ (T244.setTop (mkF m 254 #[.val (.int p0), .val (.int p1), .val (.int p2), .val (.int p3), .val (.int p4), .val (.int p5), .val (.ref b171), .val (.ref b184), .val (.int ff), .val (.int nn), .val (.int (1 : Int32)), .unset, .unset] [(.int (5 : Int32)), (.int (cs 5)), (.int (((((own_part (cs 0) (0 : Int32) ff nn) + (own_part (cs 1) (1 : Int32) ff nn)) + (own_part (cs 2) (2 : Int32) ff nn)) + (own_part (cs 3) (3 : Int32) ff nn)) + (own_part (cs 4) (4 : Int32) ff nn)))]))
    refine own_st (fun t_ k_ => XS.iload X244.here hx rfl (hb hby at_254) rfl k_) ?_
    show own_Go p.tables e below _ (T244.setTop (mkF m 256 #[.val (.int p0), .val (.int p1), .val (.int p2), .val (.int p3), .val (.int p4), .val (.int p5), .val (.ref b171), .val (.ref b184), .val (.int ff), .val (.int nn), .val (.int (1 : Int32)), .unset, .unset] [(.int ff), (.int (5 : Int32)), (.int (cs 5)), (.int (((((own_part (cs 0) (0 : Int32) ff nn) + (own_part (cs 1) (1 : Int32) ff nn)) + (own_part (cs 2) (2 : Int32) ff nn)) + (own_part (cs 3) (3 : Int32) ff nn)) + (own_part (cs 4) (4 : Int32) ff nn)))]))
    refine own_st (fun t_ k_ => XS.iload X244.here hx rfl (hb hby at_256) rfl k_) ?_
    show own_Go p.tables e below _ (T244.setTop (mkF m 258 #[.val (.int p0), .val (.int p1), .val (.int p2), .val (.int p3), .val (.int p4), .val (.int p5), .val (.ref b171), .val (.ref b184), .val (.int ff), .val (.int nn), .val (.int (1 : Int32)), .unset, .unset] [(.int nn), (.int ff), (.int (5 : Int32)), (.int (cs 5)), (.int (((((own_part (cs 0) (0 : Int32) ff nn) + (own_part (cs 1) (1 : Int32) ff nn)) + (own_part (cs 2) (2 : Int32) ff nn)) + (own_part (cs 3) (3 : Int32) ff nn)) + (own_part (cs 4) (4 : Int32) ff nn)))]))
    obtain ⟨_, _, ⟨T245, L245, k245, n245⟩, -, X245, ⟨Lc245, hQ245, l245, y245, z245⟩, st245⟩ := Jvm.LawKit.callS X244 hx (y := (⟨"com/example/nastro/nastro/model/DigitsValuePinLaw", "part", "(CIII)I"⟩ : MethodName)) hown (mvT hZ (hw _ (List.mem_of_getElem? (i := 41) rfl))) (mvT hZ (hw _ (List.mem_of_getElem? (i := 42) rfl))) (mvT hZ (hw _ (List.mem_of_getElem? (i := 3) rfl))) (mvT hZ (hw _ (List.mem_of_getElem? (i := 43) rfl))) (by decide) (backOf (W := 1) (own_rm10 l Z a0 hw [] (cs 5) (5 : Int32) ff nn T185.heap n0 (Nat.le_trans Z0 K185.1)) hZ (hw _ (List.mem_of_getElem? (i := 43) rfl)) (hw _ (List.mem_of_getElem? (i := 3) rfl)) (by decide) (by decide)) (g := (mkF m 258 #[.val (.int p0), .val (.int p1), .val (.int p2), .val (.int p3), .val (.int p4), .val (.int p5), .val (.ref b171), .val (.ref b184), .val (.int ff), .val (.int nn), .val (.int (1 : Int32)), .unset, .unset] [(.int nn), (.int ff), (.int (5 : Int32)), (.int (cs 5)), (.int (((((own_part (cs 0) (0 : Int32) ff nn) + (own_part (cs 1) (1 : Int32) ff nn)) + (own_part (cs 2) (2 : Int32) ff nn)) + (own_part (cs 3) (3 : Int32) ff nn)) + (own_part (cs 4) (4 : Int32) ff nn)))])) rfl (by rw [hml]; rfl) (argsL := [(.int (cs 5)), (.int (5 : Int32)), (.int ff), (.int nn)]) (rest := [(.int (((((own_part (cs 0) (0 : Int32) ff nn) + (own_part (cs 1) (1 : Int32) ff nn)) + (own_part (cs 2) (2 : Int32) ff nn)) + (own_part (cs 3) (3 : Int32) ff nn)) + (own_part (cs 4) (4 : Int32) ff nn)))]) (lenOf own_pd17 rfl) rfl (by show 2 * 0 + _ ≤ _; exact Nat.le_of_eq rfl) (hb hby at_258) (fun _ _ => ⟨rfl, eq244, (by decide : 4 + 0 ≤ _), (by decide : 28 + 0 ≤ _)⟩)
    dsimp only [Pt.U, Pt.locs, Pt.cells, Pt.slots] at X245 l245 y245 z245 st245 hQ245
    subst y245 z245
    obtain ⟨rfl, N245q, eq245⟩ := hQ245
    have N245 : Fr n0 L245 := by rw [l245]; exact Fr.app N244 N245q
    refine own_st (st245) ?_
    show own_Go p.tables e below _ (T245.setTop (mkF m 261 #[.val (.int p0), .val (.int p1), .val (.int p2), .val (.int p3), .val (.int p4), .val (.int p5), .val (.ref b171), .val (.ref b184), .val (.int ff), .val (.int nn), .val (.int (1 : Int32)), .unset, .unset] [(.int (own_part (cs 5) (5 : Int32) ff nn)), (.int (((((own_part (cs 0) (0 : Int32) ff nn) + (own_part (cs 1) (1 : Int32) ff nn)) + (own_part (cs 2) (2 : Int32) ff nn)) + (own_part (cs 3) (3 : Int32) ff nn)) + (own_part (cs 4) (4 : Int32) ff nn)))]))
    refine own_st (fun t_ k_ => XS.iadd X245.here hx rfl (hb hby at_261) rfl k_) ?_
    show own_Go p.tables e below _ (T245.setTop (mkF m 262 #[.val (.int p0), .val (.int p1), .val (.int p2), .val (.int p3), .val (.int p4), .val (.int p5), .val (.ref b171), .val (.ref b184), .val (.int ff), .val (.int nn), .val (.int (1 : Int32)), .unset, .unset] [(.int ((((((own_part (cs 0) (0 : Int32) ff nn) + (own_part (cs 1) (1 : Int32) ff nn)) + (own_part (cs 2) (2 : Int32) ff nn)) + (own_part (cs 3) (3 : Int32) ff nn)) + (own_part (cs 4) (4 : Int32) ff nn)) + (own_part (cs 5) (5 : Int32) ff nn)))]))
    refine own_st (fun t_ k_ => XS.istore X245.here hx rfl (hb hby at_262) rfl (l' := #[.val (.int p0), .val (.int p1), .val (.int p2), .val (.int p3), .val (.int p4), .val (.int p5), .val (.ref b171), .val (.ref b184), .val (.int ff), .val (.int nn), .val (.int (1 : Int32)), .val (.int ((((((own_part (cs 0) (0 : Int32) ff nn) + (own_part (cs 1) (1 : Int32) ff nn)) + (own_part (cs 2) (2 : Int32) ff nn)) + (own_part (cs 3) (3 : Int32) ff nn)) + (own_part (cs 4) (4 : Int32) ff nn)) + (own_part (cs 5) (5 : Int32) ff nn))), .unset]) rfl k_) ?_
    show own_Go p.tables e below _ (T245.setTop (mkF m 264 #[.val (.int p0), .val (.int p1), .val (.int p2), .val (.int p3), .val (.int p4), .val (.int p5), .val (.ref b171), .val (.ref b184), .val (.int ff), .val (.int nn), .val (.int (1 : Int32)), .val (.int ((((((own_part (cs 0) (0 : Int32) ff nn) + (own_part (cs 1) (1 : Int32) ff nn)) + (own_part (cs 2) (2 : Int32) ff nn)) + (own_part (cs 3) (3 : Int32) ff nn)) + (own_part (cs 4) (4 : Int32) ff nn)) + (own_part (cs 5) (5 : Int32) ff nn))), .unset] []))
    refine own_st (fun t_ k_ => XS.iload X245.here hx rfl (hb hby at_264) rfl k_) ?_
    show own_Go p.tables e below _ (T245.setTop (mkF m 266 #[.val (.int p0), .val (.int p1), .val (.int p2), .val (.int p3), .val (.int p4), .val (.int p5), .val (.ref b171), .val (.ref b184), .val (.int ff), .val (.int nn), .val (.int (1 : Int32)), .val (.int ((((((own_part (cs 0) (0 : Int32) ff nn) + (own_part (cs 1) (1 : Int32) ff nn)) + (own_part (cs 2) (2 : Int32) ff nn)) + (own_part (cs 3) (3 : Int32) ff nn)) + (own_part (cs 4) (4 : Int32) ff nn)) + (own_part (cs 5) (5 : Int32) ff nn))), .unset] [(.int (1 : Int32))]))
    refine own_st (fun t_ k_ => XS.ifNo X245.here hx rfl (hb hby at_266) rfl ((if0 _ _).trans (feq (by decide : ¬ ((1 : Int32) = (0 : Int32)))).1) k_) ?_
    show own_Go p.tables e below _ (T245.setTop (mkF m 269 #[.val (.int p0), .val (.int p1), .val (.int p2), .val (.int p3), .val (.int p4), .val (.int p5), .val (.ref b171), .val (.ref b184), .val (.int ff), .val (.int nn), .val (.int (1 : Int32)), .val (.int ((((((own_part (cs 0) (0 : Int32) ff nn) + (own_part (cs 1) (1 : Int32) ff nn)) + (own_part (cs 2) (2 : Int32) ff nn)) + (own_part (cs 3) (3 : Int32) ff nn)) + (own_part (cs 4) (4 : Int32) ff nn)) + (own_part (cs 5) (5 : Int32) ff nn))), .unset] []))
    refine own_st (fun t_ k_ => XS.iconst X245.here hx rfl (hb hby at_269) k_) ?_
    show own_Go p.tables e below _ (T245.setTop (mkF m 270 #[.val (.int p0), .val (.int p1), .val (.int p2), .val (.int p3), .val (.int p4), .val (.int p5), .val (.ref b171), .val (.ref b184), .val (.int ff), .val (.int nn), .val (.int (1 : Int32)), .val (.int ((((((own_part (cs 0) (0 : Int32) ff nn) + (own_part (cs 1) (1 : Int32) ff nn)) + (own_part (cs 2) (2 : Int32) ff nn)) + (own_part (cs 3) (3 : Int32) ff nn)) + (own_part (cs 4) (4 : Int32) ff nn)) + (own_part (cs 5) (5 : Int32) ff nn))), .unset] [(.int (-1 : Int32))]))
    refine own_st (fun t_ k_ => XS.goto X245.here hx rfl (pc0 := 270) (pc' := 275) rfl (hb hby at_270) (by decide) (by decide) k_) ?_
    show own_Go p.tables e below _ (T245.setTop (mkF m 275 #[.val (.int p0), .val (.int p1), .val (.int p2), .val (.int p3), .val (.int p4), .val (.int p5), .val (.ref b171), .val (.ref b184), .val (.int ff), .val (.int nn), .val (.int (1 : Int32)), .val (.int ((((((own_part (cs 0) (0 : Int32) ff nn) + (own_part (cs 1) (1 : Int32) ff nn)) + (own_part (cs 2) (2 : Int32) ff nn)) + (own_part (cs 3) (3 : Int32) ff nn)) + (own_part (cs 4) (4 : Int32) ff nn)) + (own_part (cs 5) (5 : Int32) ff nn))), .unset] [(.int (-1 : Int32))]))
    refine own_st (fun t_ k_ => XS.istore X245.here hx rfl (hb hby at_275) rfl (l' := #[.val (.int p0), .val (.int p1), .val (.int p2), .val (.int p3), .val (.int p4), .val (.int p5), .val (.ref b171), .val (.ref b184), .val (.int ff), .val (.int nn), .val (.int (1 : Int32)), .val (.int ((((((own_part (cs 0) (0 : Int32) ff nn) + (own_part (cs 1) (1 : Int32) ff nn)) + (own_part (cs 2) (2 : Int32) ff nn)) + (own_part (cs 3) (3 : Int32) ff nn)) + (own_part (cs 4) (4 : Int32) ff nn)) + (own_part (cs 5) (5 : Int32) ff nn))), .val (.int (-1 : Int32))]) rfl k_) ?_
    show own_Go p.tables e below _ (T245.setTop (mkF m 277 #[.val (.int p0), .val (.int p1), .val (.int p2), .val (.int p3), .val (.int p4), .val (.int p5), .val (.ref b171), .val (.ref b184), .val (.int ff), .val (.int nn), .val (.int (1 : Int32)), .val (.int ((((((own_part (cs 0) (0 : Int32) ff nn) + (own_part (cs 1) (1 : Int32) ff nn)) + (own_part (cs 2) (2 : Int32) ff nn)) + (own_part (cs 3) (3 : Int32) ff nn)) + (own_part (cs 4) (4 : Int32) ff nn)) + (own_part (cs 5) (5 : Int32) ff nn))), .val (.int (-1 : Int32))] []))
    refine own_st (fun t_ k_ => XS.aload X245.here hx rfl (hb hby at_277) rfl rfl k_) ?_
    show own_Go p.tables e below _ (T245.setTop (mkF m 279 #[.val (.int p0), .val (.int p1), .val (.int p2), .val (.int p3), .val (.int p4), .val (.int p5), .val (.ref b171), .val (.ref b184), .val (.int ff), .val (.int nn), .val (.int (1 : Int32)), .val (.int ((((((own_part (cs 0) (0 : Int32) ff nn) + (own_part (cs 1) (1 : Int32) ff nn)) + (own_part (cs 2) (2 : Int32) ff nn)) + (own_part (cs 3) (3 : Int32) ff nn)) + (own_part (cs 4) (4 : Int32) ff nn)) + (own_part (cs 5) (5 : Int32) ff nn))), .val (.int (-1 : Int32))] [(.ref b184)]))
    refine own_st (fun t_ k_ => XS.iload X245.here hx rfl (hb hby at_279) rfl k_) ?_
    show own_Go p.tables e below _ (T245.setTop (mkF m 281 #[.val (.int p0), .val (.int p1), .val (.int p2), .val (.int p3), .val (.int p4), .val (.int p5), .val (.ref b171), .val (.ref b184), .val (.int ff), .val (.int nn), .val (.int (1 : Int32)), .val (.int ((((((own_part (cs 0) (0 : Int32) ff nn) + (own_part (cs 1) (1 : Int32) ff nn)) + (own_part (cs 2) (2 : Int32) ff nn)) + (own_part (cs 3) (3 : Int32) ff nn)) + (own_part (cs 4) (4 : Int32) ff nn)) + (own_part (cs 5) (5 : Int32) ff nn))), .val (.int (-1 : Int32))] [(.int ff), (.ref b184)]))
    refine own_st (fun t_ k_ => XS.iload X245.here hx rfl (hb hby at_281) rfl k_) ?_
    show own_Go p.tables e below _ (T245.setTop (mkF m 283 #[.val (.int p0), .val (.int p1), .val (.int p2), .val (.int p3), .val (.int p4), .val (.int p5), .val (.ref b171), .val (.ref b184), .val (.int ff), .val (.int nn), .val (.int (1 : Int32)), .val (.int ((((((own_part (cs 0) (0 : Int32) ff nn) + (own_part (cs 1) (1 : Int32) ff nn)) + (own_part (cs 2) (2 : Int32) ff nn)) + (own_part (cs 3) (3 : Int32) ff nn)) + (own_part (cs 4) (4 : Int32) ff nn)) + (own_part (cs 5) (5 : Int32) ff nn))), .val (.int (-1 : Int32))] [(.int nn), (.int ff), (.ref b184)]))
    obtain ⟨_, _, ⟨T246, L246, k246, n246⟩, -, X246, ⟨Lc246, hQ246, l246, y246, z246⟩, st246⟩ := Jvm.LawKit.callS X245 hx (y := (⟨"com/example/nastro/nastro/model/Digits", "value", "(Ljava/lang/String;II)I"⟩ : MethodName)) hown (mvT hZ (hw _ (List.mem_of_getElem? (i := 44) rfl))) (mvT hZ (hw _ (List.mem_of_getElem? (i := 45) rfl))) (mvT hZ (hw _ (List.mem_of_getElem? (i := 46) rfl))) (mvT hZ (hw _ (List.mem_of_getElem? (i := 47) rfl))) (by decide) (backOf (W := 0) (own_rm11 l Z a0 hw [] b184 ff nn t_185 kt_185 cd_185 6 cs fm ct G1 G3 T185.heap n0 (Nat.le_trans Z0 K185.1) (A184.keep Kq185) P185_1 P185_2 P185_3 P185_4 (((((((((q0.ext E171).wr W173 ge171).wr W175 ge171).wr W177 ge171).wr W179 ge171).wr W181 ge171).wr W183 ge171).ext E184).keep Kq185 (allS ge184 all0)) q1 hG1 q3 rG3 q5 q6 q7 hall ⟨hfm, hct, (by omega), (by decide)⟩) hZ (hw _ (List.mem_of_getElem? (i := 47) rfl)) (hw _ (List.mem_of_getElem? (i := 46) rfl)) (by decide) (by decide)) (g := (mkF m 283 #[.val (.int p0), .val (.int p1), .val (.int p2), .val (.int p3), .val (.int p4), .val (.int p5), .val (.ref b171), .val (.ref b184), .val (.int ff), .val (.int nn), .val (.int (1 : Int32)), .val (.int ((((((own_part (cs 0) (0 : Int32) ff nn) + (own_part (cs 1) (1 : Int32) ff nn)) + (own_part (cs 2) (2 : Int32) ff nn)) + (own_part (cs 3) (3 : Int32) ff nn)) + (own_part (cs 4) (4 : Int32) ff nn)) + (own_part (cs 5) (5 : Int32) ff nn))), .val (.int (-1 : Int32))] [(.int nn), (.int ff), (.ref b184)])) rfl (by rw [hml]; rfl) (argsL := [(.ref b184), (.int ff), (.int nn)]) (rest := []) (lenOf own_pd18 rfl) rfl (by show 2 * 0 + _ ≤ _; exact Nat.le_of_eq rfl) (hb hby at_283) (fun _ _ => ⟨rfl, eq245, (by decide : 4 + 0 ≤ _), (by decide : 28 + 0 ≤ _)⟩)
    dsimp only [Pt.U, Pt.locs, Pt.cells, Pt.slots] at X246 l246 y246 z246 st246 hQ246
    subst y246 z246
    obtain ⟨rfl, N246q, eq246⟩ := hQ246
    have N246 : Fr n0 L246 := by rw [l246]; exact Fr.app N245 N246q
    refine own_st (st246) ?_
    show own_Go p.tables e below _ (T246.setTop (mkF m 286 #[.val (.int p0), .val (.int p1), .val (.int p2), .val (.int p3), .val (.int p4), .val (.int p5), .val (.ref b171), .val (.ref b184), .val (.int ff), .val (.int nn), .val (.int (1 : Int32)), .val (.int ((((((own_part (cs 0) (0 : Int32) ff nn) + (own_part (cs 1) (1 : Int32) ff nn)) + (own_part (cs 2) (2 : Int32) ff nn)) + (own_part (cs 3) (3 : Int32) ff nn)) + (own_part (cs 4) (4 : Int32) ff nn)) + (own_part (cs 5) (5 : Int32) ff nn))), .val (.int (-1 : Int32))] [(.int (own_dig cs ct fm 0))]))
    refine own_st (fun t_ k_ => XS.iload X246.here hx rfl (hb hby at_286) rfl k_) ?_
    show own_Go p.tables e below _ (T246.setTop (mkF m 288 #[.val (.int p0), .val (.int p1), .val (.int p2), .val (.int p3), .val (.int p4), .val (.int p5), .val (.ref b171), .val (.ref b184), .val (.int ff), .val (.int nn), .val (.int (1 : Int32)), .val (.int ((((((own_part (cs 0) (0 : Int32) ff nn) + (own_part (cs 1) (1 : Int32) ff nn)) + (own_part (cs 2) (2 : Int32) ff nn)) + (own_part (cs 3) (3 : Int32) ff nn)) + (own_part (cs 4) (4 : Int32) ff nn)) + (own_part (cs 5) (5 : Int32) ff nn))), .val (.int (-1 : Int32))] [(.int (-1 : Int32)), (.int (own_dig cs ct fm 0))]))
    refine own_st (fun t_ k_ => XS.icmpNo X246.here hx rfl (hb hby at_288) rfl (teq (own_lawB (i := 0) (k := 0) (by decide) hfm hct (by omega) c100_187 : (own_dig cs ct fm 0) = (-1 : Int32))).2 k_) ?_
    show own_Go p.tables e below _ (T246.setTop (mkF m 291 #[.val (.int p0), .val (.int p1), .val (.int p2), .val (.int p3), .val (.int p4), .val (.int p5), .val (.ref b171), .val (.ref b184), .val (.int ff), .val (.int nn), .val (.int (1 : Int32)), .val (.int ((((((own_part (cs 0) (0 : Int32) ff nn) + (own_part (cs 1) (1 : Int32) ff nn)) + (own_part (cs 2) (2 : Int32) ff nn)) + (own_part (cs 3) (3 : Int32) ff nn)) + (own_part (cs 4) (4 : Int32) ff nn)) + (own_part (cs 5) (5 : Int32) ff nn))), .val (.int (-1 : Int32))] []))
    refine own_st (fun t_ k_ => XS.iconst X246.here hx rfl (hb hby at_291) k_) ?_
    show own_Go p.tables e below _ (T246.setTop (mkF m 292 #[.val (.int p0), .val (.int p1), .val (.int p2), .val (.int p3), .val (.int p4), .val (.int p5), .val (.ref b171), .val (.ref b184), .val (.int ff), .val (.int nn), .val (.int (1 : Int32)), .val (.int ((((((own_part (cs 0) (0 : Int32) ff nn) + (own_part (cs 1) (1 : Int32) ff nn)) + (own_part (cs 2) (2 : Int32) ff nn)) + (own_part (cs 3) (3 : Int32) ff nn)) + (own_part (cs 4) (4 : Int32) ff nn)) + (own_part (cs 5) (5 : Int32) ff nn))), .val (.int (-1 : Int32))] [(.int (1 : Int32))]))
    refine own_st (fun t_ k_ => XS.goto X246.here hx rfl (pc0 := 292) (pc' := 296) rfl (hb hby at_292) (by decide) (by decide) k_) ?_
    show own_Go p.tables e below _ (T246.setTop (mkF m 296 #[.val (.int p0), .val (.int p1), .val (.int p2), .val (.int p3), .val (.int p4), .val (.int p5), .val (.ref b171), .val (.ref b184), .val (.int ff), .val (.int nn), .val (.int (1 : Int32)), .val (.int ((((((own_part (cs 0) (0 : Int32) ff nn) + (own_part (cs 1) (1 : Int32) ff nn)) + (own_part (cs 2) (2 : Int32) ff nn)) + (own_part (cs 3) (3 : Int32) ff nn)) + (own_part (cs 4) (4 : Int32) ff nn)) + (own_part (cs 5) (5 : Int32) ff nn))), .val (.int (-1 : Int32))] [(.int (1 : Int32))]))
    exact own_ret (w := (.int (1 : Int32))) X246 hx hnl Bd.returns rfl (Or.inl ⟨rfl, by decide, _, rfl⟩) (hb hby at_296) ⟨rfl, N246, (by rw [eq246]; exact K185)⟩ (by decide) (by decide)

set_option maxRecDepth 65536 in
set_option maxHeartbeats 40000000 in
theorem comes_1 {Post : Tables → Env → Array Value → State → Outcome → State → Prop} (hpost : ∀ tb e args s v u, (limb_1_1.after args s (.returned v) u = true ∧ limb_1_2.after args s (.returned v) u = true ∧ True) → FrameEnd s (.returned v) u (Jvm.fieldLocs frame_1_writes args s ++ Jvm.arrayLocs frame_1_arrays args s ++ Jvm.staticLocs frame_1_statics s) 16 128 → Post tb e args s (.returned v) u) :
    ArmFor flags0 classFile x code maxLocals ret World_1 tables_1 room_1 Calls_1 rest_1 Pre_1 Post := by
  intro l hfl _ _ p e ha hc hk s m args below hf hA hF happ hP
  obtain ⟨hcalls, hrest, hpre⟩ := hP
  obtain ⟨-, -, -, hnamed, -, -, -, hat⟩ := (Spec.applies_iff hf).mp happ
  obtain ⟨hg, hn⟩ := and_e (Cond.before_iff.mp (show (Jvm.Cond.and given_1 narrow_1).before args s = true from hpre))
  obtain ⟨hcount, g0⟩ := and_e hg
  obtain ⟨v0, g1⟩ := and_e g0
  obtain ⟨v1, g2⟩ := and_e g1
  obtain ⟨v2, g3⟩ := and_e g2
  obtain ⟨v3, g4⟩ := and_e g3
  obtain ⟨v4, g5⟩ := and_e g4
  have v5 := g5
  obtain ⟨w0, w1, w2, w3, w4, w5, rfl⟩ : ∃ w0 w1 w2 w3 w4 w5 : Value, args = #[w0, w1, w2, w3, w4, w5] := by
    have hs : args.size = 6 := by simpa [Cond.value, given_1] using hcount
    obtain ⟨L⟩ := args
    match L, hs with
    | [w0, w1, w2, w3, w4, w5], _ => exact ⟨w0, w1, w2, w3, w4, w5, rfl⟩
  have hw := fun d (hd : d ∈ tables_1) => atoms_spec (ws := Jvm.Cond.code x code maxLocals ret :: tables_1) hat d (List.mem_cons_of_mem _ hd)
  have hfit : Fit s := fun {y c} hc i hi => by
    obtain ⟨ha, rfl⟩ := Array.getElem?_eq_some_iff.mp hc
    have q := List.all_eq_true.mp ((Array.all_eq_true_iff_forall_mem.mp hF) _ (Array.getElem_mem ha)) i (List.mem_range.mpr hi)
    simpa [Array.getElem?_eq_getElem hi] using q
  obtain ⟨hsets, hown0⟩ := atoms_of _ (rest_1_c_eq ▸ (show rest_1_c.before _ s = true from hrest))
  have hr0 := Cond.before_iff.mp hown0
  obtain ⟨i0, ei0⟩ := is_v v0
  obtain rfl : w0 = (.int i0) := Option.some.inj ei0
  obtain ⟨i1, ei1⟩ := is_v v1
  obtain rfl : w1 = (.int i1) := Option.some.inj ei1
  obtain ⟨i2, ei2⟩ := is_v v2
  obtain rfl : w2 = (.int i2) := Option.some.inj ei2
  obtain ⟨i3, ei3⟩ := is_v v3
  obtain rfl : w3 = (.int i3) := Option.some.inj ei3
  obtain ⟨i4, ei4⟩ := is_v v4
  obtain rfl : w4 = (.int i4) := Option.some.inj ei4
  obtain ⟨i5, ei5⟩ := is_v v5
  obtain rfl : w5 = (.int i5) := Option.some.inj ei5
  obtain ⟨G1, eG1⟩ := is_v (Cond.before_iff.mp (hsets _ (List.mem_of_getElem? (i := 1) rfl)))
  have SG1 := Sta.start eG1 (Or.inl (hsets _ (List.mem_of_getElem? (i := 0) rfl)))
  have hG1 := own_neq0 eG1 (Cond.before_iff.mp (hsets _ (List.mem_of_getElem? (i := 2) rfl)))
  obtain ⟨G3, eG3, rG3⟩ := isR_v (Cond.before_iff.mp (hsets _ (List.mem_of_getElem? (i := 8) rfl)))
  have SG3 := Sta.start eG3 (Or.inl (hsets _ (List.mem_of_getElem? (i := 7) rfl)))
  have SA := Sta.start (own_eqI (Cond.before_iff.mp (hsets _ (List.mem_of_getElem? (i := 12) rfl)))) (Or.inl (hsets _ (List.mem_of_getElem? (i := 11) rfl)))
  have SH := Sta.start (own_eqI (Cond.before_iff.mp (hsets _ (List.mem_of_getElem? (i := 15) rfl)))) (Or.inl (hsets _ (List.mem_of_getElem? (i := 14) rfl)))
  have SL := Sta.start (own_eqI (Cond.before_iff.mp (hsets _ (List.mem_of_getElem? (i := 18) rfl)))) (Or.inl (hsets _ (List.mem_of_getElem? (i := 17) rfl)))
  obtain ⟨n, o, h1, h2, h3, _, L, rfl, ⟨rfl, N, -⟩, hq⟩ := own_rm0 l s _ hw tables_1 i0 i1 i2 i3 i4 i5 G1 G3 s.heap s.heap.size (Nat.le_refl _) (Old.start s) SG1 hG1 SG3 rG3 SA SH SL p e ha hc hk s m _ below hf ((Spec.applies_iff_loose hf).mp happ).1 ⟨rfl, State.Warmed39.refl s, rfl⟩ trivial
  refine ⟨n, _, h1, h2, h3, hpost _ _ _ _ _ _ ⟨Cond.after_iff.mpr rfl, Cond.after_iff.mpr (eq_i res_at (Term.int_eval (1)) rfl), trivial⟩ ⟨hq.1, hq.2.1, (hq.2.2.sift fun y hy => Or.inr (N y hy)).mono (by decide) (by decide)⟩⟩
theorem main_1_1 : Claimed_1_1 := comes_1 fun _ _ _ _ _ _ h hF => ⟨h.1, hF⟩
theorem main_1_2 : Claimed_1_2 := comes_1 fun _ _ _ _ _ _ h hF => ⟨h.2.1, hF⟩

end Jvm.Pilot.@@N@@
namespace Jvm.Pilot.@@N@@
open Jvm Jvm.ClassFile Sem Op Lib Jvm.Free Jvm.Stand Jvm.Pilot.@@N@@.Jvm.D
/-! MADE BY PROGRAM (witnessworld.py) out of the Statement's table words and the real class files: 20 classes; the members and pool entries that the words name. The judged class is class 1, her method 1. -/
namespace start1
open Jvm.ClassFile
def u (s : String) : CpInfo := .utf8 (stringToUtf16 s)
/-- a pool by its gaps: so many unusable entries, then the entry; so many at the end -/
def gap : Nat → List CpInfo → List CpInfo
  | 0, r => r
  | n + 1, r => .unusable :: gap n r
def poolList (es : List (Nat × CpInfo)) (last : Nat) : List CpInfo := es.foldr (fun e r => gap e.1 (e.2 :: r)) (gap last [])
def pool (es : List (Nat × CpInfo)) (last : Nat) : Array CpInfo := ⟨poolList es last⟩
def fileOf (pool : Array CpInfo) (this : Nat) (attrs : Array Attribute := #[]) (ms : Array MethodInfo := #[]) (fl : Nat := 33) (sup : Nat := 0) (ifs : Array Nat := #[]) (fds : Array FieldInfo := #[]) : ClassFile where
  minorVersion := 0
  majorVersion := 65
  constantPool := pool
  accessFlags := fl
  thisClass := this
  superClass := sup
  interfaces := ifs
  fields := fds
  methods := ms
  attributes := attrs
def plain (name : String) (sup : Option ClassId) : Class where
  name := name
  kind := .ordinary
  loader := none
  accessFlags := 33
  super := sup
  interfaces := #[]
  cf := none
  fields := #[]
  methods := #[]
  instanceTypes := #[]
  staticTypes := #[]
  resolved := #[]
  callSites := []
  init := .initialized
  statics := none
  mirror := none

def pool0 : Array CpInfo := pool [(5, u "<init>"), (0, u "()V"), (1, .class_ 10), (1, u "java/lang/Object")] 113

def k0c0 : Code := { maxStack := 0, maxLocals := 1, code := object_method_1_code, exceptionTable := #[], attributes := #[] }
def k0m0 : Method := { name := "<init>", desc := "()V", sig := { parameters := [], returnType := none }, accessFlags := 1, code := some k0c0 }
/-- java/lang/Object -/
def k0 : Class := { plain "java/lang/Object" none with
  accessFlags := 33
  interfaces := #[]
  cf := some (fileOf pool0 8 #[] #[{ accessFlags := 1, nameIndex := 5, descriptorIndex := 6, attributes := #[] }] 33 0 #[] #[])
  fields := #[]
  methods := #[k0m0]
  instanceTypes := #[]
  staticTypes := #[]
  resolved := Array.replicate 124 none
  statics := none }

def pool1 : Array CpInfo := pool [(2, .class_ 4), (1, u "java/lang/Object"), (0, u "<init>"), (0, u "()V"), (0, .methodref 8 9), (0, .class_ 10), (0, .nameAndType 11 12), (0, u "com/example/nastro/nastro/model/DigitsValuePinLaw"), (0, u "mk"), (0, u "(I)C"), (0, .class_ 14), (0, u "java/lang/String"), (0, .methodref 13 16), (0, .nameAndType 5 17), (0, u "([C)V"), (0, .methodref 8 19), (0, .nameAndType 20 21), (0, u "bad"), (0, u "(CIII)Z"), (0, .methodref 8 23), (0, .nameAndType 24 25), (0, u "part"), (0, u "(CIII)I"), (0, .methodref 27 28), (0, .class_ 29), (0, .nameAndType 30 31), (0, u "com/example/nastro/nastro/model/Digits"), (0, u "value"), (0, u "(Ljava/lang/String;II)I"), (0, .integer 65535), (0, .methodref 8 34), (0, .nameAndType 35 36), (0, u "in"), (0, u "(III)Z"), (0, .methodref 8 38), (0, .nameAndType 39 40), (0, u "pow10"), (0, u "(I)I"), (0, .integer 100000), (2, u "law"), (0, u "(IIIIII)Z")] 5

def k1m0 : Method := { name := "<init>", desc := "()V", sig := { parameters := [], returnType := none }, accessFlags := 1, code := none }
def k1c1 : Code := { maxStack := 5, maxLocals := 13, code := code, exceptionTable := #[], attributes := #[] }
def k1m1 : Method := { name := "law", desc := "(IIIIII)Z", sig := { parameters := [.int, .int, .int, .int, .int, .int], returnType := some .boolean }, accessFlags := 9, code := some k1c1 }
def k1c2 : Code := { maxStack := 3, maxLocals := 2, code := method_3_code, exceptionTable := #[], attributes := #[] }
def k1m2 : Method := { name := "mk", desc := "(I)C", sig := { parameters := [.int], returnType := some .char }, accessFlags := 10, code := some k1c2 }
def k1c3 : Code := { maxStack := 3, maxLocals := 3, code := method_4_code, exceptionTable := #[], attributes := #[] }
def k1m3 : Method := { name := "in", desc := "(III)Z", sig := { parameters := [.int, .int, .int], returnType := some .boolean }, accessFlags := 10, code := some k1c3 }
def k1c4 : Code := { maxStack := 3, maxLocals := 4, code := method_5_code, exceptionTable := #[], attributes := #[] }
def k1m4 : Method := { name := "bad", desc := "(CIII)Z", sig := { parameters := [.char, .int, .int, .int], returnType := some .boolean }, accessFlags := 10, code := some k1c4 }
def k1c5 : Code := { maxStack := 3, maxLocals := 4, code := method_6_code, exceptionTable := #[], attributes := #[] }
def k1m5 : Method := { name := "part", desc := "(CIII)I", sig := { parameters := [.char, .int, .int, .int], returnType := some .int }, accessFlags := 10, code := some k1c5 }
def k1c6 : Code := { maxStack := 2, maxLocals := 1, code := method_7_code, exceptionTable := #[], attributes := #[] }
def k1m6 : Method := { name := "pow10", desc := "(I)I", sig := { parameters := [.int], returnType := some .int }, accessFlags := 10, code := some k1c6 }
/-- com/example/nastro/nastro/model/DigitsValuePinLaw -/
def k1 : Class := { plain "com/example/nastro/nastro/model/DigitsValuePinLaw" (some 0) with
  accessFlags := 49
  interfaces := #[]
  cf := some (fileOf pool1 8 #[] #[{ accessFlags := 1, nameIndex := 5, descriptorIndex := 6, attributes := #[] }, { accessFlags := 9, nameIndex := 44, descriptorIndex := 45, attributes := #[] }, { accessFlags := 10, nameIndex := 11, descriptorIndex := 12, attributes := #[] }, { accessFlags := 10, nameIndex := 35, descriptorIndex := 36, attributes := #[] }, { accessFlags := 10, nameIndex := 20, descriptorIndex := 21, attributes := #[] }, { accessFlags := 10, nameIndex := 24, descriptorIndex := 25, attributes := #[] }, { accessFlags := 10, nameIndex := 39, descriptorIndex := 40, attributes := #[] }] 49 2 #[] #[])
  fields := #[]
  methods := #[k1m0, k1m1, k1m2, k1m3, k1m4, k1m5, k1m6]
  instanceTypes := #[]
  staticTypes := #[]
  resolved := Array.replicate 51 none
  statics := none }

def pool2 : Array CpInfo := pool [(1, .class_ 2), (0, u "java/io/Serializable"), (0, .class_ 4), (0, u "java/lang/Object")] 2

/-- java/io/Serializable -/
def k2 : Class := { plain "java/io/Serializable" (some 0) with
  accessFlags := 1537
  interfaces := #[]
  cf := some (fileOf pool2 1 #[] #[] 1537 3 #[] #[])
  fields := #[]
  methods := #[]
  instanceTypes := #[]
  staticTypes := #[]
  resolved := Array.replicate 7 none
  statics := none }

def pool3 : Array CpInfo := pool [(1, .class_ 2), (0, u "java/lang/Comparable"), (0, .class_ 4), (0, u "java/lang/Object")] 7

/-- java/lang/Comparable -/
def k3 : Class := { plain "java/lang/Comparable" (some 0) with
  accessFlags := 1537
  interfaces := #[]
  cf := some (fileOf pool3 1 #[] #[] 1537 3 #[] #[])
  fields := #[]
  methods := #[]
  instanceTypes := #[]
  staticTypes := #[]
  resolved := Array.replicate 12 none
  statics := none }

def pool4 : Array CpInfo := pool [(2, .class_ 4), (1, u "java/lang/CharSequence"), (42, .class_ 48), (0, u "java/lang/CharSequence$1CodePointIterator"), (10, .class_ 60), (0, u "java/lang/CharSequence$1CharIterator"), (5, .class_ 67), (0, u "java/lang/Object")] 63

/-- java/lang/CharSequence -/
def k4 : Class := { plain "java/lang/CharSequence" (some 0) with
  accessFlags := 1537
  interfaces := #[]
  cf := some (fileOf pool4 2 #[.nestMembers #[47, 59]] #[] 1537 66 #[] #[])
  fields := #[]
  methods := #[]
  instanceTypes := #[]
  staticTypes := #[]
  resolved := Array.replicate 131 none
  statics := none }

def pool5 : Array CpInfo := pool [(1, .class_ 2), (0, u "java/lang/constant/Constable"), (0, .class_ 4), (0, u "java/lang/Object")] 6

/-- java/lang/constant/Constable -/
def k5 : Class := { plain "java/lang/constant/Constable" (some 0) with
  accessFlags := 1537
  interfaces := #[]
  cf := some (fileOf pool5 1 #[] #[] 1537 3 #[] #[])
  fields := #[]
  methods := #[]
  instanceTypes := #[]
  staticTypes := #[]
  resolved := Array.replicate 11 none
  statics := none }

def pool6 : Array CpInfo := pool [(1, .class_ 2), (0, u "java/lang/constant/ConstantDesc"), (0, .class_ 4), (0, u "java/lang/Object")] 32

/-- java/lang/constant/ConstantDesc -/
def k6 : Class := { plain "java/lang/constant/ConstantDesc" (some 0) with
  accessFlags := 1537
  interfaces := #[]
  cf := some (fileOf pool6 1 #[] #[] 1537 3 #[] #[])
  fields := #[]
  methods := #[]
  instanceTypes := #[]
  staticTypes := #[]
  resolved := Array.replicate 37 none
  statics := none }

def pool7 : Array CpInfo := pool [(1, .methodref 2 3), (0, .class_ 4), (0, .nameAndType 5 6), (0, u "java/lang/Object"), (0, u "<init>"), (0, u "()V"), (2, .fieldref 10 11), (0, .class_ 12), (0, .nameAndType 13 14), (0, u "java/lang/String"), (0, u "value"), (0, u "[B"), (0, .fieldref 10 16), (0, .nameAndType 17 18), (0, u "coder"), (0, u "B"), (2, u "hash"), (0, u "I"), (2, u "hashIsZero"), (0, u "Z"), (0, .methodref 10 28), (0, .nameAndType 5 29), (0, u "([CIILjava/lang/Void;)V"), (8, .fieldref 10 39), (0, .nameAndType 40 26), (0, u "COMPACT_STRINGS"), (1, .class_ 44), (1, u "java/lang/StringUTF16"), (0, u "compress"), (1, .methodref 42 48), (0, .nameAndType 49 50), (0, u "coderFromArrayLen"), (0, u "([BI)B"), (56, .class_ 109), (1, u "java/lang/StringLatin1"), (32, u "()Z"), (34, .methodref 42 178), (0, .nameAndType 45 179), (0, u "([CII)[B"), (183, u "([BI)C"), (27, u "(II)V"), (35, u "(I)C"), (64, .methodref 10 493), (0, .nameAndType 494 142), (0, u "isLatin1"), (0, .methodref 107 496), (0, .nameAndType 497 363), (0, u "charAt"), (0, .methodref 42 496), (2, u "checkIndex"), (73, .class_ 576), (0, u "java/lang/CharSequence"), (22, u "CASE_INSENSITIVE_ORDER"), (0, u "Ljava/util/Comparator;"), (409, u "([C)V"), (42, .fieldref 1054 1055), (0, .class_ 1056), (0, .nameAndType 1057 1058), (0, u "jdk/internal/util/Preconditions"), (0, u "SIOOBE_FORMATTER"), (0, u "Ljava/util/function/BiFunction;"), (0, .methodref 1054 1060), (0, .nameAndType 501 1061), (0, u "(IILjava/util/function/BiFunction;)I"), (39, u "serialPersistentFields"), (0, u "[Ljava/io/ObjectStreamField;"), (0, .class_ 1104), (0, u "java/lang/String$CaseInsensitiveComparator"), (1, .class_ 1107), (0, u "java/io/Serializable"), (0, .class_ 1109), (0, u "java/lang/Comparable"), (0, .class_ 1111), (0, u "java/lang/constant/Constable"), (0, .class_ 1113), (0, u "java/lang/constant/ConstantDesc"), (2, u "serialVersionUID"), (0, u "J"), (3, u "REPL"), (0, u "C"), (2, u "LATIN1"), (1, u "UTF16")] 323

def k7m0 : Method := { name := "<init>", desc := "()V", sig := { parameters := [], returnType := none }, accessFlags := 1, code := none }
def k7c1 : Code := { maxStack := 5, maxLocals := 2, code := jdk_42_method_3_code, exceptionTable := #[], attributes := #[] }
def k7m1 : Method := { name := "<init>", desc := "([C)V", sig := { parameters := [(.array .char)], returnType := none }, accessFlags := 1, code := some k7c1 }
def k7c2 : Code := { maxStack := 2, maxLocals := 2, code := jdk_42_method_56_code, exceptionTable := #[], attributes := #[] }
def k7m2 : Method := { name := "charAt", desc := "(I)C", sig := { parameters := [.int], returnType := some .char }, accessFlags := 1, code := some k7c2 }
def k7c3 : Code := { maxStack := 4, maxLocals := 6, code := jdk_42_method_149_code, exceptionTable := #[], attributes := #[] }
def k7m3 : Method := { name := "<init>", desc := "([CIILjava/lang/Void;)V", sig := { parameters := [(.array .char), .int, .int, (.object "java/lang/Void")], returnType := none }, accessFlags := 2, code := some k7c3 }
def k7c4 : Code := { maxStack := 1, maxLocals := 1, code := jdk_42_method_154_code, exceptionTable := #[], attributes := #[] }
def k7m4 : Method := { name := "isLatin1", desc := "()Z", sig := { parameters := [], returnType := some .boolean }, accessFlags := 0, code := some k7c4 }
def k7c5 : Code := { maxStack := 3, maxLocals := 2, code := jdk_42_method_155_code, exceptionTable := #[], attributes := #[] }
def k7m5 : Method := { name := "checkIndex", desc := "(II)V", sig := { parameters := [.int, .int], returnType := none }, accessFlags := 8, code := some k7c5 }
/-- java/lang/String -/
def k7 : Class := { plain "java/lang/String" (some 0) with
  accessFlags := 49
  interfaces := #[2, 3, 4, 5, 6]
  cf := some (fileOf pool7 10 #[.nestMembers #[1103]] #[{ accessFlags := 1, nameIndex := 5, descriptorIndex := 6, attributes := #[] }, { accessFlags := 1, nameIndex := 5, descriptorIndex := 1010, attributes := #[] }, { accessFlags := 1, nameIndex := 497, descriptorIndex := 427, attributes := #[] }, { accessFlags := 2, nameIndex := 5, descriptorIndex := 29, attributes := #[] }, { accessFlags := 0, nameIndex := 494, descriptorIndex := 142, attributes := #[] }, { accessFlags := 8, nameIndex := 501, descriptorIndex := 391, attributes := #[] }] 49 2 #[1106, 1108, 575, 1110, 1112] #[{ accessFlags := 18, nameIndex := 13, descriptorIndex := 14, attributes := #[] }, { accessFlags := 18, nameIndex := 17, descriptorIndex := 18, attributes := #[] }, { accessFlags := 2, nameIndex := 21, descriptorIndex := 22, attributes := #[] }, { accessFlags := 2, nameIndex := 25, descriptorIndex := 26, attributes := #[] }, { accessFlags := 26, nameIndex := 1116, descriptorIndex := 1117, attributes := #[] }, { accessFlags := 24, nameIndex := 40, descriptorIndex := 26, attributes := #[] }, { accessFlags := 26, nameIndex := 1101, descriptorIndex := 1102, attributes := #[] }, { accessFlags := 26, nameIndex := 1121, descriptorIndex := 1122, attributes := #[] }, { accessFlags := 25, nameIndex := 599, descriptorIndex := 600, attributes := #[] }, { accessFlags := 24, nameIndex := 1125, descriptorIndex := 18, attributes := #[] }, { accessFlags := 24, nameIndex := 1127, descriptorIndex := 18, attributes := #[] }])
  fields := #[{ name := "value", type := (.array .byte), accessFlags := 18, slot := 0, constantValue := 0 }, { name := "coder", type := .byte, accessFlags := 18, slot := 1, constantValue := 0 }, { name := "hash", type := .int, accessFlags := 2, slot := 2, constantValue := 0 }, { name := "hashIsZero", type := .boolean, accessFlags := 2, slot := 3, constantValue := 0 }, { name := "serialVersionUID", type := .long, accessFlags := 26, slot := 0, constantValue := 0 }, { name := "COMPACT_STRINGS", type := .boolean, accessFlags := 24, slot := 1, constantValue := 0 }, { name := "serialPersistentFields", type := (.array (.object "java/io/ObjectStreamField")), accessFlags := 26, slot := 2, constantValue := 0 }, { name := "REPL", type := .char, accessFlags := 26, slot := 3, constantValue := 0 }, { name := "CASE_INSENSITIVE_ORDER", type := (.object "java/util/Comparator"), accessFlags := 25, slot := 4, constantValue := 0 }, { name := "LATIN1", type := .byte, accessFlags := 24, slot := 5, constantValue := 0 }, { name := "UTF16", type := .byte, accessFlags := 24, slot := 6, constantValue := 0 }]
  methods := #[k7m0, k7m1, k7m2, k7m3, k7m4, k7m5]
  instanceTypes := #[(.array .byte), .byte, .int, .boolean]
  staticTypes := #[.long, .boolean, (.array (.object "java/io/ObjectStreamField")), .char, (.object "java/util/Comparator"), .byte, .byte]
  resolved := Array.replicate 1451 none
  statics := some 0 }

def pool8 : Array CpInfo := pool [(3, .class_ 4), (0, u "java/lang/String"), (1, .class_ 8), (1, u "java/lang/Object"), (0, u "<init>"), (0, u "()V"), (0, .methodref 12 13), (0, .class_ 14), (0, .nameAndType 15 16), (0, u "java/lang/StringUTF16"), (0, u "newBytesLength"), (0, u "(I)I"), (3, .integer 1073741823), (23, .fieldref 12 45), (0, .nameAndType 46 47), (0, u "$assertionsDisabled"), (0, u "Z"), (0, .methodref 12 49), (0, .nameAndType 50 51), (0, u "length"), (0, u "([B)I"), (7, .fieldref 12 60), (0, .nameAndType 61 62), (0, u "HI_BYTE_SHIFT"), (0, u "I"), (0, .fieldref 12 64), (0, .nameAndType 65 62), (0, u "LO_BYTE_SHIFT"), (1, .methodref 12 68), (0, .nameAndType 69 70), (0, u "checkIndex"), (0, u "(I[B)V"), (0, .methodref 12 72), (0, .nameAndType 73 74), (0, u "getChar"), (0, u "([BI)C"), (32, .methodref 12 108), (0, .nameAndType 109 110), (0, u "newBytesFor"), (0, u "(I)[B"), (0, .methodref 12 112), (0, .nameAndType 113 114), (0, u "putChar"), (0, u "([BII)V"), (0, .methodref 12 116), (0, .nameAndType 117 118), (0, u "compress"), (0, u "([CI[BII)I"), (0, .methodref 12 120), (0, .nameAndType 121 122), (0, u "toBytes"), (0, u "([CII)[B"), (138, u "coderFromArrayLen"), (0, u "([BI)B"), (106, .class_ 371), (1, u "java/lang/StringUTF16$LinesSpliterator"), (20, u "charAt"), (21, .methodref 3 415), (0, .nameAndType 69 416), (0, u "(II)V"), (13, u "MAX_LENGTH"), (196, .class_ 628), (0, u "java/lang/StringUTF16$CodePointsSpliterator"), (0, .class_ 630), (0, u "java/lang/StringUTF16$CharsSpliterator")] 4

def k8m0 : Method := { name := "<init>", desc := "()V", sig := { parameters := [], returnType := none }, accessFlags := 0, code := none }
def k8c1 : Code := { maxStack := 1, maxLocals := 1, code := jdk_52_method_2_code, exceptionTable := #[], attributes := #[] }
def k8m1 : Method := { name := "newBytesFor", desc := "(I)[B", sig := { parameters := [.int], returnType := some (.array .byte) }, accessFlags := 9, code := some k8c1 }
def k8c2 : Code := { maxStack := 4, maxLocals := 1, code := jdk_52_method_3_code, exceptionTable := #[], attributes := #[] }
def k8m2 : Method := { name := "newBytesLength", desc := "(I)I", sig := { parameters := [.int], returnType := some .int }, accessFlags := 9, code := some k8c2 }
def k8c3 : Code := { maxStack := 4, maxLocals := 3, code := jdk_52_method_4_code, exceptionTable := #[], attributes := #[] }
def k8m3 : Method := { name := "putChar", desc := "([BII)V", sig := { parameters := [(.array .byte), .int, .int], returnType := none }, accessFlags := 8, code := some k8c3 }
def k8c4 : Code := { maxStack := 3, maxLocals := 2, code := jdk_52_method_5_code, exceptionTable := #[], attributes := #[] }
def k8m4 : Method := { name := "getChar", desc := "([BI)C", sig := { parameters := [(.array .byte), .int], returnType := some .char }, accessFlags := 8, code := some k8c4 }
def k8c5 : Code := { maxStack := 2, maxLocals := 1, code := jdk_52_method_6_code, exceptionTable := #[], attributes := #[] }
def k8m5 : Method := { name := "length", desc := "([B)I", sig := { parameters := [(.array .byte)], returnType := some .int }, accessFlags := 9, code := some k8c5 }
def k8c6 : Code := { maxStack := 4, maxLocals := 5, code := jdk_52_method_14_code, exceptionTable := #[], attributes := #[] }
def k8m6 : Method := { name := "toBytes", desc := "([CII)[B", sig := { parameters := [(.array .char), .int, .int], returnType := some (.array .byte) }, accessFlags := 9, code := some k8c6 }
def k8c7 : Code := { maxStack := 2, maxLocals := 2, code := jdk_52_method_15_code, exceptionTable := #[], attributes := #[] }
def k8m7 : Method := { name := "coderFromArrayLen", desc := "([BI)B", sig := { parameters := [(.array .byte), .int], returnType := some .byte }, accessFlags := 8, code := some k8c7 }
def k8c8 : Code := { maxStack := 5, maxLocals := 6, code := jdk_52_method_16_code, exceptionTable := #[], attributes := #[] }
def k8m8 : Method := { name := "compress", desc := "([CII)[B", sig := { parameters := [(.array .char), .int, .int], returnType := some (.array .byte) }, accessFlags := 9, code := some k8c8 }
def k8c9 : Code := { maxStack := 3, maxLocals := 7, code := jdk_52_method_21_code, exceptionTable := #[], attributes := #[] }
def k8m9 : Method := { name := "compress", desc := "([CI[BII)I", sig := { parameters := [(.array .char), .int, (.array .byte), .int, .int], returnType := some .int }, accessFlags := 9, code := some k8c9 }
def k8c10 : Code := { maxStack := 2, maxLocals := 2, code := jdk_52_method_83_code, exceptionTable := #[], attributes := #[] }
def k8m10 : Method := { name := "charAt", desc := "([BI)C", sig := { parameters := [(.array .byte), .int], returnType := some .char }, accessFlags := 9, code := some k8c10 }
def k8c11 : Code := { maxStack := 2, maxLocals := 2, code := jdk_52_method_91_code, exceptionTable := #[], attributes := #[] }
def k8m11 : Method := { name := "checkIndex", desc := "(I[B)V", sig := { parameters := [.int, (.array .byte)], returnType := none }, accessFlags := 9, code := some k8c11 }
/-- java/lang/StringUTF16 -/
def k8 : Class := { plain "java/lang/StringUTF16" (some 0) with
  accessFlags := 48
  interfaces := #[]
  cf := some (fileOf pool8 12 #[.nestMembers #[627, 629, 369]] #[{ accessFlags := 0, nameIndex := 9, descriptorIndex := 10, attributes := #[] }, { accessFlags := 9, nameIndex := 109, descriptorIndex := 110, attributes := #[] }, { accessFlags := 9, nameIndex := 15, descriptorIndex := 16, attributes := #[] }, { accessFlags := 8, nameIndex := 113, descriptorIndex := 114, attributes := #[] }, { accessFlags := 8, nameIndex := 73, descriptorIndex := 74, attributes := #[] }, { accessFlags := 9, nameIndex := 50, descriptorIndex := 51, attributes := #[] }, { accessFlags := 9, nameIndex := 121, descriptorIndex := 122, attributes := #[] }, { accessFlags := 8, nameIndex := 261, descriptorIndex := 262, attributes := #[] }, { accessFlags := 9, nameIndex := 117, descriptorIndex := 122, attributes := #[] }, { accessFlags := 9, nameIndex := 117, descriptorIndex := 118, attributes := #[] }, { accessFlags := 9, nameIndex := 392, descriptorIndex := 74, attributes := #[] }, { accessFlags := 9, nameIndex := 69, descriptorIndex := 70, attributes := #[] }] 48 6 #[] #[{ accessFlags := 26, nameIndex := 61, descriptorIndex := 62, attributes := #[] }, { accessFlags := 26, nameIndex := 65, descriptorIndex := 62, attributes := #[] }, { accessFlags := 24, nameIndex := 430, descriptorIndex := 62, attributes := #[] }, { accessFlags := 4120, nameIndex := 46, descriptorIndex := 47, attributes := #[] }])
  fields := #[{ name := "HI_BYTE_SHIFT", type := .int, accessFlags := 26, slot := 0, constantValue := 0 }, { name := "LO_BYTE_SHIFT", type := .int, accessFlags := 26, slot := 1, constantValue := 0 }, { name := "MAX_LENGTH", type := .int, accessFlags := 24, slot := 2, constantValue := 0 }, { name := "$assertionsDisabled", type := .boolean, accessFlags := 4120, slot := 3, constantValue := 0 }]
  methods := #[k8m0, k8m1, k8m2, k8m3, k8m4, k8m5, k8m6, k8m7, k8m8, k8m9, k8m10, k8m11]
  instanceTypes := #[]
  staticTypes := #[.int, .int, .int, .boolean]
  resolved := Array.replicate 635 none
  statics := some 1 }

def pool9 : Array CpInfo := pool [(4, .class_ 6), (1, u "java/lang/Object"), (0, u "<init>"), (0, u "()V"), (1, .class_ 12), (1, u "java/lang/String"), (2, .methodref 10 16), (0, .nameAndType 17 18), (0, u "charAt"), (0, u "(I)C"), (0, .class_ 20), (0, u "com/example/nastro/nastro/model/Digits"), (6, u "EXPONENT_LIMIT"), (0, u "J"), (6, u "value"), (0, u "(Ljava/lang/String;II)I")] 4

def k9m0 : Method := { name := "<init>", desc := "()V", sig := { parameters := [], returnType := none }, accessFlags := 2, code := none }
def k9c1 : Code := { maxStack := 3, maxLocals := 6, code := prog_36_method_3_code, exceptionTable := #[], attributes := #[] }
def k9m1 : Method := { name := "value", desc := "(Ljava/lang/String;II)I", sig := { parameters := [(.object "java/lang/String"), .int, .int], returnType := some .int }, accessFlags := 9, code := some k9c1 }
/-- com/example/nastro/nastro/model/Digits -/
def k9 : Class := { plain "com/example/nastro/nastro/model/Digits" (some 0) with
  accessFlags := 33
  interfaces := #[]
  cf := some (fileOf pool9 19 #[] #[{ accessFlags := 2, nameIndex := 7, descriptorIndex := 8, attributes := #[] }, { accessFlags := 9, nameIndex := 35, descriptorIndex := 36, attributes := #[] }] 33 4 #[] #[{ accessFlags := 26, nameIndex := 27, descriptorIndex := 28, attributes := #[] }])
  fields := #[{ name := "EXPONENT_LIMIT", type := .long, accessFlags := 26, slot := 0, constantValue := 0 }]
  methods := #[k9m0, k9m1]
  instanceTypes := #[]
  staticTypes := #[.long]
  resolved := Array.replicate 41 none
  statics := none }

def pool10 : Array CpInfo := pool [(2, .class_ 4), (1, u "java/lang/Object"), (0, u "<init>"), (0, u "()V"), (17, .class_ 26), (1, u "jdk/internal/util/Preconditions"), (6, u "checkIndex"), (21, .class_ 56), (0, u "jdk/internal/util/Preconditions$4"), (57, .class_ 115), (0, u "jdk/internal/util/Preconditions$1"), (7, u "SIOOBE_FORMATTER"), (0, u "Ljava/util/function/BiFunction;"), (0, .class_ 126), (0, u "jdk/internal/util/Preconditions$2"), (3, u "AIOOBE_FORMATTER"), (0, .class_ 132), (0, u "jdk/internal/util/Preconditions$3"), (3, u "IOOBE_FORMATTER"), (41, u "(IILjava/util/function/BiFunction;)I")] 15

def k10m0 : Method := { name := "<init>", desc := "()V", sig := { parameters := [], returnType := none }, accessFlags := 1, code := none }
def k10c1 : Code := { maxStack := 3, maxLocals := 3, code := jdk_41_method_11_code, exceptionTable := #[], attributes := #[] }
def k10m1 : Method := { name := "checkIndex", desc := "(IILjava/util/function/BiFunction;)I", sig := { parameters := [.int, .int, (.object "java/util/function/BiFunction")], returnType := some .int }, accessFlags := 9, code := some k10c1 }
/-- jdk/internal/util/Preconditions -/
def k10 : Class := { plain "jdk/internal/util/Preconditions" (some 0) with
  accessFlags := 33
  interfaces := #[]
  cf := some (fileOf pool10 24 #[.nestMembers #[55, 131, 125, 114]] #[{ accessFlags := 1, nameIndex := 5, descriptorIndex := 6, attributes := #[] }, { accessFlags := 9, nameIndex := 33, descriptorIndex := 178, attributes := #[] }] 33 2 #[] #[{ accessFlags := 25, nameIndex := 123, descriptorIndex := 124, attributes := #[] }, { accessFlags := 25, nameIndex := 130, descriptorIndex := 124, attributes := #[] }, { accessFlags := 25, nameIndex := 136, descriptorIndex := 124, attributes := #[] }])
  fields := #[{ name := "SIOOBE_FORMATTER", type := (.object "java/util/function/BiFunction"), accessFlags := 25, slot := 0, constantValue := 0 }, { name := "AIOOBE_FORMATTER", type := (.object "java/util/function/BiFunction"), accessFlags := 25, slot := 1, constantValue := 0 }, { name := "IOOBE_FORMATTER", type := (.object "java/util/function/BiFunction"), accessFlags := 25, slot := 2, constantValue := 0 }]
  methods := #[k10m0, k10m1]
  instanceTypes := #[]
  staticTypes := #[(.object "java/util/function/BiFunction"), (.object "java/util/function/BiFunction"), (.object "java/util/function/BiFunction")]
  resolved := Array.replicate 194 none
  statics := some 2 }

def pool11 : Array CpInfo := pool [(1, .class_ 2), (0, u "java/lang/String"), (1, .class_ 6), (1, u "java/lang/Object"), (0, u "<init>"), (0, u "()V"), (0, .methodref 1 10), (0, .nameAndType 11 12), (0, u "checkIndex"), (0, u "(II)V"), (1, .class_ 16), (1, u "java/lang/StringLatin1"), (36, u "([BI)C"), (67, u "$assertionsDisabled"), (0, u "Z"), (98, .class_ 223), (1, u "java/lang/StringLatin1$LinesSpliterator"), (28, u "charAt"), (137, .class_ 391), (0, u "java/lang/StringLatin1$CharsSpliterator")] 3

def k11m0 : Method := { name := "<init>", desc := "()V", sig := { parameters := [], returnType := none }, accessFlags := 0, code := none }
def k11c1 : Code := { maxStack := 2, maxLocals := 2, code := jdk_43_method_2_code, exceptionTable := #[], attributes := #[] }
def k11m1 : Method := { name := "charAt", desc := "([BI)C", sig := { parameters := [(.array .byte), .int], returnType := some .char }, accessFlags := 9, code := some k11c1 }
/-- java/lang/StringLatin1 -/
def k11 : Class := { plain "java/lang/StringLatin1" (some 0) with
  accessFlags := 48
  interfaces := #[]
  cf := some (fileOf pool11 14 #[.nestMembers #[390, 221]] #[{ accessFlags := 0, nameIndex := 7, descriptorIndex := 8, attributes := #[] }, { accessFlags := 9, nameIndex := 252, descriptorIndex := 53, attributes := #[] }] 48 4 #[] #[{ accessFlags := 4120, nameIndex := 121, descriptorIndex := 122, attributes := #[] }])
  fields := #[{ name := "$assertionsDisabled", type := .boolean, accessFlags := 4120, slot := 0, constantValue := 0 }]
  methods := #[k11m0, k11m1]
  instanceTypes := #[]
  staticTypes := #[.boolean]
  resolved := Array.replicate 395 none
  statics := none }

def pool12 : Array CpInfo := pool [(9, u "<init>"), (6, .class_ 18), (1, u "java/lang/Object"), (0, u "()V"), (1, .class_ 23), (1, u "jdk/internal/util/ArraysSupport"), (0, u "LOG2_ARRAY_LONG_INDEX_SCALE"), (0, u "I"), (2, u "U"), (0, u "Ljdk/internal/misc/Unsafe;"), (8, u "BIG_ENDIAN"), (0, u "Z"), (8, u "LOG2_BYTE_BIT_SIZE"), (4, u "LOG2_ARRAY_INT_INDEX_SCALE"), (54, u "JLA"), (0, u "Ljdk/internal/access/JavaLangAccess;"), (11, u "LOG2_ARRAY_BOOLEAN_INDEX_SCALE"), (9, u "LOG2_ARRAY_BYTE_INDEX_SCALE"), (5, u "LOG2_ARRAY_CHAR_INDEX_SCALE"), (5, u "LOG2_ARRAY_SHORT_INDEX_SCALE"), (18, u "LOG2_ARRAY_FLOAT_INDEX_SCALE"), (24, u "LOG2_ARRAY_DOUBLE_INDEX_SCALE"), (89, u "T_BOOLEAN"), (2, u "T_CHAR"), (1, u "T_FLOAT"), (1, u "T_DOUBLE"), (1, u "T_BYTE"), (1, u "T_SHORT"), (1, u "T_INT"), (1, u "T_LONG"), (1, u "SOFT_MAX_ARRAY_LENGTH")] 83

def k12m0 : Method := { name := "<init>", desc := "()V", sig := { parameters := [], returnType := none }, accessFlags := 2, code := none }
/-- jdk/internal/util/ArraysSupport -/
def k12 : Class := { plain "jdk/internal/util/ArraysSupport" (some 0) with
  accessFlags := 33
  interfaces := #[]
  cf := some (fileOf pool12 21 #[] #[{ accessFlags := 2, nameIndex := 9, descriptorIndex := 19, attributes := #[] }] 33 16 #[] #[{ accessFlags := 24, nameIndex := 28, descriptorIndex := 29, attributes := #[] }, { accessFlags := 26, nameIndex := 38, descriptorIndex := 39, attributes := #[] }, { accessFlags := 25, nameIndex := 121, descriptorIndex := 25, attributes := #[] }, { accessFlags := 25, nameIndex := 131, descriptorIndex := 25, attributes := #[] }, { accessFlags := 25, nameIndex := 137, descriptorIndex := 25, attributes := #[] }, { accessFlags := 25, nameIndex := 143, descriptorIndex := 25, attributes := #[] }, { accessFlags := 25, nameIndex := 53, descriptorIndex := 25, attributes := #[] }, { accessFlags := 25, nameIndex := 24, descriptorIndex := 25, attributes := #[] }, { accessFlags := 25, nameIndex := 162, descriptorIndex := 25, attributes := #[] }, { accessFlags := 25, nameIndex := 187, descriptorIndex := 25, attributes := #[] }, { accessFlags := 26, nameIndex := 48, descriptorIndex := 25, attributes := #[] }, { accessFlags := 25, nameIndex := 277, descriptorIndex := 25, attributes := #[] }, { accessFlags := 25, nameIndex := 280, descriptorIndex := 25, attributes := #[] }, { accessFlags := 25, nameIndex := 282, descriptorIndex := 25, attributes := #[] }, { accessFlags := 25, nameIndex := 284, descriptorIndex := 25, attributes := #[] }, { accessFlags := 25, nameIndex := 286, descriptorIndex := 25, attributes := #[] }, { accessFlags := 25, nameIndex := 288, descriptorIndex := 25, attributes := #[] }, { accessFlags := 25, nameIndex := 290, descriptorIndex := 25, attributes := #[] }, { accessFlags := 25, nameIndex := 292, descriptorIndex := 25, attributes := #[] }, { accessFlags := 26, nameIndex := 108, descriptorIndex := 109, attributes := #[] }, { accessFlags := 25, nameIndex := 294, descriptorIndex := 25, attributes := #[] }])
  fields := #[{ name := "U", type := (.object "jdk/internal/misc/Unsafe"), accessFlags := 24, slot := 0, constantValue := 0 }, { name := "BIG_ENDIAN", type := .boolean, accessFlags := 26, slot := 1, constantValue := 0 }, { name := "LOG2_ARRAY_BOOLEAN_INDEX_SCALE", type := .int, accessFlags := 25, slot := 2, constantValue := 0 }, { name := "LOG2_ARRAY_BYTE_INDEX_SCALE", type := .int, accessFlags := 25, slot := 3, constantValue := 0 }, { name := "LOG2_ARRAY_CHAR_INDEX_SCALE", type := .int, accessFlags := 25, slot := 4, constantValue := 0 }, { name := "LOG2_ARRAY_SHORT_INDEX_SCALE", type := .int, accessFlags := 25, slot := 5, constantValue := 0 }, { name := "LOG2_ARRAY_INT_INDEX_SCALE", type := .int, accessFlags := 25, slot := 6, constantValue := 0 }, { name := "LOG2_ARRAY_LONG_INDEX_SCALE", type := .int, accessFlags := 25, slot := 7, constantValue := 0 }, { name := "LOG2_ARRAY_FLOAT_INDEX_SCALE", type := .int, accessFlags := 25, slot := 8, constantValue := 0 }, { name := "LOG2_ARRAY_DOUBLE_INDEX_SCALE", type := .int, accessFlags := 25, slot := 9, constantValue := 0 }, { name := "LOG2_BYTE_BIT_SIZE", type := .int, accessFlags := 26, slot := 10, constantValue := 0 }, { name := "T_BOOLEAN", type := .int, accessFlags := 25, slot := 11, constantValue := 0 }, { name := "T_CHAR", type := .int, accessFlags := 25, slot := 12, constantValue := 0 }, { name := "T_FLOAT", type := .int, accessFlags := 25, slot := 13, constantValue := 0 }, { name := "T_DOUBLE", type := .int, accessFlags := 25, slot := 14, constantValue := 0 }, { name := "T_BYTE", type := .int, accessFlags := 25, slot := 15, constantValue := 0 }, { name := "T_SHORT", type := .int, accessFlags := 25, slot := 16, constantValue := 0 }, { name := "T_INT", type := .int, accessFlags := 25, slot := 17, constantValue := 0 }, { name := "T_LONG", type := .int, accessFlags := 25, slot := 18, constantValue := 0 }, { name := "JLA", type := (.object "jdk/internal/access/JavaLangAccess"), accessFlags := 26, slot := 19, constantValue := 0 }, { name := "SOFT_MAX_ARRAY_LENGTH", type := .int, accessFlags := 25, slot := 20, constantValue := 0 }]
  methods := #[k12m0]
  instanceTypes := #[]
  staticTypes := #[(.object "jdk/internal/misc/Unsafe"), .boolean, .int, .int, .int, .int, .int, .int, .int, .int, .int, .int, .int, .int, .int, .int, .int, .int, .int, (.object "jdk/internal/access/JavaLangAccess"), .int]
  resolved := Array.replicate 378 none
  statics := none }

def pool13 : Array CpInfo := pool [(1, u "java/lang/Cloneable"), (0, .class_ 1), (0, u "java/lang/Object"), (0, .class_ 3)] 3

/-- java/lang/Cloneable -/
def k13 : Class := { plain "java/lang/Cloneable" (some 0) with
  accessFlags := 1537
  interfaces := #[]
  cf := some (fileOf pool13 2 #[] #[] 1537 4 #[] #[])
  fields := #[]
  methods := #[]
  instanceTypes := #[]
  staticTypes := #[]
  resolved := Array.replicate 8 none
  statics := none }

/-- the primitive byte -/
def k14 : Class := { plain "byte" none with kind := .primitive 'B', accessFlags := 0x411 }
/-- [B -/
def k15 : Class := { plain "[B" (some 0) with kind := .array 14 .byte, interfaces := #[13, 2], accessFlags := 1041 }

/-- the primitive char -/
def k16 : Class := { plain "char" none with kind := .primitive 'C', accessFlags := 0x411 }
/-- [C -/
def k17 : Class := { plain "[C" (some 0) with kind := .array 16 .char, interfaces := #[13, 2], accessFlags := 1041 }

/-- the primitive int -/
def k18 : Class := { plain "int" none with kind := .primitive 'I', accessFlags := 0x411 }
/-- [I -/
def k19 : Class := { plain "[I" (some 0) with kind := .array 18 .int, interfaces := #[13, 2], accessFlags := 1041 }

def heap : Heap := #[{ cls := 7, slots := #[.long 0, .int 1, .null, .int 0, .null, .int 0, .int 0], vm := .statics 7 },
  { cls := 8, slots := #[.int 0, .int 8, .int 0, .int 1], vm := .statics 8 },
  { cls := 10, slots := #[.null, .null, .null], vm := .statics 10 }]
def classes : Array Class := #[k0, k1, k2, k3, k4, k5, k6, k7, k8, k9, k10, k11, k12, k13, k14, k15, k16, k17, k18, k19]
def interned : List (Array UInt16 × Addr) := []
def slotsUsed : Nat := 14
def theMethod : MethodId := ⟨1, 1⟩
def args0 : Array Value := #[.int 3, .int 5, .int 7, .int 9, .int 11, .int 13]
def aboutOver (below : List Frame) : State where
  vm := { classes := classes, interned := interned.toArray }
  heap := heap
  slotsUsed := slotsUsed
  threads := #[{ frames := .invoking theMethod args0 :: below }]
def below0 : List Frame := [.native { method := ⟨0, 0⟩, args := #[] }]
def about1 : State := aboutOver below0
def p0 : Program := .bare "" "" ""
def e0 : Env := launch0.env 0 0 0
theorem w_frames : about1.frames = Frame.invoking theMethod args0 :: below0 := rfl
set_option maxRecDepth 65536 in
theorem w_args : argsFit about1.vm theMethod args0 = true := by decide +kernel
set_option maxRecDepth 65536 in
theorem w_heap : heapFits about1 = true := by decide +kernel
set_option maxRecDepth 65536 in
theorem w_runnable : about1.curStatus? = some .runnable := by decide +kernel
set_option maxRecDepth 65536 in
theorem w_alone : about1.alone = true := by decide +kernel
set_option maxRecDepth 65536 in
theorem w_named : about1.methodNamed? x = some theMethod := by decide +kernel
set_option maxRecDepth 65536 in
theorem w_hears : about1.hears theMethod below0 = true := by decide +kernel
set_option maxRecDepth 65536 in
theorem w_ripe : about1.ripe theMethod args0 below0 = true := by decide +kernel
theorem w_running : about1.status = .running := rfl
set_option maxRecDepth 65536 in
theorem w_room : about1.hasRoom e0.platform room_1 = true :=
  launch0.hasRoom_least _ room_1 (by decide +kernel) (by decide +kernel) (by decide +kernel) (by decide +kernel) (by decide +kernel) (by decide +kernel)
theorem allAtoms_all (ts : List Jvm.Cond) (a : Array Jvm.Value) (st : Jvm.State) : (allAtoms ts).before a st = ts.all (fun c => c.before a st) := by
  induction ts with
  | nil => rfl
  | cons c t ih =>
    show (Jvm.Cond.and c (allAtoms t)).before a st = _
    rw [Jvm.Cond.before_and, ih, List.all_cons]
def words1 : List Jvm.Cond := Jvm.Cond.code x code maxLocals ret :: tables_1
/-- a 'code' word, met by the world's own term for the bytes: nothing is compared byte by byte -/
theorem code_word {y : MethodName} {bytes : ByteArray} {mx : Nat} {rt : Option FieldType} {a : Array Value} {s : State} {m : MethodId} {meth : Method} {c : Code} (h1 : s.methodNamed? y = some m) (h2 : s.vm.method? m = some meth) (h3 : meth.code = some c) (h4 : c.code = bytes)
    (h5 : (c.maxLocals == mx && c.exceptionTable.isEmpty && decide (c.maxStack ≤ mostOperands) && decide (meth.sig.returnType = rt) && !meth.locks && decide (parseMethodDescriptor y.desc = some meth.sig)) = true) : (Jvm.Cond.code y bytes mx rt).before a s = true := by
  simp only [Bool.and_eq_true, beq_iff_eq, Bool.not_eq_true', decide_eq_true_eq] at h5
  obtain ⟨⟨⟨⟨⟨g1, g2⟩, g3⟩, g4⟩, g5⟩, g6⟩ := h5
  simp [Cond.before, Cond.holds, Cond.value, h1, h2, h3, h4, g1, g2, g3, g4, g5, g6]
def isCode : Jvm.Cond → Bool
  | .code _ _ _ _ => true
  | _ => false
theorem all_split {L : List Jvm.Cond} {P : Jvm.Cond → Bool} (h1 : L.all (fun c => isCode c || P c) = true) (h2 : ∀ c ∈ L.filter isCode, P c = true) : L.all P = true := by
  refine List.all_eq_true.mpr fun c hc => ?_
  have h := List.all_eq_true.mp h1 c hc
  rcases Bool.eq_false_or_eq_true (isCode c) with hi | hi
  · exact h2 c (List.mem_filter.mpr ⟨hc, hi⟩)
  · simpa [hi] using h
set_option maxRecDepth 65536 in
theorem w_c0 : (Jvm.Cond.code x code maxLocals ret).before args0 about1 = true := code_word (m := ⟨1, 1⟩) (meth := k1m1) (c := k1c1) (by decide +kernel) rfl rfl rfl (by decide +kernel)
set_option maxRecDepth 65536 in
theorem w_c1 : (Jvm.Cond.code ({ cls := "com/example/nastro/nastro/model/DigitsValuePinLaw", name := "mk", desc := "(I)C" } : Jvm.MethodName) method_3_code (2 : Nat) (Option.some Jvm.ClassFile.FieldType.char)).before args0 about1 = true := code_word (m := ⟨1, 2⟩) (meth := k1m2) (c := k1c2) (by decide +kernel) rfl rfl rfl (by decide +kernel)
set_option maxRecDepth 65536 in
theorem w_c2 : (Jvm.Cond.code ({ cls := "java/lang/String", name := "<init>", desc := "([C)V" } : Jvm.MethodName) jdk_42_method_3_code (2 : Nat) (Option.none : Option Jvm.ClassFile.FieldType)).before args0 about1 = true := code_word (m := ⟨7, 1⟩) (meth := k7m1) (c := k7c1) (by decide +kernel) rfl rfl rfl (by decide +kernel)
set_option maxRecDepth 65536 in
theorem w_c3 : (Jvm.Cond.code ({ cls := "java/lang/String", name := "<init>", desc := "([CIILjava/lang/Void;)V" } : Jvm.MethodName) jdk_42_method_149_code (6 : Nat) (Option.none : Option Jvm.ClassFile.FieldType)).before args0 about1 = true := code_word (m := ⟨7, 3⟩) (meth := k7m3) (c := k7c3) (by decide +kernel) rfl rfl rfl (by decide +kernel)
set_option maxRecDepth 65536 in
theorem w_c4 : (Jvm.Cond.code ({ cls := "java/lang/Object", name := "<init>", desc := "()V" } : Jvm.MethodName) object_method_1_code (1 : Nat) (Option.none : Option Jvm.ClassFile.FieldType)).before args0 about1 = true := code_word (m := ⟨0, 0⟩) (meth := k0m0) (c := k0c0) (by decide +kernel) rfl rfl rfl (by decide +kernel)
set_option maxRecDepth 65536 in
theorem w_c5 : (Jvm.Cond.code ({ cls := "java/lang/StringUTF16", name := "compress", desc := "([CII)[B" } : Jvm.MethodName) jdk_52_method_16_code (6 : Nat) (Option.some (Jvm.ClassFile.FieldType.array Jvm.ClassFile.FieldType.byte))).before args0 about1 = true := code_word (m := ⟨8, 8⟩) (meth := k8m8) (c := k8c8) (by decide +kernel) rfl rfl rfl (by decide +kernel)
set_option maxRecDepth 65536 in
theorem w_c6 : (Jvm.Cond.code ({ cls := "java/lang/StringUTF16", name := "compress", desc := "([CI[BII)I" } : Jvm.MethodName) jdk_52_method_21_code (7 : Nat) (Option.some Jvm.ClassFile.FieldType.int)).before args0 about1 = true := code_word (m := ⟨8, 9⟩) (meth := k8m9) (c := k8c9) (by decide +kernel) rfl rfl rfl (by decide +kernel)
set_option maxRecDepth 65536 in
theorem w_c7 : (Jvm.Cond.code ({ cls := "java/lang/StringUTF16", name := "coderFromArrayLen", desc := "([BI)B" } : Jvm.MethodName) jdk_52_method_15_code (2 : Nat) (Option.some Jvm.ClassFile.FieldType.byte)).before args0 about1 = true := code_word (m := ⟨8, 7⟩) (meth := k8m7) (c := k8c7) (by decide +kernel) rfl rfl rfl (by decide +kernel)
set_option maxRecDepth 65536 in
theorem w_c8 : (Jvm.Cond.code ({ cls := "com/example/nastro/nastro/model/DigitsValuePinLaw", name := "bad", desc := "(CIII)Z" } : Jvm.MethodName) method_5_code (4 : Nat) (Option.some Jvm.ClassFile.FieldType.boolean)).before args0 about1 = true := code_word (m := ⟨1, 4⟩) (meth := k1m4) (c := k1c4) (by decide +kernel) rfl rfl rfl (by decide +kernel)
set_option maxRecDepth 65536 in
theorem w_c9 : (Jvm.Cond.code ({ cls := "com/example/nastro/nastro/model/DigitsValuePinLaw", name := "in", desc := "(III)Z" } : Jvm.MethodName) method_4_code (3 : Nat) (Option.some Jvm.ClassFile.FieldType.boolean)).before args0 about1 = true := code_word (m := ⟨1, 3⟩) (meth := k1m3) (c := k1c3) (by decide +kernel) rfl rfl rfl (by decide +kernel)
set_option maxRecDepth 65536 in
theorem w_c10 : (Jvm.Cond.code ({ cls := "com/example/nastro/nastro/model/DigitsValuePinLaw", name := "part", desc := "(CIII)I" } : Jvm.MethodName) method_6_code (4 : Nat) (Option.some Jvm.ClassFile.FieldType.int)).before args0 about1 = true := code_word (m := ⟨1, 5⟩) (meth := k1m5) (c := k1c5) (by decide +kernel) rfl rfl rfl (by decide +kernel)
set_option maxRecDepth 65536 in
theorem w_c11 : (Jvm.Cond.code ({ cls := "com/example/nastro/nastro/model/Digits", name := "value", desc := "(Ljava/lang/String;II)I" } : Jvm.MethodName) prog_36_method_3_code (6 : Nat) (Option.some Jvm.ClassFile.FieldType.int)).before args0 about1 = true := code_word (m := ⟨9, 1⟩) (meth := k9m1) (c := k9c1) (by decide +kernel) rfl rfl rfl (by decide +kernel)
set_option maxRecDepth 65536 in
theorem w_c12 : (Jvm.Cond.code ({ cls := "java/lang/StringUTF16", name := "toBytes", desc := "([CII)[B" } : Jvm.MethodName) jdk_52_method_14_code (5 : Nat) (Option.some (Jvm.ClassFile.FieldType.array Jvm.ClassFile.FieldType.byte))).before args0 about1 = true := code_word (m := ⟨8, 6⟩) (meth := k8m6) (c := k8c6) (by decide +kernel) rfl rfl rfl (by decide +kernel)
set_option maxRecDepth 65536 in
theorem w_c13 : (Jvm.Cond.code ({ cls := "java/lang/StringUTF16", name := "newBytesFor", desc := "(I)[B" } : Jvm.MethodName) jdk_52_method_2_code (1 : Nat) (Option.some (Jvm.ClassFile.FieldType.array Jvm.ClassFile.FieldType.byte))).before args0 about1 = true := code_word (m := ⟨8, 1⟩) (meth := k8m1) (c := k8c1) (by decide +kernel) rfl rfl rfl (by decide +kernel)
set_option maxRecDepth 65536 in
theorem w_c14 : (Jvm.Cond.code ({ cls := "java/lang/StringUTF16", name := "newBytesLength", desc := "(I)I" } : Jvm.MethodName) jdk_52_method_3_code (1 : Nat) (Option.some Jvm.ClassFile.FieldType.int)).before args0 about1 = true := code_word (m := ⟨8, 2⟩) (meth := k8m2) (c := k8c2) (by decide +kernel) rfl rfl rfl (by decide +kernel)
set_option maxRecDepth 65536 in
theorem w_c15 : (Jvm.Cond.code ({ cls := "java/lang/StringUTF16", name := "putChar", desc := "([BII)V" } : Jvm.MethodName) jdk_52_method_4_code (3 : Nat) (Option.none : Option Jvm.ClassFile.FieldType)).before args0 about1 = true := code_word (m := ⟨8, 3⟩) (meth := k8m3) (c := k8c3) (by decide +kernel) rfl rfl rfl (by decide +kernel)
set_option maxRecDepth 65536 in
theorem w_c16 : (Jvm.Cond.code ({ cls := "java/lang/StringUTF16", name := "getChar", desc := "([BI)C" } : Jvm.MethodName) jdk_52_method_5_code (2 : Nat) (Option.some Jvm.ClassFile.FieldType.char)).before args0 about1 = true := code_word (m := ⟨8, 4⟩) (meth := k8m4) (c := k8c4) (by decide +kernel) rfl rfl rfl (by decide +kernel)
set_option maxRecDepth 65536 in
theorem w_c17 : (Jvm.Cond.code ({ cls := "com/example/nastro/nastro/model/DigitsValuePinLaw", name := "pow10", desc := "(I)I" } : Jvm.MethodName) method_7_code (1 : Nat) (Option.some Jvm.ClassFile.FieldType.int)).before args0 about1 = true := code_word (m := ⟨1, 6⟩) (meth := k1m6) (c := k1c6) (by decide +kernel) rfl rfl rfl (by decide +kernel)
set_option maxRecDepth 65536 in
theorem w_c18 : (Jvm.Cond.code ({ cls := "java/lang/String", name := "charAt", desc := "(I)C" } : Jvm.MethodName) jdk_42_method_56_code (2 : Nat) (Option.some Jvm.ClassFile.FieldType.char)).before args0 about1 = true := code_word (m := ⟨7, 2⟩) (meth := k7m2) (c := k7c2) (by decide +kernel) rfl rfl rfl (by decide +kernel)
set_option maxRecDepth 65536 in
theorem w_c19 : (Jvm.Cond.code ({ cls := "java/lang/String", name := "isLatin1", desc := "()Z" } : Jvm.MethodName) jdk_42_method_154_code (1 : Nat) (Option.some Jvm.ClassFile.FieldType.boolean)).before args0 about1 = true := code_word (m := ⟨7, 4⟩) (meth := k7m4) (c := k7c4) (by decide +kernel) rfl rfl rfl (by decide +kernel)
set_option maxRecDepth 65536 in
theorem w_c20 : (Jvm.Cond.code ({ cls := "java/lang/StringUTF16", name := "charAt", desc := "([BI)C" } : Jvm.MethodName) jdk_52_method_83_code (2 : Nat) (Option.some Jvm.ClassFile.FieldType.char)).before args0 about1 = true := code_word (m := ⟨8, 10⟩) (meth := k8m10) (c := k8c10) (by decide +kernel) rfl rfl rfl (by decide +kernel)
set_option maxRecDepth 65536 in
theorem w_c21 : (Jvm.Cond.code ({ cls := "java/lang/StringUTF16", name := "checkIndex", desc := "(I[B)V" } : Jvm.MethodName) jdk_52_method_91_code (2 : Nat) (Option.none : Option Jvm.ClassFile.FieldType)).before args0 about1 = true := code_word (m := ⟨8, 11⟩) (meth := k8m11) (c := k8c11) (by decide +kernel) rfl rfl rfl (by decide +kernel)
set_option maxRecDepth 65536 in
theorem w_c22 : (Jvm.Cond.code ({ cls := "java/lang/StringUTF16", name := "length", desc := "([B)I" } : Jvm.MethodName) jdk_52_method_6_code (1 : Nat) (Option.some Jvm.ClassFile.FieldType.int)).before args0 about1 = true := code_word (m := ⟨8, 5⟩) (meth := k8m5) (c := k8c5) (by decide +kernel) rfl rfl rfl (by decide +kernel)
set_option maxRecDepth 65536 in
theorem w_c23 : (Jvm.Cond.code ({ cls := "java/lang/String", name := "checkIndex", desc := "(II)V" } : Jvm.MethodName) jdk_42_method_155_code (2 : Nat) (Option.none : Option Jvm.ClassFile.FieldType)).before args0 about1 = true := code_word (m := ⟨7, 5⟩) (meth := k7m5) (c := k7c5) (by decide +kernel) rfl rfl rfl (by decide +kernel)
set_option maxRecDepth 65536 in
theorem w_c24 : (Jvm.Cond.code ({ cls := "jdk/internal/util/Preconditions", name := "checkIndex", desc := "(IILjava/util/function/BiFunction;)I" } : Jvm.MethodName) jdk_41_method_11_code (3 : Nat) (Option.some Jvm.ClassFile.FieldType.int)).before args0 about1 = true := code_word (m := ⟨10, 1⟩) (meth := k10m1) (c := k10c1) (by decide +kernel) rfl rfl rfl (by decide +kernel)
set_option maxRecDepth 65536 in
theorem w_c25 : (Jvm.Cond.code ({ cls := "java/lang/StringLatin1", name := "charAt", desc := "([BI)C" } : Jvm.MethodName) jdk_43_method_2_code (2 : Nat) (Option.some Jvm.ClassFile.FieldType.char)).before args0 about1 = true := code_word (m := ⟨11, 1⟩) (meth := k11m1) (c := k11c1) (by decide +kernel) rfl rfl rfl (by decide +kernel)
def codes1 : List Jvm.Cond := [Jvm.Cond.code x code maxLocals ret, Jvm.Cond.code ({ cls := "com/example/nastro/nastro/model/DigitsValuePinLaw", name := "mk", desc := "(I)C" } : Jvm.MethodName) method_3_code (2 : Nat) (Option.some Jvm.ClassFile.FieldType.char), Jvm.Cond.code ({ cls := "java/lang/String", name := "<init>", desc := "([C)V" } : Jvm.MethodName) jdk_42_method_3_code (2 : Nat) (Option.none : Option Jvm.ClassFile.FieldType), Jvm.Cond.code ({ cls := "java/lang/String", name := "<init>", desc := "([CIILjava/lang/Void;)V" } : Jvm.MethodName) jdk_42_method_149_code (6 : Nat) (Option.none : Option Jvm.ClassFile.FieldType), Jvm.Cond.code ({ cls := "java/lang/Object", name := "<init>", desc := "()V" } : Jvm.MethodName) object_method_1_code (1 : Nat) (Option.none : Option Jvm.ClassFile.FieldType), Jvm.Cond.code ({ cls := "java/lang/StringUTF16", name := "compress", desc := "([CII)[B" } : Jvm.MethodName) jdk_52_method_16_code (6 : Nat) (Option.some (Jvm.ClassFile.FieldType.array Jvm.ClassFile.FieldType.byte)), Jvm.Cond.code ({ cls := "java/lang/StringUTF16", name := "compress", desc := "([CI[BII)I" } : Jvm.MethodName) jdk_52_method_21_code (7 : Nat) (Option.some Jvm.ClassFile.FieldType.int), Jvm.Cond.code ({ cls := "java/lang/StringUTF16", name := "coderFromArrayLen", desc := "([BI)B" } : Jvm.MethodName) jdk_52_method_15_code (2 : Nat) (Option.some Jvm.ClassFile.FieldType.byte), Jvm.Cond.code ({ cls := "com/example/nastro/nastro/model/DigitsValuePinLaw", name := "bad", desc := "(CIII)Z" } : Jvm.MethodName) method_5_code (4 : Nat) (Option.some Jvm.ClassFile.FieldType.boolean), Jvm.Cond.code ({ cls := "com/example/nastro/nastro/model/DigitsValuePinLaw", name := "in", desc := "(III)Z" } : Jvm.MethodName) method_4_code (3 : Nat) (Option.some Jvm.ClassFile.FieldType.boolean), Jvm.Cond.code ({ cls := "com/example/nastro/nastro/model/DigitsValuePinLaw", name := "part", desc := "(CIII)I" } : Jvm.MethodName) method_6_code (4 : Nat) (Option.some Jvm.ClassFile.FieldType.int), Jvm.Cond.code ({ cls := "com/example/nastro/nastro/model/Digits", name := "value", desc := "(Ljava/lang/String;II)I" } : Jvm.MethodName) prog_36_method_3_code (6 : Nat) (Option.some Jvm.ClassFile.FieldType.int), Jvm.Cond.code ({ cls := "java/lang/StringUTF16", name := "toBytes", desc := "([CII)[B" } : Jvm.MethodName) jdk_52_method_14_code (5 : Nat) (Option.some (Jvm.ClassFile.FieldType.array Jvm.ClassFile.FieldType.byte)), Jvm.Cond.code ({ cls := "java/lang/StringUTF16", name := "newBytesFor", desc := "(I)[B" } : Jvm.MethodName) jdk_52_method_2_code (1 : Nat) (Option.some (Jvm.ClassFile.FieldType.array Jvm.ClassFile.FieldType.byte)), Jvm.Cond.code ({ cls := "java/lang/StringUTF16", name := "newBytesLength", desc := "(I)I" } : Jvm.MethodName) jdk_52_method_3_code (1 : Nat) (Option.some Jvm.ClassFile.FieldType.int), Jvm.Cond.code ({ cls := "java/lang/StringUTF16", name := "putChar", desc := "([BII)V" } : Jvm.MethodName) jdk_52_method_4_code (3 : Nat) (Option.none : Option Jvm.ClassFile.FieldType), Jvm.Cond.code ({ cls := "java/lang/StringUTF16", name := "getChar", desc := "([BI)C" } : Jvm.MethodName) jdk_52_method_5_code (2 : Nat) (Option.some Jvm.ClassFile.FieldType.char), Jvm.Cond.code ({ cls := "com/example/nastro/nastro/model/DigitsValuePinLaw", name := "pow10", desc := "(I)I" } : Jvm.MethodName) method_7_code (1 : Nat) (Option.some Jvm.ClassFile.FieldType.int), Jvm.Cond.code ({ cls := "java/lang/String", name := "charAt", desc := "(I)C" } : Jvm.MethodName) jdk_42_method_56_code (2 : Nat) (Option.some Jvm.ClassFile.FieldType.char), Jvm.Cond.code ({ cls := "java/lang/String", name := "isLatin1", desc := "()Z" } : Jvm.MethodName) jdk_42_method_154_code (1 : Nat) (Option.some Jvm.ClassFile.FieldType.boolean), Jvm.Cond.code ({ cls := "java/lang/StringUTF16", name := "charAt", desc := "([BI)C" } : Jvm.MethodName) jdk_52_method_83_code (2 : Nat) (Option.some Jvm.ClassFile.FieldType.char), Jvm.Cond.code ({ cls := "java/lang/StringUTF16", name := "checkIndex", desc := "(I[B)V" } : Jvm.MethodName) jdk_52_method_91_code (2 : Nat) (Option.none : Option Jvm.ClassFile.FieldType), Jvm.Cond.code ({ cls := "java/lang/StringUTF16", name := "length", desc := "([B)I" } : Jvm.MethodName) jdk_52_method_6_code (1 : Nat) (Option.some Jvm.ClassFile.FieldType.int), Jvm.Cond.code ({ cls := "java/lang/String", name := "checkIndex", desc := "(II)V" } : Jvm.MethodName) jdk_42_method_155_code (2 : Nat) (Option.none : Option Jvm.ClassFile.FieldType), Jvm.Cond.code ({ cls := "jdk/internal/util/Preconditions", name := "checkIndex", desc := "(IILjava/util/function/BiFunction;)I" } : Jvm.MethodName) jdk_41_method_11_code (3 : Nat) (Option.some Jvm.ClassFile.FieldType.int), Jvm.Cond.code ({ cls := "java/lang/StringLatin1", name := "charAt", desc := "([BI)C" } : Jvm.MethodName) jdk_43_method_2_code (2 : Nat) (Option.some Jvm.ClassFile.FieldType.char)]
set_option maxRecDepth 65536 in
theorem codes_eq : words1.filter isCode = codes1 := rfl
theorem w_codes : ∀ c ∈ words1.filter isCode, c.before args0 about1 = true := by
  rw [codes_eq]
  intro c hc
  simp only [codes1, List.mem_cons, List.not_mem_nil, or_false] at hc
  rcases hc with rfl | rfl | rfl | rfl | rfl | rfl | rfl | rfl | rfl | rfl | rfl | rfl | rfl | rfl | rfl | rfl | rfl | rfl | rfl | rfl | rfl | rfl | rfl | rfl | rfl | rfl
  · exact w_c0
  · exact w_c1
  · exact w_c2
  · exact w_c3
  · exact w_c4
  · exact w_c5
  · exact w_c6
  · exact w_c7
  · exact w_c8
  · exact w_c9
  · exact w_c10
  · exact w_c11
  · exact w_c12
  · exact w_c13
  · exact w_c14
  · exact w_c15
  · exact w_c16
  · exact w_c17
  · exact w_c18
  · exact w_c19
  · exact w_c20
  · exact w_c21
  · exact w_c22
  · exact w_c23
  · exact w_c24
  · exact w_c25
set_option maxRecDepth 65536 in
theorem w_t1 : (words1.take 24).all (fun c => isCode c || c.before args0 about1) = true := by decide +kernel
set_option maxRecDepth 65536 in
theorem w_t2 : ((words1.drop 24).take 24).all (fun c => isCode c || c.before args0 about1) = true := by decide +kernel
set_option maxRecDepth 65536 in
theorem w_t3 : (((words1.drop 24).drop 24).take 24).all (fun c => isCode c || c.before args0 about1) = true := by decide +kernel
set_option maxRecDepth 65536 in
theorem w_t4 : ((((words1.drop 24).drop 24).drop 24).take 24).all (fun c => isCode c || c.before args0 about1) = true := by decide +kernel
set_option maxRecDepth 65536 in
theorem w_t5 : ((((words1.drop 24).drop 24).drop 24).drop 24).all (fun c => isCode c || c.before args0 about1) = true := by decide +kernel
theorem w_tables : (allAtoms (Jvm.Cond.code x code maxLocals ret :: tables_1)).before args0 about1 = true := by
  rw [allAtoms_all]
  show words1.all (fun c => c.before args0 about1) = true
  refine all_split ?_ w_codes
  rw [← List.take_append_drop 24 words1, List.all_append, w_t1, ← List.take_append_drop 24 (words1.drop 24), List.all_append, w_t2, ← List.take_append_drop 24 ((words1.drop 24).drop 24), List.all_append, w_t3, ← List.take_append_drop 24 (((words1.drop 24).drop 24).drop 24), List.all_append, w_t4, w_t5]
  rfl
set_option maxRecDepth 65536 in
theorem w_rest : rest_1_c.before args0 about1 = true := by decide +kernel
set_option maxRecDepth 65536 in
theorem w_case : (Jvm.Cond.and given_1 narrow_1).before args0 about1 = true := by decide +kernel
theorem w_applies : (headSpec (Jvm.Cond.code x code maxLocals ret :: tables_1) room_1).applies x e0.platform about1 = true :=
  (Spec.applies_iff w_frames).mpr ⟨w_running, w_runnable, w_alone, w_named, w_hears, w_ripe, w_room, w_tables⟩
theorem atStart : AtStart classFile x code maxLocals ret World_1 tables_1 room_1 Calls_1 rest_1 Pre_1 launch0 p0 e0 about1 theMethod args0 below0 :=
  ⟨lists_1, trivial, launch0.admits_env _ _ _, launch0.least_env, fairChoices_fair.cas, fairChoices_fair.clock, w_frames, w_args, w_heap, w_applies, trivial, w_rest, w_case⟩
end start1
theorem witness_1 : WitnessClaimed_1 := ⟨start1.p0, start1.e0, start1.about1, start1.theMethod, start1.args0, start1.below0, start1.atStart⟩
end Jvm.Pilot.@@N@@
